import PyProof.Rows.All
import Wide.All
import OpenK.AllK
import Wide.FinOn
import PySem.Challenge.RW_dm0198_02
open PySem PySem.W PyProof.Rows
set_option Elab.async false
set_option linter.unusedVariables false
set_option genSizeOfSpec false
namespace Mine

inductive V where
  | none
  | bool (b : Bool)
  | int (i : Int)
  | str (s : Str)
  | list (vs : List V)
  | tup (vs : List V)
  | mtch (x : Str) (q : Nat)
  | fn (a : Addr)
  | dIS (p : Program) (w : World) (kvs : List (Int × Str))
  | dSI (p : Program) (w : World) (kvs : List (Str × Int))

noncomputable abbrev PH := Addr → Option Obj
noncomputable def Sub (R R' : PH) : Prop := ∀ b o, R b = some o → R' b = some o
theorem Sub.refl (R : PH) : Sub R R := fun _ _ e => e
theorem Sub.trans {R₁ R₂ R₃ : PH} (x : Sub R₁ R₂) (y : Sub R₂ R₃) : Sub R₁ R₃ := fun b o e => y b o (x b o e)

noncomputable def SeqAt (R : PH) (cls : String) (a : Addr) (its : List Value) : Prop := ∃ o n, R a = some o ∧ o.cls = .type cls ∧ o.data = .seq its.toArray n
theorem SeqAt.sub {R R' : PH} {c : String} {a : Addr} {its : List Value} (x : SeqAt R c a its) (h : Sub R R') : SeqAt R' c a its :=
  let ⟨o, n, e, r⟩ := x; ⟨o, n, h a o e, r⟩
theorem SeqAt.isList {h : Heap} {a : Addr} {its : List Value} (x : SeqAt h.get? "list" a its) : h.IsList a its.toArray :=
  let ⟨o, n, e, c, d⟩ := x; ⟨o, e, c, n, d⟩
theorem seqAt_of_isList {h : Heap} {a : Addr} {its : List Value} (x : h.IsList a its.toArray) : SeqAt h.get? "list" a its :=
  let ⟨o, e, c, n, d⟩ := x; ⟨o, n, e, c, d⟩
noncomputable def MtchAt (R : PH) (x : Str) (q : Nat) (a : Addr) : Prop := ∃ (o ot : Obj) (tp : Addr) (fs ss : Array Value) (t : Tok) (n : Nat), R a = some o ∧ o.cls = .type "re.Match" ∧ o.dict = none ∧ o.data = .fields fs ∧ fs[0]? = some (.str x t) ∧ fs[5]? = some (.ref tp) ∧
  R tp = some ot ∧ ot.data = .seq ss n ∧ ss[0]? = some (rawInt q) ∧ ss[1]? = some (rawInt (q + 1))
theorem MtchAt.sub {R R' : PH} {x : Str} {q : Nat} {a : Addr} (h : Sub R R') (m : MtchAt R x q a) : MtchAt R' x q a := by
  obtain ⟨o, ot, tp, fs, ss, t, n, e1, e2, e2', e3, e4, e5, e6, r⟩ := m
  exact ⟨o, ot, tp, fs, ss, t, n, h _ _ e1, e2, e2', e3, e4, e5, h _ _ e6, r⟩

noncomputable def PVals {K α : Type} (P : α → Value → Prop) : List (K × α) → List (K × Value) → Prop
  | [], vs => vs = []
  | (k, a) :: r, vs => ∃ v r', vs = (k, v) :: r' ∧ P a v ∧ PVals P r r'
noncomputable def DictAt {K α : Type} [DecidableEq K] {p : Program} {w : World} (knd : KeyKind p w K) (P : α → Value → Prop) (R : PH) (a : Addr) (kvs : List (K × α)) : Prop :=
  ∃ o vs, R a = some o ∧ Obj.IsDictOf knd o vs ∧ PVals P kvs vs
theorem DictAt.sub {K α : Type} [DecidableEq K] {p : Program} {w : World} {knd : KeyKind p w K} {P : α → Value → Prop} {R R' : PH} {a : Addr} {kvs : List (K × α)} (x : DictAt knd P R a kvs) (h : ∀ o, R a = some o → R' a = some o) : DictAt knd P R' a kvs :=
  let ⟨o, vs, e, r⟩ := x; ⟨o, vs, h o e, r⟩
noncomputable def isStrV (x : Str) (v : Value) : Prop := ∃ t, v = .str x t
noncomputable def isIntV (i : Int) (v : Value) : Prop := ∃ t, v = .int i t
mutual
noncomputable def Rep (R : PH) : V → Value → Prop
  | .none, x => x = .none
  | .bool b, x => x = .bool b
  | .int i, x => ∃ t, x = .int i t
  | .str s, x => ∃ t, x = .str s t
  | .list vs, x => ∃ a its, x = .ref a ∧ SeqAt R "list" a its ∧ RepL R vs its
  | .tup vs, x => ∃ a its, x = .ref a ∧ SeqAt R "tuple" a its ∧ RepL R vs its
  | .mtch y q, x => ∃ a, x = .ref a ∧ MtchAt R y q a
  | .fn a, x => x = .ref a
  | .dIS p w kvs, x => ∃ a, x = .ref a ∧ DictAt (PySem.intKind p w) isStrV R a kvs
  | .dSI p w kvs, x => ∃ a, x = .ref a ∧ a ≠ sysModules ∧ DictAt (PySem.strKind p w) isIntV R a kvs
noncomputable def RepL (R : PH) : List V → List Value → Prop
  | [], its => its = []
  | v :: vs, its => ∃ x r, its = x :: r ∧ Rep R v x ∧ RepL R vs r
end

mutual
theorem Rep.sub {R R' : PH} (h : Sub R R') : ∀ {v : V} {x : Value}, Rep R v x → Rep R' v x
  | .none, _, e => e
  | .bool _, _, e => e
  | .int _, _, e => e
  | .str _, _, e => e
  | .list vs, _, ⟨a, its, e, s, r⟩ => ⟨a, its, e, s.sub h, RepL.sub h r⟩
  | .tup vs, _, ⟨a, its, e, s, r⟩ => ⟨a, its, e, s.sub h, RepL.sub h r⟩
  | .mtch _ _, _, ⟨a, e, m⟩ => ⟨a, e, m.sub h⟩
  | .fn _, _, e => e
  | .dIS _ _ _, _, ⟨a, e, m⟩ => ⟨a, e, m.sub fun o q => h a o q⟩
  | .dSI _ _ _, _, ⟨a, e, hn, m⟩ => ⟨a, e, hn, m.sub fun o q => h a o q⟩
theorem RepL.sub {R R' : PH} (h : Sub R R') : ∀ {vs : List V} {its : List Value}, RepL R vs its → RepL R' vs its
  | [], _, e => e
  | v :: vs, _, ⟨x, r, e, p, q⟩ => ⟨x, r, e, Rep.sub h p, RepL.sub h q⟩
end

theorem RepL.length {R : PH} : ∀ {vs : List V} {its : List Value}, RepL R vs its → its.length = vs.length
  | [], _, e => by rw [show _ = [] from e]; rfl
  | v :: vs, _, ⟨x, r, e, p, q⟩ => by rw [e]; simp [RepL.length q]
theorem RepL.append {R : PH} : ∀ {vs ws : List V} {a b : List Value}, RepL R vs a → RepL R ws b → RepL R (vs ++ ws) (a ++ b)
  | [], _, _, _, e, f => by rw [show _ = [] from e]; exact f
  | v :: vs, _, _, _, ⟨x, r, e, p, q⟩, f => by rw [e]; exact ⟨x, _, rfl, p, RepL.append q f⟩
theorem RepL.get {R : PH} : ∀ {vs : List V} {its : List Value} {i : Nat} {v : V}, RepL R vs its → vs[i]? = some v → ∃ x, its[i]? = some x ∧ Rep R v x
  | [], _, i, _, _, h => by simp at h
  | w :: vs, _, 0, v, ⟨x, r, e, p, q⟩, h => by simp at h; subst h; exact ⟨x, by rw [e]; rfl, p⟩
  | w :: vs, _, i + 1, v, ⟨x, r, e, p, q⟩, h => by
    simp at h
    obtain ⟨y, hy, hr⟩ := RepL.get q h
    exact ⟨y, by rw [e]; simpa using hy, hr⟩
theorem RepL.get' {R : PH} : ∀ {vs : List V} {its : List Value} {i : Nat} {x : Value}, RepL R vs its → its[i]? = some x → ∃ v, vs[i]? = some v ∧ Rep R v x
  | [], _, i, _, e, h => by rw [show _ = [] from e] at h; simp at h
  | w :: vs, _, 0, y, ⟨x, r, e, p, q⟩, h => by rw [e] at h; simp at h; subst h; exact ⟨w, rfl, p⟩
  | w :: vs, _, i + 1, y, ⟨x, r, e, p, q⟩, h => by
    rw [e] at h; simp at h
    obtain ⟨v, hv, hr⟩ := RepL.get' q h
    exact ⟨v, by simpa using hv, hr⟩
theorem RepL.drop {R : PH} : ∀ {vs : List V} {its : List Value} (n : Nat), RepL R vs its → RepL R (vs.drop n) (its.drop n)
  | _, _, 0, e => by simpa using e
  | [], _, n + 1, e => by rw [show _ = [] from e]; exact rfl
  | v :: vs, _, n + 1, ⟨x, r, e, p, q⟩ => by rw [e]; exact RepL.drop n q
theorem RepL.take {R : PH} : ∀ {vs : List V} {its : List Value} (n : Nat), RepL R vs its → RepL R (vs.take n) (its.take n)
  | _, _, 0, e => by simp; exact rfl
  | [], _, n + 1, e => by rw [show _ = [] from e]; exact rfl
  | v :: vs, _, n + 1, ⟨x, r, e, p, q⟩ => by rw [e]; exact ⟨x, _, rfl, p, RepL.take n q⟩
set_option genInjectivity false in
structure Tab where
  c : Addr
  P : Addr
  line : Nat
  col : Nat
  qual : Str

noncomputable def CodeOk (h : Heap) (c : Addr) (qual : Str) : Prop := ∃ o vs t, h.get? c = some o ∧ o.cls = .type "code" ∧ o.data = .fields vs ∧ vs[1]? = some (.str qual t)
noncomputable def tabsOk (ts : List Tab) (h : Heap) : Prop := ∀ t ∈ ts, ∃ ps, h.get? t.P = some (tabObj ps) ∧ (ps = #[] ∨ ∃ c', ps = #[rawInt t.line, rawInt t.col, .ref c'] ∧ CodeOk h c' t.qual)

set_option genInjectivity false in
structure Cx where
  prog : Program
  w : World
  h0 : PH
  ts : List Tab
  mg : Str → Option Value
  mb : Str → Option Value
  os : OsState
  hT : ∀ P ∈ ts.map (·.P), h0 P = none
  apart : (ts.map (·.P)).Nodup
  heads : ∀ h : Heap, Sub h0 h.get? → ∀ t ∈ ts, CodeHd h t.c t.P
  g : ∀ h : Heap, Sub h0 h.get? → h.Ns mainGlobals mg
  b : ∀ h : Heap, Sub h0 h.get? → h.Ns builtinsNs mb
  nolimit : ∀ h : Heap, Sub h0 h.get? → h.NoLimit
  nodigits : ∀ h : Heap, Sub h0 h.get? → ∃ mc, h.Ns cStatics mc ∧ mc "sys.int_max_str_digits" = none
  builtins : ∀ x : Str, x ≠ "__name__" → mb x = bootBuiltins x
  bmain : ∃ bm ob, mg "__builtins__" = some (.ref bm) ∧ bm ≠ builtinsNs ∧ bm ≠ mainGlobals ∧ h0 bm = some ob ∧ ob.cls = .type "module" ∧ ob.dict = some builtinsNs ∧ ob.data = .plain

noncomputable def Cx.T (G : Cx) : List Addr := G.ts.map (·.P)
noncomputable def Cx.tabOk (G : Cx) : Heap → Prop := tabsOk G.ts
theorem Cx.tabKeep (G : Cx) (h h' : Heap) (x : G.tabOk h) (hk : ∀ b o, (o.cls = .none ∨ o.cls = .type "code") → (∃ vs, o.data = .fields vs) → h.get? b = some o → h'.get? b = some o) : G.tabOk h' := fun t ht => by
  obtain ⟨ps, e, r⟩ := x t ht
  refine ⟨ps, hk _ _ (.inl rfl) ⟨ps, rfl⟩ e, r.imp id fun q => ?_⟩
  obtain ⟨c', e1, o, vs, tk, e2, e3, e4, e5⟩ := q
  exact ⟨c', e1, o, vs, tk, hk _ _ (.inr e3) ⟨vs, e4⟩ e2, e3, e4, e5⟩
theorem Cx.tabIn (G : Cx) (h : Heap) (x : G.tabOk h) : ∀ P ∈ G.T, ∃ ps, h.get? P = some (tabObj ps) := fun P hP => by
  obtain ⟨t, ht, rfl⟩ := List.mem_map.mp hP
  obtain ⟨ps, e, _⟩ := x t ht
  exact ⟨ps, e⟩

noncomputable def Like (p : Prop) (o o' : Obj) : Prop := o' = o ∨ (p ∧ (∃ es n, o.data = .dict es n) ∧ ∃ sl, o' = { o with slots := sl })
theorem Like.refl {p : Prop} (o : Obj) : Like p o o := .inl rfl
theorem Like.data {p : Prop} {o o' : Obj} (h : Like p o o') : o'.data = o.data := by rcases h with rfl | ⟨_, _, sl, rfl⟩ <;> rfl
theorem Like.not {p : Prop} {o o' : Obj} (h : Like p o o') (hp : ¬ p) : o' = o := h.elim id fun q => absurd q.1 hp
theorem Like.imp {p q : Prop} {o o' : Obj} (h : Like p o o') (hp : p → q) : Like q o o' := Or.imp id (fun r => ⟨hp r.1, r.2⟩) h
theorem Like.eq {p : Prop} {o o' : Obj} (h : Like p o o') (hd : ∀ es n, o.data ≠ .dict es n) : o' = o := by
  rcases h with rfl | ⟨_, ⟨es, n, e⟩, _⟩
  · rfl
  · exact absurd e (hd es n)
theorem Like.trans {p : Prop} {o o' o'' : Obj} (h : Like p o o') (h' : Like p o' o'') : Like p o o'' := by
  rcases h with rfl | ⟨hp, d, sl, rfl⟩
  · exact h'
  · rcases h' with rfl | ⟨_, _, sl', rfl⟩
    · exact .inr ⟨hp, d, sl, rfl⟩
    · exact .inr ⟨hp, d, sl', rfl⟩

noncomputable def InFr (Fs : List Env) (b : Addr) : Prop := ∃ e ∈ Fs, e.frame = some b

noncomputable def KSub (Fs : List Env) (K : PH) (h : Heap) : Prop := ∀ b o, K b = some o → ∃ o', h.get? b = some o' ∧ Like (InFr Fs b) o o'
noncomputable def FrAt (R : PH) (h : Heap) (e : Env) : Prop := e.scope.kind ≠ .module ∧ ∃ L o es n, e.frame = some L ∧ h.get? L = some o ∧ o.data = .dict es n ∧ R L = none

structure Base (G : Cx) (Fs : List Env) (R : PH) (s : Shared) : Prop where
  sub0 : Sub G.h0 R
  sub : Sub R s.heap.get?
  tab : G.tabOk s.heap
  noT : ∀ P ∈ G.T, R P = Option.none
  gens : s.gens = #[]
  os : s.os = G.os
  fr : ∀ e ∈ Fs, FrAt R s.heap e

structure Grow (G : Cx) (Fs : List Env) (R : PH) (s : Shared) (R' : PH) (s' : Shared) : Prop where
  st : ∃ h' tk, s' = { s with heap := h', toks := tk }
  ext : ∀ b o, b ∉ G.T → s.heap.get? b = some o → ∃ o', s'.heap.get? b = some o' ∧ Like (InFr Fs b) o o'
  up : Sub R R'
  new : ∀ b o, R' b = some o → R b = some o ∨ s.heap.get? b = Option.none
  base : Base G Fs R' s'

section
variable {G : Cx} {Fs : List Env} {R R' R₁ R₂ : PH} {s s' s₁ s₂ : Shared}

theorem Base.ground (x : Base G Fs R s) : Sub G.h0 s.heap.get? := x.sub0.trans x.sub

theorem FrAt.step {h h' : Heap} {e : Env} (x : FrAt R h e) (hk : ∀ b o es n, h.get? b = some o → o.data = .dict es n → ∃ o' es' n', h'.get? b = some o' ∧ o'.data = .dict es' n') (hR : ∀ b o, h.get? b = some o → R b = Option.none → R' b = Option.none) : FrAt R' h' e := by
  obtain ⟨x1, L, o, es, n, e1, e2, e3, e4⟩ := x
  obtain ⟨o', es', n', e5, e6⟩ := hk L o es n e2 e3
  exact ⟨x1, L, o', es', n', e1, e5, e6, hR L o e2 e4⟩

theorem Grow.exact (g : Grow G Fs R s R' s') {b : Addr} {o : Obj} (hb : b ∉ G.T) (e : s.heap.get? b = some o) (hd : ∀ es n, o.data ≠ .dict es n) : s'.heap.get? b = some o := by
  obtain ⟨o', e', l⟩ := g.ext b o hb e
  rw [l.eq hd] at e'; exact e'

theorem Grow.refl (x : Base G Fs R s) : Grow G Fs R s R s := ⟨⟨s.heap, s.toks, rfl⟩, fun _ o _ e => ⟨o, e, .refl o⟩, .refl _, fun _ _ e => .inl e, x⟩
theorem Grow.trans (x : Grow G Fs R s R₁ s₁) (y : Grow G Fs R₁ s₁ R₂ s₂) : Grow G Fs R s R₂ s₂ := by
  refine ⟨?_, fun b o hb e => ?_, x.up.trans y.up, fun b o e => ?_, y.base⟩
  · obtain ⟨h', tk, rfl⟩ := x.st
    obtain ⟨h'', tk', rfl⟩ := y.st
    exact ⟨h'', tk', rfl⟩
  · obtain ⟨o₁, e₁, l₁⟩ := x.ext b o hb e
    obtain ⟨o₂, e₂, l₂⟩ := y.ext b o₁ hb e₁
    exact ⟨o₂, e₂, l₁.trans l₂⟩
  · rcases y.new b o e with e1 | e1
    · exact x.new b o e1
    · cases q : s.heap.get? b with
      | none => exact .inr rfl
      | some o' =>
        by_cases hb : b ∈ G.T
        · rw [y.base.noT b hb] at e; cases e
        · obtain ⟨o₁, e₁, _⟩ := x.ext b o' hb q
          rw [e₁] at e1; cases e1
theorem Grow.toks (x : Base G Fs R s) (t : Nat) : Grow G Fs R s R { s with toks := t } :=
  ⟨⟨s.heap, t, rfl⟩, fun _ o _ e => ⟨o, e, .refl o⟩, .refl _, fun _ _ e => .inl e, ⟨x.sub0, x.sub, x.tab, x.noT, x.gens, x.os, x.fr⟩⟩

theorem Grow.more (x : Grow G Fs R s R' s') (t : Nat) : Grow G Fs R s R' { s' with toks := t } := x.trans (.toks x.base t)

theorem Grow.keep {h' : Heap} {tk : Nat} (x : Base G Fs R s) (hk : ∀ b o, s.heap.get? b = some o → h'.get? b = some o) : Grow G Fs R s R { s with heap := h', toks := tk } :=
  ⟨⟨h', tk, rfl⟩, fun b o _ e => ⟨o, hk b o e, .refl o⟩, .refl _, fun _ _ e => .inl e, ⟨x.sub0, fun b o e => hk b o (x.sub b o e), G.tabKeep _ _ x.tab fun b o _ _ e => hk b o e, x.noT, x.gens, x.os,
    fun e he => (x.fr e he).step (fun b o es n e1 e2 => ⟨o, es, n, hk b o e1, e2⟩) fun _ _ _ e => e⟩⟩

noncomputable def PH.put (R : PH) (a : Addr) (o : Obj) : PH := fun b => if b = a then some o else R b
theorem PH.put_self (R : PH) (a : Addr) (o : Obj) : R.put a o a = some o := if_pos rfl
theorem PH.put_ne {R : PH} {a b : Addr} {o : Obj} (h : b ≠ a) : R.put a o b = R b := if_neg h

theorem Grow.made {h' : Heap} {tk : Nat} {a : Addr} {o : Obj} (x : Base G Fs R s) (hk : ∀ b o, s.heap.get? b = some o → h'.get? b = some o) (hn : s.heap.get? a = Option.none) (ha : h'.get? a = some o) :
    Grow G Fs R s (R.put a o) { s with heap := h', toks := tk } := by
  have hRa : R a = Option.none := by
    cases q : R a with
    | none => rfl
    | some o' => rw [x.sub a o' q] at hn; cases hn
  have hup : Sub R (R.put a o) := fun b o' e => by rw [PH.put_ne (fun q => by rw [q, hRa] at e; cases e)]; exact e
  refine ⟨⟨h', tk, rfl⟩, fun b o _ e => ⟨o, hk b o e, .refl o⟩, hup, fun b o' e => ?_, ⟨x.sub0.trans hup, fun b o' e => ?_, G.tabKeep _ _ x.tab fun b o _ _ e => hk b o e, fun P hP => ?_, x.gens, x.os, fun e he => (x.fr e he).step (fun b o es n e1 e2 => ⟨o, es, n, hk b o e1, e2⟩) fun b ob e1 e2 => ?_⟩⟩
  · by_cases hb : b = a
    · subst hb; exact .inr hn
    · rw [PH.put_ne hb] at e; exact .inl e
  · by_cases hb : b = a
    · subst hb; rw [PH.put_self] at e; cases e; exact ha
    · rw [PH.put_ne hb] at e; exact hk b o' (x.sub b o' e)
  · by_cases hb : P = a
    · subst hb
      obtain ⟨ps, hp⟩ := G.tabIn _ x.tab P hP
      rw [hn] at hp; cases hp
    · rw [PH.put_ne hb]; exact x.noT P hP
  · rw [PH.put_ne (fun q => by rw [q, hn] at e1; cases e1)]; exact e2

theorem Grow.pushed {o : Obj} {tk : Nat} (x : Base G Fs R s) (hf : o.isFreed = false := by rfl) : Grow G Fs R s (R.put s.heap.objs.size o) { s with heap := s.heap.push o, toks := tk } :=
  .made x (fun _ _ e => Heap.get?_push_of_some _ e) (by
    cases q : s.heap.get? s.heap.objs.size with
    | none => rfl
    | some o' => exact absurd (Heap.lt_size q) (Nat.lt_irrefl _)) (Heap.get?_push_size _ hf)
end

/-! the frame -/
noncomputable def VarIs (h : Heap) (env : Env) (x : Str) (val : Value) : Prop :=
  (env.kindOf x = some .local ∧ ∃ m, h.Ns env.locals m ∧ m x = some val) ∨
  ((env.kindOf x = some .cell ∨ env.kindOf x = some .free) ∧ ∃ c, env.cells.lookup x = some c ∧ h.IsCell c (some val))

inductive LV where
  | val (v : V)
  | own (vs : List V)
  | ownD (v : V)

noncomputable abbrev Sg := List (String × LV)

noncomputable def V.isD : V → Bool
  | .dIS .. | .dSI .. => true
  | _ => false
noncomputable def LV.owned : LV → Bool
  | .val _ => false
  | _ => true

noncomputable def LRep (Fs : List Env) (R : PH) (h : Heap) : LV → Value → Prop
  | .val v, x => Rep R v x
  | .own vs, x => ∃ a its, x = .ref a ∧ h.PlainList a its.toArray ∧ RepL R vs its
  | .ownD v, x => ∃ a o, x = .ref a ∧ v.isD = true ∧ h.get? a = some o ∧ ¬ InFr Fs a ∧ (∃ es n, o.data = .dict es n) ∧ ∀ R' : PH, R' a = some o → Rep R' v x

structure Sv (G : Cx) (Fs : List Env) (env : Env) (R : PH) (σ : Sg) (s : Shared) : Prop where
  base : Base G Fs R s
  vars : ∀ x lv, (x, lv) ∈ σ → ∃ val, VarIs s.heap env (Str.ofString x) val ∧ LRep Fs R s.heap lv val

section
variable {G : Cx} {Fs : List Env} {R R' : PH} {s s' : Shared} {env : Env} {σ : Sg}

theorem notTab {h : Heap} {a : Addr} {o : Obj} (ht : G.tabOk h) (e : h.get? a = some o) (hn : o.cls ≠ .none ∨ ∀ ps, o.data ≠ .fields ps) : a ∉ G.T := fun hm => by
  obtain ⟨ps, hp⟩ := G.tabIn h ht a hm
  rw [e] at hp; cases hp
  rcases hn with q | q
  · exact q rfl
  · exact q _ rfl
theorem VarIs.ext {p : Addr → Prop} {h h' : Heap} {x : Str} {val : Value} (ht : G.tabOk h) (v : VarIs h env x val) (hk : ∀ b o, b ∉ G.T → h.get? b = some o → ∃ o', h'.get? b = some o' ∧ Like (p b) o o') : VarIs h' env x val := by
  rcases v with ⟨k, m, ⟨o, es, ep, e, d, r⟩, hm⟩ | ⟨k, c, hc, o, e, d⟩
  · obtain ⟨o', e', l⟩ := hk _ _ (notTab ht e (.inr fun ps q => by rw [d] at q; cases q)) e
    exact .inl ⟨k, m, ⟨o', es, ep, e', l.data.trans d, r⟩, hm⟩
  · obtain ⟨o', e', l⟩ := hk _ _ (notTab ht e (.inr fun ps q => by rw [d] at q; cases q)) e
    exact .inr ⟨k, c, hc, o', e', l.data.trans d⟩
theorem plain_ext {p : Addr → Prop} {h h' : Heap} {a : Addr} {its : Array Value} (ht : G.tabOk h) (v : h.PlainList a its) (hk : ∀ b o, b ∉ G.T → h.get? b = some o → ∃ o', h'.get? b = some o' ∧ Like (p b) o o') : h'.PlainList a its := by
  obtain ⟨n, e⟩ := v
  obtain ⟨o', e', l⟩ := hk _ _ (notTab ht e (.inl nofun)) e
  rw [l.eq (fun es n q => by cases q)] at e'
  exact ⟨n, e'⟩
theorem LRep.grow {lv : LV} {x : Value} (ht : G.tabOk s.heap) (v : LRep Fs R s.heap lv x) (g : Grow G Fs R s R' s') : LRep Fs R' s'.heap lv x := by
  cases lv with
  | val v' => exact Rep.sub g.up v
  | own vs =>
    obtain ⟨a, its, e, q, r⟩ := v
    exact ⟨a, its, e, plain_ext ht q g.ext, r.sub g.up⟩
  | ownD v' =>
    obtain ⟨a, o, e, hd, q, hf, ⟨es, n, hdd⟩, r⟩ := v
    obtain ⟨o', e', l⟩ := g.ext a o (notTab ht q (.inr fun ps q => by rw [hdd] at q; cases q)) q
    rw [l.not hf] at e'
    exact ⟨a, o, e, hd, e', hf, ⟨es, n, hdd⟩, r⟩
theorem Sv.grow (v : Sv G Fs env R σ s) (g : Grow G Fs R s R' s') : Sv G Fs env R' σ s' :=
  ⟨g.base, fun x lv hm => let ⟨val, a, b⟩ := v.vars x lv hm; ⟨val, a.ext v.base.tab g.ext, b.grow v.base.tab g⟩⟩
end

structure Aok (k : Nat) (Fs : List Env) (A : Around) : Prop where
  handled : k ≠ 0 → A.handled = none
  depth : A.depth + k ≤ 900
  units : A.units + 40 * k ≤ 9000
  frames : A.frames = some Fs

theorem Aok.less {k j : Nat} {Fs : List Env} {A : Around} (h : Aok k Fs A) (hj : j ≤ k) : Aok j Fs A := ⟨fun hj0 => h.handled (by omega), by have := h.depth; omega, by have := h.units; omega, h.frames⟩
theorem Aok.in1 {k : Nat} {Fs : List Env} {A : Around} (h : Aok (k + 1) Fs A) : Aok k Fs A.in1 := ⟨fun _ => h.handled (by omega), by have := h.depth; simp; omega, by have := h.units; simp; omega, h.frames⟩
theorem Aok.deeper {k : Nat} {Fs : List Env} {A : Around} (h : Aok (k + 1) Fs A) (env : Env) : Aok k (env :: Fs) (A.deeper env) :=
  ⟨fun _ => h.handled (by omega), by have := h.depth; show A.depth + 1 + k ≤ _; omega, by have := h.units; show A.units + 3 + 40 * k ≤ _; omega, by show A.frames.map (env :: ·) = _; rw [h.frames]; rfl⟩
theorem Aok.room {k : Nat} {Fs : List Env} {A : Around} (h : Aok k Fs A) : A.depth < recursionLimit := by have := h.depth; show A.depth < 1000; omega
noncomputable def Ev (G : Cx) (k : Nat) (env : Env) (σ : Sg) (e : Expr) (v : V) (q : Bool := true) : Prop :=
  ∀ ⦃Fs : List Env⦄ (A : Around) (s : Shared) (R : PH) (Q : Value → Shared → Prop) (E : Value → Shared → Prop), Aok k Fs A → Sv G Fs env R σ s →
    (∀ val s' R', Grow G Fs R s R' s' → Rep (if q then R' else s'.heap.get?) v val → Q val s') → wpAny (model G.prog G.w) A (eval e env) Q E s

noncomputable def Tr (G : Cx) (k : Nat) (env : Env) (σ : Sg) (e : Expr) (b : Bool) : Prop :=
  ∀ ⦃Fs : List Env⦄ (A : Around) (s : Shared) (R : PH) (Q : Bool → Shared → Prop) (E : Value → Shared → Prop), Aok k Fs A → Sv G Fs env R σ s →
    (∀ s' R', Grow G Fs R s R' s' → Q b s') → wpAny (model G.prog G.w) A (isTrue e env (eval e env)) Q E s

noncomputable def Fn (G : Cx) (k : Nat) (f : Value) (vs : List V) (v : V) : Prop :=
  ∀ ⦃Fs : List Env⦄ (A : Around) (s : Shared) (R : PH) (xs : List Value) (Q : Value → Shared → Prop) (E : Value → Shared → Prop), Aok k Fs A → Base G Fs R s → RepL R vs xs →
    (∀ val s' R', Grow G Fs R s R' s' → Rep R' v val → Q val s') → wpAny (model G.prog G.w) A (call f xs) Q E s

noncomputable def Op2 (G : Cx) (k : Nat) (f : Value → Value → Sem Value) (v₁ v₂ v : V) : Prop :=
  ∀ ⦃Fs : List Env⦄ (A : Around) (s : Shared) (R : PH) (x y : Value) (Q : Value → Shared → Prop) (E : Value → Shared → Prop), Aok k Fs A → Base G Fs R s → Rep R v₁ x → Rep R v₂ y →
    (∀ val s' R', Grow G Fs R s R' s' → Rep R' v val → Q val s') → wpAny (model G.prog G.w) A (f x y) Q E s

section
variable {G : Cx} {Fs : List Env} {k : Nat} {env : Env} {σ : Sg}

theorem Ev.const_int {i : Int} {kk : Nat} {pos : Pos} : Ev G k env σ (.Constant (.int i) kk pos) (.int i) :=
  fun _ A s R Q E hA hS hQ => wpAny_Constant_int (hQ _ _ R (.toks hS.base _) ⟨_, rfl⟩)
theorem Ev.const_str {x : Str} {kk : Nat} {pos : Pos} : Ev G k env σ (.Constant (.str x) kk pos) (.str x) :=
  fun _ A s R Q E hA hS hQ => wpAny_Constant_str (hQ _ _ R (.toks hS.base _) ⟨_, rfl⟩)
theorem wpAny_var {A : Around} {E : Value → Shared → Prop} {s : Shared} {x : Str} {pos : Pos} {val : Value} {Q : Value → Shared → Prop} {M : Model} (v : VarIs s.heap env x val) (h : Q val s)
    (hk : env.scope.kind = .function) (hd : (x == ("__debug__" : Str)) = false) (hn : (x == ("__classdict__" : Str)) = false) : wpAny M A (eval (.Name x pos) env) Q E s := by
  refine wpAny_Name ?_ hd
  rcases v with ⟨k, m, hm, hv⟩ | ⟨k, c, hc, hv⟩
  · exact wpAny_loadName_local hk k hm hv h
  · rcases k with k | k
    · exact wpAny_loadName_cell hk k hc hv h
    · exact wpAny_loadName_free hk k hc hv h hn

theorem Ev.name {x : String} {pos : Pos} {v : V} (hm : (x, .val v) ∈ σ) (hk : env.scope.kind = .function := by rfl) (hd : (Str.ofString x == ("__debug__" : Str)) = false := by decide) (hn : (Str.ofString x == ("__classdict__" : Str)) = false := by decide) :
    Ev G k env σ (.Name (Str.ofString x) pos) v := fun _ A s R Q E hA hS hQ => by
  obtain ⟨val, hv, hr⟩ := hS.vars _ _ hm
  exact wpAny_var hv (hQ val s R (.refl hS.base) hr) hk hd hn
theorem Ev.binop {l r : Expr} {op : Operator} {pos : Pos} {v₁ v₂ v : V} (h₁ : Ev G k env σ l v₁) (h₂ : Ev G k env σ r v₂) (h : Op2 G k (binaryOp op) v₁ v₂ v) : Ev G k env σ (.BinOp l op r pos) v :=
  fun _ A s R Q E hA hS hQ => wpAny_BinOp (h₁ A s R _ E hA hS fun x s₁ R₁ g₁ r₁ => h₂ A s₁ R₁ _ E hA (hS.grow g₁) fun y s₂ R₂ g₂ r₂ =>
    h A s₂ R₂ x y Q E hA g₂.base (Rep.sub g₂.up r₁) r₂ fun val s₃ R₃ g₃ r₃ => hQ val s₃ R₃ ((g₁.trans g₂).trans g₃) r₃)
end

end Mine
open PySem PySem.W PyProof.Rows
set_option Elab.async false
set_option linter.unusedVariables false
namespace Mine

section
variable {G : Cx} {Fs : List Env} {k : Nat} {env : Env} {σ : Sg}

/-! ints -/
theorem Op2.add {a b : Int} : Op2 G k (binaryOp .Add) (.int a) (.int b) (.int (a + b)) := fun _ A s R x y Q E hA hB ⟨t, e⟩ ⟨u, e'⟩ hQ => by
  subst e e'; exact PyProof.Rows.add_int (hQ _ _ R (.toks hB _) ⟨_, rfl⟩)
theorem Op2.div {a b : Int} (hb : 0 < b) (hl : b < 1000000000 := by decide) : Op2 G k (binaryOp .FloorDiv) (.int a) (.int b) (.int (a / b)) := fun _ A s R x y Q E hA hB ⟨t, e⟩ ⟨u, e'⟩ hQ => by
  subst e e'
  refine PyProof.Rows.floordiv_int (by omega) ?_ (.inl (PyProof.noPylong_small (by omega)))
  rw [Int.fdiv_eq_ediv_of_nonneg a (by omega)]
  exact hQ _ _ R (.toks hB _) ⟨_, rfl⟩
theorem Op2.mod {a b : Int} (hb : 0 < b) (hl : b < 1000000000 := by decide) : Op2 G k (binaryOp .Mod) (.int a) (.int b) (.int (a % b)) := fun _ A s R x y Q E hA hB ⟨t, e⟩ ⟨u, e'⟩ hQ => by
  subst e e'
  refine PyProof.Rows.mod_int' (by omega) ?_
  rw [Int.fmod_eq_emod_of_nonneg a (by omega)]
  exact hQ _ _ R (.toks hB _) ⟨_, rfl⟩
theorem Op2.eq {a b : Int} : Op2 G k (compareOp .Eq) (.int a) (.int b) (.bool (a == b)) := fun _ A s R x y Q E hA hB ⟨t, e⟩ ⟨u, e'⟩ hQ => by
  subst e e'; exact PyProof.Rows.eq_int (hQ _ _ R (.refl hB) rfl)
/-! texts -/
theorem Op2.cat {a b : Str} (hs : a.length + b.length ≤ sizeLine) : Op2 G k (binaryOp .Add) (.str a) (.str b) (.str (a ++ b)) := fun _ A s R x y Q E hA hB ⟨t, e⟩ ⟨u, e'⟩ hQ => by
  subst e e'; exact PyProof.Rows.add_str (fun t' tk => hQ _ _ R (.toks hB _) ⟨_, rfl⟩) hs
theorem Op2.eqs {a b : Str} : Op2 G k (compareOp .Eq) (.str a) (.str b) (.bool (a == b)) := fun _ A s R x y Q E hA hB ⟨t, e⟩ ⟨u, e'⟩ hQ => by
  subst e e'; exact PyProof.Rows.eq_str (hQ _ _ R (.refl hB) rfl)
theorem Op2.nes {a b : Str} : Op2 G k (compareOp .NotEq) (.str a) (.str b) (.bool (a != b)) := fun _ A s R x y Q E hA hB ⟨t, e⟩ ⟨u, e'⟩ hQ => by
  subst e e'; exact PyProof.Rows.ne_str (hQ _ _ R (.refl hB) rfl)
/-! comparisons and tests -/
theorem Ev.cmp {l r : Expr} {op : CmpOp} {pos : Pos} {v₁ v₂ v : V} (h₁ : Ev G k env σ l v₁) (h₂ : Ev G k env σ r v₂) (h : Op2 G k (compareOp op) v₁ v₂ v)
    (hm : behindInMarks op r = false := by rfl) : Ev G k env σ (.Compare l [op] [r] pos) v :=
  fun _ A s R Q E hA hS hQ => wpAny_Compare1 (h₁ A s R _ E hA hS fun x s₁ R₁ g₁ r₁ => h₂ A s₁ R₁ _ E hA (hS.grow g₁) fun y s₂ R₂ g₂ r₂ =>
    h A s₂ R₂ x y Q E hA g₂.base (Rep.sub g₂.up r₁) r₂ fun val s₃ R₃ g₃ r₃ => hQ val s₃ R₃ ((g₁.trans g₂).trans g₃) r₃) hm

theorem Tr.cmp {l r : Expr} {op : CmpOp} {pos : Pos} {v₁ v₂ : V} {b : Bool} (h₁ : Ev G k env σ l v₁) (h₂ : Ev G k env σ r v₂) (h : Op2 G k (compareOp op) v₁ v₂ (.bool b))
    (hm : behindInMarks op r = false := by rfl) : Tr G k env σ (.Compare l [op] [r] pos) b :=
  fun _ A s R Q E hA hS hQ => wpAny_isTrue_Compare1 (h₁ A s R _ E hA hS fun x s₁ R₁ g₁ r₁ => h₂ A s₁ R₁ _ E hA (hS.grow g₁) fun y s₂ R₂ g₂ r₂ =>
    h A s₂ R₂ x y _ E hA g₂.base (Rep.sub g₂.up r₁) r₂ fun val s₃ R₃ g₃ r₃ => by
      rw [show val = .bool b from r₃]; exact wpAny_truthy_bool (hQ s₃ R₃ ((g₁.trans g₂).trans g₃))) hm

noncomputable def TrOr (G : Cx) (k : Nat) (env : Env) (σ : Sg) (es : List Expr) (b : Bool) : Prop :=
  ∀ ⦃Fs : List Env⦄ (A : Around) (s : Shared) (R : PH) (Q : Bool → Shared → Prop) (E : Value → Shared → Prop), Aok k Fs A → Sv G Fs env R σ s →
    (∀ s' R', Grow G Fs R s R' s' → Q b s') → wpAny (model G.prog G.w) A (allTrue .Or es env) Q E s
theorem TrOr.nil : TrOr G k env σ [] false := fun _ A s R Q E hA hS hQ => wpAny_allTrue_Or_nil (hQ s R (.refl hS.base))
theorem TrOr.cons {e : Expr} {es : List Expr} {b b' : Bool} (h : Tr G k env σ e b) (h' : b = false → TrOr G k env σ es b') : TrOr G k env σ (e :: es) (b || b') :=
  fun _ A s R Q E hA hS hQ => wpAny_allTrue_Or_cons (h A s R _ E hA hS fun s₁ R₁ g₁ => by
    cases b with
    | true => exact hQ s₁ R₁ g₁
    | false => exact h' rfl A s₁ R₁ _ E hA (hS.grow g₁) fun s₂ R₂ g₂ => hQ s₂ R₂ (g₁.trans g₂))
theorem Tr.or {es : List Expr} {pos : Pos} {b : Bool} (h : TrOr G k env σ es b) : Tr G k env σ (.BoolOp .Or es pos) b :=
  fun _ A s R Q E hA hS hQ => wpAny_isTrue_BoolOp (h A s R Q E hA hS hQ)

theorem Ev.ifexp {t a b : Expr} {pos : Pos} {c : Bool} {v : V} {q : Bool} (h : Tr G k env σ t c) (h₁ : c = true → Ev G k env σ a v q) (h₂ : c = false → Ev G k env σ b v q) : Ev G k env σ (.IfExp t a b pos) v q :=
  fun _ A s R Q E hA hS hQ => wpAny_IfExp (h A s R _ E hA hS fun s₁ R₁ g₁ => by
    cases c with
    | true => exact h₁ rfl A s₁ R₁ Q E hA (hS.grow g₁) fun val s₂ R₂ g₂ r₂ => hQ val s₂ R₂ (g₁.trans g₂) r₂
    | false => exact h₂ rfl A s₁ R₁ Q E hA (hS.grow g₁) fun val s₂ R₂ g₂ r₂ => hQ val s₂ R₂ (g₁.trans g₂) r₂)

/-! names of the module, calls -/
theorem wpAny_global {A : Around} {E : Value → Shared → Prop} {s : Shared} {R : PH} {x : Str} {pos : Pos} {v : Value} {Q : Value → Shared → Prop} (hB : Base G Fs R s) (hv : G.mg x = some v) (h : Q v s)
    (hx : env.kindOf x = some .globalImplicit) (hd : (x == ("__debug__" : Str)) = false) (hk : env.scope.kind = .function) (hgl : env.globals = mainGlobals) :
    wpAny (model G.prog G.w) A (eval (.Name x pos) env) Q E s :=
  Calls.Name_function_global hk hx (Calls.loadGlobal_global (hgl ▸ G.g _ hB.ground) hv h) hd
theorem wpAny_builtin {A : Around} {E : Value → Shared → Prop} {s : Shared} {R : PH} {x : Str} {pos : Pos} {v : Value} {Q : Value → Shared → Prop} (hB : Base G Fs R s) (hm : G.mg x = none) (hv : bootBuiltins x = some v) (hn : x ≠ "__name__") (h : Q v s)
    (hx : env.kindOf x = some .globalImplicit) (hd : (x == ("__debug__" : Str)) = false) (hk : env.scope.kind = .function) (hgl : env.globals = mainGlobals) (hbl : env.builtins = builtinsNs) :
    wpAny (model G.prog G.w) A (eval (.Name x pos) env) Q E s :=
  Calls.Name_function_global hk hx (Calls.loadGlobal_builtin (hgl ▸ G.g _ hB.ground) hm (hbl ▸ G.b _ hB.ground) ((G.builtins x hn).trans hv) h) hd

noncomputable def EvL (G : Cx) (k : Nat) (env : Env) (σ : Sg) (es : List Expr) (vs : List V) : Prop :=
  ∀ ⦃Fs : List Env⦄ (pos : Pos) (A : Around) (s : Shared) (R : PH) (Q : List Value → Shared → Prop) (E : Value → Shared → Prop), Aok k Fs A → Sv G Fs env R σ s →
    (∀ xs s' R', Grow G Fs R s R' s' → RepL R' vs xs → Q xs s') → wpAny (model G.prog G.w) A (spliced (backTo pos (starEach es env))) Q E s
theorem EvL.nil : EvL G k env σ [] [] := fun _ pos A s R Q E hA hS hQ => args_nil (hQ [] s R (.refl hS.base) rfl)
theorem EvL.cons {e : Expr} {es : List Expr} {v : V} {vs : List V} (h : Ev G k env σ e v) (h' : EvL G k env σ es vs) (he : starEach (e :: es) env = (false, eval e env) :: starEach es env := by rfl) : EvL G k env σ (e :: es) (v :: vs) :=
  fun _ pos A s R Q E hA hS hQ => args_cons (h A s R _ E hA hS fun x s₁ R₁ g₁ r₁ => h' pos A s₁ R₁ _ E hA (hS.grow g₁) fun xs s₂ R₂ g₂ r₂ =>
    hQ (x :: xs) s₂ R₂ (g₁.trans g₂) ⟨x, xs, rfl, Rep.sub g₂.up r₁, r₂⟩) he

theorem Ev.list {es : List Expr} {pos : Pos} {vs : List V} (h : EvL G k env σ es vs) (hn : vs.length ≤ sizeLine := by decide) : Ev G k env σ (.List es pos) (.list vs) :=
  fun _ A s R Q E hA hS hQ => wpAny_List (h pos A s R _ E hA hS fun xs s₁ R₁ g₁ r₁ => ⟨by rw [r₁.length]; exact hn,
    hQ _ _ _ (g₁.trans (Grow.pushed (tk := s₁.toks) g₁.base)) ⟨_, xs, rfl, ⟨_, _, PH.put_self .., rfl, rfl⟩, r₁.sub (Grow.pushed (tk := s₁.toks) g₁.base).up⟩⟩)
theorem Call_name {x : Str} {p pos : Pos} {e : Expr} {es : List Expr} {A : Around} {E : Value → Shared → Prop} {s : Shared} {M : Model} {Q : Value → Shared → Prop}
    (h : wpAny M A (eval (.Name x p) env) (fun f s₁ => wpAny M A (callWith pos f [] (backTo pos (starEach (e :: es) env)) []) Q E s₁) E s) : wpAny M A (eval (.Call (.Name x p) (e :: es) [] pos) env) Q E s :=
  Call_ h (by rfl)

theorem Ev.call {x : String} {p pos : Pos} {e : Expr} {es : List Expr} {f : Addr} {o : Obj} {fd : FuncData} {vs : List V} {v : V} (hv : G.mg (Str.ofString x) = some (.ref f)) (ho : G.h0 f = some o) (hd : o.data = .func fd)
    (ha : EvL G k env σ (e :: es) vs) (hf : Fn G k (.ref f) vs v)
    (hx : env.kindOf (Str.ofString x) = some .globalImplicit := by rfl) (hg : env.globals = mainGlobals := by rfl) (hk : env.scope.kind = .function := by rfl) (hb : (Str.ofString x == ("__debug__" : Str)) = false := by decide)
    (he : starEach (e :: es) env = (false, eval e env) :: starEach es env := by rfl) : Ev G k env σ (.Call (.Name (Str.ofString x) p) (e :: es) [] pos) v :=
  fun _ A s R Q E hA hS hQ => Call_name (wpAny_global hS.base hv (callWith_def hd (ha pos A s R _ E hA hS fun xs s₁ R₁ g₁ r₁ =>
    ⟨g₁.base.ground _ _ ho, hf A s₁ R₁ xs Q E hA g₁.base r₁ fun val s₂ R₂ g₂ r₂ => hQ val s₂ R₂ (g₁.trans g₂) r₂⟩) he) hx hb hk hg)

theorem Ev.callB {x id : String} {p pos : Pos} {e : Expr} {es : List Expr} {vs : List V} {v : V} (hm : G.mg (Str.ofString x) = none) (hv : bootBuiltins (Str.ofString x) = some (.builtin id))
    (ha : EvL G k env σ (e :: es) vs) (hf : Fn G k (.builtin id) vs v) (hn : Str.ofString x ≠ ("__name__" : Str) := by decide)
    (hx : env.kindOf (Str.ofString x) = some .globalImplicit := by rfl) (hg : env.globals = mainGlobals := by rfl) (hbl : env.builtins = builtinsNs := by rfl) (hk : env.scope.kind = .function := by rfl) (hb : (Str.ofString x == ("__debug__" : Str)) = false := by decide)
    (he : starEach (e :: es) env = (false, eval e env) :: starEach es env := by rfl) (hp : ∀ pos, (backTo pos (starEach es env)).any (·.1) = false := by intro _; rfl) : Ev G k env σ (.Call (.Name (Str.ofString x) p) (e :: es) [] pos) v :=
  fun _ A s R Q E hA hS hQ => Call_name (wpAny_builtin hS.base hm hv hn (callWith_builtin1 (ha pos A s R _ E hA hS fun xs s₁ R₁ g₁ r₁ =>
    hf A s₁ R₁ xs Q E hA g₁.base r₁ fun val s₂ R₂ g₂ r₂ => hQ val s₂ R₂ (g₁.trans g₂) r₂) he (hp pos)) hx hb hk hg hbl)
end

end Mine
open PySem PySem.W PyProof.Rows
set_option Elab.async false
set_option linter.unusedVariables false
namespace Mine

theorem char_toNat_inj {c d : Char} (h : c.toNat = d.toNat) : c = d := by
  apply Char.ext
  apply UInt32.toNat.inj
  exact h
theorem ofString_inj {a b : String} (h : Str.ofString a = Str.ofString b) : a = b := by
  rw [Str.ofString_eq_toList, Str.ofString_eq_toList] at h
  have h1 : (a.toList.map Char.toNat) = b.toList.map Char.toNat := by
    have := congrArg (fun x : Str => x.cps.toList) h
    simpa using this
  have h2 : a.toList = b.toList := by
    have inj : ∀ l l' : List Char, l.map Char.toNat = l'.map Char.toNat → l = l' := by
      intro l
      induction l with
      | nil => intro l' e; cases l' with | nil => rfl | cons => simp at e
      | cons c r ih =>
        intro l' e
        cases l' with
        | nil => simp at e
        | cons d r' =>
          simp only [List.map_cons, List.cons.injEq] at e
          rw [char_toNat_inj e.1, ih r' e.2]
    exact inj _ _ h1
  exact String.ext h2

noncomputable def del : Sg → String → Sg
  | [], _ => []
  | (y, w) :: r, x => if y = x then del r x else (y, w) :: del r x
noncomputable def put : Sg → String → LV → Sg
  | [], x, lv => [(x, lv)]
  | (y, w) :: r, x, lv => if y = x then (x, lv) :: del r x else (y, w) :: put r x lv
theorem mem_del : ∀ {σ : Sg} {x y : String} {w : LV}, (y, w) ∈ del σ x → y ≠ x ∧ (y, w) ∈ σ
  | (z, u) :: r, x, y, w, h => by
    unfold del at h
    by_cases hz : z = x
    · rw [if_pos hz] at h
      exact ⟨(mem_del h).1, List.mem_cons_of_mem _ (mem_del h).2⟩
    · rw [if_neg hz] at h
      rcases List.mem_cons.mp h with e | h
      · cases e; exact ⟨hz, List.mem_cons_self⟩
      · exact ⟨(mem_del h).1, List.mem_cons_of_mem _ (mem_del h).2⟩
theorem mem_put : ∀ {σ : Sg} {x y : String} {lv w : LV}, (y, w) ∈ put σ x lv → (y = x ∧ w = lv) ∨ (y ≠ x ∧ (y, w) ∈ σ)
  | [], x, y, lv, w, h => by
    unfold put at h
    rcases List.mem_cons.mp h with e | h
    · cases e; exact .inl ⟨rfl, rfl⟩
    · cases h
  | (z, u) :: r, x, y, lv, w, h => by
    unfold put at h
    by_cases hz : z = x
    · rw [if_pos hz] at h
      rcases List.mem_cons.mp h with e | h
      · cases e; exact .inl ⟨rfl, rfl⟩
      · exact .inr ⟨(mem_del h).1, List.mem_cons_of_mem _ (mem_del h).2⟩
    · rw [if_neg hz] at h
      rcases List.mem_cons.mp h with e | h
      · cases e; exact .inr ⟨hz, List.mem_cons_self⟩
      · rcases mem_put h with q | q
        · exact .inl q
        · exact .inr ⟨q.1, List.mem_cons_of_mem _ q.2⟩

structure St (G : Cx) (Fs : List Env) (env : Env) (R Kp : PH) (σ : Sg) (s : Shared) : Prop where
  base : Base G Fs R s
  kp : KSub Fs Kp s.heap
  kpT : ∀ P ∈ G.T, Kp P = Option.none
  locR : R env.locals = Option.none
  locK : Kp env.locals = Option.none
  ns : ∃ m, s.heap.Ns env.locals m
  cells : ∀ p ∈ env.cells, R p.2 = Option.none ∧ Kp p.2 = Option.none ∧ ∃ v, s.heap.IsCell p.2 v
  apart : env.cells.Pairwise fun x y => x.2 ≠ y.2
  top : (∃ outer, Fs = env :: outer) ∧ env.frame = some env.locals
  vars : ∃ f : String → Addr, (∀ x lv, (x, lv) ∈ σ → ∃ val, VarIs s.heap env (Str.ofString x) val ∧ LRep Fs R s.heap lv val ∧ (lv.owned = true → val = .ref (f x) ∧ R (f x) = Option.none ∧ Kp (f x) = Option.none)) ∧
    ∀ x y lv lv', (x, lv) ∈ σ → (y, lv') ∈ σ → lv.owned = true → lv'.owned = true → f x = f y → x = y

structure GrowX (R Kp R' : PH) : Prop where
  up : Sub R R'
  new : ∀ b o, R' b = some o → R b = some o ∨ Kp b = Option.none

noncomputable def Adv (s s' : Shared) : Prop := ∃ h' tk, s' = { s with heap := h', toks := tk }

section
variable {G : Cx} {Fs : List Env} {env : Env} {R R' R₁ R₂ Kp Kp' : PH} {σ σ' : Sg} {s s' s₁ s₂ : Shared}

theorem Adv.refl (s : Shared) : Adv s s := ⟨s.heap, s.toks, rfl⟩
theorem Adv.trans (x : Adv s s₁) (y : Adv s₁ s₂) : Adv s s₂ := by
  obtain ⟨h, t, rfl⟩ := x; obtain ⟨h', t', rfl⟩ := y; exact ⟨h', t', rfl⟩
theorem GrowX.refl (R Kp : PH) : GrowX R Kp R := ⟨.refl _, fun _ _ e => .inl e⟩
theorem GrowX.trans (x : GrowX R Kp R₁) (y : GrowX R₁ Kp R₂) : GrowX R Kp R₂ :=
  ⟨x.up.trans y.up, fun b o e => (y.new b o e).elim (fun e => x.new b o e) .inr⟩

theorem St.sv (x : St G Fs env R Kp σ s) : Sv G Fs env R σ s := ⟨x.base, fun y lv hm => let ⟨f, hv, _⟩ := x.vars; let ⟨val, a, b, _⟩ := hv y lv hm; ⟨val, a, b⟩⟩

theorem St.weaken (x : St G Fs env R Kp σ s) (h : ∀ p ∈ σ', p ∈ σ) : St G Fs env R Kp σ' s :=
  { x with vars := let ⟨f, hv, hi⟩ := x.vars; ⟨f, fun y lv hm => hv y lv (h _ hm), fun y z lv lv' h1 h2 => hi y z lv lv' (h _ h1) (h _ h2)⟩ }

theorem Grow.x (g : Grow G Fs R s R' s') (hk : KSub Fs Kp s.heap) : GrowX R Kp R' :=
  ⟨g.up, fun b o e => (g.new b o e).elim .inl fun e => .inr (by
    cases q : Kp b with
    | none => rfl
    | some o' =>
      obtain ⟨o2, e2, _⟩ := hk b o' q
      rw [e2] at e; cases e)⟩

theorem Heap.Ns.notTab {h : Heap} {a : Addr} {m : Str → Option Value} (ht : G.tabOk h) (x : h.Ns a m) : a ∉ G.T := by
  obtain ⟨o, es, ep, e, d, _⟩ := x
  exact Mine.notTab ht e (.inr fun ps q => by rw [d] at q; cases q)

theorem LRep.there {h : Heap} {lv : LV} {x : Value} (v : LRep Fs R h lv x) (ho : lv.owned = true) : ∃ a o, x = .ref a ∧ h.get? a = some o := by
  cases lv with
  | val v' => cases ho
  | own vs => obtain ⟨a, its, e, ⟨n, q⟩, _⟩ := v; exact ⟨a, _, e, q⟩
  | ownD v' => obtain ⟨a, o, e, _, q, _⟩ := v; exact ⟨a, o, e, q⟩
theorem St.grow (x : St G Fs env R Kp σ s) (g : Grow G Fs R s R' s') : St G Fs env R' Kp σ s' := by
  have old : ∀ b o, s.heap.get? b = some o → R b = Option.none → R' b = Option.none := fun b o e hr => by
    cases q : R' b with
    | none => rfl
    | some o' =>
      rcases g.new b o' q with e' | e'
      · rw [hr] at e'; cases e'
      · rw [e] at e'; cases e'
  obtain ⟨m, hm⟩ := x.ns
  have hLT := Heap.Ns.notTab x.base.tab hm
  obtain ⟨oL, es, ep, eL, dL, rL⟩ := id hm
  obtain ⟨oL', eL', lL⟩ := g.ext _ _ hLT eL
  refine ⟨g.base, fun b o e => ?_, x.kpT, old _ _ eL x.locR, x.locK, ⟨m, oL', es, ep, eL', lL.data.trans dL, rL⟩, fun p hp => ?_, x.apart, x.top, ?_⟩
  · obtain ⟨o1, e1, l1⟩ := x.kp b o e
    obtain ⟨o2, e2, l2⟩ := g.ext b o1 (fun hb => by rw [x.kpT b hb] at e; cases e) e1
    exact ⟨o2, e2, l1.trans l2⟩
  · obtain ⟨c1, c2, v, o, e, d⟩ := x.cells p hp
    obtain ⟨o', e', l⟩ := g.ext _ _ (notTab x.base.tab e (.inr fun ps q => by rw [d] at q; cases q)) e
    exact ⟨old _ _ e c1, c2, v, o', e', l.data.trans d⟩
  · obtain ⟨f, hv, hi⟩ := x.vars
    refine ⟨f, fun y lv hm => ?_, hi⟩
    obtain ⟨val, a, b, c⟩ := hv y lv hm
    refine ⟨val, a.ext x.base.tab g.ext, b.grow x.base.tab g, fun e => ?_⟩
    obtain ⟨c1, c2, c3⟩ := c e
    obtain ⟨a', o', e1, e2⟩ := b.there e
    rw [c1] at e1; cases e1
    exact ⟨c1, old _ _ e2 c2, c3⟩

theorem St.keepMore (x : St G Fs env R Kp σ s) (hk : KSub Fs Kp' s.heap) (hT : ∀ P ∈ G.T, Kp' P = Option.none) (hL : Kp' env.locals = Option.none) (hc : ∀ p ∈ env.cells, Kp' p.2 = Option.none)
    (ho : ∀ a, R a = Option.none → Kp a = Option.none → Kp' a = Option.none) : St G Fs env R Kp' σ s :=
  { x with kp := hk, kpT := hT, locK := hL, cells := fun p hp => ⟨(x.cells p hp).1, hc p hp, (x.cells p hp).2.2⟩,
           vars := let ⟨f, hv, hi⟩ := x.vars; ⟨f, fun y lv hm => let ⟨val, a, b, c⟩ := hv y lv hm; ⟨val, a, b, fun e => let ⟨c1, c2, c3⟩ := c e; ⟨c1, c2, ho _ c2 c3⟩⟩, hi⟩ }
noncomputable def KLe (Fs : List Env) (K K' : PH) : Prop := ∀ b o, K b = some o → ∃ o', K' b = some o' ∧ Like (InFr Fs b) o o'
theorem KLe.sub {Fs : List Env} {K K' : PH} {h : Heap} (x : KLe Fs K K') (y : KSub Fs K' h) : KSub Fs K h := fun b o e => by
  obtain ⟨o1, e1, l1⟩ := x b o e
  obtain ⟨o2, e2, l2⟩ := y b o1 e1
  exact ⟨o2, e2, l1.trans l2⟩
theorem KLe.none {Fs : List Env} {K K' : PH} (x : KLe Fs K K') {b : Addr} (e : K' b = Option.none) : K b = Option.none := by
  cases q : K b with
  | none => rfl
  | some o =>
    obtain ⟨o1, e1, _⟩ := x b o q
    rw [e1] at e; cases e
theorem St.keepLess (x : St G Fs env R Kp' σ s) (hk : KLe Fs Kp Kp') : St G Fs env R Kp σ s :=
  { x with kp := hk.sub x.kp, kpT := fun P hP => hk.none (x.kpT P hP), locK := hk.none x.locK, cells := fun p hp => ⟨(x.cells p hp).1, hk.none (x.cells p hp).2.1, (x.cells p hp).2.2⟩,
           vars := let ⟨f, hv, hi⟩ := x.vars; ⟨f, fun y lv hm => let ⟨val, a, b, c⟩ := hv y lv hm; ⟨val, a, b, fun e => let ⟨c1, c2, c3⟩ := c e; ⟨c1, c2, hk.none c3⟩⟩, hi⟩ }
end

noncomputable def OwnName (env : Env) (x : Str) : Prop := env.kindOf x = some .local ∨ (env.kindOf x = some .cell ∧ ∃ c, env.cells.lookup x = some c)

section
variable {G : Cx} {Fs : List Env} {env : Env} {R R' Kp : PH} {σ : Sg} {s s' : Shared}

theorem tab_sameBut {h h' : Heap} {a : Addr} (ht : G.tabOk h) (hs : Heap.SameBut a h h') (hn : ∀ o vs, h.get? a = some o → o.data ≠ .fields vs) : G.tabOk h' :=
  G.tabKeep _ _ ht fun b o _ ⟨vs, hv⟩ e => (hs.2 b (by rintro rfl; exact hn o vs e hv)).trans e

theorem VarIs.other {h h' : Heap} {x y : Str} {val : Value} (hs : ∀ b, b ≠ env.locals → h'.get? b = h.get? b) {m m' : Str → Option Value} (hm : h.Ns env.locals m) (hm' : h'.Ns env.locals m') (hxy : ∀ z, z ≠ x → m' z = m z)
    (hn : y ≠ x) (v : VarIs h env y val) : VarIs h' env y val := by
  rcases v with ⟨k, m₁, hm₁, e⟩ | ⟨k, c, hc, o, e, d⟩
  · refine .inl ⟨k, m', hm', ?_⟩
    rw [hxy y hn]
    obtain ⟨o, es, ep, e1, d1, k1, f1⟩ := hm₁
    obtain ⟨o', es', ep', e2, d2, k2, f2⟩ := hm
    rw [e1] at e2; cases e2
    rw [d1] at d2; cases d2
    rw [← f2 y, f1 y]; exact e
  · refine .inr ⟨k, c, hc, o, ?_, d⟩
    rw [hs c (by
      rintro rfl
      obtain ⟨o', es', ep', e2, d2, _⟩ := hm
      rw [e] at e2; cases e2
      rw [d] at d2; cases d2)]
    exact e

theorem St.store {x : String} {val : Value} {lv : LV} {A : Around} {E : Value → Shared → Prop} {Q : Unit → Shared → Prop} (S : St G Fs env R Kp σ s) (hx : OwnName env (Str.ofString x)) (hk : env.scope.kind = .function)
    (hr : ∃ a : Addr, LRep Fs R s.heap lv val ∧ (lv.owned = true → val = .ref a ∧ R a = Option.none ∧ Kp a = Option.none ∧ ∀ y b lv', (y, lv') ∈ σ → lv'.owned = true → y ≠ x → VarIs s.heap env (Str.ofString y) (.ref b) → b ≠ a))
    (h : ∀ h' tk, (∀ b ob, b ≠ env.locals → b ∉ env.cells.map (·.2) → s.heap.get? b = some ob → h'.get? b = some ob) → St G Fs env R Kp (put σ x lv) { s with heap := h', toks := tk } → Q () { s with heap := h', toks := tk }) : wpAny (model G.prog G.w) A (storeName env (Str.ofString x) val) Q E s := by
  obtain ⟨m, hm⟩ := S.ns
  obtain ⟨a, hlr, hown⟩ := hr
  obtain ⟨f, hv, hi⟩ := S.vars
  -- common tail
  have tail : ∀ (h' : Heap) (tk : Nat) (z : Addr), Heap.SameBut z s.heap h' → R z = Option.none → Kp z = Option.none → (∀ o vs, s.heap.get? z = some o → o.data ≠ .fields vs) → (∀ o its n, s.heap.get? z = some o → o.data ≠ .seq its n) → (∀ o es n, s.heap.get? z = some o → o.data = .dict es n → InFr Fs z) → (∀ o es n, s.heap.get? z = some o → o.data = .dict es n → ∃ o' es' n', h'.get? z = some o' ∧ o'.data = .dict es' n') →
      (∃ m, h'.Ns env.locals m) → (∀ p ∈ env.cells, ∃ v, h'.IsCell p.2 v) → (∀ y v, y ≠ x → VarIs s.heap env (Str.ofString y) v → VarIs h' env (Str.ofString y) v) → VarIs h' env (Str.ofString x) val →
      St G Fs env R Kp (put σ x lv) { s with heap := h', toks := tk } := by
    intro h' tk z hs hzR hzK hzf hzs hzi hzd hns hcs hoth hme
    have keep : ∀ b o, b ≠ z → s.heap.get? b = some o → h'.get? b = some o := fun b o hb e => (hs.2 b hb).trans e
    have lrep : ∀ lv' val', LRep Fs R s.heap lv' val' → LRep Fs R h' lv' val' := fun lv' val' hl => by
      cases lv' with
      | val v => exact hl
      | own vs =>
        obtain ⟨a', its, e1, ⟨n, e2⟩, r⟩ := hl
        exact ⟨a', its, e1, ⟨n, keep _ _ (by rintro rfl; exact hzs _ _ n e2 rfl) e2⟩, r⟩
      | ownD v =>
        obtain ⟨a', o', e1, hd, e2, hf, ⟨es, n, hdd⟩, r⟩ := hl
        exact ⟨a', o', e1, hd, keep _ _ (by rintro rfl; exact hf (hzi _ es n e2 hdd)) e2, hf, ⟨es, n, hdd⟩, r⟩
    refine ⟨⟨S.base.sub0, fun b o e => keep b o (by rintro rfl; rw [hzR] at e; cases e) (S.base.sub b o e), tab_sameBut S.base.tab hs hzf, S.base.noT, S.base.gens, S.base.os, fun e he => (S.base.fr e he).step (fun b o es n e1 e2 => ?_) fun _ _ _ e => e⟩,
      fun b o e => (by
        obtain ⟨o1, e1, l1⟩ := S.kp b o e
        exact ⟨o1, keep b o1 (by rintro rfl; rw [hzK] at e; cases e) e1, l1⟩), S.kpT, S.locR, S.locK, hns, fun p hp => ⟨(S.cells p hp).1, (S.cells p hp).2.1, hcs p hp⟩, S.apart, S.top, ?_⟩
    · by_cases hb : b = z
      · subst hb; exact hzd o es n e1 e2
      · exact ⟨o, es, n, keep b o hb e1, e2⟩
    refine ⟨fun y => if y = x then a else f y, fun y w hy => ?_, fun y y' lv1 lv2 hy hy' o1 o2 e => ?_⟩
    · rcases mem_put hy with ⟨rfl, rfl⟩ | ⟨hne, hy⟩
      · exact ⟨val, hme, lrep _ _ hlr, fun e => by dsimp only; rw [if_pos rfl]; exact ⟨(hown e).1, (hown e).2.1, (hown e).2.2.1⟩⟩
      · obtain ⟨val', v1, v2, v3⟩ := hv y w hy
        exact ⟨val', hoth y val' hne v1, lrep _ _ v2, fun e => by dsimp only; rw [if_neg hne]; exact v3 e⟩
    · rcases mem_put hy with ⟨rfl, rfl⟩ | ⟨hne, hy2⟩ <;> rcases mem_put hy' with ⟨e1, e2⟩ | ⟨hne', hy3⟩
      · exact e1.symm
      · dsimp only at e
        rw [if_pos rfl, if_neg hne'] at e
        obtain ⟨val', v1, v2, v3⟩ := hv y' _ hy3
        rw [(v3 o2).1] at v1
        exact absurd e.symm ((hown o1).2.2.2 y' _ _ hy3 o2 hne' v1)
      · subst e1
        dsimp only at e
        rw [if_neg hne, if_pos rfl] at e
        obtain ⟨val', v1, v2, v3⟩ := hv y _ hy2
        rw [(v3 o1).1] at v1
        subst e2
        exact absurd e ((hown o2).2.2.2 y _ _ hy2 o1 hne v1)
      · dsimp only at e
        rw [if_neg hne, if_neg hne'] at e
        exact hi y y' _ _ hy2 hy3 o1 o2 e
  rcases hx with hl | ⟨hl, c, hc⟩
  · refine wpAny_storeName_local hl hm (fun h' hn' hs' => h h' _ (fun b ob hb _ e => (hs'.2 b hb).trans e) ?_) (by rw [hk]; rfl)
    obtain ⟨oL, es, ep, eL, dL, rL⟩ := id hm
    refine tail h' _ env.locals hs' S.locR S.locK (fun o vs e q => by rw [eL] at e; cases e; rw [dL] at q; cases q) (fun o its n e q => by rw [eL] at e; cases e; rw [dL] at q; cases q) (fun _ _ _ _ _ => by obtain ⟨⟨outer, ef⟩, hf⟩ := S.top; rw [ef]; exact ⟨env, List.mem_cons_self .., hf⟩) (fun _ _ _ _ _ => by obtain ⟨o', es', n', e', d', _⟩ := id hn'; exact ⟨o', es', n', e', d'⟩) ⟨_, hn'⟩ (fun p hp => ?_) (fun y v hne hv' => ?_) (.inl ⟨hl, _, hn', if_pos rfl⟩)
    · obtain ⟨_, _, v, o, e, d⟩ := S.cells p hp
      exact ⟨v, o, (hs'.2 _ (by rintro q; rw [q, eL] at e; cases e; rw [d] at dL; cases dL)).trans e, d⟩
    · exact VarIs.other (x := Str.ofString x) hs'.2 hm hn' (fun z hz => if_neg hz) (fun q => hne (ofString_inj q)) hv'
  · have hcm := mem_of_lookup hc
    obtain ⟨cR, cK, v0, hcell⟩ := S.cells _ hcm
    obtain ⟨oc, ec, dc⟩ := id hcell
    refine wpAny_storeName_cell hk hl hc hcell fun h' hc' hs' => h h' _ (fun b ob _ hb e => (hs'.2 b (by rintro rfl; exact hb (List.mem_map_of_mem hcm))).trans e) ?_
    obtain ⟨oL, es, ep, eL, dL, rL⟩ := id hm
    have hLc : env.locals ≠ c := fun q => by rw [q, ec] at eL; cases eL; rw [dc] at dL; cases dL
    refine tail h' _ c hs' cR cK (fun o vs e q => by rw [ec] at e; cases e; rw [dc] at q; cases q) (fun o its n e q => by rw [ec] at e; cases e; rw [dc] at q; cases q) (fun o es n e q => by rw [ec] at e; cases e; rw [dc] at q; cases q) (fun o es n e q => by rw [ec] at e; cases e; rw [dc] at q; cases q) ⟨m, hm.sameBut hs' hLc⟩ (fun p hp => ?_) (fun y v hne hv' => ?_) (.inr ⟨.inl hl, c, hc, hc'⟩)
    · by_cases hp' : p.2 = c
      · rw [hp']; exact ⟨_, hc'⟩
      · obtain ⟨_, _, v, hv'⟩ := S.cells p hp
        exact ⟨v, hv'.sameBut hs' hp'⟩
    · rcases hv' with ⟨k, m₁, hm₁, e⟩ | ⟨k, c', hc₁, hv₁⟩
      · exact .inl ⟨k, m₁, hm₁.sameBut hs' hLc, e⟩
      · refine .inr ⟨k, c', hc₁, hv₁.sameBut hs' fun q => ?_⟩
        subst q
        exact hne (ofString_inj (name_of_addr S.apart (mem_of_lookup hc₁) hcm))
end

end Mine
open PySem PySem.W PyProof.Rows
set_option Elab.async false
set_option linter.unusedVariables false
namespace Mine

inductive Out where
  | next (σ : Sg)
  | ret (v : V)

noncomputable def Post (G : Cx) (Fs : List Env) (env : Env) (R Kp : PH) (s : Shared) (Q : Flow → Shared → Prop) : Out → Prop
  | .next σ' => ∀ s' R', Adv s s' → GrowX R Kp R' → St G Fs env R' Kp σ' s' → Q .next s'
  | .ret v => ∀ val s' R', Adv s s' → GrowX R Kp R' → Base G Fs R' s' → KSub Fs Kp s'.heap → Rep R' v val → Q (.ret val) s'

noncomputable def X1 (G : Cx) (k : Nat) (env : Env) (σ : Sg) (st : Stmt) (o : Out) : Prop :=
  ∀ ⦃Fs : List Env⦄ (A : Around) (s : Shared) (R Kp : PH) (Q : Flow → Shared → Prop) (E : Value → Shared → Prop), Aok k Fs A → St G Fs env R Kp σ s → Post G Fs env R Kp s Q o → wpAny (model G.prog G.w) A (exec st env) Q E s
noncomputable def Ex (G : Cx) (k : Nat) (env : Env) (σ : Sg) (ss : List Stmt) (o : Out) : Prop :=
  ∀ ⦃Fs : List Env⦄ (A : Around) (s : Shared) (R Kp : PH) (Q : Flow → Shared → Prop) (E : Value → Shared → Prop), Aok k Fs A → St G Fs env R Kp σ s → Post G Fs env R Kp s Q o → wpAny (model G.prog G.w) A (execs ss env) Q E s

section
variable {G : Cx} {Fs : List Env} {k : Nat} {env : Env} {σ σ' : Sg} {o : Out}

theorem Post.from {R Kp R₁ : PH} {s s₁ : Shared} {Q : Flow → Shared → Prop} (ha : Adv s s₁) (hg : GrowX R Kp R₁) (h : Post G Fs env R Kp s Q o) : Post G Fs env R₁ Kp s₁ Q o := by
  cases o with
  | next σ' => exact fun s' R' a g S => h s' R' (ha.trans a) (hg.trans g) S
  | ret v => exact fun val s' R' a g B K r => h val s' R' (ha.trans a) (hg.trans g) B K r

theorem Ex.nil : Ex G k env σ [] (.next σ) := fun _ A s R Kp Q E hA hS hQ => wpAny_execs_nil (hQ s R (.refl s) (.refl _ _) hS)
theorem Ex.cons {st : Stmt} {ss : List Stmt} (h : X1 G k env σ st (.next σ')) (h' : Ex G k env σ' ss o) : Ex G k env σ (st :: ss) o := fun _ A s R Kp Q E hA hS hQ =>
  wpAny_execs_cons (h A s R Kp _ E hA hS fun s₁ R₁ a g S => h' A s₁ R₁ Kp Q E hA S (hQ.from a g))
theorem Ex.stop {st : Stmt} {ss : List Stmt} {v : V} (h : X1 G k env σ st (.ret v)) : Ex G k env σ (st :: ss) (.ret v) := fun _ A s R Kp Q E hA hS hQ =>
  wpAny_execs_cons (h A s R Kp _ E hA hS fun val s₁ R₁ a g B K r => hQ val s₁ R₁ a g B K r)
theorem Ex.drop {ss : List Stmt} (h : Ex G k env σ ss (.next σ')) {τ : Sg} (hs : ∀ p ∈ τ, p ∈ σ') : Ex G k env σ ss (.next τ) := fun _ A s R Kp Q E hA hS hQ =>
  h A s R Kp Q E hA hS fun s' R' a g S => hQ s' R' a g (S.weaken hs)
theorem Grow.adv {R R' : PH} {s s' : Shared} (g : Grow G Fs R s R' s') : Adv s s' := g.st

theorem X1.ret {e : Expr} {pos : Pos} {v : V} (h : Ev G k env σ e v) : X1 G k env σ (.Return (some e) pos) (.ret v) := fun _ A s R Kp Q E hA hS hQ =>
  wpAny_Return_some (h A s R _ E hA hS.sv fun val s₁ R₁ g r => hQ val s₁ R₁ g.adv (g.x hS.kp) g.base (hS.grow g).kp r)

theorem X1.assign {x : String} {p pos : Pos} {e : Expr} {v : V} (h : Ev G k env σ e v) (hx : OwnName env (Str.ofString x)) (hk : env.scope.kind = .function := by rfl)
    (hs : swapsWith e (some (.Name (Str.ofString x) p)) pos.line env = pure false := by rfl) : X1 G k env σ (.Assign [.Name (Str.ofString x) p] e pos) (.next (put σ x (.val v))) := fun _ A s R Kp Q E hA hS hQ =>
  wpAny_Assign_Name (h A s R _ E hA hS.sv fun val s₁ R₁ g r => (hS.grow g).store (lv := .val v) hx hk ⟨0, r, fun e => nomatch e⟩ fun h' tk _ S => hQ _ R₁ (g.adv.trans ⟨h', tk, rfl⟩) (g.x hS.kp) S) hs

theorem X1.ifTrue {t : Expr} {b : Bool} {body orelse : List Stmt} {pos : Pos} (h : Tr G k env σ t b) (h₁ : b = true → Ex G k env σ body o) (h₂ : b = false → Ex G k env σ orelse o) : X1 G k env σ (.If t body orelse pos) o :=
  fun _ A s R Kp Q E hA hS hQ => wpAny_If (h A s R _ E hA hS.sv fun s₁ R₁ g => by
    cases b with
    | true => exact h₁ rfl A s₁ R₁ Kp Q E hA (hS.grow g) (hQ.from g.adv (g.x hS.kp))
    | false => exact h₂ rfl A s₁ R₁ Kp Q E hA (hS.grow g) (hQ.from g.adv (g.x hS.kp)))

theorem FrAt.frz {R : PH} {h : Heap} {e : Env} {a : Addr} {oa : Obj} {its : Array Value} {n : Nat} (x : FrAt R h e) (e2 : h.get? a = some oa) (d2 : oa.data = .seq its n) : FrAt (R.put a oa) h e := by
  obtain ⟨x1, L, o, es, n', e1, e3, e4, e5⟩ := x
  refine ⟨x1, L, o, es, n', e1, e3, e4, ?_⟩
  rw [PH.put_ne (fun q => ?_)]
  · exact e5
  · rw [q, e2] at e3; cases e3; rw [d2] at e4; cases e4
theorem St.freeze {R Kp : PH} {s : Shared} {x : String} {vs : List V} (S : St G Fs env R Kp σ s) (hm : (x, LV.own vs) ∈ σ) : ∃ R', GrowX R Kp R' ∧ St G Fs env R' Kp (put σ x (.val (.list vs))) s := by
  obtain ⟨f, hv, hi⟩ := S.vars
  obtain ⟨val, v1, ⟨a, its, e1, ⟨n, e2⟩, r⟩, v3⟩ := hv x _ hm
  generalize hoa : ({ cls := .type "list", data := .seq its.toArray n } : Obj) = oa at e2
  have c2 : oa.cls = .type "list" := by rw [← hoa]
  have d2 : oa.data = .seq its.toArray n := by rw [← hoa]
  obtain ⟨e3, hR, hK⟩ := v3 rfl
  rw [e1] at e3
  have hfa : a = f x := Value.ref.inj e3
  rw [← hfa] at hR hK
  have hup : Sub R (R.put a oa) := fun b o' e => by rw [PH.put_ne (fun q => by rw [q, hR] at e; cases e)]; exact e
  have none_put : ∀ b, R b = Option.none → b ≠ a → R.put a oa b = Option.none := fun b e hb => by rw [PH.put_ne hb]; exact e
  obtain ⟨m, oL, es, ep, eL, dL, rL⟩ := S.ns
  refine ⟨R.put a oa, ⟨hup, fun b o e => ?_⟩, ⟨⟨S.base.sub0.trans hup, fun b o e => ?_, S.base.tab, fun P hP => ?_, S.base.gens, S.base.os, fun e he => (S.base.fr e he).frz e2 d2⟩, S.kp, S.kpT, ?_, S.locK, ⟨m, oL, es, ep, eL, dL, rL⟩, fun p hp => ?_, S.apart, S.top, f, fun y lv hy => ?_, fun y z ws us hy hz o1 o2 => ?_⟩⟩
  · by_cases hb : b = a
    · subst hb; exact .inr hK
    · rw [PH.put_ne hb] at e; exact .inl e
  · by_cases hb : b = a
    · subst hb; rw [PH.put_self] at e; cases e; exact e2
    · rw [PH.put_ne hb] at e; exact S.base.sub b o e
  · refine none_put P (S.base.noT P hP) fun q => ?_
    exact notTab S.base.tab e2 (.inl (by rw [c2]; nofun)) (q ▸ hP)
  · refine none_put _ S.locR fun q => ?_
    rw [q, e2] at eL; cases eL; rw [d2] at dL; cases dL
  · obtain ⟨q1, q2, v, o, e, d⟩ := S.cells p hp
    refine ⟨none_put _ q1 fun q => ?_, q2, v, o, e, d⟩
    rw [q, e2] at e; cases e; rw [d2] at d; cases d
  · rcases mem_put hy with ⟨rfl, rfl⟩ | ⟨hne, hy⟩
    · exact ⟨val, v1, ⟨a, its, e1, ⟨oa, n, PH.put_self .., c2, d2⟩, r.sub hup⟩, fun e => nomatch e⟩
    · obtain ⟨val', w1, w2, w3⟩ := hv y lv hy
      refine ⟨val', w1, ?_, fun e => ?_⟩
      · cases lv with
        | val v => exact Rep.sub hup w2
        | own ws => obtain ⟨a', its', e1', q, r'⟩ := w2; exact ⟨a', its', e1', q, r'.sub hup⟩
        | ownD v => exact w2
      · obtain ⟨q1, q2, q3⟩ := w3 e
        exact ⟨q1, none_put _ q2 fun q => hne (hi y x _ _ hy hm e rfl (by rw [q, hfa])), q3⟩
  · rcases mem_put hy with ⟨_, q⟩ | ⟨_, hy⟩
    · rw [q] at o1; cases o1
    · rcases mem_put hz with ⟨_, q⟩ | ⟨_, hz⟩
      · rw [q] at o2; cases o2
      · exact hi y z ws us hy hz o1 o2
theorem Ex.freeze {ss : List Stmt} (x : String) {vs : List V} (h : Ex G k env (put σ x (.val (.list vs))) ss o) (hm : (x, LV.own vs) ∈ σ) : Ex G k env σ ss o := fun _ A s R Kp Q E hA hS hQ => by
  obtain ⟨R', g, S⟩ := hS.freeze hm
  exact h A s R' Kp Q E hA S (hQ.from (.refl s) g)

theorem X1.assignOwn {x : String} {p pos pos' : Pos} {es : List Expr} {vs : List V} (h : EvL G k env σ es vs) (hx : OwnName env (Str.ofString x)) (hn : vs.length ≤ sizeLine := by decide) (hk : env.scope.kind = .function := by rfl)
    (hs : swapsWith (.List es pos') (some (.Name (Str.ofString x) p)) pos.line env = pure false := by rfl) : X1 G k env σ (.Assign [.Name (Str.ofString x) p] (.List es pos') pos) (.next (put σ x (.own vs))) := fun _ A s R Kp Q E hA hS hQ => by
  refine wpAny_Assign_Name (wpAny_List (h pos' A s R _ E hA hS.sv fun xs s₁ R₁ g₁ r₁ => ⟨by rw [r₁.length]; exact hn, ?_⟩)) hs
  have S₁ := hS.grow g₁
  have hnew : s₁.heap.get? s₁.heap.objs.size = Option.none := by
    cases q : s₁.heap.get? s₁.heap.objs.size with
    | none => rfl
    | some o' => exact absurd (Heap.lt_size q) (Nat.lt_irrefl _)
  have g₂ : Grow G _ R₁ s₁ R₁ { s₁ with heap := s₁.heap.push { cls := .type "list", data := .seq xs.toArray } } := Grow.keep (tk := s₁.toks) g₁.base fun _ _ e => Heap.get?_push_of_some _ e
  have S₂ := S₁.grow g₂
  refine S₂.store (lv := .own vs) hx hk ⟨s₁.heap.objs.size, ⟨_, xs, rfl, ⟨_, Heap.get?_push_size _ rfl⟩, r₁⟩, fun e => ⟨rfl, ?_, ?_, fun y b us hy ho hne hv => ?_⟩⟩ fun h' tk _ S => hQ _ R₁ ((g₁.adv.trans g₂.adv).trans ⟨h', tk, rfl⟩) (g₁.x hS.kp) S
  · cases q : R₁ s₁.heap.objs.size with
    | none => rfl
    | some o => rw [g₁.base.sub _ _ q] at hnew; cases hnew
  · cases q : Kp s₁.heap.objs.size with
    | none => rfl
    | some o =>
      obtain ⟨o1, e1, _⟩ := S₁.kp _ _ q
      rw [hnew] at e1; cases e1
  · rintro rfl
    -- y's list lay there before
    obtain ⟨f, hvs, hi⟩ := S₁.vars
    obtain ⟨val, w1, w2, w3⟩ := hvs y _ hy
    obtain ⟨a', oy, e1, e2⟩ := w2.there ho
    have w1' := w1.ext g₁.base.tab g₂.ext
    have : val = .ref s₁.heap.objs.size := by
      rcases w1' with ⟨k1, m1, hm1, q1⟩ | ⟨k1, c1, hc1, o1, q1, d1⟩ <;> rcases hv with ⟨k2, m2, hm2, q2⟩ | ⟨k2, c2, hc2, o2, q2, d2⟩
      · obtain ⟨o1, es1, ep1, x1, y1, _, z1⟩ := hm1
        obtain ⟨o2, es2, ep2, x2, y2, _, z2⟩ := hm2
        rw [x1] at x2; cases x2
        rw [y1] at y2; cases y2
        rw [← z1, z2, q2] at q1
        exact (Option.some.inj q1).symm
      · rw [k1] at k2; rcases k2 with k2 | k2 <;> cases k2
      · rw [k2] at k1; rcases k1 with k1 | k1 <;> cases k1
      · rw [hc1] at hc2; cases hc2
        rw [q1] at q2; cases q2
        rw [d1] at d2
        exact (Option.some.inj (Data.cell.inj d2))
    rw [this] at e1; cases e1
    rw [hnew] at e2; cases e2
end

end Mine
open PySem PySem.W PyProof.Rows
set_option Elab.async false
set_option linter.unusedVariables false
namespace Mine
section
variable {G : Cx} {Fs : List Env} {k : Nat} {env : Env} {σ σ' : Sg} {o : Out}

theorem VarIs.fn {h : Heap} {x : Str} {v v' : Value} (a : VarIs h env x v) (b : VarIs h env x v') : v = v' := by
  rcases a with ⟨k1, m1, hm1, q1⟩ | ⟨k1, c1, hc1, o1, q1, d1⟩ <;> rcases b with ⟨k2, m2, hm2, q2⟩ | ⟨k2, c2, hc2, o2, q2, d2⟩
  · obtain ⟨o1, es1, ep1, x1, y1, _, z1⟩ := hm1
    obtain ⟨o2, es2, ep2, x2, y2, _, z2⟩ := hm2
    rw [x1] at x2; cases x2
    rw [y1] at y2; cases y2
    rw [← z1, z2, q2] at q1
    exact (Option.some.inj q1).symm
  · rw [k1] at k2; rcases k2 with k2 | k2 <;> cases k2
  · rw [k2] at k1; rcases k1 with k1 | k1 <;> cases k1
  · rw [hc1] at hc2; cases hc2
    rw [q1] at q2; cases q2
    rw [d1] at d2
    exact (Option.some.inj (Data.cell.inj d2))

theorem St.mutate {R Kp : PH} {s : Shared} {x : String} {vs : List V} (S : St G Fs env R Kp σ s) (hm : (x, LV.own vs) ∈ σ) :
    ∃ a its, VarIs s.heap env (Str.ofString x) (.ref a) ∧ s.heap.PlainList a its.toArray ∧ RepL R vs its ∧
      ∀ h' tk its' vs', Heap.SameBut a s.heap h' → h'.PlainList a its'.toArray → RepL R vs' its' → St G Fs env R Kp (put σ x (.own vs')) { s with heap := h', toks := tk } := by
  obtain ⟨f, hv, hi⟩ := S.vars
  obtain ⟨val, v1, ⟨a, its, e1, ⟨n, e2⟩, r⟩, v3⟩ := hv x _ hm
  obtain ⟨e3, hR, hK⟩ := v3 rfl
  subst e1
  have hfa : a = f x := Value.ref.inj e3
  rw [← hfa] at hR hK
  refine ⟨a, its, v1, ⟨n, e2⟩, r, fun h' tk its' vs' hs hp hr => ?_⟩
  have keep : ∀ b o, b ≠ a → s.heap.get? b = some o → h'.get? b = some o := fun b o hb e => (hs.2 b hb).trans e
  obtain ⟨m, oL, es, ep, eL, dL, rL⟩ := S.ns
  have varK : ∀ y val', VarIs s.heap env y val' → VarIs h' env y val' := fun y val' hy => by
    rcases hy with ⟨k1, m1, ⟨o1, es1, ep1, x1, y1, z1⟩, q1⟩ | ⟨k1, c1, hc1, o1, q1, d1⟩
    · exact .inl ⟨k1, m1, ⟨o1, es1, ep1, keep _ _ (by rintro rfl; rw [e2] at x1; cases x1; cases y1) x1, y1, z1⟩, q1⟩
    · exact .inr ⟨k1, c1, hc1, o1, keep _ _ (by rintro rfl; rw [e2] at q1; cases q1; cases d1) q1, d1⟩
  refine ⟨⟨S.base.sub0, fun b o e => keep b o (by rintro rfl; rw [hR] at e; cases e) (S.base.sub b o e), tab_sameBut S.base.tab hs (fun o vs e q => by rw [e2] at e; cases e; cases q), S.base.noT, S.base.gens, S.base.os, fun e he => (S.base.fr e he).step (fun b o es n q1 q2 => ⟨o, es, n, keep b o (by rintro rfl; rw [e2] at q1; cases q1; cases q2) q1, q2⟩) fun _ _ _ e => e⟩,
    fun b o e => (by obtain ⟨o1, q1, l1⟩ := S.kp b o e; exact ⟨o1, keep b o1 (by rintro rfl; rw [hK] at e; cases e) q1, l1⟩), S.kpT, S.locR, S.locK, ⟨m, oL, es, ep, keep _ _ (by rintro q; rw [q, e2] at eL; cases eL; cases dL) eL, dL, rL⟩, fun p hp => ?_, S.apart, S.top, f, fun y lv hy => ?_, fun y z ws us hy hz o1 o2 => ?_⟩
  · obtain ⟨q1, q2, v, o, e, d⟩ := S.cells p hp
    exact ⟨q1, q2, v, o, keep _ _ (by rintro q; rw [q, e2] at e; cases e; cases d) e, d⟩
  · rcases mem_put hy with ⟨rfl, rfl⟩ | ⟨hne, hy⟩
    · exact ⟨.ref a, varK _ _ v1, ⟨a, its', rfl, hp, hr⟩, fun e => ⟨e3, by rw [← hfa]; exact hR, by rw [← hfa]; exact hK⟩⟩
    · obtain ⟨val', w1, w2, w3⟩ := hv y lv hy
      refine ⟨val', varK _ _ w1, ?_, w3⟩
      cases lv with
      | val v => exact w2
      | own ws =>
        obtain ⟨a', its'', e1', ⟨n', q⟩, r'⟩ := w2
        refine ⟨a', its'', e1', ⟨n', keep _ _ (fun e => hne (hi y x _ _ hy hm rfl rfl ?_)) q⟩, r'⟩
        have := (w3 rfl).1
        rw [e1'] at this
        rw [← Value.ref.inj this, e, hfa]
      | ownD v =>
        obtain ⟨a', o', e1', hd, q, hf, ⟨es', n', hdd⟩, r'⟩ := w2
        exact ⟨a', o', e1', hd, keep _ _ (by rintro rfl; rw [e2] at q; cases q; cases hdd) q, hf, ⟨es', n', hdd⟩, r'⟩
  · have own : ∀ {y lv}, (y, lv) ∈ put σ x (.own vs') → lv.owned = true → ∃ lv', (y, lv') ∈ σ ∧ lv'.owned = true := fun {y lv} hy ho => by
      rcases mem_put hy with ⟨rfl, q⟩ | ⟨_, hy⟩
      · exact ⟨_, hm, rfl⟩
      · exact ⟨lv, hy, ho⟩
    obtain ⟨ws', hy', p1⟩ := own hy o1
    obtain ⟨us', hz', p2⟩ := own hz o2
    exact hi y z ws' us' hy' hz' p1 p2

theorem wpAny_Expr_none {M : Model} {A : Around} {E : Value → Shared → Prop} {s : Shared} {e : Expr} {pos : Pos} {Q : Flow → Shared → Prop} (h : wpAny M A (eval e env) (fun v s' => v = .none ∧ Q .next s') E s)
    (hi : interactive env = false) (hs : swapsWith e none pos.line env = pure false) : wpAny M A (exec (.Expr e pos) env) Q E s :=
  wpAny_Expr (wpAny_mono h (fun v s' h' => by obtain ⟨rfl, q⟩ := h'; exact q) fun _ _ x => x) hi hs

theorem method_list {M : Model} {A : Around} {E : Value → Shared → Prop} {s : Shared} {a : Addr} {its : Array Value} {name : Str} {id : String} {pl : Sem Bool} {Q : Value × List Value → Shared → Prop} (hp : s.heap.PlainList a its)
    (slot : Slot "list" name id) (hty : typeOf (.builtin id) = pure (.type "method_descriptor")) (h : Q (.builtin id, [.ref a]) s) : wpAny M A (getMethod (.ref a) name pl) Q E s := by
  obtain ⟨n, e⟩ := hp
  exact getMethod_builtin (T := "list") ⟨_, e, rfl⟩ F.plainAttrs_list slot hty (fun b q => by cases q; exact ⟨_, e, rfl⟩) h

theorem X1.append {x : String} {e : Expr} {p p' pos spos : Pos} {vs : List V} {v : V} (hm : (x, LV.own vs) ∈ σ) (h : Ev G k env σ e v) (hn : vs.length ≤ 1000000) (hi : interactive env = false := by rfl) (hk : env.scope.kind = .function := by rfl)
    (hd : (Str.ofString x == ("__debug__" : Str)) = false := by decide) (hcd : (Str.ofString x == ("__classdict__" : Str)) = false := by decide)
    (he : starEach [e] env = (false, eval e env) :: starEach [] env := by rfl)
    (hs : swapsWith (.Call (.Attribute (.Name (Str.ofString x) p) (Str.ofString "append") p') [e] [] pos) none spos.line env = pure false := by rfl)
    (hc : ∃ pl, eval (.Call (.Attribute (.Name (Str.ofString x) p) (Str.ofString "append") p') [e] [] pos) env = (do
      let ov ← eval (.Name (Str.ofString x) p) env
      standAt p'.atName
      let (f, first) ← holding [ov] (getMethod ov (Str.ofString "append") pl)
      callWith pos f first (backTo pos (starEach [e] env)) []) := by exact ⟨_, rfl⟩) :
    X1 G k env σ (.Expr (.Call (.Attribute (.Name (Str.ofString x) p) (Str.ofString "append") p') [e] [] pos) spos) (.next (put σ x (.own (vs ++ [v])))) := fun _ A s R Kp Q E hA hS hQ => by
  obtain ⟨a, its, hvar, hpl, hr, _⟩ := hS.mutate hm
  obtain ⟨pl, hc⟩ := hc
  refine wpAny_Expr_none (MethodCall_ (pl := pl) (wpAny_var hvar ?_ hk hd hcd) hc) hi hs
  refine method_list hpl F.slot_list_append F.type_list_append ?_
  refine callWith_method1 (args_cons (h A s R _ E hA hS.sv fun val s₁ R₁ g r => args_nil ?_) he) he
  have S₁ := hS.grow g
  obtain ⟨a₁, its₁, hvar₁, hpl₁, hr₁, mut₁⟩ := S₁.mutate hm
  have ha : a₁ = a := Value.ref.inj (hvar₁.fn (hvar.ext hS.base.tab g.ext))
  subst ha
  have hsz : its₁.toArray.size ≤ sizeLine := by
    rw [List.size_toArray, hr₁.length]
    show vs.length ≤ 16777216
    omega
  refine wpAny_list_append_plain (hsz := hsz) hpl₁ fun h' hp' hs' => ⟨rfl, hQ _ R₁ (g.adv.trans ⟨h', _, rfl⟩) (g.x hS.kp) ?_⟩
  have hp'' : h'.PlainList a₁ (its₁ ++ [val]).toArray := by simpa using hp'
  exact mut₁ h' _ _ _ hs' hp'' (RepL.append hr₁ ⟨val, [], rfl, r, rfl⟩)
end

/-! ### loops -/
section
variable {G : Cx} {Fs : List Env} {k : Nat} {env : Env} {σ σ' : Sg} {o : Out}

noncomputable def rest (G : Cx) (env : Env) (σ : Sg) (R Kp : PH) (h : Heap) : PH := fun b =>
  open Classical in if b ∈ G.T ∨ b = env.locals ∨ b ∈ env.cells.map (·.2) ∨ (R b = Option.none ∧ Kp b = Option.none ∧ ∃ x lv, (x, lv) ∈ σ ∧ lv.owned = true ∧ VarIs h env (Str.ofString x) (.ref b)) then Option.none else h.get? b
theorem rest_some {R Kp : PH} {h : Heap} {b : Addr} {ob : Obj} (e : rest G env σ R Kp h b = some ob) : h.get? b = some ob := by
  unfold rest at e
  split at e
  · cases e
  · exact e
theorem rest_of {R Kp : PH} {h : Heap} {b : Addr} {ob : Obj} (e : h.get? b = some ob) (h1 : b ∉ G.T) (h2 : b ≠ env.locals) (h3 : b ∉ env.cells.map (·.2)) (h4 : R b ≠ Option.none ∨ Kp b ≠ Option.none ∨ ∀ x lv, (x, lv) ∈ σ → lv.owned = true → ¬ VarIs h env (Str.ofString x) (.ref b)) :
    rest G env σ R Kp h b = some ob := by
  unfold rest
  rw [if_neg]
  · exact e
  · rintro (q | q | q | ⟨q1, q2, x, vs, q3, qo, q4⟩)
    · exact h1 q
    · exact h2 q
    · exact h3 q
    · rcases h4 with h4 | h4 | h4
      · exact h4 q1
      · exact h4 q2
      · exact h4 x vs q3 qo q4

theorem St.turn {R Kp : PH} {s : Shared} (S : St G Fs env R Kp σ s) : St G Fs env R (rest G env σ R Kp s.heap) σ s ∧ KLe Fs Kp (rest G env σ R Kp s.heap) ∧ Sub R (rest G env σ R Kp s.heap) := by
  obtain ⟨f, hv, hi⟩ := S.vars
  obtain ⟨m, oL, es, ep, eL, dL, rL⟩ := S.ns
  refine ⟨{ S with kp := fun b ob e => ⟨ob, rest_some e, .refl ob⟩, kpT := fun P hP => ?_, locK := ?_, cells := fun p hp => ⟨(S.cells p hp).1, ?_, (S.cells p hp).2.2⟩, vars := ⟨f, fun x lv hx => ?_, hi⟩ }, fun b ob e => ?_, fun b ob e => ?_⟩
  · unfold rest; rw [if_pos (.inl hP)]
  · unfold rest; rw [if_pos (.inr (.inl rfl))]
  · unfold rest; rw [if_pos (.inr (.inr (.inl (List.mem_map_of_mem hp))))]
  · obtain ⟨val, w1, w2, w3⟩ := hv x lv hx
    refine ⟨val, w1, w2, fun e => ?_⟩
    obtain ⟨q1, q2, q3⟩ := w3 e
    refine ⟨q1, q2, ?_⟩
    unfold rest
    rw [if_pos (.inr (.inr (.inr ⟨q2, q3, x, lv, hx, e, q1 ▸ w1⟩)))]
  · obtain ⟨o1, q1, l1⟩ := S.kp b ob e
    refine ⟨o1, ?_, l1⟩
    refine rest_of q1 (fun hb => by rw [S.kpT b hb] at e; cases e) (fun hb => by rw [hb, S.locK] at e; cases e) (fun hb => ?_) (.inr (.inl (by rw [e]; nofun)))
    obtain ⟨p, hp, rfl⟩ := List.mem_map.mp hb
    rw [(S.cells p hp).2.1] at e; cases e
  · refine rest_of (S.base.sub b ob e) (fun hb => by rw [S.base.noT b hb] at e; cases e) (fun hb => by rw [hb, S.locR] at e; cases e) (fun hb => ?_) (.inl (by rw [e]; nofun))
    obtain ⟨p, hp, rfl⟩ := List.mem_map.mp hb
    rw [(S.cells p hp).1] at e; cases e
end
end Mine
open PySem PySem.W PyProof.Rows
set_option Elab.async false
set_option linter.unusedVariables false
namespace Mine
section
variable {G : Cx} {Fs : List Env} {k : Nat} {env : Env} {σ σ' : Sg} {o : Out}

theorem St.other {R Kp : PH} {s : Shared} {I : Addr} {h' : Heap} {tk : Nat} (S : St G Fs env R Kp σ s) (hk : ∀ b ob, b ≠ I → s.heap.get? b = some ob → h'.get? b = some ob) (hR : R I = Option.none) (hK : Kp I = Option.none)
    (hT : ∀ ob, s.heap.get? I = some ob → ob.cls ≠ .none ∧ ob.cls ≠ .type "code" ∧ ob.cls ≠ .type "list" ∧ ∀ es n, ob.data ≠ .dict es n) (hL : I ≠ env.locals) (hc : I ∉ env.cells.map (·.2)) :
    St G Fs env R Kp σ { s with heap := h', toks := tk } := by
  obtain ⟨f, hv, hi⟩ := S.vars
  obtain ⟨m, oL, es, ep, eL, dL, rL⟩ := S.ns
  have hk' : ∀ b ob, R b = some ob → h'.get? b = some ob := fun b ob e => hk b ob (by rintro rfl; rw [hR] at e; cases e) (S.base.sub b ob e)
  have varK : ∀ y val', VarIs s.heap env y val' → VarIs h' env y val' := fun y val' hy => by
    rcases hy with ⟨k1, m1, ⟨o1, es1, ep1, x1, y1, z1⟩, q1⟩ | ⟨k1, c1, hc1, o1, q1, d1⟩
    · exact .inl ⟨k1, m1, ⟨o1, es1, ep1, hk _ _ (Ne.symm hL) x1, y1, z1⟩, q1⟩
    · exact .inr ⟨k1, c1, hc1, o1, hk _ _ (by rintro rfl; exact hc (List.mem_map_of_mem (mem_of_lookup hc1))) q1, d1⟩
  refine ⟨⟨S.base.sub0, hk', G.tabKeep _ _ S.base.tab fun b ob hcl _ e => hk b ob (by rintro rfl; exact hcl.elim (hT ob e).1 (hT ob e).2.1) e, S.base.noT, S.base.gens, S.base.os, fun e he => (S.base.fr e he).step (fun b o es n q1 q2 => ⟨o, es, n, hk b o (by rintro rfl; exact (hT o q1).2.2.2 es n q2) q1, q2⟩) fun _ _ _ e => e⟩,
    fun b ob e => (by obtain ⟨o1, q1, l1⟩ := S.kp b ob e; exact ⟨o1, hk b o1 (by rintro rfl; rw [hK] at e; cases e) q1, l1⟩), S.kpT, S.locR, S.locK, ⟨m, oL, es, ep, hk _ _ (Ne.symm hL) eL, dL, rL⟩, fun p hp => ?_, S.apart, S.top, f, fun y lv hy => ?_, hi⟩
  · obtain ⟨q1, q2, v, ob, e, d⟩ := S.cells p hp
    exact ⟨q1, q2, v, ob, hk _ _ (by rintro q; exact hc (q ▸ List.mem_map_of_mem hp)) e, d⟩
  · obtain ⟨val', w1, w2, w3⟩ := hv y lv hy
    refine ⟨val', varK _ _ w1, ?_, w3⟩
    cases lv with
    | val v => exact w2
    | own ws =>
      obtain ⟨a', its'', e1', ⟨n', q⟩, r'⟩ := w2
      exact ⟨a', its'', e1', ⟨n', hk _ _ (by rintro rfl; exact (hT _ q).2.2.1 rfl) q⟩, r'⟩
    | ownD v =>
      obtain ⟨a', o', e1', hd, q, hf, ⟨es', n', hdd⟩, r'⟩ := w2
      exact ⟨a', o', e1', hd, hk _ _ (by rintro rfl; exact (hT _ q).2.2.2 es' n' hdd) q, hf, ⟨es', n', hdd⟩, r'⟩

theorem rest_keeps {R Kp : PH} {s : Shared} {b : Addr} {ob : Obj} (S : St G Fs env R Kp σ s) (e : s.heap.get? b = some ob) (hT : b ∉ G.T) (hL : b ≠ env.locals) (hc : b ∉ env.cells.map (·.2)) (hcl : ob.cls ≠ .type "list") (hcd : ∀ es n, ob.data ≠ .dict es n) : rest G env σ R Kp s.heap b = some ob := by
  refine rest_of e hT hL hc (.inr (.inr fun x lv hm ho hv => ?_))
  obtain ⟨f, hvs, _⟩ := S.vars
  obtain ⟨val, w1, w2, _⟩ := hvs x _ hm
  have := w1.fn hv
  subst this
  cases lv with
  | val v => cases ho
  | own vs =>
    obtain ⟨a, its, e1, ⟨n, q⟩, _⟩ := w2
    cases e1
    rw [e] at q; cases q
    exact hcl rfl
  | ownD v =>
    obtain ⟨a, o', e1, _, q, _, ⟨es, n, hdd⟩, _⟩ := w2
    cases e1
    rw [e] at q; cases q
    exact hcd es n hdd

theorem loop_core {A : Around} {s : Shared} {R Kp : PH} {x : String} {p : Pos} {body : List Stmt} {I : Addr} {fp : List Addr} {n : Nat} {P : Nat → Value → Prop} {J : Nat → Heap → Prop} {RR : Result → Shared → Prop}
    (hA : Aok k Fs A) (W : Walks G.prog G.w A I fp [I] n P J) (F : Nat → Sg) (vs : Nat → V) (m : Nat) (hmn : m ≤ n)
    (hbody : ∀ i, i < m → Ex G k env (put (F i) x (.val (vs i))) body (.next (F (i + 1))))
    (hend : (m = n ∧ o = .next (F n)) ∨ (m < n ∧ ∃ v, o = .ret v ∧ Ex G k env (put (F m) x (.val (vs m))) body (.ret v)))
    (hx : OwnName env (Str.ofString x)) (hk : env.scope.kind = .function)
    (S : St G Fs env R Kp (F 0) s) (hJ : J 0 s.heap) (hJI : ∀ i h, J i h → ∃ ob, h.get? I = some ob ∧ ob.cls ≠ .none ∧ ob.cls ≠ .type "code" ∧ ob.cls ≠ .type "list" ∧ ∀ es n, ob.data ≠ .dict es n)
    (hR : R I = Option.none) (hK : Kp I = Option.none) (hL : I ≠ env.locals) (hc : I ∉ env.cells.map (·.2)) (hT : I ∉ G.T)
    (hfp : ∀ b ∈ fp, b ≠ I → R b ≠ Option.none) (hP : ∀ i v, P i v → Rep R (vs i) v)
    (hQ : Post G Fs env R Kp s (fun f s' => RR (.ok f) s') o) (ht : ∀ v, letOwnedTupleGo (.Name (Str.ofString x) p) (.ref I) v = pure () := by intro _; rfl) :
    codeAny (model G.prog G.w) A (.forLoop (.Name (Str.ofString x) p) (.ref I) body [] env) RR s := by
  refine codeAny_forLoop_any
    (fun j s' => ∃ i R', i ≤ m ∧ j = n + 1 - i ∧ Adv s s' ∧ GrowX R Kp R' ∧ St G Fs env R' Kp (F i) s' ∧ J i s'.heap ∧ R' I = Option.none)
    ?_ (n + 1) ⟨0, R, Nat.zero_le _, rfl, .refl s, .refl _ _, S, hJ, hR⟩
  rintro j s' ⟨i, R', hi, rfl, hadv, hgr, S', hJ', hRI⟩
  obtain ⟨oI, eI, cI⟩ := hJI i _ hJ'
  have hT' : ∀ ob, s'.heap.get? I = some ob → ob.cls ≠ .none ∧ ob.cls ≠ .type "code" ∧ ob.cls ≠ .type "list" ∧ ∀ es n, ob.data ≠ .dict es n := fun ob e => by rw [eI] at e; cases e; exact cI
  by_cases hlt : i < n
  · refine W.item i s' _ _ hlt hJ' fun v h₁ tk₁ hPv hJ₁ hk₁ => ?_
    refine wpAny_of_eq (ht v) ?_
    have S₁ : St G _ env R' Kp (F i) { s' with heap := h₁, toks := tk₁ } := S'.other (fun b ob hb e => hk₁ b ob (by simpa using hb) e) hRI hK hT' hL hc
    refine wpAny_assign_Name (S₁.store (lv := .val (vs i)) hx hk ⟨0, Rep.sub hgr.up (hP i v hPv), fun e => nomatch e⟩ fun h₂ tk₂ hst S₂ => ?_)
    obtain ⟨S₃, hsK, hsR⟩ := S₂.turn
    have hfpR : ∀ b ∈ fp, b ≠ I → ∃ ob, R' b = some ob := fun b hb hne => by
      obtain ⟨ob, e⟩ := Option.ne_none_iff_exists'.mp (hfp b hb hne)
      exact ⟨ob, hgr.up b ob e⟩
    have hJ₂ : J (i + 1) h₂ := W.frame _ _ _ hJ₁ fun b hb ob e => by
      by_cases hbI : b = I
      · subst hbI; exact hst b ob hL hc e
      · obtain ⟨ob', e'⟩ := hfpR b hb hbI
        refine hst b ob (fun q => ?_) (fun q => ?_) e
        · rw [q, S'.locR] at e'; cases e'
        · obtain ⟨p, hp, rfl⟩ := List.mem_map.mp q
          rw [(S'.cells p hp).1] at e'; cases e'
    obtain ⟨oI₂, eI₂, cI₂⟩ := hJI (i + 1) _ hJ₂
    have hKI := rest_keeps S₂ eI₂ hT hL hc cI₂.2.2.1 cI₂.2.2.2
    have fin : ∀ s₃ R₃, Adv { s' with heap := h₂, toks := tk₂ } s₃ → GrowX R' (rest G env (put (F i) x (.val (vs i))) R' Kp h₂) R₃ → GrowX R Kp R₃ ∧ Adv s s₃ ∧ R₃ I = Option.none := fun s₃ R₃ a₃ g₃ => by
      refine ⟨hgr.trans ⟨g₃.up, fun b ob e => (g₃.new b ob e).imp id fun q => ?_⟩, hadv.trans (Adv.trans ⟨h₂, tk₂, rfl⟩ a₃), ?_⟩
      · exact hsK.none q
      · cases qq : R₃ I with
        | none => rfl
        | some o' =>
          rcases g₃.new I o' qq with q | q
          · rw [hRI] at q; cases q
          · rw [show rest G env (put (F i) x (.val (vs i))) R' Kp h₂ I = some oI₂ from hKI] at q; cases q
    by_cases him : i < m
    · refine hbody i him A _ R' _ _ _ hA S₃ fun s₃ R₃ a₃ g₃ S₄ => ?_
      obtain ⟨f1, f2, f3⟩ := fin s₃ R₃ a₃ g₃
      refine ⟨n + 1 - (i + 1), by omega, i + 1, R₃, him, rfl, f2, f1, S₄.keepLess hsK, ?_, f3⟩
      refine W.frame _ _ _ hJ₂ fun b hb ob e => ?_
      by_cases hbI : b = I
      · subst hbI
        rw [eI₂] at e; cases e
        obtain ⟨o4, e4, l4⟩ := S₄.kp b _ hKI
        rw [l4.eq cI₂.2.2.2] at e4; exact e4
      · obtain ⟨ob', e'⟩ := hfpR b hb hbI
        have e2 := S₂.base.sub b ob' e'
        rw [show h₂.get? b = some ob' from e2] at e
        cases e
        exact S₄.base.sub b _ (g₃.up b _ e')
    · rcases hend with ⟨hm, rfl⟩ | ⟨hm, v', rfl, hex⟩
      · omega
      · have him' : i = m := by omega
        subst him'
        refine hex A _ R' _ _ _ hA S₃ fun val s₃ R₃ a₃ g₃ B₃ K₃ r₃ => ?_
        obtain ⟨f1, f2, f3⟩ := fin s₃ R₃ a₃ g₃
        exact hQ val s₃ R₃ f2 f1 B₃ (hsK.sub K₃) r₃
  · rcases hend with ⟨hm, rfl⟩ | ⟨hm, v', rfl, hex⟩
    · have hin : i = n := by omega
      subst hin
      refine W.done s' _ _ hJ' fun h₁ tk₁ hk₁ => wpAny_execs_nil ?_
      exact hQ _ R' (hadv.trans ⟨h₁, tk₁, rfl⟩) hgr (S'.other (fun b ob hb e => hk₁ b ob (by simpa using hb) e) hRI hK hT' hL hc)
    · omega

end
end Mine
open PySem PySem.W PyProof.Rows
set_option Elab.async false
set_option linter.unusedVariables false
namespace Mine
section
variable {G : Cx} {Fs : List Env} {k : Nat}

theorem bindL_not {kindOf : Str → Option NameKind} {n : Str} : ∀ {binds : List (Str × Value)} {m : Str → Option Value}, (∀ p ∈ binds, p.1 ≠ n) → bindL kindOf binds m n = m n
  | [], _, _ => rfl
  | (n', v') :: r, m, h => by
    unfold bindL
    rw [bindL_not fun p hp => h p (List.mem_cons_of_mem _ hp)]
    split
    · exact if_neg (Ne.symm (h (n', v') List.mem_cons_self))
    · rfl
theorem bindC_not {kindOf : Str → Option NameKind} {n : Str} : ∀ {binds : List (Str × Value)} {m : Str → Option Value}, (∀ p ∈ binds, p.1 ≠ n) → bindC kindOf binds m n = m n
  | [], _, _ => rfl
  | (n', v') :: r, m, h => by
    unfold bindC
    rw [bindC_not fun p hp => h p (List.mem_cons_of_mem _ hp)]
    split
    · rfl
    · exact if_neg (Ne.symm (h (n', v') List.mem_cons_self))
theorem bindL_mem {kindOf : Str → Option NameKind} {n : Str} {v : Value} (hk : kindOf n = some .local) : ∀ {binds : List (Str × Value)} {m : Str → Option Value}, (binds.map (·.1)).Nodup → (n, v) ∈ binds → bindL kindOf binds m n = some v
  | (n', v') :: r, m, hn, hm => by
    obtain ⟨hn1, hn2⟩ := List.nodup_cons.mp hn
    unfold bindL
    rcases List.mem_cons.mp hm with e | hm
    · cases e
      rw [bindL_not fun p hp e => hn1 (List.mem_map.mpr ⟨p, hp, e⟩), if_pos hk]
      exact if_pos rfl
    · exact bindL_mem hk hn2 hm
theorem bindC_mem {kindOf : Str → Option NameKind} {n : Str} {v : Value} (hk : kindOf n ≠ some .local) : ∀ {binds : List (Str × Value)} {m : Str → Option Value}, (binds.map (·.1)).Nodup → (n, v) ∈ binds → bindC kindOf binds m n = some v
  | (n', v') :: r, m, hn, hm => by
    obtain ⟨hn1, hn2⟩ := List.nodup_cons.mp hn
    unfold bindC
    rcases List.mem_cons.mp hm with e | hm
    · cases e
      rw [bindC_not fun p hp e => hn1 (List.mem_map.mpr ⟨p, hp, e⟩), if_neg hk]
      exact if_pos rfl
    · exact bindC_mem hk hn2 hm

noncomputable def params : List String → List V → Sg
  | x :: xs, v :: vs => (x, .val v) :: params xs vs
  | _, _ => []

theorem params_mem {R : PH} : ∀ {names : List String} {vs : List V} {xs : List Value} {x : String} {lv : LV}, RepL R vs xs → (x, lv) ∈ params names vs → ∃ v val, lv = .val v ∧ (Str.ofString x, val) ∈ (names.map Str.ofString).zip xs ∧ Rep R v val
  | n :: ns, v :: vs, _, x, lv, ⟨y, r, e, p, q⟩, h => by
    subst e
    rcases List.mem_cons.mp h with e | h
    · cases e
      exact ⟨v, y, rfl, List.mem_cons_self, p⟩
    · obtain ⟨v', val, e, hm, hr⟩ := params_mem q h
      exact ⟨v', val, e, List.mem_cons_of_mem _ hm, hr⟩
  | [], _, _, _, _, _, h => by simp [params] at h
  | _ :: _, [], _, _, _, _, h => by simp [params] at h

theorem zip_fst_mem {α β : Type} : ∀ {l : List α} {l' : List β} {p : α × β}, p ∈ l.zip l' → p.1 ∈ l := fun h => (List.of_mem_zip h).1

noncomputable def FnR (G : Cx) (k : Nat) (C : PH → Heap → Prop) (f : Value) (vs : List V) (v : V) : Prop :=
  ∀ ⦃Fs : List Env⦄ (A : Around) (s : Shared) (R : PH) (xs : List Value) (Q : Value → Shared → Prop) (E : Value → Shared → Prop), Aok k Fs A → Base G Fs R s → C R s.heap → RepL R vs xs →
    (∀ val s' R', Grow G Fs R s R' s' → Rep R' v val → Q val s') → wpAny (model G.prog G.w) A (call f xs) Q E s

theorem FnR.code {f : Addr} {ob : Obj} {fd : FuncData} {body : List Stmt} {vs : List V} {v : V} {C : PH → Heap → Prop} {A : Around} {s : Shared} {R : PH} {xs : List Value} {RR : Result → Shared → Prop} (names : List String) (ho : ∀ (R : PH) (h : Heap), C R h → Sub R h.get? → Sub G.h0 h.get? → h.get? f = some ob ∧ h.CodeRec fd.code fd.qualname) (hd : ob.data = .func fd) (hbody : fd.body = .stmts body) (hclo : fd.closure = [])
    (hlen : vs.length = names.length)
    (hbind : ∀ xs : List Value, xs.length = names.length → bindArgs fd ⟨xs, []⟩ = pure ((names.map Str.ofString).zip xs)) (hnd : names.Nodup)
    (hkind : ∀ x ∈ names, ∀ L, OwnName (callEnvC fd L f) (Str.ofString x))
    (hex : ∀ L, Ex G k (callEnvC fd L f) (params names vs) body (.ret v)) (hcn : ((cellsFrom 0 fd.scope.names []).map (·.1)).Nodup)
    (hco : fd.scope.isCoroutine = false) (hgen : fd.scope.isGenerator = false) (hk : fd.scope.kind = .function)
    (hA : Aok (k + 1) Fs A) (hB : Base G Fs R s) (hC : C R s.heap) (hr : RepL R vs xs) (hQ : ∀ val s' R', Grow G Fs R s R' s' → Rep R' v val → RR (.ok (.ret val)) s') : codeAny (model G.prog G.w) A (.call (.ref f) ⟨xs, []⟩) RR s := by
  obtain ⟨ho1, hcd1⟩ := ho R s.heap hC hB.sub hB.ground
  have hxl : xs.length = names.length := hr.length.trans hlen
  have hfst : ∀ p ∈ (names.map Str.ofString).zip xs, ∃ x ∈ names, p.1 = Str.ofString x := fun p hp => by
    obtain ⟨x, hx, e⟩ := List.mem_map.mp (zip_fst_mem hp)
    exact ⟨x, hx, e.symm⟩
  refine codeAny_call_cells hA.room ho1 hd (G.nolimit _ hB.ground) hcd1 hbody (hbind xs hxl) hclo (fun p hp => ?_) (fun s₁ x => ?_) hco hgen hk
  · obtain ⟨x, hx, e⟩ := hfst p hp
    rcases hkind x hx s.heap.objs.size with q | ⟨q, c, hc⟩
    · exact .inl (e ▸ q)
    · exact .inr ⟨e ▸ q, by rw [e]; show (((callEnvC fd s.heap.objs.size f).cells).lookup _).isSome = true; rw [hc]; rfl⟩
  · obtain ⟨h₁, tk, rfl, hk₁⟩ := x.done
    have hnd' : (((names.map Str.ofString).zip xs).map (·.1)).Nodup := by
      rw [List.map_fst_zip (by simp [hxl])]
      exact List.pairwise_map.mpr (hnd.imp fun h e => h (ofString_inj e))
    have hnewL : ∀ b, s.heap.objs.size ≤ b → s.heap.get? b = Option.none := fun b hb => by
      cases q : s.heap.get? b with
      | none => rfl
      | some o' => exact absurd (Heap.lt_size q) (Nat.not_lt.mpr hb)
    have hRn : ∀ b, s.heap.objs.size ≤ b → R b = Option.none := fun b hb => by
      cases q : R b with
      | none => rfl
      | some o' => have := hB.sub b o' q; rw [hnewL b hb] at this; cases this
    let Kp : PH := fun b => open Classical in if b ∈ G.T then Option.none else s.heap.get? b
    have hKn : ∀ b, s.heap.objs.size ≤ b → Kp b = Option.none := fun b hb => by
      show (if b ∈ G.T then Option.none else s.heap.get? b) = _
      split
      · rfl
      · exact hnewL b hb
    have hKs : ∀ b ob, Kp b = some ob → b ∉ G.T ∧ s.heap.get? b = some ob := fun b ob e => by
      have e' : (if b ∈ G.T then Option.none else s.heap.get? b) = some ob := e
      split at e'
      · cases e'
      · rename_i q; exact ⟨q, e'⟩
    have S : St G (callEnvC fd s.heap.objs.size f :: Fs) (callEnvC fd s.heap.objs.size f) R Kp (params names vs) { s with heap := h₁, toks := tk } := by
      refine ⟨⟨hB.sub0, fun b ob e => hk₁ b ob (hB.sub b ob e), G.tabKeep _ _ hB.tab fun b ob _ _ e => hk₁ b ob e, hB.noT, hB.gens, hB.os, fun e he => ?_⟩, fun b ob e => ⟨ob, hk₁ b ob (hKs b ob e).2, .refl ob⟩, fun P hP => ?_, hRn _ (Nat.le_refl _), hKn _ (Nat.le_refl _),
        ⟨_, x.toInCall.ns⟩, fun p hp => ?_, x.apart, ⟨⟨Fs, rfl⟩, rfl⟩, fun _ => 0, fun y lv hy => ?_, fun y z ws us hy _ ho => ?_⟩
      · rcases List.mem_cons.mp he with rfl | he
        · obtain ⟨oL, es, ep, eL, dL, _⟩ := x.toInCall.ns
          exact ⟨by show fd.scope.kind ≠ _; rw [hk]; nofun, _, oL, es, ep, rfl, eL, dL, hRn _ (Nat.le_refl _)⟩
        · exact (hB.fr e he).step (fun b o es n q1 q2 => ⟨o, es, n, hk₁ b o q1, q2⟩) fun _ _ _ e => e
      · show (if P ∈ G.T then Option.none else s.heap.get? P) = _
        rw [if_pos hP]
      · have hlt : s.heap.objs.size < p.2 := x.above p.1 p.2 hp
        refine ⟨hRn _ (Nat.le_of_lt hlt), hKn _ (Nat.le_of_lt hlt), ?_⟩
        exact ⟨_, x.cell p.1 p.2 (lookup_of_mem_nodup (cellsFrom_names fd.scope.names 0 (s.heap.objs.size + 1) [] [] rfl ▸ hcn) hp)⟩
      · obtain ⟨v', val, rfl, hmem, hrep⟩ := params_mem hr hy
        refine ⟨val, ?_, hrep, fun e => nomatch e⟩
        obtain ⟨x', hx', e⟩ := hfst _ hmem
        have e : Str.ofString y = Str.ofString x' := e
        rw [e]
        rw [e] at hmem
        rcases hkind x' hx' s.heap.objs.size with q | ⟨q, c, hc⟩
        · exact .inl ⟨q, _, x.toInCall.ns, bindL_mem q hnd' hmem⟩
        · refine .inr ⟨.inl q, c, hc, ?_⟩
          have := x.cell _ c hc
          rw [bindC_mem (by rw [q]; nofun) hnd' hmem] at this
          exact this
      · obtain ⟨v', val, e, _⟩ := params_mem hr hy
        rw [e] at ho; cases ho
    refine wpAny_mono (hex s.heap.objs.size (A.deeper _) _ R Kp _ (fun _ _ => False) (hA.deeper _) S (fun val s' R' a g B K r => ?_)) (fun fl s' h => h) (fun _ _ h => h.elim)
    refine hQ val s' R' ⟨a, ?_, g.up, ?_, ⟨B.sub0, B.sub, B.tab, B.noT, B.gens, B.os, fun e he => B.fr e (List.mem_cons_of_mem _ he)⟩⟩ r
    · intro b ob hb e
      obtain ⟨o', e', l⟩ := K b ob (by
        show (if b ∈ G.T then Option.none else s.heap.get? b) = _
        rw [if_neg hb]; exact e)
      refine ⟨o', e', l.imp fun ⟨en, hen, hfr⟩ => ?_⟩
      rcases List.mem_cons.mp hen with rfl | hen
      · have q : s.heap.objs.size = b := Option.some.inj hfr
        rw [← q, hnewL _ (Nat.le_refl _)] at e; cases e
      · exact ⟨en, hen, hfr⟩
    · intro b ob e
      refine (g.new b ob e).imp id fun q => ?_
      have q' : (if b ∈ G.T then Option.none else s.heap.get? b) = Option.none := q
      split at q'
      · rename_i hb; rw [B.noT b hb] at e; cases e
      · exact q'

theorem FnR.mk {f : Addr} {ob : Obj} {fd : FuncData} {body : List Stmt} {vs : List V} {v : V} {C : PH → Heap → Prop} (names : List String) (ho : ∀ (R : PH) (h : Heap), C R h → Sub R h.get? → Sub G.h0 h.get? → h.get? f = some ob ∧ h.CodeRec fd.code fd.qualname) (hd : ob.data = .func fd) (hbody : fd.body = .stmts body) (hclo : fd.closure = [])
    (hlen : vs.length = names.length)
    (hbind : ∀ xs : List Value, xs.length = names.length → bindArgs fd ⟨xs, []⟩ = pure ((names.map Str.ofString).zip xs)) (hnd : names.Nodup)
    (hkind : ∀ x ∈ names, ∀ L, OwnName (callEnvC fd L f) (Str.ofString x))
    (hex : ∀ L, Ex G k (callEnvC fd L f) (params names vs) body (.ret v)) (hcn : ((cellsFrom 0 fd.scope.names []).map (·.1)).Nodup := by decide)
    (hco : fd.scope.isCoroutine = false := by rfl) (hgen : fd.scope.isGenerator = false := by rfl) (hk : fd.scope.kind = .function := by rfl) : FnR G (k + 1) C (.ref f) vs v := by
  intro Fs A s R xs Q E hA hB hC hr hQ
  exact wpAny_call (FnR.code (C := C) names ho hd hbody hclo hlen hbind hnd hkind hex hcn hco hgen hk hA hB hC hr fun val s' R' g r => hQ val s' R' g r)

theorem Fn.code {f : Addr} {ob : Obj} {fd : FuncData} {body : List Stmt} {vs : List V} {v : V} {A : Around} {s : Shared} {R : PH} {xs : List Value} {RR : Result → Shared → Prop} (names : List String) (ho : G.h0 f = some ob) (hd : ob.data = .func fd) (hbody : fd.body = .stmts body) (hclo : fd.closure = [])
    (hcd : ∀ h : Heap, Sub G.h0 h.get? → h.CodeRec fd.code fd.qualname) (hlen : vs.length = names.length)
    (hbind : ∀ xs : List Value, xs.length = names.length → bindArgs fd ⟨xs, []⟩ = pure ((names.map Str.ofString).zip xs)) (hnd : names.Nodup)
    (hkind : ∀ x ∈ names, ∀ L, OwnName (callEnvC fd L f) (Str.ofString x))
    (hex : ∀ L, Ex G k (callEnvC fd L f) (params names vs) body (.ret v)) (hcn : ((cellsFrom 0 fd.scope.names []).map (·.1)).Nodup)
    (hA : Aok (k + 1) Fs A) (hB : Base G Fs R s) (hr : RepL R vs xs) (hQ : ∀ val s' R', Grow G Fs R s R' s' → Rep R' v val → RR (.ok (.ret val)) s')
    (hco : fd.scope.isCoroutine = false := by rfl) (hgen : fd.scope.isGenerator = false := by rfl) (hk : fd.scope.kind = .function := by rfl) : codeAny (model G.prog G.w) A (.call (.ref f) ⟨xs, []⟩) RR s :=
  FnR.code (C := fun _ _ => True) names (fun R h _ _ h0 => ⟨h0 _ _ ho, hcd h h0⟩) hd hbody hclo hlen hbind hnd hkind hex hcn hco hgen hk hA hB trivial hr hQ

theorem bind_one {fd : FuncData} {x : String} (h : ∀ v, bindArgs fd ⟨[v], []⟩ = pure [(Str.ofString x, v)]) (xs : List Value) (hl : xs.length = [x].length) : bindArgs fd ⟨xs, []⟩ = pure (([x].map Str.ofString).zip xs) := by
  obtain ⟨v, rfl⟩ := List.length_eq_one_iff.mp hl
  exact h v

theorem Fn.mk {f : Addr} {ob : Obj} {fd : FuncData} {body : List Stmt} {vs : List V} {v : V} (names : List String) (ho : G.h0 f = some ob) (hd : ob.data = .func fd) (hbody : fd.body = .stmts body) (hclo : fd.closure = [])
    (hcd : ∀ h : Heap, Sub G.h0 h.get? → h.CodeRec fd.code fd.qualname) (hlen : vs.length = names.length)
    (hbind : ∀ xs : List Value, xs.length = names.length → bindArgs fd ⟨xs, []⟩ = pure ((names.map Str.ofString).zip xs)) (hnd : names.Nodup)
    (hkind : ∀ x ∈ names, ∀ L, OwnName (callEnvC fd L f) (Str.ofString x))
    (hex : ∀ L, Ex G k (callEnvC fd L f) (params names vs) body (.ret v)) (hcn : ((cellsFrom 0 fd.scope.names []).map (·.1)).Nodup := by decide)
    (hco : fd.scope.isCoroutine = false := by rfl) (hgen : fd.scope.isGenerator = false := by rfl) (hk : fd.scope.kind = .function := by rfl) : Fn G (k + 1) (.ref f) vs v := fun _ A s R xs Q E hA hB hr hQ =>
  FnR.mk (C := fun _ _ => True) names (fun R h _ _ h0 => ⟨h0 _ _ ho, hcd h h0⟩) hd hbody hclo hlen hbind hnd hkind hex hcn hco hgen hk A s R xs Q E hA hB trivial hr hQ
end
end Mine
open PySem PySem.W PyProof.Rows
set_option Elab.async false
set_option linter.unusedVariables false
namespace Mine

noncomputable def Ts (G : Cx) (k : Nat) (env : Env) (σ : Sg) (ifs : List Expr) (b : Bool) : Prop :=
  ∀ ⦃Fs : List Env⦄ (A : Around) (s : Shared) (R : PH) (Q : Bool → Shared → Prop) (E : Value → Shared → Prop), Aok k Fs A → Sv G Fs env R σ s → (∀ s' R', Grow G Fs R s R' s' → Q b s') →
    wpAny (model G.prog G.w) A (forIn ifs true fun c r => if r = true then do let ok ← isTrue c env (eval c env); pure (ForInStep.yield ok) else pure (ForInStep.yield r)) Q E s

section
variable {G : Cx} {Fs : List Env} {k : Nat} {env : Env} {σ : Sg}
theorem Ts.nil : Ts G k env σ [] true := fun _ A s R Q E hA hS hQ => wpAny_tests_nil (hQ s R (.refl hS.base))
noncomputable def Capt (cenv : Env) (R : PH) (h : Heap) (σc : Sg) : Prop := ∀ y lv, (y, lv) ∈ σc → ∃ v val c, lv = .val v ∧ (cenv.kindOf (Str.ofString y) = some .cell ∨ cenv.kindOf (Str.ofString y) = some .free) ∧
  cenv.cells.lookup (Str.ofString y) = some c ∧ h.IsCell c (some val) ∧ Rep R v val

noncomputable def kept (ws : Nat → V) (keep : Nat → Bool) (n : Nat) : List V := ((List.range n).filter keep).map ws
theorem kept_succ (ws : Nat → V) (keep : Nat → Bool) (n : Nat) : kept ws keep (n + 1) = kept ws keep n ++ (if keep n then [ws n] else []) := by
  unfold kept
  rw [List.range_succ, List.filter_append, List.map_append]
  cases h : keep n <;> simp [h]

theorem Ns_like {p : Prop} {h h' : Heap} {a : Addr} {m : Str → Option Value} (x : h.Ns a m) (hk : ∀ ob, h.get? a = some ob → ∃ ob', h'.get? a = some ob' ∧ Like p ob ob') : h'.Ns a m := by
  obtain ⟨o, es, ep, e, d, r⟩ := x
  obtain ⟨o', e', l⟩ := hk o e
  exact ⟨o', es, ep, e', l.data.trans d, r⟩

theorem comp_core {A : Around} {s : Shared} {R : PH} {x : String} {px pos : Pos} {elt iter : Expr} {ifs : List Expr} {scope : Scope} {cenv : Env} {I D : Addr} {fp : List Addr} {n : Nat} {P : Nat → Value → Prop} {J : Nat → Heap → Prop} {RR : Result → Shared → Prop} {m₀ : Str → Option Value} {σc : Sg}
    (hA : Aok k Fs A) (W : Walks G.prog G.w A I fp [I] n P J) (vs ws : Nat → V) (keep : Nat → Bool) (hn : n ≤ 1000000)
    (htest : ∀ i, i < n → Ts G k cenv ((x, .val (vs i)) :: σc) ifs (keep i)) (helt : ∀ i, i < n → keep i = true → Ev G k cenv ((x, .val (vs i)) :: σc) elt (ws i))
    (hx : cenv.kindOf (Str.ofString x) = some .local) (hk : cenv.scope.kind = .function) (hcap : Capt cenv R s.heap σc)
    (B : Base G Fs R s) (hJ : J 0 s.heap) (hJI : ∀ i h, J i h → ∃ ob, h.get? I = some ob ∧ ob.cls ≠ .none ∧ ob.cls ≠ .type "code" ∧ ob.cls ≠ .type "list" ∧ (∀ v, ob.data ≠ .cell v) ∧ ∀ es n, ob.data ≠ .dict es n)
    (hD : s.heap.PlainList D #[]) (hC : s.heap.Ns cenv.locals m₀) (hRD : R D = Option.none) (hRC : R cenv.locals = Option.none) (hRI : R I = Option.none) (hIT : I ∉ G.T) (hCI : cenv.locals ≠ I)
    (hfp : ∀ b ∈ fp, b ≠ I → R b ≠ Option.none) (hP : ∀ i v, P i v → Rep R (vs i) v)
    (hQ : ∀ s' R' ys, Adv s s' → (∀ b ob, b ∉ G.T → b ≠ I → b ≠ D → b ≠ cenv.locals → s.heap.get? b = some ob → ∃ ob', s'.heap.get? b = some ob' ∧ Like (InFr Fs b) ob ob') → Sub R R' → (∀ b ob, R' b = some ob → R b = some ob ∨ s.heap.get? b = Option.none) → Base G Fs R' s' →
      R' D = Option.none → (∃ m, s'.heap.Ns cenv.locals m) → R' cenv.locals = Option.none → s'.heap.PlainList D ys → RepL R' (kept ws keep n) ys.toList → RR (.ok .next) s') :
    codeAny (model G.prog G.w) A (.compLoop (.ListComp elt [⟨.Name (Str.ofString x) px, iter, ifs, 0⟩] scope pos) 0 (.ref I) (.ref D) cenv) RR s := by
  obtain ⟨nD, eD⟩ := id hD
  obtain ⟨oC, esC, epC, eC, dC, _⟩ := id hC
  have hDC : D ≠ cenv.locals := fun q => by rw [q, eC] at eD; cases eD; cases dC
  obtain ⟨oI, eI, cI⟩ := hJI 0 _ hJ
  have hDI : D ≠ I := fun q => by rw [q, eI] at eD; cases eD; exact cI.2.2.1 rfl
  have hDT : D ∉ G.T := notTab B.tab eD (.inl nofun)
  have hCT : cenv.locals ∉ G.T := Heap.Ns.notTab B.tab hC
  refine codeAny_compLoop_tests
    (fun j s' => ∃ i R' ys m', i ≤ n ∧ j = n + 1 - i ∧ Adv s s' ∧ (∀ b ob, b ∉ G.T → b ≠ I → b ≠ D → b ≠ cenv.locals → s.heap.get? b = some ob → ∃ ob', s'.heap.get? b = some ob' ∧ Like (InFr Fs b) ob ob') ∧ Sub R R' ∧
      (∀ b ob, R' b = some ob → R b = some ob ∨ s.heap.get? b = Option.none) ∧ Base G Fs R' s' ∧ J i s'.heap ∧ s'.heap.PlainList D ys ∧ RepL R' (kept ws keep i) ys.toList ∧ s'.heap.Ns cenv.locals m')
    ?_ (n + 1) ⟨0, R, #[], m₀, Nat.zero_le _, rfl, .refl s, fun _ ob _ _ _ _ e => ⟨ob, e, .refl ob⟩, .refl _, fun _ _ e => .inl e, B, hJ, hD, rfl, hC⟩
  rintro j s' ⟨i, R', ys, m', hi, rfl, hadv, hkp, hup, hnew, B', hJ', hD', hys, hC'⟩
  have noR : ∀ b ob, s.heap.get? b = some ob → R b = Option.none → R' b = Option.none := fun b ob e hr => by
    cases q : R' b with
    | none => rfl
    | some o' => rcases hnew b o' q with q' | q'
                 · rw [hr] at q'; cases q'
                 · rw [e] at q'; cases q'
  obtain ⟨oI', eI', cI'⟩ := hJI i _ hJ'
  have tabI : ∀ h₁ : Heap, (∀ b ob, b ∉ [I] → s'.heap.get? b = some ob → h₁.get? b = some ob) → G.tabOk h₁ := fun h₁ hk₁ =>
    G.tabKeep _ _ B'.tab fun b ob hcl _ e => hk₁ b ob (by simp; rintro rfl; rw [eI'] at e; cases e; exact hcl.elim cI'.1 cI'.2.1) e
  have baseI : ∀ h₁ tk, (∀ b ob, b ∉ [I] → s'.heap.get? b = some ob → h₁.get? b = some ob) → Base G Fs R' { s' with heap := h₁, toks := tk } := fun h₁ tk hk₁ =>
    ⟨B'.sub0, fun b ob e => hk₁ b ob (by simp; rintro rfl; rw [noR _ _ eI hRI] at e; cases e) (B'.sub b ob e), tabI h₁ hk₁, B'.noT, B'.gens, B'.os, fun e he => (B'.fr e he).step (fun b o es n q1 q2 => ⟨o, es, n, hk₁ b o (by simp; rintro rfl; rw [eI'] at q1; cases q1; exact cI'.2.2.2.2 es n q2) q1, q2⟩) fun _ _ _ e => e⟩
  by_cases hlt : i < n
  · refine W.item i s' _ _ hlt hJ' fun v h₁ tk₁ hPv hJ₁ hk₁ => ?_
    have B₁ := baseI h₁ tk₁ hk₁
    have hC₁ : h₁.Ns cenv.locals m' := hC'.at' fun ob e => hk₁ _ ob (by simpa using hCI) e
    refine wpAny_assign_Name (wpAny_storeName_local hx hC₁ (fun h₂ hn₂ hs₂ => ?_) (by rw [hk]; rfl))
    -- the state for the element
    have hup₂ : ∀ b ob, b ≠ I → b ≠ cenv.locals → s'.heap.get? b = some ob → h₂.get? b = some ob := fun b ob h1 h2 e => hs₂.extBut b ob h2 (hk₁ b ob (by simpa using h1) e)
    have B₂ : Base G _ R' { s' with heap := h₂, toks := tk₁ + 1 } :=
      ⟨B'.sub0, fun b ob e => (hs₂.2 b (by rintro rfl; rw [noR _ _ eC hRC] at e; cases e)).trans (B₁.sub b ob e), tab_sameBut B₁.tab hs₂ (fun o vs e q => by
        obtain ⟨o2, es2, ep2, e2, d2, _⟩ := hC₁
        rw [show h₁.get? cenv.locals = some o2 from e2] at e; cases e; rw [d2] at q; cases q), B'.noT, B'.gens, B'.os, fun e he => (B₁.fr e he).step (fun b o es n q1 q2 => by
          by_cases hb : b = cenv.locals
          · subst hb
            obtain ⟨o2, es2, ep2, e2, d2, _⟩ := hn₂
            exact ⟨o2, es2, ep2, e2, d2⟩
          · exact ⟨o, es, n, hs₂.extBut b o hb q1, q2⟩) fun _ _ _ e => e⟩
    have hJ₂ : J (i + 1) h₂ := W.frame _ _ _ hJ₁ fun b hb ob e => hs₂.extBut b ob (by
      rintro rfl
      by_cases hbI : cenv.locals = I
      · exact hCI hbI
      · exact hfp _ hb hbI hRC) e
    have hD₂ : h₂.PlainList D ys := hD'.at fun ob e => hup₂ D ob hDI hDC e
    have SV : Sv G Fs cenv R' ((x, .val (vs i)) :: σc) { s' with heap := h₂, toks := tk₁ + 1 } := ⟨B₂, fun y lv hy => by
      rcases List.mem_cons.mp hy with e | hy
      · cases e
        exact ⟨v, .inl ⟨hx, _, hn₂, if_pos rfl⟩, Rep.sub hup (hP i v hPv)⟩
      · obtain ⟨v', val, c, rfl, hkc, hlk, ⟨oc, ec, dc⟩, hr⟩ := hcap y lv hy
        have hcI : c ≠ I := fun q => by rw [q, eI] at ec; cases ec; exact cI.2.2.2.1 _ dc
        have hcC : c ≠ cenv.locals := fun q => by rw [q, eC] at ec; cases ec; rw [dc] at dC; cases dC
        have hcD : c ≠ D := fun q => by rw [q, eD] at ec; cases ec; cases dc
        obtain ⟨oc', ec', lc⟩ := hkp c oc (notTab B.tab ec (.inr fun ps q => by rw [dc] at q; cases q)) hcI hcD hcC ec
        exact ⟨val, .inr ⟨hkc, c, hlk, oc', hup₂ c oc' hcI hcC ec', lc.data.trans dc⟩, Rep.sub hup hr⟩⟩
    refine htest i hlt A _ R' _ _ hA SV fun s₃ R₃ g₃ => ?_
    -- common: what stands at the turn's end
    have keepAll : ∀ s₄ R₄, Grow G Fs R' { s' with heap := h₂, toks := tk₁ + 1 } R₄ s₄ →
        Adv s s₄ ∧ (∀ b ob, b ∉ G.T → b ≠ I → b ≠ D → b ≠ cenv.locals → s.heap.get? b = some ob → ∃ ob', s₄.heap.get? b = some ob' ∧ Like (InFr Fs b) ob ob') ∧ Sub R R₄ ∧ (∀ b ob, R₄ b = some ob → R b = some ob ∨ s.heap.get? b = Option.none) ∧
        J (i + 1) s₄.heap ∧ s₄.heap.PlainList D ys ∧ (∃ m, s₄.heap.Ns cenv.locals m) ∧ R₄ D = Option.none := fun s₄ R₄ g₄ => by
      refine ⟨(hadv.trans ⟨h₂, tk₁ + 1, rfl⟩).trans g₄.adv, fun b ob h1 h2 h3 h4 e => (by
        obtain ⟨o1, e1, l1⟩ := hkp b ob h1 h2 h3 h4 e
        obtain ⟨o2, e2, l2⟩ := g₄.ext b o1 h1 (hup₂ b o1 h2 h4 e1)
        exact ⟨o2, e2, l1.trans l2⟩), hup.trans g₄.up, fun b ob e => ?_, ?_, plain_ext B₂.tab hD₂ g₄.ext, ⟨_, Ns_like hn₂ fun ob e => g₄.ext _ ob hCT e⟩, ?_⟩
      · rcases g₄.new b ob e with q | q
        · exact hnew b ob q
        · -- not there behind the store: not there at the start
          cases qs : s.heap.get? b with
          | none => exact .inr rfl
          | some o' =>
            exfalso
            by_cases hbT : b ∈ G.T
            · rw [g₄.base.noT b hbT] at e; cases e
            by_cases hbI : b = I
            · subst hbI
              obtain ⟨ob2, e2, _⟩ := hJI _ _ hJ₂
              rw [show h₂.get? b = Option.none from q] at e2; cases e2
            by_cases hbD : b = D
            · subst hbD
              obtain ⟨n2, e2⟩ := hD₂
              rw [show h₂.get? b = Option.none from q] at e2; cases e2
            by_cases hbC : b = cenv.locals
            · subst hbC
              obtain ⟨o2, _, _, e2, _⟩ := hn₂
              rw [show h₂.get? _ = Option.none from q] at e2; cases e2
            · obtain ⟨o1, e1, _⟩ := hkp b o' hbT hbI hbD hbC qs
              have := hup₂ b o1 hbI hbC e1
              rw [show h₂.get? b = Option.none from q] at this; cases this
      · refine W.frame _ _ _ hJ₂ fun b hb ob e => ?_
        by_cases hbI : b = I
        · subst hbI
          obtain ⟨ob2, e2, c2⟩ := hJI _ _ hJ₂
          rw [e2] at e; cases e
          exact g₄.exact hIT e2 c2.2.2.2.2
        · obtain ⟨ob', e'⟩ := Option.ne_none_iff_exists'.mp (hfp b hb hbI)
          have e2 : h₂.get? b = some ob' := B₂.sub b ob' (hup b ob' e')
          rw [e2] at e; cases e
          exact g₄.base.sub b _ (g₄.up b _ (hup b _ e'))
      · cases q : R₄ D with
        | none => rfl
        | some o' =>
          rcases g₄.new D o' q with q' | q'
          · rw [noR _ _ eD hRD] at q'; cases q'
          · obtain ⟨n2, e2⟩ := hD₂
            rw [show h₂.get? D = Option.none from q'] at e2; cases e2
    cases hkeep : keep i with
    | false =>
      rw [if_neg Bool.false_ne_true]
      obtain ⟨a1, a2, a3, a4, a5, a6, ⟨m₄, a7⟩, _⟩ := keepAll s₃ R₃ g₃
      refine ⟨n + 1 - (i + 1), by omega, i + 1, R₃, ys, m₄, hlt, rfl, a1, a2, a3, a4, g₃.base, a5, a6, ?_, a7⟩
      rw [kept_succ, hkeep]
      simpa using hys.sub g₃.up
    | true =>
      rw [if_pos rfl]
      refine helt i hlt hkeep A s₃ R₃ _ _ hA (SV.grow g₃) fun val s₄ R₄ g₄ r₄ => ?_
      obtain ⟨a1, a2, a3, a4, a5, a6, ⟨m₄, a7⟩, a8⟩ := keepAll s₄ R₄ (g₃.trans g₄)
      have hsz : ys.size ≤ sizeLine := by
        have e1 := hys.length
        have e2 : (kept ws keep i).length ≤ i := by
          unfold kept
          rw [List.length_map]
          exact Nat.le_trans (List.length_filter_le _ _) (by simp)
        rw [Array.length_toList] at e1
        show ys.size ≤ 16777216
        omega
      refine wpAny_list_append_plain (hsz := hsz) a6 fun h₅ hl₅ hs₅ => ?_
      have hr₄ : Rep R₄ (ws i) val := r₄
      obtain ⟨n6, e6⟩ := a6
      refine ⟨n + 1 - (i + 1), by omega, i + 1, R₄, ys.push val, m₄, hlt, rfl, a1.trans ⟨h₅, _, rfl⟩, fun b ob h1 h2 h3 h4 e => (let ⟨o1, e1, l1⟩ := a2 b ob h1 h2 h3 h4 e; ⟨o1, hs₅.extBut b o1 h3 e1, l1⟩), a3, a4,
        ⟨g₄.base.sub0, fun b ob e => hs₅.extBut b ob (by rintro rfl; rw [a8] at e; cases e) (g₄.base.sub b ob e), tab_sameBut g₄.base.tab hs₅ (fun o vs e q => by rw [e6] at e; cases e; cases q), g₄.base.noT, g₄.base.gens, g₄.base.os, fun e he => (g₄.base.fr e he).step (fun b o es n q1 q2 => ⟨o, es, n, hs₅.extBut b o (by rintro rfl; rw [e6] at q1; cases q1; cases q2) q1, q2⟩) fun _ _ _ e => e⟩,
        W.frame _ _ _ a5 fun b hb ob e => hs₅.extBut b ob (by
          rintro rfl
          exact hfp _ hb hDI hRD) e, hl₅, ?_, a7.sameBut hs₅ (Ne.symm hDC)⟩
      rw [kept_succ, hkeep, Array.toList_push]
      exact RepL.append (hys.sub (g₃.up.trans g₄.up)) ⟨val, [], rfl, hr₄, rfl⟩
  · have hin : i = n := by omega
    subst hin
    refine W.done s' _ _ hJ' fun h₁ tk₁ hk₁ => ?_
    refine hQ _ R' ys (hadv.trans ⟨h₁, tk₁, rfl⟩) (fun b ob h1 h2 h3 h4 e => let ⟨o1, e1, l1⟩ := hkp b ob h1 h2 h3 h4 e; ⟨o1, hk₁ b o1 (by simpa using h2) e1, l1⟩) hup hnew (baseI h₁ tk₁ hk₁) (noR _ _ eD hRD) ⟨m', hC'.at' fun ob e => hk₁ _ ob (by simpa using hCI) e⟩ (noR _ _ eC hRC)
      (hD'.at fun ob e => hk₁ _ ob (by simpa using hDI) e) hys
end
end Mine
open PySem PySem.W PyProof.Rows
set_option Elab.async false
set_option linter.unusedVariables false
namespace Mine
section
variable {G : Cx} {Fs : List Env} {k : Nat} {env : Env} {σ : Sg}

theorem new_none (h : Heap) : h.get? h.objs.size = Option.none := by
  cases q : h.get? h.objs.size with
  | none => rfl
  | some o' => exact absurd (Heap.lt_size q) (Nat.lt_irrefl _)

theorem comp_tail {A : Around} {s : Shared} {R : PH} {x : String} {px pos : Pos} {elt iter : Expr} {ifs : List Expr} {scope : Scope} {cl : List (Str × Addr)} {I : Addr} {fp : List Addr} {n : Nat} {P : Nat → Value → Prop} {J : Nat → Heap → Prop} {σc : Sg} {RR : Value → Addr → Result → Shared → Prop} {E : Value → Shared → Prop}
    (hA : Aok k Fs A) (W : Walks G.prog G.w A I fp [I] n P J) (vs ws : Nat → V) (keep : Nat → Bool) (hn : n ≤ 1000000)
    (htest : ∀ i C, i < n → Ts G k (compEnvC scope cl C env) ((x, .val (vs i)) :: σc) ifs (keep i)) (helt : ∀ i C, i < n → keep i = true → Ev G k (compEnvC scope cl C env) ((x, .val (vs i)) :: σc) elt (ws i))
    (hcell : ∀ y ∈ scope.names, y.2 ≠ .cell) (hkind : scope.kind = .function) (hx : scope.names.lookup (Str.ofString x) = some .local)
    (hcap : ∀ C, Capt (compEnvC scope cl C env) R s.heap σc)
    (B : Base G Fs R s) (hJ : J 0 s.heap) (hJI : ∀ i h, J i h → ∃ ob, h.get? I = some ob ∧ ob.cls ≠ .none ∧ ob.cls ≠ .type "code" ∧ ob.cls ≠ .type "list" ∧ (∀ v, ob.data ≠ .cell v) ∧ ∀ es n, ob.data ≠ .dict es n)
    (hRI : R I = Option.none) (hIT : I ∉ G.T) (hfp : ∀ b ∈ fp, b ≠ I → R b ≠ Option.none) (hP : ∀ i v, P i v → Rep R (vs i) v)
    (hQ : ∀ s' R' D C ys, Adv s s' → (∀ b ob, b ∉ G.T → b ≠ I → s.heap.get? b = some ob → ∃ ob', s'.heap.get? b = some ob' ∧ Like (InFr Fs b) ob ob') → Sub R R' → (∀ b ob, R' b = some ob → R b = some ob ∨ s.heap.get? b = Option.none) → Base G Fs R' s' →
      s.heap.get? D = Option.none → R' D = Option.none → s.heap.get? C = Option.none → R' C = Option.none → (∃ m, s'.heap.Ns C m) → s'.heap.PlainList D ys → RepL R' (kept ws keep n) ys.toList → RR (.ref D) C (.ok .next) s') :
    wpAny (model G.prog G.w) A (newList []) (fun acc s₃ => wpAny (model G.prog G.w) A (newFunctionEnv scope env.globals cl [] env.qual none .none (some env)) (fun cenv s₄ =>
      codeAny (model G.prog G.w) A (.compStart (.ListComp elt [⟨.Name (Str.ofString x) px, iter, ifs, 0⟩] scope pos) 0 (.ref I) acc { cenv with scope := relabel scope env }) (RR acc cenv.locals) s₄) E s₃) E s := by
  refine wpAny_newObj_type (wpAny_newFunctionEnv hcell (by intro y hy; simp at hy) (fun h₁ hns₁ hsb₁ => ?_) hkind)
  dsimp only at hns₁ hsb₁ ⊢
  generalize hH2 : s.heap.push { cls := .type "list", dict := none, data := .seq ([] : List Value).toArray } = H2 at hns₁ hsb₁ ⊢
  have hC : H2.objs.size = s.heap.objs.size + 1 := by rw [← hH2, Heap.size_push]
  have hDC : s.heap.objs.size ≠ H2.objs.size := by rw [hC]; exact Nat.ne_of_lt (Nat.lt_succ_self _)
  have old : ∀ b o, s.heap.get? b = some o → h₁.get? b = some o := fun b o e => hsb₁.extBut b o (by rw [hC]; exact Nat.ne_of_lt (Nat.lt_succ_of_lt (Heap.lt_size e))) (Heap.get?_push_of_some _ (hH2 ▸ Heap.get?_push_of_some _ e))
  have hacc : h₁.PlainList s.heap.objs.size #[] := ⟨_, hsb₁.extBut _ _ hDC (Heap.get?_push_of_some _ (hH2 ▸ Heap.get?_push_size _ rfl))⟩
  have freshD := new_none s.heap
  have freshC : s.heap.get? H2.objs.size = Option.none := by
    cases q : s.heap.get? H2.objs.size with
    | none => rfl
    | some o' => exact absurd (Heap.lt_size q) (by rw [hC]; exact Nat.not_lt.mpr (Nat.le_succ _))
  have noR : ∀ b, s.heap.get? b = Option.none → R b = Option.none := fun b e => by
    cases q : R b with
    | none => rfl
    | some o => rw [B.sub b o q] at e; cases e
  have hJ₁ : J 0 h₁ := W.frame _ _ _ hJ fun b _ o e => old b o e
  obtain ⟨oI, eI, cI⟩ := hJI 0 _ hJ
  have B₁ : Base G _ R { s with heap := h₁, toks := s.toks + ([] : List (Str × Value)).length } := ⟨B.sub0, fun b o e => old b o (B.sub b o e), G.tabKeep _ _ B.tab fun b o _ _ e => old b o e, B.noT, B.gens, B.os, fun e he => (B.fr e he).step (fun b o es n q1 q2 => ⟨o, es, n, old b o q1, q2⟩) fun _ _ _ e => e⟩
  have loop : codeAny (model G.prog G.w) A (.compLoop (.ListComp elt [⟨.Name (Str.ofString x) px, iter, ifs, 0⟩] scope pos) 0 (.ref I) (.ref s.heap.objs.size) (compEnvC scope cl H2.objs.size env))
      (RR (.ref s.heap.objs.size) H2.objs.size) { s with heap := h₁, toks := s.toks + ([] : List (Str × Value)).length } := by
    refine comp_core (cenv := compEnvC scope cl H2.objs.size env) hA W vs ws keep hn (fun i hi => htest i _ hi) (fun i hi hk => helt i _ hi hk) (lookup_relabel_local hx) (by simp [compEnvC, relabel, hkind]) (fun y lv hy => ?_) B₁ hJ₁ hJI hacc hns₁ (noR _ freshD) (noR _ freshC) hRI hIT
      (fun q => ?_) hfp hP fun s' R' ys a1 a2 a3 a4 a5 a6 a7 a8 a9 a10 => ?_
    · obtain ⟨v, val, c, e1, e2, e3, ⟨oc, ec, dc⟩, e5⟩ := hcap H2.objs.size y lv hy
      exact ⟨v, val, c, e1, e2, e3, ⟨oc, old _ _ ec, dc⟩, e5⟩
    · have q' : H2.objs.size = I := q
      rw [← q', freshC] at eI; cases eI
    · refine hQ s' R' s.heap.objs.size H2.objs.size ys (Adv.trans ⟨h₁, _, rfl⟩ a1) (fun b ob h1 h2 e => a2 b ob h1 h2 (fun q => by rw [q, freshD] at e; cases e) (fun q => by rw [show b = H2.objs.size from q, freshC] at e; cases e) (old b ob e)) a3 (fun b ob e => ?_) a5 freshD a6 freshC a8 a7 a9 a10
      refine (a4 b ob e).imp id fun q => ?_
      cases qs : s.heap.get? b with
      | none => rfl
      | some o' =>
        have := old b o' qs
        rw [show h₁.get? b = Option.none from q] at this; cases this
  exact codeAny_compStart_list loop (W.self 0 _ _ _ hJ₁ loop)

theorem comp_end {A : Around} {s s' : Shared} {R R' : PH} {D C : Addr} {ys : Array Value} {l : List V} {Q : Value → Shared → Prop} {E : Value → Shared → Prop} (B : Base G Fs R s) (g : Grow G Fs R s R' s') (hD : s.heap.get? D = Option.none) (hRD : R' D = Option.none) (hC : s.heap.get? C = Option.none) (hRC : R' C = Option.none)
    (hns : ∃ m, s'.heap.Ns C m) (hpl : s'.heap.PlainList D ys) (hr : RepL R' l ys.toList) (hQ : ∀ val s'' R'', Grow G Fs R s R'' s'' → Rep R'' (.list l) val → Q val s'') : compPost (model G.prog G.w) A E none Q (.ref D) C (.ok .next) s' := by
  obtain ⟨m, hm⟩ := hns
  refine ⟨m, hm, fun h' hs' => ?_⟩
  obtain ⟨oC, es, ep, eC, dC, _⟩ := id hm
  obtain ⟨n, eD⟩ := hpl
  have hDC : D ≠ C := fun q => by rw [q, eC] at eD; cases eD; cases dC
  have hCT : C ∉ G.T := Heap.Ns.notTab g.base.tab hm
  have B' : Base G _ R' { s' with heap := h' } := ⟨g.base.sub0, fun b ob e => hs'.extBut b ob (by rintro rfl; rw [hRC] at e; cases e) (g.base.sub b ob e), tab_sameBut g.base.tab hs' (fun o vs e q => by rw [eC] at e; cases e; rw [dC] at q; cases q), g.base.noT, g.base.gens, g.base.os, fun e he => by
    obtain ⟨x1, L, o, es', n', y1, y2, y3, y4⟩ := g.base.fr e he
    obtain ⟨_, L', o', es'', n'', z1, z2, _⟩ := B.fr e he
    rw [y1] at z1; cases z1
    exact ⟨x1, L, o, es', n', y1, hs'.extBut L o (by rintro rfl; rw [hC] at z2; cases z2) y2, y3, y4⟩⟩
  have g' : Grow G _ R s R' { s' with heap := h' } := ⟨g.adv.trans ⟨h', s'.toks, rfl⟩, fun b ob hb e => (let ⟨o1, e1, l1⟩ := g.ext b ob hb e; ⟨o1, hs'.extBut b o1 (by rintro rfl; rw [hC] at e; cases e) e1, l1⟩), g.up, g.new, B'⟩
  have eD' : h'.get? D = some { cls := .type "list", data := .seq ys n } := hs'.extBut _ _ hDC eD
  have hup : Sub R' (R'.put D { cls := .type "list", data := .seq ys n }) := fun b o' e => by rw [PH.put_ne (fun q => by rw [q, hRD] at e; cases e)]; exact e
  refine hQ _ _ (R'.put D { cls := .type "list", data := .seq ys n }) ⟨g'.st, g'.ext, g'.up.trans hup, fun b ob e => ?_, ⟨B'.sub0.trans hup, fun b ob e => ?_, B'.tab, fun P hP => ?_, B'.gens, B'.os, fun e he => (B'.fr e he).frz eD' rfl⟩⟩ ⟨D, ys.toList, rfl, ⟨_, n, PH.put_self .., rfl, by simp⟩, hr.sub hup⟩
  · by_cases hb : b = D
    · subst hb; exact .inr hD
    · rw [PH.put_ne hb] at e; exact g'.new b ob e
  · by_cases hb : b = D
    · subst hb; rw [PH.put_self] at e; cases e; exact eD'
    · rw [PH.put_ne hb] at e; exact B'.sub b ob e
  · rw [PH.put_ne (fun q => ?_)]
    · exact B'.noT P hP
    · obtain ⟨ps, e⟩ := G.tabIn _ B'.tab P hP
      rw [q, eD'] at e; cases e

theorem Capt.nil {cenv : Env} {R : PH} {h : Heap} : Capt cenv R h [] := fun _ _ h => nomatch h
end
end Mine
open PySem PySem.W PyProof.Rows
set_option Elab.async false
set_option linter.unusedVariables false
set_option maxRecDepth 100000
namespace Mine
open PySem.Sre

/-! the search machine of ESCAPE_ASCII -/
noncomputable def codeA : Array Nat := #[14, 4, 0, 1, 1, 17, 0, 7, 10, 13, 6, 16, 92, 16, 34, 0, 15, 12, 10, 13, 6, 21, 22, 32, 126, 0, 15, 2, 0, 17, 1, 1]

noncomputable def escA (c : Nat) : Bool := c == 92 || c == 34 || !(32 ≤ c && c ≤ 126)

theorem acc1 (c : Nat) (seen : Sre.Seen) : ∃ seen', accepts codeA 9 c seen = .ok (c == 92 || c == 34, seen') := by
  show ∃ seen', inSet codeA c 32 11 true seen = _
  show ∃ seen', (if c == 92 then .ok (true, seen.add 16) else inSet codeA c 31 13 true (seen.add 16)) = Except.ok (c == 92 || c == 34, seen')
  cases h1 : c == 92 with
  | true => exact ⟨_, rfl⟩
  | false =>
    rw [if_neg Bool.false_ne_true]
    show ∃ seen', (if c == 34 then .ok (true, (seen.add 16).add 16) else inSet codeA c 30 15 true ((seen.add 16).add 16)) = Except.ok (false || c == 34, seen')
    cases h2 : c == 34 with
    | true => exact ⟨_, rfl⟩
    | false => exact ⟨_, rfl⟩
theorem acc2 (c : Nat) (seen : Sre.Seen) : ∃ seen', accepts codeA 19 c seen = .ok (!(32 ≤ c && c ≤ 126), seen') := by
  show ∃ seen', inSet codeA c 32 21 true seen = _
  show ∃ seen', inSet codeA c 31 22 false (seen.add 21) = _
  show ∃ seen', (if (32 ≤ c && c ≤ 126) then .ok (false, (seen.add 21).add 22) else inSet codeA c 30 25 false ((seen.add 21).add 22)) = Except.ok (!(32 ≤ c && c ≤ 126), seen')
  cases h1 : (decide (32 ≤ c) && decide (c ≤ 126)) with
  | true => exact ⟨_, rfl⟩
  | false => exact ⟨_, rfl⟩

noncomputable def at0 (text : Array Nat) (s : Nat) (must first : Bool) (a b : Option Nat) (seen : Sre.Seen) : M :=
  { code := codeA, text, lim := text.size, start := s, lastStart := text.size, mustAdvance := must, pc := 5, pos := s, handed := s, outermost := first, marks := #[a, b],
    frames := [{ wait := .nextStart, pc := 5, pos := s, outermost := first }], weight := 1, seen }

noncomputable def Found (s : Nat) (m : M) : Prop := m.outcome = some .matched ∧ m.start = s ∧ m.handed = s + 1 ∧ m.marks = #[some s, some (s + 1)] ∧ m.lastmark = 1 ∧ m.lastindex = 1

theorem runFor_add (a b : Nat) (m : M) : M.runFor (a + b) m = M.runFor b (M.runFor a m) := by
  induction a generalizing m with
  | zero => rw [Nat.zero_add]; rfl
  | succ a ih =>
    rw [Nat.add_right_comm]
    show (if m.outcome.isSome then m else M.runFor (a + b) m.step) = M.runFor b (if m.outcome.isSome then m else M.runFor a m.step)
    cases h : m.outcome.isSome with
    | false => simp [ih]
    | true =>
      simp only [if_true]
      cases b with
      | zero => rfl
      | succ b => show m = (if m.outcome.isSome then m else _); rw [h]; rfl
noncomputable def f0 (s : Nat) (first : Bool) : Sre.Frame := { wait := .nextStart, pc := 5, pos := s, outermost := first }
noncomputable def f1 (s pc : Nat) (first : Bool) (lm : Int) : Sre.Frame := { wait := .nextBranch, pc, pos := s, outermost := first, kept := { lastmark := lm, lastindex := -1 } }
noncomputable def mid (text : Array Nat) (s : Nat) (must first : Bool) (pc pos handed : Nat) (marks : Array (Option Nat)) (lm li : Int) (frames : List Sre.Frame) (weight : Nat) (answer : Option Bool) (seen : Sre.Seen) : M :=
  { code := codeA, text, lim := text.size, start := s, lastStart := text.size, mustAdvance := must, pc, pos, handed, outermost := first, marks, lastmark := lm, lastindex := li, frames, weight, answer, seen }

section
variable (text : Array Nat) (s : Nat) (must first : Bool) (a b : Option Nat) (seen : Sre.Seen)

theorem st1 : M.runFor 1 (at0 text s must first a b seen) = mid text s must first 7 s s #[some s, b] 0 (-1) [f0 s first] 1 none (seen.add 17) := rfl
theorem st2 : M.runFor 1 (mid text s must first 7 s s #[some s, b] 0 (-1) [f0 s first] 1 none seen) = mid text s must first 9 s s #[some s, b] 0 (-1) [f1 s 8 first 0, f0 s first] 2 none (seen.add 7) := rfl
theorem st3 (hs : s < text.size) (y : Bool) (seen' : Sre.Seen) (h : accepts codeA 9 (text.getD s 0) (seen.add 13) = .ok (y, seen')) :
    M.runFor 1 (mid text s must first 9 s s #[some s, b] 0 (-1) [f1 s 8 first 0, f0 s first] 2 none seen) =
      if y then mid text s must first 16 (s + 1) s #[some s, b] 0 (-1) [f1 s 8 first 0, f0 s first] 2 none seen' else mid text s must first 9 s s #[some s, b] 0 (-1) [f1 s 8 first 0, f0 s first] 2 (some false) seen' := by
  show (if s ≥ text.size then _ else match accepts codeA 9 (text.getD s 0) (seen.add 13) with | .error why => _ | .ok (false, seen) => _ | .ok (true, seen) => _) = _
  rw [if_neg (Nat.not_le.mpr hs), h]
  cases y <;> rfl
theorem st4 (w : Nat) (fr : List Sre.Frame) : M.runFor 1 (mid text s must first 16 (s + 1) s #[some s, b] 0 (-1) fr w none seen) = mid text s must first 29 (s + 1) s #[some s, b] 0 (-1) fr w none (seen.add 15) := rfl
theorem st4' (w : Nat) (fr : List Sre.Frame) : M.runFor 1 (mid text s must first 26 (s + 1) s #[some s, b] 0 (-1) fr w none seen) = mid text s must first 29 (s + 1) s #[some s, b] 0 (-1) fr w none (seen.add 15) := rfl
theorem st5 (w : Nat) (fr : List Sre.Frame) : M.runFor 1 (mid text s must first 29 (s + 1) s #[some s, b] 0 (-1) fr w none seen) = mid text s must first 31 (s + 1) s #[some s, some (s + 1)] 1 1 fr w none (seen.add 17) := by
  have e : M.runFor 1 (mid text s must first 29 (s + 1) s #[some s, b] 0 (-1) fr w none seen) = mid text s must first 31 (s + 1) s #[some s, some (s + 1)] 1 ((1 / 2 + 1 : Nat) : Int) fr w none (seen.add 17) := rfl
  rw [e, show ((1 / 2 + 1 : Nat) : Int) = 1 from by decide]
theorem st6 (w : Nat) (fr : List Sre.Frame) : M.runFor 1 (mid text s must first 31 (s + 1) s #[some s, some (s + 1)] 1 1 fr w none seen) = mid text s must first 31 (s + 1) (s + 1) #[some s, some (s + 1)] 1 1 fr w (some true) (seen.add 1) := by
  show (if (first && ((false && (s + 1) != text.size) || (must && (s + 1) == s))) = true then _ else _) = _
  have : ((s + 1) == s) = false := by simp
  rw [this]
  cases first <;> cases must <;> rfl
theorem st7 (w pc : Nat) (lm : Int) (fr : List Sre.Frame) (seen : Sre.Seen) : M.runFor 1 (mid text s must first 31 (s + 1) (s + 1) #[some s, some (s + 1)] 1 1 (f1 s pc first lm :: fr) (w + 1) (some true) seen) = mid text s must first pc s (s + 1) #[some s, some (s + 1)] 1 1 fr w (some true) seen := rfl
theorem st8 (pc : Nat) : M.runFor 1 (mid text s must first pc s (s + 1) #[some s, some (s + 1)] 1 1 [f0 s first] 1 (some true) seen) = mid text s must first 5 s (s + 1) #[some s, some (s + 1)] 1 1 [] 0 (some true) seen := rfl
theorem st9 : M.runFor 1 (mid text s must first 5 s (s + 1) #[some s, some (s + 1)] 1 1 [] 0 (some true) seen) = { mid text s must first 5 s (s + 1) #[some s, some (s + 1)] 1 1 [] 0 (some true) seen with outcome := some .matched } := rfl
theorem sf1 : M.runFor 1 (mid text s must first 9 s s #[some s, b] 0 (-1) [f1 s 8 first 0, f0 s first] 2 (some false) seen) = mid text s must first 19 s s #[some s, b] 0 (-1) [f1 s 18 first 0, f0 s first] 2 none seen := rfl
theorem sf2 (hs : s < text.size) (y : Bool) (seen' : Sre.Seen) (h : accepts codeA 19 (text.getD s 0) (seen.add 13) = .ok (y, seen')) :
    M.runFor 1 (mid text s must first 19 s s #[some s, b] 0 (-1) [f1 s 18 first 0, f0 s first] 2 none seen) =
      if y then mid text s must first 26 (s + 1) s #[some s, b] 0 (-1) [f1 s 18 first 0, f0 s first] 2 none seen' else mid text s must first 19 s s #[some s, b] 0 (-1) [f1 s 18 first 0, f0 s first] 2 (some false) seen' := by
  show (if s ≥ text.size then _ else match accepts codeA 19 (text.getD s 0) (seen.add 13) with | .error why => _ | .ok (false, seen) => _ | .ok (true, seen) => _) = _
  rw [if_neg (Nat.not_le.mpr hs), h]
  cases y <;> rfl
theorem sf3 : M.runFor 1 (mid text s must first 19 s s #[some s, b] 0 (-1) [f1 s 18 first 0, f0 s first] 2 (some false) seen) = mid text s must first 18 s s #[some s, b] 0 (-1) [f0 s first] 1 (some false) seen := rfl
theorem sf4 (hs : s < text.size) : M.runFor 1 (mid text s must first 18 s s #[some s, b] 0 (-1) [f0 s first] 1 (some false) seen) = at0 text (s + 1) false false (some s) b seen := by
  show (if s < text.size then _ else _) = _
  rw [if_pos hs]; rfl
end

theorem chain {n m : Nat} {x y z : M} (h : M.runFor n x = y) (h' : M.runFor m y = z) : M.runFor (n + m) x = z := by rw [runFor_add, h, h']

theorem try_yes (text : Array Nat) (s : Nat) (must first : Bool) (a b : Option Nat) (seen : Sre.Seen) (hs : s < text.size) (he : escA (text.getD s 0) = true) :
    ∃ n m', n ≤ 12 ∧ M.runFor n (at0 text s must first a b seen) = m' ∧ Found s m' := by
  have fin : ∀ pc seen, ∃ m', M.runFor 5 (mid text s must first 29 (s + 1) s #[some s, b] 0 (-1) [f1 s pc first 0, f0 s first] 2 none seen) = m' ∧ Found s m' := fun pc seen =>
    ⟨_, chain (n := 4) (chain (n := 3) (chain (n := 2) (chain (n := 1) (st5 ..) (st6 ..)) (st7 (w := 1) ..)) (st8 ..)) (st9 ..), rfl, rfl, rfl, rfl, rfl, rfl⟩
  obtain ⟨seen1, h1⟩ := acc1 (text.getD s 0) (((seen.add 17).add 7).add 13)
  have c3 := chain (chain (st1 text s must first a b seen) (st2 ..)) (st3 text s must first b _ hs _ _ h1)
  cases y1 : (text.getD s 0 == 92 || text.getD s 0 == 34) with
  | true =>
    rw [y1, if_pos rfl] at c3
    obtain ⟨m', hm, hf⟩ := fin 8 (seen1.add 15)
    exact ⟨_, m', by decide, chain (chain c3 (st4 ..)) hm, hf⟩
  | false =>
    rw [y1, if_neg Bool.false_ne_true] at c3
    obtain ⟨seen2, h2⟩ := acc2 (text.getD s 0) (seen1.add 13)
    have c5 := chain (chain c3 (sf1 ..)) (sf2 text s must first b _ hs _ _ h2)
    have y2 : (!(decide (32 ≤ text.getD s 0) && decide (text.getD s 0 ≤ 126))) = true := by
      unfold escA at he
      rw [y1] at he
      simpa using he
    rw [y2, if_pos rfl] at c5
    obtain ⟨m', hm, hf⟩ := fin 18 (seen2.add 15)
    exact ⟨_, m', by decide, chain (chain c5 (st4' ..)) hm, hf⟩

theorem try_no (text : Array Nat) (s : Nat) (must first : Bool) (a b : Option Nat) (seen : Sre.Seen) (hs : s < text.size) (he : escA (text.getD s 0) = false) :
    ∃ n seen', n ≤ 12 ∧ M.runFor n (at0 text s must first a b seen) = at0 text (s + 1) false false (some s) b seen' := by
  obtain ⟨seen1, h1⟩ := acc1 (text.getD s 0) (((seen.add 17).add 7).add 13)
  have c3 := chain (chain (st1 text s must first a b seen) (st2 ..)) (st3 text s must first b _ hs _ _ h1)
  unfold escA at he
  rw [Bool.or_eq_false_iff] at he
  rw [he.1, if_neg Bool.false_ne_true] at c3
  obtain ⟨seen2, h2⟩ := acc2 (text.getD s 0) (seen1.add 13)
  have c5 := chain (chain c3 (sf1 ..)) (sf2 text s must first b _ hs _ _ h2)
  rw [he.2, if_neg Bool.false_ne_true] at c5
  exact ⟨_, seen2, by decide, chain (chain c5 (sf3 ..)) (sf4 text s must first b _ hs)⟩

theorem try_end (text : Array Nat) (must first : Bool) (a b : Option Nat) (seen : Sre.Seen) : ∃ n m', n ≤ 12 ∧ M.runFor n (at0 text text.size must first a b seen) = m' ∧ m'.outcome = some .failed := by
  have e3 : ∀ seen, M.runFor 1 (mid text text.size must first 9 text.size text.size #[some text.size, b] 0 (-1) [f1 text.size 8 first 0, f0 text.size first] 2 none seen) = mid text text.size must first 9 text.size text.size #[some text.size, b] 0 (-1) [f1 text.size 8 first 0, f0 text.size first] 2 (some false) (seen.add 13) := fun seen => by
    show (if text.size ≥ text.size then _ else _) = _
    rw [if_pos (Nat.le_refl _)]; rfl
  have e5 : ∀ seen, M.runFor 1 (mid text text.size must first 19 text.size text.size #[some text.size, b] 0 (-1) [f1 text.size 18 first 0, f0 text.size first] 2 none seen) = mid text text.size must first 19 text.size text.size #[some text.size, b] 0 (-1) [f1 text.size 18 first 0, f0 text.size first] 2 (some false) (seen.add 13) := fun seen => by
    show (if text.size ≥ text.size then _ else _) = _
    rw [if_pos (Nat.le_refl _)]; rfl
  have e7 : ∀ seen, ∃ m', M.runFor 2 (mid text text.size must first 18 text.size text.size #[some text.size, b] 0 (-1) [f0 text.size first] 1 (some false) seen) = m' ∧ m'.outcome = some .failed := fun seen => by
    refine ⟨_, chain (n := 1) (m := 1) (y := mid text text.size must first 5 text.size text.size #[some text.size, b] 0 (-1) [] 0 (some false) seen) ?_ rfl, rfl⟩
    show (if text.size < text.size then _ else _) = _
    rw [if_neg (Nat.lt_irrefl _)]; rfl
  obtain ⟨m', hm, hf⟩ := e7 ((((seen.add 17).add 7).add 13).add 13)
  exact ⟨_, m', by decide, chain (chain (chain (chain (chain (chain (st1 text text.size must first a b seen) (st2 ..)) (e3 _)) (sf1 ..)) (e5 _)) (sf3 ..)) hm, hf⟩

noncomputable def nextA (text : Array Nat) : Nat → Nat → Option Nat
  | 0, _ => none
  | n + 1, s => if escA (text.getD s 0) then some s else nextA text n (s + 1)

theorem search_loop (text : Array Nat) : ∀ (n s : Nat) (must first : Bool) (a b : Option Nat) (seen : Sre.Seen), s + n = text.size →
    ∃ N m', N ≤ 12 * (n + 1) ∧ M.runFor N (at0 text s must first a b seen) = m' ∧ (match nextA text n s with | some q => Found q m' | none => m'.outcome = some .failed)
  | 0, s, must, first, a, b, seen, h => by
    have : s = text.size := h
    subst this
    exact try_end text must first a b seen
  | n + 1, s, must, first, a, b, seen, h => by
    have hs : s < text.size := by omega
    cases he : escA (text.getD s 0) with
    | true =>
      obtain ⟨N, m', h1, h2, h3⟩ := try_yes text s must first a b seen hs he
      refine ⟨N, m', by omega, h2, ?_⟩
      unfold nextA; rw [he, if_pos rfl]; exact h3
    | false =>
      obtain ⟨N, seen', h1, h2⟩ := try_no text s must first a b seen hs he
      obtain ⟨N', m', h1', h2', h3'⟩ := search_loop text n (s + 1) false false (some s) b seen' (by omega)
      refine ⟨N + N', m', by omega, chain h2 h2', ?_⟩
      unfold nextA; rw [he, if_neg Bool.false_ne_true]; exact h3'

theorem searchA (text : Array Nat) (s : Nat) (must : Bool) (hs : s ≤ text.size) :
    ∃ N m', N ≤ 12 * (text.size + 2) ∧ M.runFor N (Sre.forSearch codeA text 1 s text.size must) = m' ∧ (match nextA text (text.size - s) s with | some q => Found q m' | none => m'.outcome = some .failed) := by
  by_cases hlt : s < text.size
  · have e : Sre.forSearch codeA text 1 s text.size must = at0 text s must true none none (({} : Sre.Seen).add 14) := by
      show (if (decide (s > text.size) || decide (text.size - s < 1)) = true then _ else _) = _
      rw [if_neg (by simp; omega)]; rfl
    rw [e]
    obtain ⟨N, m', h1, h2, h3⟩ := search_loop text (text.size - s) s must true none none (({} : Sre.Seen).add 14) (by omega)
    exact ⟨N, m', Nat.le_trans h1 (by omega), h2, h3⟩
  · have e0 : s = text.size := by omega
    subst e0
    rw [Nat.sub_self]
    refine ⟨1, _, by omega, rfl, ?_⟩
    show (M.runFor 1 (Sre.forSearch codeA text 1 text.size text.size must)).outcome = some .failed
    have e : Sre.forSearch codeA text 1 text.size text.size must = M.say { code := codeA, text, lim := text.size, start := text.size, pc := 5, pos := text.size, handed := text.size, marks := #[none, none], mustAdvance := must, seen := ({} : Sre.Seen).add 14 } false := by
      show (if (decide (text.size > text.size) || decide (text.size - text.size < 1)) = true then _ else _) = _
      rw [if_pos (by simp)]; rfl
    rw [e]; rfl
end Mine
open PySem PySem.W PyProof.Rows
set_option Elab.async false
set_option linter.unusedVariables false
set_option maxRecDepth 100000
namespace Mine
open PySem.Sre

/-! the search machine of ESCAPE -/
noncomputable def codeE : Array Nat := #[14, 14, 4, 1, 1, 9, 4294967295, 4, 268435456, 0, 0, 0, 0, 0, 0, 13, 11, 9, 4294967295, 4, 268435456, 0, 0, 0, 0, 0, 0, 1]
noncomputable def escE (c : Nat) : Bool := decide (c < 32) || c == 34 || c == 92

noncomputable def bitE (c : Nat) : Bool := decide (c < 256) && (codeE.getD (5 + (1 + c / 32)) 0).testBit (c % 32)
noncomputable def bitE' (c : Nat) : Bool := decide (c < 256) && (codeE.getD (17 + (1 + c / 32)) 0).testBit (c % 32)
theorem bitE_small : ∀ c : Fin 256, bitE c.val = escE c.val ∧ bitE' c.val = escE c.val := by decide +kernel
theorem bitE_eq (c : Nat) : bitE c = escE c := by
  by_cases h : c < 256
  · exact (bitE_small ⟨c, h⟩).1
  · have e : escE c = false := by unfold escE; simp; omega
    rw [e]; unfold bitE; simp [h]
theorem bitE_eq' (c : Nat) : bitE' c = escE c := by
  by_cases h : c < 256
  · exact (bitE_small ⟨c, h⟩).2
  · have e : escE c = false := by unfold escE; simp; omega
    rw [e]; unfold bitE'; simp [h]

theorem setE (c : Nat) (seen : Sre.Seen) : ∃ seen', inSet codeE c 28 5 true seen = .ok (escE c, seen') := by
  show ∃ seen', (if bitE c then .ok (true, seen.add 9) else inSet codeE c 27 14 true (seen.add 9)) = Except.ok (escE c, seen')
  rw [bitE_eq]
  cases h1 : escE c with
  | true => exact ⟨_, rfl⟩
  | false => exact ⟨_, rfl⟩
theorem accE (c : Nat) (seen : Sre.Seen) : ∃ seen', accepts codeE 15 c seen = .ok (escE c, seen') := by
  show ∃ seen', inSet codeE c 28 17 true seen = _
  show ∃ seen', (if bitE' c then .ok (true, seen.add 9) else inSet codeE c 27 26 true (seen.add 9)) = Except.ok (escE c, seen')
  rw [bitE_eq']
  cases h1 : escE c with
  | true => exact ⟨_, rfl⟩
  | false => exact ⟨_, rfl⟩

noncomputable def nextE (text : Array Nat) : Nat → Nat → Option Nat
  | 0, _ => none
  | n + 1, s => if escE (text.getD s 0) then some s else nextE text n (s + 1)

noncomputable def FoundE (s : Nat) (m : M) : Prop := m.outcome = some .matched ∧ m.start = s ∧ m.handed = s + 1 ∧ m.lastmark = -1 ∧ m.lastindex = -1

theorem admitted_is (m : M) (hc : m.code = codeE) : ∀ (n s : Nat) (seen : Sre.Seen), s + n = m.lim → ∃ seen', M.admitted m (n + 1) s seen = .ok (nextE m.text n s, seen')
  | 0, s, seen, h => by
    unfold M.admitted
    rw [if_pos (by omega)]
    exact ⟨_, rfl⟩
  | n + 1, s, seen, h => by
    unfold M.admitted nextE
    rw [if_neg (by omega), hc]
    obtain ⟨seen', e⟩ := setE (m.text.getD s 0) seen
    rw [show codeE.size = 28 from rfl, e]
    cases h1 : escE (m.text.getD s 0) with
    | true => exact ⟨_, rfl⟩
    | false => exact admitted_is m hc n (s + 1) seen' (by omega)

theorem nextE_lt (text : Array Nat) : ∀ (n s q : Nat), nextE text n s = some q → s ≤ q ∧ q < s + n ∧ escE (text.getD q 0) = true
  | 0, _, _, h => by cases h
  | n + 1, s, q, h => by
    unfold nextE at h
    cases h1 : escE (text.getD s 0) with
    | true => rw [h1, if_pos rfl] at h; cases h; exact ⟨by omega, by omega, h1⟩
    | false =>
      rw [h1, if_neg Bool.false_ne_true] at h
      obtain ⟨a, b, c⟩ := nextE_lt text n (s + 1) q h
      exact ⟨by omega, by omega, c⟩

noncomputable def g0 (s : Nat) (first : Bool) : Sre.Frame := { wait := .nextStart, pc := 15, pos := s, outermost := first }
noncomputable def midE (text : Array Nat) (s : Nat) (first : Bool) (pc pos handed : Nat) (frames : List Sre.Frame) (weight : Nat) (answer : Option Bool) (seen : Sre.Seen) : M :=
  { code := codeE, text, lim := text.size, start := s, lastStart := text.size, mustAdvance := false, pc, pos, handed, outermost := first, marks := #[], lastmark := -1, lastindex := -1, frames, weight, answer, seen }

theorem runE (text : Array Nat) (s : Nat) (first : Bool) (seen : Sre.Seen) (hs : s < text.size) (he : escE (text.getD s 0) = true) : ∃ m', M.runFor 4 (midE text s first 15 s s [g0 s first] 1 none seen) = m' ∧ FoundE s m' := by
  obtain ⟨seen', h⟩ := accE (text.getD s 0) (seen.add 13)
  have s1 : M.runFor 1 (midE text s first 15 s s [g0 s first] 1 none seen) = midE text s first 27 (s + 1) s [g0 s first] 1 none seen' := by
    show (if s ≥ text.size then _ else match accepts codeE 15 (text.getD s 0) (seen.add 13) with | .error why => _ | .ok (false, seen) => _ | .ok (true, seen) => _) = _
    rw [if_neg (Nat.not_le.mpr hs), h, he]; rfl
  have s2 : M.runFor 1 (midE text s first 27 (s + 1) s [g0 s first] 1 none seen') = midE text s first 27 (s + 1) (s + 1) [g0 s first] 1 (some true) (seen'.add 1) := by
    show (if (first && ((false && (s + 1) != text.size) || (false && (s + 1) == s))) = true then _ else _) = _
    cases first <;> rfl
  exact ⟨_, chain (n := 3) (chain (n := 2) (chain (n := 1) s1 s2) (m := 1) (z := midE text s first 15 s (s + 1) [] 0 (some true) (seen'.add 1)) rfl) (m := 1) rfl, rfl, rfl, rfl, rfl, rfl⟩

theorem searchE (text : Array Nat) (s : Nat) (must : Bool) (hs : s ≤ text.size) :
    ∃ N m', N ≤ 4 ∧ M.runFor N (Sre.forSearch codeE text 0 s text.size must) = m' ∧ (match nextE text (text.size - s) s with | some q => FoundE q m' | none => m'.outcome = some .failed) := by
  by_cases hlt : s < text.size
  · let m₀ : M := { code := codeE, text, lim := text.size, start := s, lastStart := text.size, pc := 15, pos := s, handed := s, marks := #[], mustAdvance := must, seen := ({} : Sre.Seen).add 14 }
    have e : Sre.forSearch codeE text 0 s text.size must = m₀.attemptFrom s true := by
      show (if (decide (s > text.size) || decide (text.size - s < 1)) = true then _ else _) = _
      rw [if_neg (by simp; omega)]; rfl
    obtain ⟨seen', ha⟩ := admitted_is m₀ rfl (text.size - s) s (({} : Sre.Seen).add 14) (by show s + (text.size - s) = text.size; omega)
    have ha' : M.admitted m₀ (text.size + 1 - s) s (({} : Sre.Seen).add 14) = .ok (nextE text (text.size - s) s, seen') := by
      rw [show text.size + 1 - s = text.size - s + 1 by omega]; exact ha
    rw [e]
    have e2 : m₀.attemptFrom s true = (match M.admitted m₀ (text.size + 1 - s) s (({} : Sre.Seen).add 14) with
      | .ok (some s, seen) => { m₀ with mustAdvance := false, seen }.attemptAt s true
      | .ok (none, seen) => { m₀ with seen }.say false
      | .error why => m₀.stick why) := rfl
    rw [e2, ha']
    cases hq : nextE text (text.size - s) s with
    | none => exact ⟨1, _, by decide, rfl, rfl⟩
    | some q =>
      obtain ⟨h1, h2, h3⟩ := nextE_lt text _ _ _ hq
      obtain ⟨m', hm, hf⟩ := runE text q true seen' (by omega) h3
      exact ⟨4, m', by decide, hm, hf⟩
  · have e0 : s = text.size := by omega
    subst e0
    rw [Nat.sub_self]
    refine ⟨1, _, by decide, rfl, ?_⟩
    show (M.runFor 1 (Sre.forSearch codeE text 0 text.size text.size must)).outcome = some .failed
    have e : Sre.forSearch codeE text 0 text.size text.size must = M.say { code := codeE, text, lim := text.size, start := text.size, pc := 15, pos := text.size, handed := text.size, marks := #[], mustAdvance := must, seen := ({} : Sre.Seen).add 14 } false := by
      show (if (decide (text.size > text.size) || decide (text.size - text.size < 1)) = true then _ else _) = _
      rw [if_pos (by simp)]; rfl
    rw [e]; rfl
end Mine
open PySem PySem.W PyProof.Rows
set_option Elab.async false
set_option linter.unusedVariables false
set_option maxRecDepth 100000
namespace Mine

theorem plainAttrs_pattern : PlainAttrs "re.Pattern" :=
  ⟨⟨"object.__getattribute__", by rw [typeLookup_type, builtinLookup_eq_fast]; kernel_rfl, by decide +kernel⟩, by rw [typeLookup_type, builtinLookup_eq_fast]; kernel_rfl⟩
theorem plainAttrs_match : PlainAttrs "re.Match" :=
  ⟨⟨"object.__getattribute__", by rw [typeLookup_type, builtinLookup_eq_fast]; kernel_rfl, by decide +kernel⟩, by rw [typeLookup_type, builtinLookup_eq_fast]; kernel_rfl⟩
theorem slot_sub : Slot "re.Pattern" "sub" "re.Pattern.sub" :=
  .of (owner := "re.Pattern") (n := "sub") (by rw [typeLookup_type, builtinLookup_eq_fast]; kernel_rfl) (by decide +kernel) (by decide +kernel) (by decide +kernel)
    (by first | exact .inl (by decide +kernel) | exact .inr (by decide +kernel)) (by rw [isSubtype_type]; kernel_rfl)
theorem type_sub : typeOf (.builtin "re.Pattern.sub") = pure (.type "method_descriptor") := by show builtinType _ = _; rw [builtinType_eq_fast]; kernel_rfl
theorem entry_sub : entryFor table "re.Pattern.sub" = some Builtin.«re.Pattern.sub» := entryFor_of_tree (by kernel_rfl)
theorem slot_group : Slot "re.Match" "group" "re.Match.group" :=
  .of (owner := "re.Match") (n := "group") (by rw [typeLookup_type, builtinLookup_eq_fast]; kernel_rfl) (by decide +kernel) (by decide +kernel) (by decide +kernel)
    (by first | exact .inl (by decide +kernel) | exact .inr (by decide +kernel)) (by rw [isSubtype_type]; kernel_rfl)
theorem type_group : typeOf (.builtin "re.Match.group") = pure (.type "method_descriptor") := by show builtinType _ = _; rw [builtinType_eq_fast]; kernel_rfl
theorem entry_group : entryFor table "re.Match.group" = some Builtin.«re.Match.group» := entryFor_of_tree (by kernel_rfl)
theorem entry_subloop : entryFor table "re.Pattern.sub.loop" = some Builtin.«re.Pattern.sub.loop» := entryFor_of_tree (by kernel_rfl)
theorem plain_subloop : plainId "re.Pattern.sub.loop" = true := by decide +kernel
theorem args_sub (a b c : Value) : argsOk "re.Pattern.sub" ⟨[a, b, c], []⟩ := by unfold argsOk; kernel_rfl
theorem args_group (a b : Value) : argsOk "re.Match.group" ⟨[a, b], []⟩ := by unfold argsOk; kernel_rfl

open PySem.Builtin.Re PySem.Sre
section
variable {Md : Model} {A : Around} {E : Value → Shared → Prop} {s : Shared}

theorem runFor_done {m : Sre.M} (h : m.outcome.isSome = true) : ∀ k, Sre.M.runFor k m = m
  | 0 => rfl
  | k + 1 => by show (if m.outcome.isSome then m else _) = m; rw [h]; rfl

theorem wpAny_reDrive {Q : Sre.M → Shared → Prop} : ∀ (T N : Nat) (m : Sre.M), N ≤ 4 * T → 0 < T → (Sre.M.runFor N m).outcome.isSome = true → Q (Sre.M.runFor N m) s → wpAny Md A (reDrive T m) Q E s
  | 0, _, _, _, h, _, _ => absurd h (Nat.lt_irrefl _)
  | T + 1, N, m, hN, _, ho, hQ => by
    show wpAny Md A (if (Sre.M.runFor 4 m).outcome.isSome then pure (Sre.M.runFor 4 m) else (do rule "sre.turn"; reDrive T (Sre.M.runFor 4 m))) Q E s
    by_cases h4 : N ≤ 4
    · have e : Sre.M.runFor 4 m = Sre.M.runFor N m := by
        rw [show 4 = N + (4 - N) by omega, runFor_add, runFor_done ho]
      rw [e, if_pos ho]
      exact wpAny_pure hQ
    · have e : Sre.M.runFor N m = Sre.M.runFor (N - 4) (Sre.M.runFor 4 m) := by rw [← runFor_add]; congr 1; omega
      cases h : (Sre.M.runFor 4 m).outcome.isSome with
      | true =>
        rw [if_pos rfl]
        rw [e, runFor_done h] at hQ
        exact wpAny_pure hQ
      | false =>
        rw [if_neg Bool.false_ne_true]
        rw [e] at ho hQ
        exact wpAny_bind (wpAny_rule (wpAny_reDrive T (N - 4) _ (by omega) (by omega) ho hQ))

theorem wpAny_rules {α : Type} {l : List α} {f : α → Bool} {g : α → String} {Q : PUnit → Shared → Prop} (h : Q ⟨⟩ s) :
    wpAny Md A (forIn l PUnit.unit fun i _ => if f i = true then (do rule (g i); pure (ForInStep.yield PUnit.unit)) else pure (ForInStep.yield PUnit.unit)) Q E s := by
  induction l with
  | nil => exact wpAny_pure h
  | cons a r ih =>
    rw [List.forIn_cons]
    refine wpAny_bind (wpAny_ite ?_)
    split
    · exact wpAny_bind (wpAny_rule (wpAny_pure ih))
    · exact wpAny_pure ih

theorem wpAny_found {m m' : Sre.M} {N : Nat} {Q : Option Sre.M → Shared → Prop} (hN : N ≤ 1000000000) (h : Sre.M.runFor N m = m') (ho : m'.outcome = some .matched) (hQ : Q (some m') s) : wpAny Md A (reRunToEnd m) Q E s := by
  delta reRunToEnd
  subst h
  refine wpAny_bind (wpAny_reDrive (2 ^ 64) N m (by omega) (by decide) (by rw [ho]; rfl) ?_)
  refine wpAny_bind (wpAny_rules ?_)
  rw [ho]
  exact wpAny_pure hQ
theorem wpAny_lost {m m' : Sre.M} {N : Nat} {Q : Option Sre.M → Shared → Prop} (hN : N ≤ 1000000000) (h : Sre.M.runFor N m = m') (ho : m'.outcome = some .failed) (hQ : Q none s) : wpAny Md A (reRunToEnd m) Q E s := by
  delta reRunToEnd
  subst h
  refine wpAny_bind (wpAny_reDrive (2 ^ 64) N m (by omega) (by decide) (by rw [ho]; rfl) ?_)
  refine wpAny_bind (wpAny_rules ?_)
  rw [ho]
  exact wpAny_pure hQ
end

structure PatAt (h : PH) (a : Addr) (code : Array Nat) (groups : Nat) : Prop where
  is : ∃ (o ot : Obj) (tp : Addr) (fs : Array Value) (n : Nat), h a = some o ∧ o.cls = .type "re.Pattern" ∧ o.dict = none ∧ o.data = .fields fs ∧ fs.getD 2 .none = rawInt groups ∧ fs.getD 5 .none = .ref tp ∧ fs.getD 6 .none = rawInt 0 ∧
    h tp = some ot ∧ ot.data = .seq (code.map fun (w : Nat) => rawInt w) n

section
variable {G : Cx} {Fs : List Env} {k : Nat} {A : Around} {E : Value → Shared → Prop} {s : Shared} {R : PH}

theorem code_back (code : Array Nat) : ((code.map fun (w : Nat) => rawInt w).map reRawOf).map (·.toNat) = code := by
  rw [Array.map_map, Array.map_map]
  have : (((fun (x : Int) => x.toNat) ∘ reRawOf) ∘ fun (w : Nat) => rawInt ↑w) = id := by
    funext w; rfl
  rw [this, Array.map_id]

theorem wpAny_wholeTarget {pa : Addr} {code : Array Nat} {groups : Nat} {x : Str} {t : Tok} {Q : ReTarget → Shared → Prop} {Md : Model} (hp : PatAt s.heap.get? pa code groups)
    (h : Q { pattern := .ref pa, string := .str x t, code, text := x.cps, kind := 0, groups, pos := 0, lim := x.cps.size } s) : wpAny Md A (reWholeTarget (.ref pa) (.str x t)) Q E s := by
  obtain ⟨o, ot, tp, fs, n, e1, e2, e2', e3, e4, e5, e6, e7, e8⟩ := hp.is
  delta reWholeTarget
  refine wpAny_bind (wpAny_fieldsOf e1 e3 ?_)
  refine wpAny_bind (wpAny_of_eq (a := (x.cps, 0)) rfl ?_)
  dsimp only
  rw [e6, e4, e5]
  refine wpAny_bind (wpAny_pure ?_)
  refine wpAny_bind (m := reRawItems (.ref tp)) (wpAny_bind (wpAny_seqItems e7 e8 (wpAny_pure (wpAny_pure ?_))))
  rw [Option.getD_some, code_back]
  exact h

theorem RepL_strs {R : PH} : ∀ {texts : List Str} {its : List Value}, RepL R (texts.map V.str) its → ∃ l : List (Str × Tok), its = strValues l ∧ l.map (·.1) = texts
  | [], _, e => ⟨[], e, rfl⟩
  | x :: xs, _, ⟨y, r, e, ⟨t, p⟩, q⟩ => by
    obtain ⟨l, h1, h2⟩ := RepL_strs (texts := xs) q
    exact ⟨(x, t) :: l, by rw [e, p, h1]; rfl, by rw [← h2]; rfl⟩
noncomputable def cat (texts : List Str) : Str := ⟨(texts.flatMap (·.cps.toList)).toArray⟩
end
end Mine
open PySem PySem.W PyProof.Rows
set_option Elab.async false
set_option linter.unusedVariables false
set_option maxRecDepth 100000
namespace Mine
open PySem.Builtin.Re PySem.Sre

theorem glued_nil (sep : Str) (hs : sep.cps = #[]) (parts : List Str) : Builtin.Str.glued sep parts = cat parts := by
  have key : ∀ (r : List Str) (a : Array Nat), (r.foldl (fun acc p => acc ++ sep.cps ++ p.cps) a) = a ++ (r.flatMap (·.cps.toList)).toArray := by
    intro r
    induction r with
    | nil => intro a; simp
    | cons p r ih =>
      intro a
      rw [List.foldl_cons, ih, hs]
      apply Array.ext'
      simp
  unfold Builtin.Str.glued cat
  cases parts with
  | nil => rfl
  | cons p r =>
    show (⟨(r.foldl (fun acc p => acc ++ sep.cps ++ p.cps) p.cps)⟩ : Str) = _
    rw [key]
    congr 1
    apply Array.ext'
    simp

noncomputable def outL (esc : Nat → Bool) (tr : Nat → Str) (cs : List Nat) : List Nat := cs.flatMap fun c => if esc c then (tr c).cps.toList else [c]

theorem outL_plain {esc : Nat → Bool} {tr : Nat → Str} : ∀ {cs : List Nat}, (∀ c ∈ cs, esc c = false) → outL esc tr cs = cs
  | [], _ => rfl
  | c :: r, h => by
    unfold outL
    rw [List.flatMap_cons, h c List.mem_cons_self]
    show [c] ++ outL esc tr r = c :: r
    rw [outL_plain fun d hd => h d (List.mem_cons_of_mem _ hd)]; rfl
theorem outL_append {esc : Nat → Bool} {tr : Nat → Str} (a b : List Nat) : outL esc tr (a ++ b) = outL esc tr a ++ outL esc tr b := by unfold outL; rw [List.flatMap_append]

theorem cat_append (a b : List Str) : (cat (a ++ b)).cps.toList = (cat a).cps.toList ++ (cat b).cps.toList := by unfold cat; simp

structure Finds (code : Array Nat) (groups : Nat) (esc : Nat → Bool) (text : Array Nat) : Prop where
  search : ∀ s must, s ≤ text.size → (∃ N m' q, N ≤ 1000000000 ∧ Sre.M.runFor N (Sre.forSearch code text groups s text.size must) = m' ∧ m'.outcome = some .matched ∧ s ≤ q ∧ q < text.size ∧ esc (text.getD q 0) = true ∧ (∀ i, s ≤ i → i < q → esc (text.getD i 0) = false) ∧
      m'.start = q ∧ m'.handed = q + 1 ∧ (List.range groups).any (fun g => match m'.marks.getD (2 * g) none, m'.marks.getD (2 * g + 1) none with | some b, some e => decide (((2 * g + 1 : Nat) : Int) ≤ m'.lastmark) && decide (e < b) | _, _ => false) = false) ∨
    (∃ N m', N ≤ 1000000000 ∧ Sre.M.runFor N (Sre.forSearch code text groups s text.size must) = m' ∧ m'.outcome = some .failed ∧ ∀ i, s ≤ i → i < text.size → esc (text.getD i 0) = false)

theorem nextA_is (text : Array Nat) : ∀ (n s : Nat), (∃ q, nextA text n s = some q ∧ s ≤ q ∧ q < s + n ∧ escA (text.getD q 0) = true ∧ ∀ i, s ≤ i → i < q → escA (text.getD i 0) = false) ∨ (nextA text n s = none ∧ ∀ i, s ≤ i → i < s + n → escA (text.getD i 0) = false)
  | 0, s => .inr ⟨rfl, fun i h1 h2 => by omega⟩
  | n + 1, s => by
    unfold nextA
    cases h : escA (text.getD s 0) with
    | true => exact .inl ⟨s, by rw [if_pos rfl], by omega, by omega, h, fun i h1 h2 => by omega⟩
    | false =>
      rw [if_neg Bool.false_ne_true]
      rcases nextA_is text n (s + 1) with ⟨q, h1, h2, h3, h4, h5⟩ | ⟨h1, h2⟩
      · refine .inl ⟨q, h1, by omega, by omega, h4, fun i h6 h7 => ?_⟩
        by_cases e : i = s
        · subst e; exact h
        · exact h5 i (by omega) h7
      · refine .inr ⟨h1, fun i h6 h7 => ?_⟩
        by_cases e : i = s
        · subst e; exact h
        · exact h2 i (by omega) (by omega)
theorem nextE_is (text : Array Nat) : ∀ (n s : Nat), (∃ q, nextE text n s = some q ∧ s ≤ q ∧ q < s + n ∧ escE (text.getD q 0) = true ∧ ∀ i, s ≤ i → i < q → escE (text.getD i 0) = false) ∨ (nextE text n s = none ∧ ∀ i, s ≤ i → i < s + n → escE (text.getD i 0) = false)
  | 0, s => .inr ⟨rfl, fun i h1 h2 => by omega⟩
  | n + 1, s => by
    unfold nextE
    cases h : escE (text.getD s 0) with
    | true => exact .inl ⟨s, by rw [if_pos rfl], by omega, by omega, h, fun i h1 h2 => by omega⟩
    | false =>
      rw [if_neg Bool.false_ne_true]
      rcases nextE_is text n (s + 1) with ⟨q, h1, h2, h3, h4, h5⟩ | ⟨h1, h2⟩
      · refine .inl ⟨q, h1, by omega, by omega, h4, fun i h6 h7 => ?_⟩
        by_cases e : i = s
        · subst e; exact h
        · exact h5 i (by omega) h7
      · refine .inr ⟨h1, fun i h6 h7 => ?_⟩
        by_cases e : i = s
        · subst e; exact h
        · exact h2 i (by omega) (by omega)

theorem finds_A (text : Array Nat) (hn : text.size ≤ 1000000) : Finds codeA 1 escA text := ⟨fun s must hs => by
  obtain ⟨N, m', h1, h2, h3⟩ := searchA text s must hs
  rcases nextA_is text (text.size - s) s with ⟨q, e1, e2, e3, e4, e5⟩ | ⟨e1, e2⟩
  · rw [e1] at h3
    obtain ⟨f1, f2, f3, f4, f5, f6⟩ := h3
    refine .inl ⟨N, m', q, by omega, h2, f1, e2, by omega, e4, e5, f2, f3, ?_⟩
    show ((match m'.marks.getD (2 * 0) none, m'.marks.getD (2 * 0 + 1) none with | some b, some e => decide (((2 * 0 + 1 : Nat) : Int) ≤ m'.lastmark) && decide (e < b) | _, _ => false) || false) = false
    rw [f4]
    show ((decide (((2 * 0 + 1 : Nat) : Int) ≤ m'.lastmark) && decide (q + 1 < q)) || false) = false
    have : decide (q + 1 < q) = false := by simp
    rw [this, Bool.and_false]; rfl
  · rw [e1] at h3
    exact .inr ⟨N, m', by omega, h2, h3, fun i h4 h5 => e2 i h4 (by omega)⟩⟩
theorem finds_E (text : Array Nat) : Finds codeE 0 escE text := ⟨fun s must hs => by
  obtain ⟨N, m', h1, h2, h3⟩ := searchE text s must hs
  rcases nextE_is text (text.size - s) s with ⟨q, e1, e2, e3, e4, e5⟩ | ⟨e1, e2⟩
  · rw [e1] at h3
    obtain ⟨f1, f2, f3, f4, f5⟩ := h3
    exact .inl ⟨N, m', q, by omega, h2, f1, e2, by omega, e4, e5, f2, f3, rfl⟩
  · rw [e1] at h3
    exact .inr ⟨N, m', by omega, h2, h3, fun i h4 h5 => e2 i h4 (by omega)⟩⟩

section
variable {G : Cx} {Fs : List Env} {k : Nat} {A : Around} {s : Shared}

structure KeepD (G : Cx) (Fs : List Env) (D : Addr) (R : PH) (s : Shared) (R' : PH) (s' : Shared) : Prop where
  adv : Adv s s'
  ext : ∀ b o, b ∉ G.T → b ≠ D → s.heap.get? b = some o → ∃ o', s'.heap.get? b = some o' ∧ Like (InFr Fs b) o o'
  up : Sub R R'
  new : ∀ b o, R' b = some o → R b = some o ∨ s.heap.get? b = Option.none
  base : Base G Fs R' s'
  noD : R' D = Option.none
theorem KeepD.refl {D : Addr} {R : PH} (B : Base G Fs R s) (h : R D = Option.none) : KeepD G Fs D R s R s := ⟨.refl s, fun _ o _ _ e => ⟨o, e, .refl o⟩, .refl _, fun _ _ e => .inl e, B, h⟩
theorem KeepD.trans {D : Addr} {R R₁ R₂ : PH} {s₁ s₂ : Shared} (x : KeepD G Fs D R s R₁ s₁) (y : KeepD G Fs D R₁ s₁ R₂ s₂) : KeepD G Fs D R s R₂ s₂ := by
  refine ⟨x.adv.trans y.adv, fun b o h1 h2 e => (let ⟨o1, e1, l1⟩ := x.ext b o h1 h2 e; let ⟨o2, e2, l2⟩ := y.ext b o1 h1 h2 e1; ⟨o2, e2, l1.trans l2⟩), x.up.trans y.up, fun b o e => ?_, y.base, y.noD⟩
  rcases y.new b o e with q | q
  · exact x.new b o q
  · cases qs : s.heap.get? b with
    | none => exact .inr rfl
    | some o' =>
      exfalso
      by_cases hb : b ∈ G.T
      · rw [y.base.noT b hb] at e; cases e
      by_cases hD : b = D
      · subst hD; rw [y.noD] at e; cases e
      · obtain ⟨o1, e1, _⟩ := x.ext b o' hb hD qs
        rw [e1] at q
        cases q
theorem Grow.keepD {D : Addr} {R R' : PH} {s' : Shared} {ob : Obj} (g : Grow G Fs R s R' s') (h : R D = Option.none) (hD : s.heap.get? D = some ob) : KeepD G Fs D R s R' s' :=
  ⟨g.adv, fun b o h1 _ e => g.ext b o h1 e, g.up, g.new, g.base, by
    cases q : R' D with
    | none => rfl
    | some o' => rcases g.new D o' q with e | e
                 · rw [h] at e; cases e
                 · rw [hD] at e; cases e⟩
theorem push_D {D : Addr} {R : PH} {its : Array Value} {x : Value} {E : Value → Shared → Prop} {Q : Unit → Shared → Prop} {Md : Model} (B : Base G Fs R s) (hR : R D = Option.none) (hp : s.heap.PlainList D its) (hn : its.size ≤ 1000000)
    (h : ∀ h', KeepD G Fs D R s R { s with heap := h' } → h'.PlainList D (its.push x) → Q () { s with heap := h' }) : wpAny Md A (updateSeq D (·.push x)) Q E s := by
  obtain ⟨n, e⟩ := hp
  have hup : (s.heap.update D (Obj.mapSeq (·.push x))).get? D = some { cls := .type "list", data := .seq (its.push x) (n + 1) } := by
    rw [Heap.get?_update_self _ e (by rw [Obj.mapSeq_push_plain]; rfl), Obj.mapSeq_push_plain]
  have hs := Heap.SameBut.update s.heap D (Obj.mapSeq (·.push x))
  refine wpAny_updateSeq e rfl (h _ ⟨⟨_, s.toks, rfl⟩, fun b o _ hb q => ⟨o, hs.extBut b o hb q, .refl o⟩, .refl _, fun _ _ q => .inl q, ⟨B.sub0, fun b o q => hs.extBut b o (by rintro rfl; rw [hR] at q; cases q) (B.sub b o q), tab_sameBut B.tab hs (fun o vs q q' => by rw [e] at q; cases q; cases q'), B.noT, B.gens, B.os, fun ev he => (B.fr ev he).step (fun b o es n q1 q2 => ⟨o, es, n, hs.extBut b o (by rintro rfl; rw [e] at q1; cases q1; cases q2) q1, q2⟩) fun _ _ _ e => e⟩, hR⟩ ⟨n + 1, hup⟩)
    (by show its.size ≤ 16777216; omega) (by show (its.push x).size ≤ 16777217; rw [Array.size_push]; omega)

theorem len2 {α β : Type} (l : List α) (f : α → List β) (h : ∀ a, (f a).length ≤ 2) : (l.flatMap f).length ≤ 2 * l.length := by
  induction l with
  | nil => simp
  | cons a r ih =>
    rw [List.flatMap_cons, List.length_append, List.length_cons]
    have := h a
    omega
theorem new_match {R : PH} {pa : Addr} {x : Str} {t : Tok} {groups lim q : Nat} {m : Sre.M} {E : Value → Shared → Prop} {Q : Value → Shared → Prop} {Md : Model} (B : Base G Fs R s) (hm1 : m.start = q) (hm2 : m.handed = q + 1)
    (hsp : (List.range groups).any (fun g => match m.marks.getD (2 * g) none, m.marks.getD (2 * g + 1) none with | some b, some e => decide (((2 * g + 1 : Nat) : Int) ≤ m.lastmark) && decide (e < b) | _, _ => false) = false) (hg : groups ≤ 1000)
    (h : ∀ val s' R', Grow G Fs R s R' s' → Rep R' (.mtch x q) val → Q val s') : wpAny Md A (reNewMatch (.ref pa) (.str x t) groups 0 lim m) Q E s := by
  delta reNewMatch
  dsimp only
  refine wpAny_ite ?_
  split
  · rename_i q'; exact absurd (hsp.symm.trans q') Bool.false_ne_true
  generalize hsps : List.flatMap _ (List.range groups) = spans
  have hlen : spans.length ≤ 2 * groups := by
    rw [← hsps]
    refine Nat.le_trans (len2 (List.range groups) _ fun a => ?_) (by rw [List.length_range]; exact Nat.le_refl _)
    split <;> simp
  refine wpAny_bind (wpAny_newObj_type ?_ (by show (rawInt m.start :: rawInt m.handed :: spans).toArray.size ≤ 16777216; simp; omega))
  refine wpAny_newObj_type ?_ (by size_fits)
  have g₁ := Grow.pushed (tk := s.toks) (o := { cls := .type "tuple", data := .seq (rawInt m.start :: rawInt m.handed :: spans).toArray }) B
  have g₂ := Grow.pushed (tk := s.toks) (o := { cls := .type "re.Match", data := .fields [.str x t, .ref pa, rawInt 0, rawInt lim, rawInt m.lastindex, .ref s.heap.objs.size].toArray }) g₁.base
  refine h _ _ _ (g₁.trans g₂) ⟨_, rfl, _, _, s.heap.objs.size, _, _, t, 0, PH.put_self .., rfl, rfl, rfl, rfl, rfl, g₂.up _ _ (PH.put_self ..), rfl, ?_, ?_⟩
  · rw [hm1]; rfl
  · rw [hm2]; rfl
end
end Mine
open PySem PySem.W PyProof.Rows
set_option Elab.async false
set_option linter.unusedVariables false
set_option maxRecDepth 100000
namespace Mine
open PySem.Builtin.Re PySem.Sre

section
variable {G : Cx} {Fs : List Env} {k : Nat}

theorem join_ok {sep : Str} (hs : sep.cps = #[]) {texts : List Str} (h : (cat texts).length ≤ 1000000) : JoinOk sep texts = true := by
  unfold JoinOk Builtin.Str.tooLong
  have key : ∀ (l : List Str) (n : Nat), l.foldl (fun a (x : Str) => a + x.length + sep.length) n = n + (l.flatMap (·.cps.toList)).length := by
    intro l
    induction l with
    | nil => intro n; simp
    | cons x r ih =>
      intro n
      rw [List.foldl_cons, ih, List.flatMap_cons, List.length_append]
      have : sep.length = 0 := by unfold Str.length; rw [hs]; rfl
      rw [this, Array.length_toList]
      show n + x.length + 0 + _ = n + (x.length + _)
      omega
  rw [List.foldl_toArray', key]
  · have : (cat texts).length = (texts.flatMap (·.cps.toList)).length := by unfold cat Str.length; simp
    rw [this] at h
    rw [Bool.not_eq_true', decide_eq_false_iff_not]
    show ¬ (0 + _ > 16777216)
    omega
  · rfl

theorem slice_list (x : Str) (p q : Nat) : ((⟨x.cps.extract p q⟩ : Str)).cps.toList = (x.cps.toList.take q).drop p := by
  show (x.cps.extract p q).toList = _
  rw [Array.toList_extract]
  simp [List.drop_take]

theorem PatAt.up {R R' : PH} {pa : Addr} {code : Array Nat} {groups : Nat} (hp : PatAt R pa code groups) (h : Sub R R') : PatAt R' pa code groups := by
  obtain ⟨o, ot, tp, fs, n', e1, e2, e2', e3, e4, e5, e6, e7, e8⟩ := hp.is
  refine ⟨?_⟩
  exact ⟨o, ot, tp, fs, n', h _ _ e1, e2, e2', e3, e4, e5, e6, h _ _ e7, e8⟩
noncomputable def Lasts (C : PH → Heap → Prop) : Prop := ∀ R R' h h', C R h → Sub R R' → (∀ b o vs, o.cls = .type "code" → o.data = .fields vs → h.get? b = some o → h'.get? b = some o) → C R' h'
theorem Lasts.keepD {C : PH → Heap → Prop} {D : Addr} {R R' : PH} {s s' : Shared} {its : Array Value} (hC : Lasts C) (h : C R s.heap) (kd : KeepD G Fs D R s R' s') (hp : s.heap.PlainList D its) (ht : G.tabOk s.heap) : C R' s'.heap :=
  hC _ _ _ _ h kd.up fun b o vs hc hd e => by
    obtain ⟨o1, e1, l1⟩ := kd.ext b o (notTab ht e (.inl (by rw [hc]; nofun))) (by
      rintro rfl
      obtain ⟨n, e'⟩ := hp
      rw [e] at e'; cases e'; cases hd) e
    rw [l1.eq (fun es n q => by rw [hd] at q; cases q)] at e1; exact e1
theorem Lasts.grow {C : PH → Heap → Prop} {R R' : PH} {s s' : Shared} (hC : Lasts C) (h : C R s.heap) (ht : G.tabOk s.heap) (g : Grow G Fs R s R' s') : C R' s'.heap :=
  hC _ _ _ _ h g.up fun b o vs hc hd e => g.exact (notTab ht e (.inl (by rw [hc]; nofun))) e fun es n q => by rw [hd] at q; cases q

theorem outL_len {esc : Nat → Bool} {tr : Nat → Str} (h : ∀ c, esc c = true → (tr c).cps.size ≤ 20) : ∀ l : List Nat, (outL esc tr l).length ≤ 20 * l.length
  | [] => Nat.le_refl _
  | c :: r => by
    have ih := outL_len h r
    have e : outL esc tr (c :: r) = (if esc c then (tr c).cps.toList else [c]) ++ outL esc tr r := rfl
    rw [e, List.length_append, List.length_cons]
    have : (if esc c then (tr c).cps.toList else [c]).length ≤ 20 := by
      cases hc : esc c with
      | true => exact h c hc
      | false => exact (by decide : 1 ≤ 20)
    clear e h
    omega
theorem sized {its : Array Value} {acc : List Str} (h : RepL (fun _ => none) (acc.map V.str) its.toList) : its.size = acc.length := by
  have := h.length
  rw [List.length_map] at this
  rw [← this, Array.length_toList]
theorem cat_step {x : Str} {esc : Nat → Bool} {tr : Nat → Str} {q : Nat} {acc : List Str} (h5 : q < x.cps.size) (h6 : esc (x.cps.getD q 0) = true) (h : (cat acc).cps.toList = outL esc tr (x.cps.toList.take q)) :
    (cat (acc ++ [tr (x.cps.getD q 0)])).cps.toList = outL esc tr (x.cps.toList.take (q + 1)) := by
  rw [cat_append, h]
  have e1 : x.cps.toList.take (q + 1) = x.cps.toList.take q ++ [x.cps.getD q 0] := by
    rw [List.take_add_one]
    congr 1
    rw [Array.getElem?_toList]
    have : x.cps[q]? = some x.cps[q] := Array.getElem?_eq_getElem h5
    rw [this, Array.getD_eq_getD_getElem?, this]; rfl
  rw [e1, outL_append]
  congr 1
  generalize x.cps.getD q 0 = c at h6
  unfold outL cat
  simp [h6]
theorem cat_mid {x : Str} {esc : Nat → Bool} {tr : Nat → Str} {p q : Nat} {acc : List Str} (hpq : p ≤ q) (h7 : ∀ j, p ≤ j → j < q → esc (x.cps.getD j 0) = false) (h : (cat acc).cps.toList = outL esc tr (x.cps.toList.take p)) :
    (cat (acc ++ [⟨x.cps.extract p q⟩])).cps.toList = outL esc tr (x.cps.toList.take q) := by
  rw [cat_append, h]
  have e1 : x.cps.toList.take q = x.cps.toList.take p ++ (x.cps.toList.take q).drop p := by
    have := List.take_append_drop p (x.cps.toList.take q)
    rw [List.take_take, Nat.min_eq_left hpq] at this
    exact this.symm
  rw [e1, outL_append]
  congr 1
  have e2 : (cat [(⟨x.cps.extract p q⟩ : Str)]).cps.toList = (x.cps.toList.take q).drop p := by
    rw [← slice_list]; unfold cat; simp
  rw [e2, outL_plain fun c hc => ?_]
  obtain ⟨i, hi⟩ := List.mem_iff_getElem?.mp hc
  rw [List.getElem?_drop, List.getElem?_take] at hi
  split at hi
  · rename_i hlt'
    have := h7 (p + i) (Nat.le_add_right _ _) hlt'
    rw [Array.getElem?_toList] at hi
    rw [Array.getD_eq_getD_getElem?, hi] at this
    exact this
  · cases hi
noncomputable def subArgs (pa D : Addr) (x : Str) (tx : Tok) (repl : Value) (n p : Nat) (must : Bool) : Args := ⟨[.ref pa, .str x tx, repl, rawInt 1, rawInt 0, rawInt n, rawInt p, rawInt p, .bool must, .ref D, .bool false], []⟩
noncomputable def SubPost (M : Model) (A : Around) (Rq : Result → Shared → Prop) (fin : Fin) (s' : Shared) : Prop := match fin with | .done f => Rq (.ok f) s' | .again c' => c'.quiet = true ∧ codeAny M A c' Rq s'
noncomputable def subFinP (x : Str) (D : Addr) (n : Nat) : Sem Fin := do
  let joiner ← reSlice x.cps 0 0 0
  let its ← seqItems? (Value.ref D)
  if (its.getD #[]).isEmpty = true then do
    let text ← pure joiner
    if false = true then do
      let t ← holding [text] do
        let i ← mkInt n
        newTuple [text, i]
      ret t
    else ret text
  else do
    let text ← call (Value.builtin (if (0 == 0) = true then "str.join" else "bytes.join")) [joiner, Value.ref D]
    if false = true then do
      let t ← holding [text] do
        let i ← mkInt n
        newTuple [text, i]
      ret t
    else ret text
theorem sub_fin {D : Addr} {x : Str} {esc : Nat → Bool} {tr : Nat → Str} {A : Around} {s₁ : Shared} {R : PH} {its₁ : Array Value} {acc₁ : List Str} {Rq : Result → Shared → Prop} {E : Value → Shared → Prop} {n : Nat} (hx : x.cps.size ≤ 10000) (htr : ∀ c, esc c = true → (tr c).cps.size ≤ 20)
    (hB : Base G Fs R s₁) (hRD : R D = Option.none) (hpl₁ : s₁.heap.PlainList D its₁) (hits₁ : RepL (fun _ => none) (acc₁.map V.str) its₁.toList) (hcat₁ : (cat acc₁).cps.toList = outL esc tr x.cps.toList)
    (hQ : ∀ t' tk, Grow G Fs R s₁ R { s₁ with toks := tk } → Rq (.ok (.ret (.str ⟨(outL esc tr x.cps.toList).toArray⟩ t'))) { s₁ with toks := tk }) : wpAny (model G.prog G.w) A.in1 (subFinP x D n) (SubPost (model G.prog G.w) A Rq) E s₁ := by
  have e0 : cat acc₁ = ⟨(outL esc tr x.cps.toList).toArray⟩ := by rw [← hcat₁]
  rw [← e0] at hQ
  have hej : (x.cps.extract 0 0) = #[] := by apply Array.ext'; simp
  unfold subFinP
  refine wpAny_bind (m := reSlice x.cps 0 0 0) ?_
  show wpAny _ _ (mkStr ⟨x.cps.extract 0 0⟩) _ _ _
  rw [hej]
  refine wpAny_mkStr ?_ (Nat.zero_le _)
  obtain ⟨n₁, eD⟩ := id hpl₁
  refine wpAny_bind (wpAny_seqItems eD rfl ?_)
  rw [Option.getD_some]
  refine wpAny_ite ?_
  by_cases he : its₁.isEmpty = true
  · rw [if_pos he]
    refine wpAny_bind (wpAny_pure (wpAny_ite ?_))
    rw [if_neg Bool.false_ne_true]
    refine wpAny_pure ?_
    have hacc : acc₁ = [] := by
      have := sized hits₁
      rw [Array.isEmpty_iff_size_eq_zero.mp he] at this
      exact List.eq_nil_of_length_eq_zero this.symm
    subst hacc
    exact hQ _ _ (Grow.toks hB _)
  · rw [if_neg he]
    refine wpAny_bind ?_
    obtain ⟨l, hl1, hl2⟩ := RepL_strs hits₁
    have hIs : s₁.heap.IsList D (strValues l).toArray := by
      rw [← hl1]; exact ⟨_, eD, rfl, n₁, by simp⟩
    have hlc : (cat acc₁).length ≤ 1000000 := by
      show (cat acc₁).cps.size ≤ _
      rw [← Array.length_toList, hcat₁]
      exact Nat.le_trans (outL_len htr x.cps.toList) (Nat.le_trans (Nat.mul_le_mul_left 20 hx) (by decide))
    refine SC.join (texts := acc₁) hIs hl2 (join_ok (sep := ⟨#[]⟩) rfl hlc) fun t' tk => wpAny_ite ?_
    rw [if_neg Bool.false_ne_true]
    refine wpAny_pure ?_
    rw [show Txt.join ⟨#[]⟩ acc₁ = cat acc₁ from glued_nil _ rfl _]
    exact hQ _ _ (Grow.toks hB _)
noncomputable def subStepP (pa D : Addr) (x : Str) (tx : Tok) (repl : Value) (groups : Nat) (n : Nat) (m : Sre.M) : Sem Fin := do
  let found ← reNewMatch (Value.ref pa) (Value.str x tx) groups 0 x.cps.size m
  let item ← holding [found] (if ((1 : Int) == 1) = true then call repl [found] else do
    let x ← reFound found
    reExpand repl x)
  if (item != Value.none) = true then do
    updateSeq D fun x => x.push item
    again (Code.builtin "re.Pattern.sub.loop" ⟨[Value.ref pa, Value.str x tx, repl, rawInt 1, rawInt 0, rawInt (n + 1), rawInt m.handed, rawInt m.handed, Value.bool (m.handed == m.start), Value.ref D, Value.bool false], []⟩)
  else again (Code.builtin "re.Pattern.sub.loop" ⟨[Value.ref pa, Value.str x tx, repl, rawInt 1, rawInt 0, rawInt (n + 1), rawInt m.handed, rawInt m.handed, Value.bool (m.handed == m.start), Value.ref D, Value.bool false], []⟩)

theorem sub_step {pa D : Addr} {x : Str} {tx : Tok} {repl : Value} {groups n q : Nat} {m : Sre.M} {r : Str} {C : PH → Heap → Prop} {A : Around} {s₁ : Shared} {R₁ : PH} {its₁ : Array Value} {Rq : Result → Shared → Prop} {E : Value → Shared → Prop} (hC : Lasts C) (hg : groups ≤ 1000) (hA1 : Aok (k + 1) Fs A.in1)
    (hcb : FnR G k C repl [.mtch x q] (.str r)) (h8 : m.start = q) (h9 : m.handed = q + 1) (h10 : (List.range groups).any (fun g => match m.marks.getD (2 * g) none, m.marks.getD (2 * g + 1) none with | some b, some e => decide (((2 * g + 1 : Nat) : Int) ≤ m.lastmark) && decide (e < b) | _, _ => false) = false)
    (hB : Base G Fs R₁ s₁) (hRD : R₁ D = Option.none) (hCR : C R₁ s₁.heap) (hpl₁ : s₁.heap.PlainList D its₁) (hn : its₁.size ≤ 1000000)
    (hrec : ∀ s₄ R₃ t₃, KeepD G Fs D R₁ s₁ R₃ s₄ → s₄.heap.PlainList D (its₁.push (.str r t₃)) → codeAny (model G.prog G.w) A (.builtin "re.Pattern.sub.loop" (subArgs pa D x tx repl (n + 1) (q + 1) false)) Rq s₄) :
    wpAny (model G.prog G.w) A.in1 (subStepP pa D x tx repl groups n m) (SubPost (model G.prog G.w) A Rq) E s₁ := by
  unfold subStepP
  have hmust : (m.handed == m.start) = false := by rw [h8, h9]; exact beq_eq_false_iff_ne.mpr (Nat.succ_ne_self q)
  rw [hmust]
  refine wpAny_bind (new_match hB h8 h9 h10 hg fun val s₂ R₂ g₂ r₂ => ?_)
  rw [h9]
  refine wpAny_bind (wpAny_holding (wpAny_ite ?_))
  rw [if_pos (by decide)]
  refine hcb A.in1 s₂ R₂ [val] _ _ (hA1.less (Nat.le_succ k)) g₂.base (hC.grow hCR hB.tab g₂) ⟨val, [], rfl, r₂, rfl⟩ fun item s₃ R₃ g₃ r₃ => ?_
  obtain ⟨t₃, rfl⟩ := r₃
  refine wpAny_ite ?_
  rw [if_pos (by rfl)]
  obtain ⟨n₁, eD⟩ := id hpl₁
  have gg := g₂.trans g₃
  have kd₃ := gg.keepD hRD eD
  refine wpAny_bind (push_D kd₃.base kd₃.noD (plain_ext hB.tab hpl₁ gg.ext) hn fun h' kd₄ hpl₄ => wpAny_pure ?_)
  exact ⟨plainId_quiet plain_subloop _, hrec _ R₃ t₃ (kd₃.trans kd₄) hpl₄⟩
theorem subloop {pa D : Addr} {code : Array Nat} {groups : Nat} {x : Str} {tx : Tok} {repl : Value} {esc : Nat → Bool} {tr : Nat → Str} {C : PH → Heap → Prop} (hC : Lasts C) (hg : groups ≤ 1000)
    (hp : PatAt G.h0 pa code groups) (hf : Finds code groups esc x.cps) (hcb : ∀ q, q < x.cps.size → esc (x.cps.getD q 0) = true → FnR G k C repl [.mtch x q] (.str (tr (x.cps.getD q 0)))) (hx : x.cps.size ≤ 10000) (htr : ∀ c, esc c = true → (tr c).cps.size ≤ 20) :
    ∀ (d p : Nat) (n : Nat) (must : Bool) (acc : List Str) (A : Around) (s : Shared) (R : PH) (its : Array Value) (Rq : Result → Shared → Prop), x.cps.size - p = d → p ≤ x.cps.size → Aok (k + 2) Fs A → Base G Fs R s → C R s.heap → R D = Option.none →
      s.heap.PlainList D its → RepL (fun _ => none) (acc.map V.str) its.toList → acc.length ≤ 2 * p → (cat acc).cps.toList = outL esc tr (x.cps.toList.take p) →
      (∀ t' s' R', KeepD G Fs D R s R' s' → Rq (.ok (.ret (.str ⟨(outL esc tr x.cps.toList).toArray⟩ t'))) s') →
      codeAny (model G.prog G.w) A (.builtin "re.Pattern.sub.loop" ⟨[.ref pa, .str x tx, repl, rawInt 1, rawInt 0, rawInt n, rawInt p, rawInt p, .bool must, .ref D, .bool false], []⟩) Rq s := by
  intro d
  induction d using Nat.strongRecOn with
  | ind d ih =>
  intro p n must acc A s R its Rq hd hp' hA hB hCR hRD hpl hits hal hcat hQ
  refine codeAny_builtin entry_subloop ?_
  rw [Around.under_plainId plain_subloop]
  have hA1 : Aok (k + 1) Fs A.in1 := hA.in1
  have hsz : its.size ≤ 20000 := by rw [sized hits]; exact Nat.le_trans hal (Nat.mul_le_mul_left 2 (Nat.le_trans hp' hx))
  have hszx : ∀ a b : Nat, ((⟨x.cps.extract a b⟩ : Str)).length ≤ sizeLine := fun a b => by
    show (x.cps.extract a b).size ≤ 16777216
    rw [Array.size_extract]
    exact Nat.le_trans (Nat.sub_le ..) (Nat.le_trans (Nat.min_le_right ..) (Nat.le_trans hx (by decide)))
  have app : ∀ {a b : Nat} {t : Tok}, RepL (fun _ => none) ((acc ++ [(⟨x.cps.extract a b⟩ : Str)]).map V.str) (its.push (.str ⟨x.cps.extract a b⟩ t)).toList := fun {a b t} => by
    rw [Array.toList_push, List.map_append]
    exact RepL.append hits ⟨_, [], rfl, ⟨_, rfl⟩, rfl⟩
  show wpAny _ _ (reWholeTarget (.ref pa) (.str x tx) >>= _) _ _ s
  refine wpAny_bind (wpAny_wholeTarget (code := code) (groups := groups) (hp.up hB.ground) ?_)
  dsimp only
  refine wpAny_ite ?_
  rw [if_neg (by decide)]
  refine wpAny_bind ?_
  refine wpAny_ite ?_
  rw [if_neg (by simp), Int.toNat_natCast p]
  obtain ⟨n₀, eD⟩ := id hpl
  have kd₁ := (Grow.toks hB (s.toks + 1)).keepD hRD eD
  rcases hf.search p must hp' with ⟨N, m, q, h1, h2, h3, h4, h5, h6, h7, h8, h9, h10⟩ | ⟨N, m, h1, h2, h3, h4⟩
  · refine wpAny_found h1 h2 h3 ?_
    dsimp only
    have step : ∀ (s₁ : Shared) (its₁ : Array Value) (acc₁ : List Str), KeepD G Fs D R s R s₁ → s₁.heap.PlainList D its₁ → RepL (fun _ => none) (acc₁.map V.str) its₁.toList → acc₁.length ≤ 2 * q + 1 → (cat acc₁).cps.toList = outL esc tr (x.cps.toList.take q) →
        wpAny (model G.prog G.w) A.in1 (subStepP pa D x tx repl groups n m) (SubPost (model G.prog G.w) A Rq) (fun e s' => Rq (.error e) s') s₁ := fun s₁ its₁ acc₁ kd hpl₁ hits₁ hal₁ hcat₁ =>
      sub_step hC hg hA1 (hcb q h5 h6) h8 h9 h10 kd.base kd.noD (hC.keepD hCR kd hpl hB.tab) hpl₁ (by rw [sized hits₁]; clear ih; omega) fun s₄ R₃ t₃ kd₄ hpl₄ =>
        ih (x.cps.size - (q + 1)) (by omega) (q + 1) (n + 1) false (acc₁ ++ [tr (x.cps.getD q 0)]) A _ R₃ _ Rq rfl h5 hA kd₄.base (hC.keepD hCR (kd.trans kd₄) hpl hB.tab) kd₄.noD hpl₄ (by
          rw [Array.toList_push, List.map_append]
          exact RepL.append hits₁ ⟨_, [], rfl, ⟨t₃, rfl⟩, rfl⟩) (by rw [List.length_append]; exact Nat.succ_le_succ hal₁) (cat_step h5 h6 hcat₁) fun t' s' R' kd₅ => hQ t' s' R' ((kd.trans kd₄).trans kd₅)
    by_cases hlt : p < m.start
    · rw [if_pos hlt]
      refine wpAny_bind (m := reSlice x.cps 0 p m.start) ?_
      show wpAny _ _ (mkStr ⟨x.cps.extract p m.start⟩) _ _ _
      refine wpAny_mkStr ?_ (hszx _ _)
      refine wpAny_bind (push_D kd₁.base kd₁.noD hpl (Nat.le_trans hsz (by decide)) fun h' kd₂ hpl₂ => ?_)
      refine wpAny_ite ?_
      rw [if_neg (by decide)]
      rw [h8] at hlt hpl₂
      exact step _ _ (acc ++ [⟨x.cps.extract p q⟩]) (kd₁.trans kd₂) hpl₂ app (by rw [List.length_append]; exact Nat.succ_le_succ (Nat.le_trans hal (Nat.mul_le_mul_left 2 h4))) (cat_mid h4 h7 hcat)
    · rw [if_neg hlt]
      refine wpAny_ite ?_
      rw [if_neg (by decide)]
      rw [h8] at hlt
      have hpq : q = p := Nat.le_antisymm (Nat.le_of_not_lt hlt) h4
      subst hpq
      exact step s its acc (KeepD.refl hB hRD) hpl hits (Nat.le_succ_of_le hal) hcat
  · refine wpAny_lost h1 h2 h3 ?_
    dsimp only
    have hall : x.cps.toList.take x.cps.size = x.cps.toList := List.take_of_length_le (Nat.le_of_eq Array.length_toList)
    have fin : ∀ (s₁ : Shared) (its₁ : Array Value) (acc₁ : List Str), KeepD G Fs D R s R s₁ → s₁.heap.PlainList D its₁ → RepL (fun _ => none) (acc₁.map V.str) its₁.toList → (cat acc₁).cps.toList = outL esc tr (x.cps.toList.take x.cps.size) →
        wpAny (model G.prog G.w) A.in1 (subFinP x D n) (SubPost (model G.prog G.w) A Rq) (fun e s' => Rq (.error e) s') s₁ := fun s₁ its₁ acc₁ kd hpl₁ hits₁ hcat₁ =>
      sub_fin hx htr kd.base kd.noD hpl₁ hits₁ (by rw [hcat₁, hall]) fun t' tk g => (let ⟨_, eD₁⟩ := hpl₁; hQ t' _ R (kd.trans (g.keepD kd.noD eD₁)))
    by_cases hlt : p < x.cps.size
    · rw [if_pos hlt]
      refine wpAny_bind (m := reSlice x.cps 0 p x.cps.size) ?_
      show wpAny _ _ (mkStr ⟨x.cps.extract p x.cps.size⟩) _ _ _
      refine wpAny_mkStr ?_ (hszx _ _)
      refine wpAny_bind (push_D kd₁.base kd₁.noD hpl (Nat.le_trans hsz (by decide)) fun h' kd₂ hpl₂ => ?_)
      exact fin _ _ (acc ++ [⟨x.cps.extract p x.cps.size⟩]) (kd₁.trans kd₂) hpl₂ app (cat_mid hp' h4 hcat)
    · rw [if_neg hlt]
      have hpe : p = x.cps.size := Nat.le_antisymm hp' (Nat.le_of_not_lt hlt)
      exact fin s its acc (KeepD.refl hB hRD) hpl hits (hpe ▸ hcat)
end
end Mine
open PySem PySem.W PyProof.Rows
set_option Elab.async false
set_option linter.unusedVariables false
set_option maxRecDepth 100000
namespace Mine
open PySem.Builtin.Re PySem.Sre
theorem fn_call : typeLookup (.type "function") "__call__" = pure (some (.builtin "function.__call__")) := by rw [typeLookup_type, builtinLookup_eq_fast]; kernel_rfl
theorem str_bytearray : isSubtype (.type "str") (.type "bytearray") = pure false := by rw [isSubtype_type]; kernel_rfl
theorem named_sub (f s : Value) : reNamed "re.Pattern.sub" "sub" ["repl", "string", "count"] 2 [f, s] [] = pure [some f, some s, none] := rfl

section
variable {G : Cx} {Fs : List Env} {k : Nat}

theorem KeepD.grow {D : Addr} {R R' : PH} {s s₀ s' : Shared} {ob : Obj} {n : Nat} (kd : KeepD G Fs D R s R' s') (hs : s = { s₀ with heap := s₀.heap.push ob, toks := n }) (hD : D = s₀.heap.objs.size) (ht : G.tabOk s₀.heap) : Grow G Fs R s₀ R' s' := by
  subst hs
  refine ⟨Adv.trans ⟨_, _, rfl⟩ kd.adv, fun b o hb e => kd.ext b o hb (by rw [hD]; exact Nat.ne_of_lt (Heap.lt_size e)) (Heap.get?_push_of_some _ e), kd.up, fun b o e => (kd.new b o e).imp id fun q => ?_, kd.base⟩
  cases qs : s₀.heap.get? b with
  | none => rfl
  | some o' =>
    have := Heap.get?_push_of_some ob qs
    rw [show (s₀.heap.push ob).get? b = Option.none from q] at this; cases this

theorem sub_call {A : Around} {s : Shared} {R : PH} {pa fa : Addr} {code : Array Nat} {groups : Nat} {x : Str} {tx : Tok} {esc : Nat → Bool} {tr : Nat → Str} {C : PH → Heap → Prop} {Q : Value → Shared → Prop} {E : Value → Shared → Prop} (hC : Lasts C) (hg : groups ≤ 1000)
    (hp : PatAt G.h0 pa code groups) (hf : Finds code groups esc x.cps) (hcb : ∀ q, q < x.cps.size → esc (x.cps.getD q 0) = true → FnR G k C (.ref fa) [.mtch x q] (.str (tr (x.cps.getD q 0)))) (hx : x.cps.size ≤ 10000) (htr : ∀ c, esc c = true → (tr c).cps.size ≤ 20)
    (hA : Aok (k + 2) Fs A) (hB : Base G Fs R s) (hCR : C R s.heap) (hfn : s.TypeIs (.ref fa) "function")
    (hQ : ∀ t' s' R', Grow G Fs R s R' s' → Q (.str ⟨(outL esc tr x.cps.toList).toArray⟩ t') s') : wpAny (model G.prog G.w) A (call (.builtin "re.Pattern.sub") [.ref pa, .ref fa, .str x tx]) Q E s := by
  obtain ⟨o, ot, tp, fs, n', e1, e2, e2', e3, e4, e5, e6, e7, e8⟩ := hp.is
  have hpat : PatAt s.heap.get? pa code groups := ⟨⟨o, ot, tp, fs, n', hB.ground _ _ e1, e2, e2', e3, e4, e5, e6, hB.ground _ _ e7, e8⟩⟩
  refine wpAny_call (codeAny_call_builtin slot_sub.plain entry_sub (slot_sub.check _ _ _ _ (.ref pa) [.ref fa, .str x tx] [] _ ⟨o, hB.ground _ _ e1, e2⟩ (args_sub _ _ _) ?_))
  show wpAny _ _ (reNamed "re.Pattern.sub" "sub" ["repl", "string", "count"] 2 [.ref fa, .str x tx] [] >>= _) _ _ s
  rw [named_sub]
  refine wpAny_bind (wpAny_pure ?_)
  dsimp only
  refine wpAny_bind (wpAny_pure ?_)
  refine wpAny_bind (wpAny_specialOf hfn fn_call ?_)
  refine wpAny_ite ?_
  rw [if_pos (show (some (Value.builtin "function.__call__")).isSome = true from rfl)]
  refine wpAny_bind (wpAny_pure ?_)
  refine wpAny_ite ?_
  rw [if_pos (show (some (Value.builtin "function.__call__")).isSome = true from rfl)]
  refine wpAny_bind (wpAny_pure ?_)
  dsimp only
  refine wpAny_bind (wpAny_holding (wpAny_wholeTarget hpat ?_))
  refine wpAny_ite ?_
  rw [if_pos (by decide)]
  refine wpAny_bind (m := reNotHeld "re.Pattern.sub" (.str x tx)) (wpAny_bind (wpAny_isInstance (typeIs_str s x tx) str_bytearray ?_))
  refine wpAny_ite ?_
  rw [if_neg Bool.false_ne_true]
  refine wpAny_pure ?_
  refine wpAny_bind (wpAny_newObj_type ?_ (by size_fits))
  refine wpAny_pure ⟨plainId_quiet plain_subloop _, ?_⟩
  have hnew := new_none s.heap
  have hRn : R s.heap.objs.size = Option.none := by
    cases q : R s.heap.objs.size with
    | none => rfl
    | some o' => rw [hB.sub _ _ q] at hnew; cases hnew
  have B' : Base G _ R { s with heap := s.heap.push { cls := .type "list", data := .seq ([] : List Value).toArray } } := (Grow.keep (tk := s.toks) hB fun _ _ e => Heap.get?_push_of_some _ e).base
  have hCR' : C R (s.heap.push { cls := .type "list", data := .seq ([] : List Value).toArray }) := hC _ _ _ _ hCR (.refl _) fun b o vs _ _ e => Heap.get?_push_of_some _ e
  refine subloop (D := s.heap.objs.size) hC hg hp hf hcb hx htr (x.cps.size - 0) 0 0 false [] A _ R #[] _ rfl (Nat.zero_le _) hA B' hCR' hRn ⟨0, Heap.get?_push_size _ rfl⟩ rfl (by simp) (by simp [cat, outL]) fun t' s' R' kd => ?_
  exact hQ t' s' R' (kd.grow (n := s.toks) (ob := { cls := .type "list", data := .seq ([] : List Value).toArray }) rfl rfl hB.tab)
end
end Mine
open PySem PySem.W PyProof.Rows
set_option Elab.async false
set_option linter.unusedVariables false
namespace Mine
section
variable {G : Cx} {Fs : List Env} {k : Nat} {env : Env} {σ σ' : Sg} {o : Out}

noncomputable def framesAt (Fs : List Env) : List Addr := Fs.filterMap (·.frame)

structure Noted (Fs : List Env) (h h' : Heap) : Prop where
  same : ∀ b o, b ∉ framesAt Fs → h.get? b = some o → h'.get? b = some o
  like : ∀ b o, b ∈ framesAt Fs → h.get? b = some o → ∃ sl, h'.get? b = some { o with slots := sl }

end
end Mine
open PySem PySem.W PyProof.Rows
set_option Elab.async false
set_option linter.unusedVariables false
set_option maxRecDepth 100000
namespace Mine
open Builtin Builtin.Str Builtin.Float

noncomputable def hxd (d : Nat) : Nat := if d < 10 then 48 + d else 87 + d
noncomputable def hex4L (n : Nat) : List Nat := [hxd (n / 16 / 16 / 16 % 16), hxd (n / 16 / 16 % 16), hxd (n / 16 % 16), hxd (n % 16)]
section
variable {prog : Program} {w : World} {A : Around} {E : Value → Shared → Prop} {s : Shared}

end
end Mine
open PySem PySem.W PyProof.Rows
set_option Elab.async false
set_option linter.unusedVariables false
set_option maxRecDepth 100000
namespace Mine
open Builtin Builtin.Str Builtin.Float
section
variable {prog : Program} {w : World} {A : Around} {E : Value → Shared → Prop} {s : Shared}

end

noncomputable def esc4 (n : Nat) : PySem.Str := ⟨([92, 117] ++ hex4L n).toArray⟩
end Mine
open PySem PySem.W PyProof.Rows
set_option Elab.async false
set_option linter.unusedVariables false
set_option maxRecDepth 100000
namespace Mine
open PySem.Builtin.Re PySem.Sre

noncomputable def Meth (v : V) (name : String) (id : String) : Prop :=
  ∀ ⦃M : Model⦄ (A : Around) (s : Shared) (R : PH) (x : Value) (pl : Sem Bool) (Q : Value × List Value → Shared → Prop) (E : Value → Shared → Prop), Sub R s.heap.get? → Rep R v x → Q (.builtin id, [x]) s → wpAny M A (getMethod x (Str.ofString name) pl) Q E s

section
variable {G : Cx} {Fs : List Env} {k : Nat} {env : Env} {σ : Sg}

theorem Ev.method {o : Expr} {name id : String} {p pos : Pos} {e : Expr} {es : List Expr} {v₀ v : V} {vs : List V} (h : Ev G k env σ o v₀) (hm : Meth v₀ name id) (ha : EvL G k env σ (e :: es) vs) (hf : Fn G k (.builtin id) (v₀ :: vs) v)
    (hc : ∃ pl, eval (.Call (.Attribute o (Str.ofString name) p) (e :: es) [] pos) env = (do
      let ov ← eval o env
      standAt p.atName
      let (f, first) ← holding [ov] (getMethod ov (Str.ofString name) pl)
      callWith pos f first (backTo pos (starEach (e :: es) env)) []) := by exact ⟨_, rfl⟩)
    (he : starEach (e :: es) env = (false, eval e env) :: starEach es env := by rfl) (hp : (backTo pos (starEach es env)).any (·.1) = false := by rfl) :
    Ev G k env σ (.Call (.Attribute o (Str.ofString name) p) (e :: es) [] pos) v := fun _ A s R Q E hA hS hQ => by
  obtain ⟨pl, hc⟩ := hc
  refine MethodCall_ (pl := pl) (h A s R _ E hA hS fun x s₁ R₁ g₁ r₁ => hm A s₁ R₁ x pl _ E g₁.base.sub r₁ ?_) hc
  refine callWith_method1 (ha pos A s₁ R₁ _ E hA (hS.grow g₁) fun xs s₂ R₂ g₂ r₂ => ?_) he hp
  exact hf A s₂ R₂ (x :: xs) Q E hA g₂.base ⟨x, xs, rfl, Rep.sub g₂.up r₁, r₂⟩ fun val s₃ R₃ g₃ r₃ => hQ val s₃ R₃ ((g₁.trans g₂).trans g₃) r₃

theorem Meth.str {x : Str} {name id : String} (slot : Slot "str" (Str.ofString name) id) (hty : typeOf (.builtin id) = pure (.type "method_descriptor")) : Meth (.str x) name id := fun _ A s R v pl Q E hs hr hq => by
  obtain ⟨t, rfl⟩ := hr
  exact getMethod_builtin (T := "str") (typeIs_str _ _ _) F.plainAttrs_str slot hty (fun b q => nomatch q) hq
theorem Meth.group {x : Str} {q : Nat} : Meth (.mtch x q) "group" "re.Match.group" := fun _ A s R v pl Q E hs hr hq => by
  obtain ⟨a, rfl, o, ot, tp, fs, ss, t, n, e1, e2, e2', _⟩ := hr
  exact getMethod_builtin (T := "re.Match") ⟨o, hs _ _ e1, e2⟩ plainAttrs_match slot_group type_group (fun b q => by cases q; exact ⟨o, hs _ _ e1, e2'⟩) hq

theorem Fn.group {x : Str} {q : Nat} (hq : q < x.cps.size) : Fn G k (.builtin "re.Match.group") [.mtch x q, .int 0] (.str ⟨#[x.cps.getD q 0]⟩) := fun _ A s R xs Q E hA hB hr hQ => by
  obtain ⟨v, _, rfl, ⟨a, rfl, o, ot, tp, fs, ss, t, n, e1, e2, e2', e3, e4, e5, e6, e7, e8, e9⟩, _, _, rfl, ⟨t0, rfl⟩, rfl⟩ := hr
  refine wpAny_call (codeAny_call_builtin slot_group.plain entry_group (slot_group.check _ _ _ _ (.ref a) [.int 0 t0] [] _ ⟨o, hB.sub _ _ e1, e2⟩ (args_group _ _) ?_))
  delta Builtin.«re.Match.group»
  refine wpAny_bind (wpAny_of_eq (a := ()) rfl ?_)
  dsimp only
  refine wpAny_bind (m := reFound (.ref a)) ?_
  delta reFound
  refine wpAny_bind (wpAny_fieldsOf (hB.sub _ _ e1) e3 ?_)
  have hf5 : fs.getD 5 .none = .ref tp := by rw [Array.getD_eq_getD_getElem?, e5]; rfl
  have hf0 : fs.getD 0 .none = .str x t := by rw [Array.getD_eq_getD_getElem?, e4]; rfl
  rw [hf5]
  refine wpAny_bind (m := reRawItems (.ref tp)) (wpAny_bind (wpAny_seqItems (hB.sub _ _ e6) e7 (wpAny_pure (wpAny_pure ?_))))
  dsimp only [Option.getD_some]
  have s0 : (ss.map reRawOf).getD (2 * 0) (-1) = q := by rw [Array.getD_eq_getD_getElem?, Array.getElem?_map, e8]; rfl
  have s1 : (ss.map reRawOf).getD (2 * 0 + 1) (-1) = q + 1 := by rw [Array.getD_eq_getD_getElem?, Array.getElem?_map, e9]; rfl
  have hsz : 2 ≤ ss.size := (Array.getElem?_eq_some_iff.mp e9).1
  refine wpAny_bind (m := reGroupNumber _ _) ?_
  delta reGroupNumber
  refine wpAny_bind (wpAny_of_eq (a := some (0 : Int)) rfl ?_)
  refine wpAny_ite (KPc.ite_yes rfl ?_)
  refine wpAny_bind (wpAny_of_eq (a := (0 : Int)) rfl ?_)
  have hno : (decide ((0 : Int) < 0) || decide (2 * (0 : Int) ≥ ((ss.map reRawOf).size : Int))) = false := by
    rw [Bool.or_eq_false_iff]
    exact ⟨by decide, decide_eq_false (by rw [Array.size_map]; omega)⟩
  refine wpAny_ite (KPc.ite_no (fun hc => absurd (hno.symm.trans hc) Bool.false_ne_true) ?_)
  refine wpAny_pure ?_
  refine wpAny_bind (m := reGroupText _ _ _) ?_
  show wpAny _ _ (if (decide ((ss.map reRawOf).getD (2 * 0) (-1) < 0) || decide ((ss.map reRawOf).getD (2 * 0 + 1) (-1) < 0)) = true then pure Value.none else do
    let (text, kind) ← reTextOf (fs.getD 0 .none)
    reSlice text kind ((ss.map reRawOf).getD (2 * 0) (-1)).toNat ((ss.map reRawOf).getD (2 * 0 + 1) (-1)).toNat) _ _ _
  rw [s0, s1, hf0]
  refine wpAny_ite ?_
  rw [if_neg (by simp; omega)]
  refine wpAny_bind (wpAny_of_eq (a := (x.cps, 0)) rfl ?_)
  show wpAny _ _ (mkStr ⟨x.cps.extract ((q : Int)).toNat ((q : Int) + 1).toNat⟩) _ _ _
  have e : x.cps.extract ((q : Int)).toNat ((q : Int) + 1).toNat = #[x.cps.getD q 0] := by
    rw [show ((q : Int)).toNat = q by omega, show ((q : Int) + 1).toNat = q + 1 by omega]
    apply Array.ext'
    rw [Array.toList_extract]
    simp
    rw [List.drop_eq_getElem_cons (by simpa using hq)]
    simp [Array.getElem?_eq_getElem hq]
  rw [e]
  exact wpAny_mkStr (wpAny_pure (hQ _ _ R (.toks hB _) ⟨_, rfl⟩)) (by show 1 ≤ 16777216; decide)

end
end Mine
open PySem PySem.W PyProof.Rows
set_option Elab.async false
set_option linter.unusedVariables false
set_option maxRecDepth 100000
namespace Mine
section
variable {M : Model} {A : Around} {E : Value → Shared → Prop} {s : Shared} {name qual : Str} {params : Arguments} {body : List Stmt} {scope : Scope} {env : Env} {c P : Addr} {ps : Array Value} {pos : Pos} {firstLine : Nat} {mg : Str → Option Value} {Q : Value → Shared → Prop}
theorem make_new (hcl : closureFor scope env = pure []) (hge0 : env.globals = mainGlobals) (hg : s.heap.Ns mainGlobals mg) (hcode : env.code = .ref c) (C : CodeHd s.heap c P) (hP : s.heap.get? P = some (tabObj ps)) (ht : TriplesOk ps.toList)
    (hnf : codeAmong pos ps.toList = none) (hgP : mainGlobals ≠ P) (hb : s.heap.BuiltinsAt mg P)
    (h : ∀ c' doc h' tk, Heap.ExtBut P s.heap h' → CodeOk h' c' qual → h'.get? P = some (tabObj (ps ++ #[rawInt pos.line, rawInt pos.col, .ref c'])) →
      Q (.ref h'.objs.size) { s with heap := h'.push (fnMade name qual params body scope [] doc ((mg "__name__").getD .none) c' .none), toks := tk }) :
    wpAny M A (makeFunction name qual params (.stmts body) scope env [] [] [] pos firstLine) Q E s := by
  rw [makeFunction_eq]
  simp only [List.zip_nil_right, List.filterMap_nil, List.isEmpty_nil, if_true, pure_bind]
  obtain ⟨bm, ob, hbm, hne0, _, hneP, hbo, hcls, hdict, hdata⟩ := hb
  delta makeTail
  rw [hcl, hge0]
  refine wpAny_bind (wpAny_pure ?_)
  simp only [List.isEmpty_nil, if_true]
  refine wpAny_bind (wpAny_pure ?_)
  refine wpAny_bind (wpAny_functionCodeX hcode (C.code hP ht) (C.tab hP) hnf fun c' h' tk hx hge hlt _ hrec htb hco => ?_)
  have hok : CodeOk h' c' qual := by
    obtain ⟨P', _, _, ⟨⟨oc, vc, hoc, hcc, hdc, _⟩, _⟩⟩ := hco
    obtain ⟨c2, o2, vs2, t2, e2, g2, d2, q2⟩ := hrec
    cases e2
    rw [hoc] at g2; cases g2
    exact ⟨oc, vs2, t2, hoc, hcc, d2, q2⟩
  have hg' := hg.extBut hx hgP
  refine wpAny_bind (wpAny_builtinsFor hg' hbm hne0 (hx _ _ hneP hbo) hcls hdict hdata ?_)
  refine wpAny_bind (wpAny_nsGet hg' ?_)
  cases hdoc : docOf body with
  | none => exact wpAny_bind (wpAny_pure (wpAny_newObj_type (h c' .none h' tk hx hok htb.2) (by size_fits)))
  | some t => exact wpAny_bind (wpAny_mkText (wpAny_newObj_type (h c' _ h' _ hx hok htb.2) (by size_fits)))
end

section
variable {G : Cx} {Fs : List Env} {k : Nat} {env : Env} {σ : Sg}

theorem CodeOk.rec {h : Heap} {c : Addr} {q : Str} (x : CodeOk h c q) : h.CodeRec (.ref c) q :=
  let ⟨o, vs, t, e, _, d, q⟩ := x; ⟨c, o, vs, t, rfl, e, d, q⟩

theorem nodup_inj {α β : Type} {f : α → β} : ∀ {l : List α} {a b : α}, (l.map f).Nodup → a ∈ l → b ∈ l → f a = f b → a = b
  | x :: r, a, b, hn, ha, hb, e => by
    rw [List.map_cons] at hn
    obtain ⟨h1, h2⟩ := List.nodup_cons.mp hn
    rcases List.mem_cons.mp ha with ea | ha' <;> rcases List.mem_cons.mp hb with eb | hb'
    · rw [ea, eb]
    · rw [ea] at e; exact absurd (e ▸ List.mem_map_of_mem hb') h1
    · rw [eb] at e; exact absurd (e ▸ List.mem_map_of_mem ha') h1
    · exact nodup_inj h2 ha' hb' e

theorem def_ok {A : Around} {s : Shared} {R Kp : PH} {name : String} {params : Arguments} {body : List Stmt} {scope : Scope} {pos : Pos} {t : Tab} {Q : Flow → Shared → Prop} {E : Value → Shared → Prop} (S : St G Fs env R Kp σ s)
    (ht : t ∈ G.ts) (hcode : env.code = .ref t.c) (hl : pos.line = t.line) (hc : pos.col = t.col) (hq : qualnameIn env (Str.ofString name) (Str.ofString name) = t.qual) (hx : OwnName env (Str.ofString name))
    (hQ : ∀ s' R' f c' doc ctv, Adv s s' → GrowX R Kp R' → St G Fs env R' Kp (put σ name (.val (.fn f))) s' → R' f = some (fnMade (Str.ofString name) t.qual params body scope [] doc ((G.mg "__name__").getD .none) c' ctv) → CodeOk s'.heap c' t.qual → Q .next s')
    (hcl : closureFor scope env = pure [] := by rfl) (hge0 : env.globals = mainGlobals := by rfl) (hk : env.scope.kind = .function := by rfl)
    (hd0 : params.defaults = [] := by rfl) (hk0 : params.kw_defaults = [] := by rfl) (ha : annTrees params none env = [] := by rfl) :
    wpAny (model G.prog G.w) A (exec (.FunctionDef (Str.ofString name) params body [] none [] scope none (Str.ofString name) pos) env) Q E s := by
  have B := S.base
  refine nestDef_K hd0 hk0 ha ?_
  rw [hq]
  have hPT : t.P ∈ G.T := List.mem_map_of_mem ht
  obtain ⟨ps, hps, hcase⟩ := B.tab t ht
  have C := G.heads s.heap B.ground t ht
  have hgs := G.g s.heap B.ground
  obtain ⟨bm, ob, b1, b2, b2', b3, b4, b5, b6⟩ := G.bmain
  have hgP : mainGlobals ≠ t.P := fun q => by
    obtain ⟨o, es, ep, e, hd, _⟩ := hgs
    rw [q, hps] at e; cases e; cases hd
  have hbP : bm ≠ t.P := fun q => by
    have e := B.ground _ _ b3
    rw [q, hps] at e; cases e; cases b4
  have hb : s.heap.BuiltinsAt G.mg t.P := ⟨bm, ob, b1, b2, b2', hbP, B.ground _ _ b3, b4, b5, b6⟩
  -- the state behind the making
  have fin : ∀ (h' : Heap) (tk : Nat) (c' : Addr) (doc ctv : Value), (∀ b o, b ≠ t.P → s.heap.get? b = some o → h'.get? b = some o) → G.tabOk h' → CodeOk h' c' t.qual →
      wpAny (model G.prog G.w) A (storeName env (Str.ofString name) (.ref h'.objs.size)) (fun _ s'' => Q .next s'') E { s with heap := h'.push (fnMade (Str.ofString name) t.qual params body scope [] doc ((G.mg "__name__").getD .none) c' ctv), toks := tk } := by
    intro h' tk c' doc ctv hk' htab hok
    have gk : Grow G Fs R s R { s with heap := h', toks := tk } := by
      refine ⟨⟨h', tk, rfl⟩, fun b o hb e => ⟨o, hk' b o (fun q => hb (q ▸ hPT)) e, .refl o⟩, .refl _, fun _ _ e => .inl e, ⟨B.sub0, fun b o e => hk' b o (fun q => by rw [q, B.noT _ hPT] at e; cases e) (B.sub b o e), htab, B.noT, B.gens, B.os, fun e he => (B.fr e he).step (fun b o es n e1 e2 => ⟨o, es, n, hk' b o (fun q => by rw [q, hps] at e1; cases e1; cases e2) e1, e2⟩) fun _ _ _ e => e⟩⟩
    have gp := Grow.pushed (tk := tk) (o := fnMade (Str.ofString name) t.qual params body scope [] doc ((G.mg "__name__").getD .none) c' ctv) gk.base
    have gg := gk.trans gp
    have S₁ := S.grow gg
    refine S₁.store (lv := .val (.fn h'.objs.size)) hx hk ⟨0, rfl, fun e => nomatch e⟩ fun h₂ tk₂ hst S₂ => ?_
    refine hQ _ _ h'.objs.size c' doc ctv (gg.adv.trans ⟨h₂, tk₂, rfl⟩) (gg.x S.kp) S₂ (PH.put_self ..) ?_
    obtain ⟨o, vs, tt, e1, e2, e3, e4⟩ := hok
    have e1' : (h'.push (fnMade (Str.ofString name) t.qual params body scope [] doc ((G.mg "__name__").getD .none) c' ctv)).get? c' = some o := Heap.get?_push_of_some _ e1
    refine ⟨o, vs, tt, hst c' o (fun q => ?_) (fun q => ?_) e1', e2, e3, e4⟩
    · obtain ⟨m, oL, es, ep, eL, dL, _⟩ := S₁.ns
      rw [← q] at eL
      rw [show (h'.push _).get? c' = some oL from eL] at e1'; cases e1'
      rw [e3] at dL; cases dL
    · obtain ⟨p, hp, rfl⟩ := List.mem_map.mp q
      obtain ⟨_, _, v, oc, ec, dc⟩ := S₁.cells p hp
      rw [show (h'.push _).get? p.2 = some oc from ec] at e1'; cases e1'
      rw [e3] at dc; cases dc
  rcases hcase with rfl | ⟨c', rfl, hok⟩
  · refine make_new (mg := G.mg) hcl hge0 hgs hcode C hps trivial rfl hgP hb fun c' doc h' tk hx' hok hP' => fin h' tk c' doc .none (fun b o hb' e => hx' b o hb' e) (fun t' ht' => ?_) hok
    by_cases e : t' = t
    · subst e
      exact ⟨_, hP', .inr ⟨c', by rw [hl, hc]; rfl, hok⟩⟩
    · have hne : t'.P ≠ t.P := fun q => e (nodup_inj G.apart ht' ht q)
      obtain ⟨ps', e1, e2⟩ := B.tab t' ht'
      refine ⟨ps', hx' _ _ hne e1, e2.imp id fun ⟨c2, f1, o, vs, tk', f2, f3, f4, f5⟩ => ⟨c2, f1, o, vs, tk', hx' _ _ (fun q => ?_) f2, f3, f4, f5⟩⟩
      rw [q, hps] at f2; cases f2; cases f3
  · refine makeFunction_hit (mg := G.mg) (cv := .ref c') hcl hge0 hgs hcode C hps ?_ ?_ hb fun ctv doc h' tk hk' hsz => ?_
    · show TriplesOk [rawInt t.line, rawInt t.col, .ref c']; trivial
    · show codeAmong pos [rawInt t.line, rawInt t.col, .ref c'] = _
      rw [← hl, ← hc]
      exact codeAmong_snoc (pos := pos) (c := .ref c') [] trivial rfl
    · exact fin h' tk c' doc ctv (fun b o _ e => hk' b o e) (G.tabKeep _ _ B.tab fun b o _ _ e => hk' b o e) (let ⟨o, vs, tt, e1, r⟩ := hok; ⟨o, vs, tt, hk' _ _ e1, r⟩)
end
end Mine
open PySem PySem.W PyProof.Rows
set_option Elab.async false
set_option linter.unusedVariables false
set_option maxRecDepth 100000
namespace Mine

noncomputable def shortOf : Nat → Option Nat
  | 92 => some 92 | 34 => some 34 | 8 => some 98 | 12 => some 102 | 10 => some 110 | 13 => some 114 | 9 => some 116 | _ => none
noncomputable def trD (c : Nat) : Option Str := match shortOf c with
  | some l => some ⟨#[92, l]⟩
  | none => if c < 32 then some (esc4 c) else none
noncomputable def trE (c : Nat) : Str := (trD c).getD Str.empty
noncomputable def hiOf (c : Nat) : Nat := 55296 + (c - 65536) / 1024
noncomputable def loOf (c : Nat) : Nat := 56320 + (c - 65536) % 1024
noncomputable def trA (c : Nat) : Str := match trD c with
  | some x => x
  | none => if c < 65536 then esc4 c else esc4 (hiOf c) ++ esc4 (loOf c)

structure Dct (G : Cx) (d : Addr) : Prop where
  is : ∃ es n, G.h0 d = some ⟨.type "dict", none, .dict es n, #[]⟩ ∧ KeysLit G.w.params es.toList ∧ ∀ c, match trD c with
    | some x => ∃ t, findBy Value.isStrOf es ⟨#[c]⟩ = some (.str x t)
    | none => findBy Value.isStrOf es ⟨#[c]⟩ = none
  ne : (d == sysModules) = false

section
variable {G : Cx} {Fs : List Env} {k : Nat} {env : Env} {σ : Sg} {o : Out}

theorem Dct.map {d : Addr} {h : Heap} (D : Dct G d) (hg : Sub G.h0 h.get?) : ∃ f, h.MapOf (strKind G.prog G.w) d f ∧ ∀ c, match trD c with
    | some x => ∃ t, f ⟨#[c]⟩ = some (.str x t)
    | none => f ⟨#[c]⟩ = none := by
  obtain ⟨es, n, e, hk, hf⟩ := D.is
  exact ⟨fun k => findBy Value.isStrOf es k, ⟨_, es, n, hg _ _ e, ⟨rfl, rfl, rfl⟩, rfl, fun en he => by
    obtain ⟨x, t, e1, e2⟩ := hk.all en (Array.mem_toList_iff.mpr he)
    exact ⟨x, by rw [e1]; exact strKind_is G.prog G.w x t, e2⟩, fun _ => rfl⟩, hf⟩

theorem Ev.dct {x : String} {p pos : Pos} {slice : Expr} {d : Addr} {c : Nat} {r : Str} (D : Dct G d) (hv : G.mg (Str.ofString x) = some (.ref d)) (h : Ev G k env σ slice (.str ⟨#[c]⟩)) (hc : trD c = some r)
    (hx : env.kindOf (Str.ofString x) = some .globalImplicit := by rfl) (hg : env.globals = mainGlobals := by rfl) (hk : env.scope.kind = .function := by rfl) (hb : (Str.ofString x == ("__debug__" : Str)) = false := by decide)
    (hs : ∀ t, subscripted slice false (.ref d) (.str ⟨#[c]⟩ t) = operate [.ref d, .str ⟨#[c]⟩ t] (getItem (.ref d) (.str ⟨#[c]⟩ t)) := by intro _; rfl) :
    Ev G k env σ (.Subscript (.Name (Str.ofString x) p) slice pos) (.str r) := fun _ A s R Q E hA hS hQ => by
  refine Subscript_ (wpAny_global hS.base hv (h A s R _ E hA hS fun val s₁ R₁ g₁ r₁ => ?_) hx hb hk hg)
  obtain ⟨t, rfl⟩ := r₁
  obtain ⟨f, hm, hf⟩ := D.map g₁.base.ground
  have hfc := hf c
  rw [hc] at hfc
  obtain ⟨t', ht'⟩ := hfc
  exact subscriptTail_builtin hm.typeIs slot_dict_getitem.lookup (wpAny_getItem_of (strKind_is G.prog G.w _ t) hm ht' (hQ _ _ R₁ (g₁.more _) ⟨t', rfl⟩)) (hs t) (fun r => rfl)

theorem Ev.const_str' {x y : Str} {kk : Nat} {pos : Pos} (h : x = y) : Ev G k env σ (.Constant (.str x) kk pos) (.str y) := h ▸ Ev.const_str

theorem Fn.chr {i : Int} (h0 : 0 ≤ i) (h1 : i ≤ 1114111) : Fn G k (.builtin "chr") [.int i] (.str ⟨#[i.toNat]⟩) := fun _ A s R xs Q E hA hB hr hQ => by
  obtain ⟨_, _, rfl, ⟨t, rfl⟩, rfl⟩ := hr
  exact chr_of_range h0 h1 (hQ _ _ R (.toks hB _) ⟨_, rfl⟩)

end

end Mine
open PySem PySem.W PyProof.Rows
set_option Elab.async false
set_option linter.unusedVariables false
set_option maxRecDepth 100000
namespace Mine

noncomputable def fdAt (K : Frag) (a : Addr) : FuncData := match K.lookup a with
  | some o => (match o.data with | .func fd => fd | _ => default)
  | none => default
noncomputable def stmtsOf (fd : FuncData) : List Stmt := match fd.body with | .stmts b => b | _ => []
noncomputable def defParams : List Stmt → Arguments
  | .FunctionDef _ p _ _ _ _ _ _ _ _ :: _ => p
  | _ => default
noncomputable def defBody : List Stmt → List Stmt
  | .FunctionDef _ _ b _ _ _ _ _ _ _ :: _ => b
  | _ => []
noncomputable def defScope : List Stmt → Scope
  | .FunctionDef _ _ _ _ _ _ s _ _ _ :: _ => s
  | _ => default

structure TopK (G : Cx) (K : Frag) : Prop where
  k : ∀ a o, K.lookup a = some o → G.h0 a = some o
  m : ∀ x r, nsIn K mainGlobals x = some r → G.mg x = r

noncomputable def Made (f : Addr) (ob : Obj) (c' : Addr) (q : Str) (R : PH) (h : Heap) : Prop := R f = some ob ∧ CodeOk h c' q
theorem Made.lasts {f : Addr} {ob : Obj} {c' : Addr} {q : Str} : Lasts (Made f ob c' q) := fun R R' h h' ⟨x, o, vs, t, e1, e2, e3, e4⟩ hs hk => ⟨hs _ _ x, o, vs, t, hk _ _ vs e2 e3 e1, e2, e3, e4⟩

theorem boot_chr : bootBuiltins (Str.ofString "chr") = some (.builtin "chr") := by kernel_rfl
theorem trD_of_escE {c : Nat} (he : escE c = true) : trD c = some (trE c) := by
  have : ∃ r, trD c = some r := by
    unfold escE at he
    unfold trD
    split
    · exact ⟨_, rfl⟩
    · rename_i hs
      by_cases h32 : c < 32
      · exact ⟨_, if_pos h32⟩
      · simp [h32] at he
        rcases he with rfl | rfl <;> cases hs
  obtain ⟨r, hr⟩ := this
  unfold trE; rw [hr]; rfl
theorem esc4_size (c : Nat) : (esc4 c).cps.size = 6 := rfl
theorem trD_size {c : Nat} {r : Str} (h : trD c = some r) : r.cps.size ≤ 6 := by
  unfold trD at h
  split at h
  · cases h; show 2 ≤ 6; decide
  · split at h
    · cases h; exact Nat.le_of_eq (esc4_size c)
    · cases h
section
variable {G : Cx} {Fs : List Env} {k : Nat} {env : Env} {σ : Sg}
theorem Tr.b {e : Expr} {b b' : Bool} (h : Tr G k env σ e b) (e' : b = b') : Tr G k env σ e b' := e' ▸ h
theorem Ev.v {e : Expr} {v v' : V} {q : Bool} (h : Ev G k env σ e v q) (e' : v = v') : Ev G k env σ e v' q := e' ▸ h
end
end Mine
open PySem PySem.W PyProof.Rows
set_option Elab.async false
set_option linter.unusedVariables false
set_option maxRecDepth 100000
namespace Mine
section
variable {G : Cx} {Fs : List Env} {k : Nat} {env : Env} {σ : Sg} {C : PH → Heap → Prop}

noncomputable def EvC (G : Cx) (k : Nat) (C : PH → Heap → Prop) (env : Env) (σ : Sg) (e : Expr) (v : V) : Prop :=
  ∀ ⦃Fs : List Env⦄ (A : Around) (s : Shared) (R : PH) (Q : Value → Shared → Prop) (E : Value → Shared → Prop), Aok k Fs A → Sv G Fs env R σ s → C R s.heap →
    (∀ val s' R', Grow G Fs R s R' s' → Rep R' v val → Q val s') → wpAny (model G.prog G.w) A (eval e env) Q E s
theorem EvC.of {e : Expr} {v : V} (h : Ev G k env σ e v) : EvC G k C env σ e v := fun _ A s R Q E hA hS _ hQ => h A s R Q E hA hS hQ
theorem EvC.run {A : Around} {s : Shared} {R : PH} {Q : Value → Shared → Prop} {E : Value → Shared → Prop} {e : Expr} {v : V} (h : EvC G k C env σ e v) (hA : Aok k Fs A) (hS : Sv G Fs env R σ s) (hc : C R s.heap) (hQ : ∀ val s' R', Grow G Fs R s R' s' → Rep R' v val → Q val s') :
    wpAny (model G.prog G.w) A (eval e env) Q E s := h A s R Q E hA hS hc hQ
theorem EvC.v {e : Expr} {v v' : V} (h : EvC G k C env σ e v) (e' : v = v') : EvC G k C env σ e v' := e' ▸ h
theorem EvC.binop {l r : Expr} {op : Operator} {pos : Pos} {v₁ v₂ v : V} (hC : Lasts C) (h₁ : EvC G k C env σ l v₁) (h₂ : EvC G k C env σ r v₂) (h : Op2 G k (binaryOp op) v₁ v₂ v) : EvC G k C env σ (.BinOp l op r pos) v :=
  fun _ A s R Q E hA hS hc hQ => wpAny_BinOp (h₁ A s R _ E hA hS hc fun x s₁ R₁ g₁ r₁ => h₂ A s₁ R₁ _ E hA (hS.grow g₁) (hC.grow hc hS.base.tab g₁) fun y s₂ R₂ g₂ r₂ =>
    h A s₂ R₂ x y Q E hA g₂.base (Rep.sub g₂.up r₁) r₂ fun val s₃ R₃ g₃ r₃ => hQ val s₃ R₃ ((g₁.trans g₂).trans g₃) r₃)

theorem EvC.sub {pat rx : String} {pa fa c' : Addr} {ob : Obj} {qual : Str} {code : Array Nat} {groups : Nat} {x : Str} {esc : Nat → Bool} {tr : Nat → Str} {p1 p2 p4 pos : Pos} {e : Expr} (hg : groups ≤ 1000) (hv : G.mg (Str.ofString pat) = some (.ref pa))
    (hp : PatAt G.h0 pa code groups) (hf : Finds code groups esc x.cps) (hcb : ∀ q, q < x.cps.size → esc (x.cps.getD q 0) = true → FnR G k (Made fa ob c' qual) (.ref fa) [.mtch x q] (.str (tr (x.cps.getD q 0)))) (hx : x.cps.size ≤ 10000) (htr : ∀ c, esc c = true → (tr c).cps.size ≤ 20)
    (hob : ob.cls = .type "function") (he1 : (rx, .val (.fn fa)) ∈ σ) (he2 : Ev G (k + 2) env σ e (.str x))
    (hx' : env.kindOf (Str.ofString pat) = some .globalImplicit := by rfl) (hge : env.globals = mainGlobals := by rfl) (hk : env.scope.kind = .function := by rfl) (hb : (Str.ofString pat == ("__debug__" : Str)) = false := by decide)
    (hb1 : (Str.ofString rx == ("__debug__" : Str)) = false := by decide) (hb2 : (Str.ofString rx == ("__classdict__" : Str)) = false := by decide)
    (hc : ∃ pl, eval (.Call (.Attribute (.Name (Str.ofString pat) p1) (Str.ofString "sub") p2) [.Name (Str.ofString rx) p4, e] [] pos) env = (do
      let ov ← eval (.Name (Str.ofString pat) p1) env
      standAt p2.atName
      let (f, first) ← holding [ov] (getMethod ov (Str.ofString "sub") pl)
      callWith pos f first (backTo pos (starEach [.Name (Str.ofString rx) p4, e] env)) []) := by exact ⟨_, rfl⟩)
    (hs1 : starEach [.Name (Str.ofString rx) p4, e] env = (false, eval (.Name (Str.ofString rx) p4) env) :: starEach [e] env := by rfl) (hs2 : starEach [e] env = (false, eval e env) :: starEach [] env := by rfl) (hpl : (backTo pos (starEach [e] env)).any (·.1) = false := by rfl) :
    EvC G (k + 2) (Made fa ob c' qual) env σ (.Call (.Attribute (.Name (Str.ofString pat) p1) (Str.ofString "sub") p2) [.Name (Str.ofString rx) p4, e] [] pos) (.str ⟨(outL esc tr x.cps.toList).toArray⟩) := fun _ A s R Q E hA hS hC hQ => by
  obtain ⟨pl, hc⟩ := hc
  obtain ⟨o, ot, tp, fs, n', e1, e2, e2', e3, e4, e5, e6, e7, e8⟩ := hp.is
  refine MethodCall_ (pl := pl) (wpAny_global hS.base hv (getMethod_builtin (T := "re.Pattern") ⟨o, hS.base.ground _ _ e1, e2⟩ plainAttrs_pattern slot_sub type_sub (fun b q => by cases q; exact ⟨o, hS.base.ground _ _ e1, e2'⟩) ?_) hx' hb hk hge) hc
  refine callWith_method1 (args_cons ((Ev.name he1 hk hb1 hb2) A s R _ E hA hS fun v1 s₁ R₁ g₁ r₁ => args_cons (he2 A s₁ R₁ _ E hA (hS.grow g₁) fun v2 s₂ R₂ g₂ r₂ => args_nil ?_) hs2) hs1) hs1 hpl
  obtain ⟨tx, rfl⟩ := r₂
  rw [show v1 = .ref fa from r₁]
  have gg := g₁.trans g₂
  refine sub_call (C := Made fa ob c' qual) Made.lasts hg hp hf hcb hx htr hA gg.base (Made.lasts.grow hC hS.base.tab gg) ⟨ob, gg.base.sub _ _ (gg.up _ _ hC.1), hob⟩ fun t' s' R' g' => hQ _ s' R' (gg.trans g') ⟨t', rfl⟩

noncomputable def quoted (l : List Nat) : Str := ⟨([34] ++ l ++ [34]).toArray⟩
theorem quote_eq : Str.ofString "\"" = ⟨#[34]⟩ := by decide +kernel
theorem cat_quoted (l : List Nat) : (⟨#[34]⟩ ++ ⟨l.toArray⟩ : Str) ++ ⟨#[34]⟩ = quoted l := by
  unfold quoted
  show (⟨(#[34] ++ l.toArray) ++ #[34]⟩ : Str) = _
  congr 1
  apply Array.ext'
  simp

theorem str_len (l : List Nat) : (⟨l.toArray⟩ : Str).length = l.length := by show l.toArray.size = _; simp
end
end Mine
open PySem PySem.W PyProof.Rows
set_option Elab.async false
set_option linter.unusedVariables false
set_option maxRecDepth 100000
namespace Mine
section
variable {G : Cx} {Fs : List Env} {k : Nat} {env : Env} {σ σ' : Sg} {o : Out}

theorem Ev.neg {e : Expr} {pos : Pos} {i : Int} (h : Ev G k env σ e (.int i)) : Ev G k env σ (.UnaryOp .USub e pos) (.int (-i)) := fun _ A s R Q E hA hS hQ =>
  wpAny_UnaryOp (h A s R _ E hA hS fun v s₁ R₁ g₁ r₁ => by
    obtain ⟨t, rfl⟩ := r₁
    exact PyProof.Rows.neg_int (hQ _ _ R₁ (g₁.more _) ⟨_, rfl⟩))

theorem Op2.catL {a b : List V} (hs : a.length + b.length ≤ 1000000) : Op2 G k (binaryOp .Add) (.list a) (.list b) (.list (a ++ b)) := fun _ A s R x y Q E hA hB ⟨ax, ia, e1, sa, ra⟩ ⟨ay, ib, e2, sb, rb⟩ hQ => by
  subst e1 e2
  obtain ⟨⟨c1, d1, da1, sl1⟩, n1, q1, hc1, hd1⟩ := sa
  obtain ⟨⟨c2, d2, da2, sl2⟩, n2, q2, hc2, hd2⟩ := sb
  simp only at hc1 hd1 hc2 hd2
  subst hc1 hd1 hc2 hd2
  have hsz : ia.toArray.size + ib.toArray.size ≤ sizeLine := by
    rw [List.size_toArray, List.size_toArray, ra.length, rb.length]
    show _ ≤ 16777216
    omega
  refine concat_meets ⟨_, hB.sub _ _ q1, rfl⟩ ⟨_, hB.sub _ _ q2, rfl⟩ noFill_list_add seq_list_add F.slot_list_add F.entry_list_add (F.args_list_add_2 _ _) (list_addW ax ay ia.toArray ib.toArray n1 n2 d1 d2 sl1 sl2 hsz) ⟨hB.sub _ _ q1, hB.sub _ _ q2, ?_⟩
  have g := Grow.pushed (tk := s.toks) (o := { cls := .type "list", data := .seq (ia.toArray ++ ib.toArray) }) hB
  exact hQ _ _ _ g ⟨_, ia ++ ib, rfl, ⟨_, 0, PH.put_self .., rfl, by simp⟩, RepL.append (ra.sub g.up) (rb.sub g.up)⟩

noncomputable def At (i : Int) (n j : Nat) : Prop := (i = j ∨ (i < 0 ∧ i + n = j)) ∧ j < n
theorem getItem_L {A : Around} {s : Shared} {a : Addr} {its : List Value} {i : Int} {t : Tok} {x : Value} {j : Nat} {Q : Value → Shared → Prop} {E : Value → Shared → Prop} (hl : s.heap.IsList a its.toArray) (hj : At i its.length j) (hx : its[j]? = some x) (h : Q x s) (hn : its.length ≤ 1000000) :
    wpAny (model G.prog G.w) A (getItem (.ref a) (.int i t)) Q E s := by
  obtain ⟨hj | ⟨h0, hj⟩, hlt⟩ := hj
  · refine wpAny_getItem_list hl (by omega) (by omega) ?_ h
    rw [show i.toNat = j by omega]; simpa using hx
  · refine wpAny_getItem_list_neg hl h0 (by simp; omega) (by omega) ?_ h
    rw [show (i + (its.toArray.size : Int)).toNat = j by simp; omega]; simpa using hx

theorem Ev.sign {value slice : Expr} {pos : Pos} {x : Str} {i : Int} {j c : Nat} (h : Ev G k env σ value (.str x)) (hi : Ev G k env σ slice (.int i)) (hj : At i x.length j) (hc : x.cps[j]? = some c) (hn : x.length ≤ 1000000)
    (hs : ∀ t' t, subscripted slice false (.str x t') (.int i t) = operate [.str x t', .int i t] (getItem (.str x t') (.int i t)) := by intro _ _; rfl) (hg : ∀ t r, letTemporaryGo value (.str x t) r = pure () := by intro _ _; rfl) :
    Ev G k env σ (.Subscript value slice pos) (.str ⟨#[c]⟩) := fun _ A s R Q E hA hS hQ => by
  refine Subscript_ (h A s R _ E hA hS fun val s₁ R₁ g₁ r₁ => hi A s₁ R₁ _ E hA (hS.grow g₁) fun iv s₂ R₂ g₂ r₂ => ?_)
  obtain ⟨t, rfl⟩ := r₂
  obtain ⟨t', rfl⟩ := r₁
  have hidx : seqIndex? i x.length = some j := by
    unfold seqIndex?
    obtain ⟨hj | ⟨h0, hj⟩, hlt⟩ := hj
    · have : ¬ i < 0 := by omega
      simp only [this, if_false]
      rw [if_pos (by simp; omega)]; congr 1; omega
    · simp only [h0, if_true]
      rw [if_pos (by simp; omega)]; congr 1; omega
  refine subscriptTail_builtin (typeIs_str _ _ _) F.slot_str_getitem.lookup (PyProof.Rows.getItem_str ?_ (by rw [hidx]; exact hc) (hQ _ _ R₂ ((g₁.trans g₂).more _) ⟨_, rfl⟩)) (hs t' t) (hg t')
  obtain ⟨hj | ⟨h0, hj⟩, hlt⟩ := hj
  · simp; omega
  · simp; omega

theorem Fn.join {sep : Str} {texts : List Str} (hs : sep.cps = #[]) (h : (cat texts).length ≤ 1000000) : Fn G k (.builtin "str.join") [.str sep, .list (texts.map V.str)] (.str (cat texts)) := fun _ A s R xs Q E hA hB hr hQ => by
  obtain ⟨_, _, rfl, ⟨t, rfl⟩, _, _, rfl, ⟨a, its, rfl, sq, rl⟩, rfl⟩ := hr
  obtain ⟨l, e1, e2⟩ := RepL_strs rl
  have hl := (sq.sub hB.sub).isList
  rw [e1] at hl
  refine SC.join (texts := texts) hl e2 (join_ok hs h) fun t' tk => ?_
  rw [show Txt.join sep texts = cat texts from glued_nil _ hs _]
  exact hQ _ _ R (.toks hB _) ⟨_, rfl⟩
theorem Meth.join {x : Str} : Meth (.str x) "join" "str.join" := Meth.str F.slot_str_join F.type_str_join

end
end Mine
open PySem PySem.W PyProof.Rows
set_option Elab.async false
set_option linter.unusedVariables false
set_option maxRecDepth 100000
namespace Mine
section
variable {G : Cx} {Fs : List Env} {k : Nat} {env : Env} {σ σ' : Sg} {o : Out}

end
end Mine
open PySem PySem.W PyProof.Rows
set_option Elab.async false
set_option linter.unusedVariables false
set_option maxRecDepth 100000
namespace Mine

noncomputable def IterOb (ob : Obj) : Prop := ob.cls ≠ .none ∧ ob.cls ≠ .type "code" ∧ ob.cls ≠ .type "list" ∧ (∀ v, ob.data ≠ .cell v) ∧ ∀ es n, ob.data ≠ .dict es n

noncomputable def It (G : Cx) (k : Nat) (env : Env) (σ : Sg) (e : Expr) (vs : List V) : Prop :=
  ∀ ⦃Fs : List Env⦄ (A : Around) (s : Shared) (R : PH) (Q : Value → Shared → Prop) (E : Value → Shared → Prop), k ≠ 0 → Aok k Fs A → Sv G Fs env R σ s →
    (∀ s₁ R₁ I fp P J, Grow G Fs R s R₁ s₁ → Walks G.prog G.w A I fp [I] vs.length P J → J 0 s₁.heap → (∀ i h, J i h → ∃ ob, h.get? I = some ob ∧ IterOb ob) → s.heap.get? I = none → R₁ I = none → I ∉ G.T →
      (∀ b ∈ fp, b ≠ I → R₁ b ≠ none) → (∀ i v, P i v → ∃ w, vs[i]? = some w ∧ Rep R₁ w v) → Q (.ref I) s₁) →
    wpAny (model G.prog G.w) A (eval e env) (fun x s₁ => wpAny (model G.prog G.w) A (pyIter x) Q E s₁) E s

section
variable {G : Cx} {Fs : List Env} {k : Nat} {env : Env} {σ σ' : Sg} {o : Out}

theorem none_of_new {R : PH} {s : Shared} (B : Base G Fs R s) {b : Addr} (h : s.heap.get? b = none) : R b = none := by
  cases q : R b with
  | none => rfl
  | some o => rw [B.sub b o q] at h; cases h
theorem notT_of_new {R : PH} {s : Shared} (B : Base G Fs R s) {b : Addr} (h : s.heap.get? b = none) : b ∉ G.T := fun hm => by
  obtain ⟨ps, e⟩ := G.tabIn _ B.tab _ hm
  rw [h] at e; cases e
theorem Grow.older {R R' : PH} {s s' : Shared} (g : Grow G Fs R s R' s') {b : Addr} (h : s'.heap.get? b = none) : s.heap.get? b = none := by
  cases q : s.heap.get? b with
  | none => rfl
  | some ob =>
    by_cases hb : b ∈ G.T
    · exact absurd hb (notT_of_new g.base h)
    · obtain ⟨o1, e1, _⟩ := g.ext b ob hb q
      rw [h] at e1; cases e1

theorem It.list {e : Expr} {vs : List V} (h : Ev G k env σ e (.list vs)) : It G k env σ e vs := fun _ A s R Q E hk0 hA hS hQ => by
  refine h A s R _ E hA hS fun val s₁ R₁ g₁ r₁ => ?_
  obtain ⟨ax, its, rfl, hseq, hrl⟩ := r₁
  have hseq' := hseq.sub g₁.base.sub
  refine wpAny_pyIter_list hseq'.isList ?_
  obtain ⟨oa, na, ea, ca, da⟩ := id hseq
  replace ea : R₁ ax = some oa := ea
  have hax : s₁.heap.get? ax = some oa := g₁.base.sub _ _ ea
  have hne : ax ≠ s₁.heap.objs.size := Nat.ne_of_lt (Heap.lt_size hax)
  have hnew := new_none s₁.heap
  have g₂ : Grow G _ R₁ s₁ R₁ { s₁ with heap := s₁.heap.push { cls := .type "list_iterator", data := .fields #[.ref ax, .int 0 0] } } := Grow.keep (tk := s₁.toks) g₁.base fun _ _ e => Heap.get?_push_of_some _ e
  have W := Walks.list (prog := G.prog) (w := G.w) (hA.handled hk0) s₁.heap.objs.size ax hne its.toArray
  rw [show its.toArray.size = vs.length by simp [hrl.length]] at W
  refine hQ _ R₁ s₁.heap.objs.size _ _ _ (g₁.trans g₂) W ⟨⟨_, Heap.get?_push_size _ rfl, rfl, rfl⟩, (hseq'.isList).push _⟩ (fun i h hJ => ?_) (g₁.older hnew) (none_of_new g₁.base hnew) (notT_of_new g₁.base hnew) (fun b hb hbI => ?_) (fun i v hv => ?_)
  · obtain ⟨⟨ob, e, c, d⟩, _⟩ := hJ
    exact ⟨ob, e, by rw [c]; nofun, by rw [c]; decide, by rw [c]; decide, fun v q => (by rw [d] at q; cases q), fun es n q => (by rw [d] at q; cases q)⟩
  · simp at hb
    rcases hb with rfl | rfl
    · exact absurd rfl hbI
    · rw [ea]; nofun
  · have hv' : its[i]? = some v := by simpa using hv
    obtain ⟨v', e, r⟩ := hrl.get' hv'
    exact ⟨v', e, r⟩

theorem X1.for {x : String} {p pos : Pos} {iter : Expr} {body : List Stmt} {vs : List V} (F : Nat → Sg) (m : Nat) (h : It G k env (F 0) iter vs) (hmn : m ≤ vs.length)
    (hbody : ∀ i v, i < m → vs[i]? = some v → Ex G k env (put (F i) x (.val v)) body (.next (F (i + 1))))
    (hend : (m = vs.length ∧ o = .next (F vs.length)) ∨ (∃ v w, vs[m]? = some v ∧ o = .ret w ∧ Ex G k env (put (F m) x (.val v)) body (.ret w)))
    (hx : OwnName env (Str.ofString x)) (hk0 : k ≠ 0 := by omega) (hk : env.scope.kind = .function := by rfl) (hs : ∀ x, foldedSetIterable iter env x = pure x := by intro _; rfl) :
    X1 G k env (F 0) (.For (.Name (Str.ofString x) p) iter body [] pos) o := fun _ A s R Kp Q E hA hS hQ => by
  refine wpAny_For (h A s R _ E hk0 hA hS.sv fun s₁ R₁ I fp P J g₁ W hJ hJI hI hRI hIT hfp hP => ?_) hs
  have S₁ := hS.grow g₁
  obtain ⟨ob, eI, cI⟩ := hJI 0 _ hJ
  obtain ⟨m₁, oL, es, ep, eL, dL, rL⟩ := hS.ns
  refine loop_core (o := o) (n := vs.length) (RR := fun r s' => match r with | .ok f => Q f s' | .error e => cameBackBy (model G.prog G.w) A env E e s') hA W F (fun i => (vs[i]?).getD .none) m hmn
    (fun i hi => ?_) ?_ hx hk S₁ hJ (fun i h hJ => ?_) hRI ?_ (fun q => ?_) (fun hm => ?_) hIT hfp (fun i v hv => ?_) ?_
  · have : i < vs.length := Nat.lt_of_lt_of_le hi hmn
    have e : vs[i]? = some vs[i] := List.getElem?_eq_getElem this
    simp only [e, Option.getD_some]
    exact hbody i _ hi e
  · rcases hend with ⟨q1, q2⟩ | ⟨v, w', q1, q2, q3⟩
    · exact .inl ⟨q1, q2⟩
    · refine .inr ⟨(List.getElem?_eq_some_iff.mp q1).1, w', q2, ?_⟩
      simp only [q1, Option.getD_some]
      exact q3
  · obtain ⟨ob, e, c1, c2, c3, _, c5⟩ := hJI i h hJ
    exact ⟨ob, e, c1, c2, c3, c5⟩
  · cases q : Kp I with
    | none => rfl
    | some o' =>
      obtain ⟨o1, e1, _⟩ := hS.kp _ _ q
      rw [hI] at e1; cases e1
  · rw [← q, hI] at eL; cases eL
  · obtain ⟨pc, hp, e⟩ := List.mem_map.mp hm
    obtain ⟨_, _, v, ob, e2, _⟩ := hS.cells pc hp
    rw [e, hI] at e2; cases e2
  · obtain ⟨w', e, r⟩ := hP i v hv
    simp only [e, Option.getD_some]
    exact r
  · have q := hQ.from g₁.adv (g₁.x hS.kp)
    cases o with
    | next σ' => exact q
    | ret v => exact q

theorem comp_it {A : Around} {s : Shared} {R : PH} {x : String} {px pos pos' : Pos} {elt iter : Expr} {ifs : List Expr} {scope : Scope} {cl : List (Str × Addr)} {σc : Sg} {use : Option (Value → Sem Unit)} {Q : Value → Shared → Prop} {E : Value → Shared → Prop} {src : List V}
    (hk0 : k ≠ 0) (hA : Aok k Fs A) (hSv : Sv G Fs env R σ s) (ws : Nat → V) (keep : Nat → Bool) (hn : src.length ≤ 1000000) (h : It G k env σ iter src)
    (htest : ∀ i v C, src[i]? = some v → Ts G k (compEnvC scope cl C env) ((x, .val v) :: σc) ifs (keep i)) (helt : ∀ i v C, src[i]? = some v → keep i = true → Ev G k (compEnvC scope cl C env) ((x, .val v) :: σc) elt (ws i))
    (hclos : closureFor scope env = pure cl) (hcell : ∀ y ∈ scope.names, y.2 ≠ .cell) (hkind : scope.kind = .function) (hnames : ∀ y ∈ scope.names, y.2 = .local → scope.names.lookup y.1 = some .local) (hx : scope.names.lookup (Str.ofString x) = some .local)
    (hcap : ∀ C s R, Sv G Fs env R σ s → Capt (compEnvC scope cl C env) R s.heap σc)
    (hs : ∀ x, foldedSetIterable iter env x = pure x)
    (hQ : ∀ s' R' D C ys, Grow G Fs R s R' s' → s.heap.get? D = Option.none → R' D = Option.none → s.heap.get? C = Option.none → R' C = Option.none → (∃ m, s'.heap.Ns C m) → s'.heap.PlainList D ys → RepL R' (kept ws keep src.length) ys.toList → compPost (model G.prog G.w) A E use Q (.ref D) C (.ok .next) s') :
    wpAny (model G.prog G.w) A (comprehension (.ListComp elt [⟨.Name (Str.ofString x) px, iter, ifs, 0⟩] scope pos) scope env pos' (newList []) false (eval iter env) use) Q E s := by
  refine wpAny_comprehension_free rfl hs hclos hkind hnames (h A s R _ E hk0 hA hSv fun s₁ R₁ I fp P J g₁ W hJ hJI hI hRI hIT hfp hP => ?_)
  obtain ⟨oI, eI, _⟩ := hJI 0 _ hJ
  refine comp_tail (n := src.length) (RR := fun acc C => compPost (model G.prog G.w) A E use Q acc C) hA W (fun i => (src[i]?).getD .none) ws keep hn
    (fun i C hi => ?_) (fun i C hi hk => ?_) hcell hkind hx (fun C => hcap C _ _ (hSv.grow g₁)) g₁.base hJ (fun i h hJ => hJI i h hJ) hRI hIT hfp (fun i v hv => ?_)
    fun s' R' D C ys a1 a2 a3 a4 a5 d1 d2 c1 c2 c3 p1 p2 => ?_
  · have e : src[i]? = some src[i] := List.getElem?_eq_getElem hi
    simp only [e, Option.getD_some]
    exact htest i _ C e
  · have e : src[i]? = some src[i] := List.getElem?_eq_getElem hi
    simp only [e, Option.getD_some]
    exact helt i _ C e hk
  · obtain ⟨w', e, r⟩ := hP i v hv
    simp only [e, Option.getD_some]
    exact r
  · -- what stood at the start stands
    have ext0 : ∀ b ob, b ∉ G.T → s.heap.get? b = some ob → ∃ ob', s'.heap.get? b = some ob' ∧ Like (InFr Fs b) ob ob' := fun b ob hb e => by
      obtain ⟨o1, e1, l1⟩ := g₁.ext b ob hb e
      obtain ⟨o2, e2, l2⟩ := a2 b o1 hb (fun q => by rw [q, hI] at e; cases e) e1
      exact ⟨o2, e2, l1.trans l2⟩
    have out0 : ∀ b, s₁.heap.get? b = Option.none → s.heap.get? b = Option.none := fun b e => g₁.older e
    refine hQ s' R' D C ys ⟨g₁.adv.trans a1, ext0, g₁.up.trans a3, fun b ob e => ?_, a5⟩ (out0 D d1) d2 (out0 C c1) c2 c3 p1 p2
    rcases a4 b ob e with q | q
    · exact g₁.new b ob q
    · exact .inr (out0 b q)

theorem Ev.compI {x : String} {px pos : Pos} {elt iter : Expr} {ifs : List Expr} {scope : Scope} {src : List V} (cl : List (Str × Addr)) (σc : Sg) (ws : Nat → V) (keep : Nat → Bool) (h : It G k env σ iter src) (hn : src.length ≤ 1000000)
    (htest : ∀ i v C, src[i]? = some v → Ts G k (compEnvC scope cl C env) ((x, .val v) :: σc) ifs (keep i)) (helt : ∀ i v C, src[i]? = some v → keep i = true → Ev G k (compEnvC scope cl C env) ((x, .val v) :: σc) elt (ws i))
    (hcap : ∀ Fs C s R, Sv G Fs env R σ s → Capt (compEnvC scope cl C env) R s.heap σc)
    (hk0 : k ≠ 0 := by omega) (hclos : closureFor scope env = pure cl := by rfl) (hcell : ∀ y ∈ scope.names, y.2 ≠ .cell := by decide) (hkind : scope.kind = .function := by rfl) (hnames : ∀ y ∈ scope.names, y.2 = .local → scope.names.lookup y.1 = some .local := by decide)
    (hx : scope.names.lookup (Str.ofString x) = some .local := by rfl) (hs : ∀ x, foldedSetIterable iter env x = pure x := by intro _; rfl) :
    Ev G k env σ (.ListComp elt [⟨.Name (Str.ofString x) px, iter, ifs, 0⟩] scope pos) (.list (kept ws keep src.length)) := fun _ A s R Q E hA hS hQ => by
  rw [eval_ListComp]
  exact comp_it (use := none) hk0 hA hS ws keep hn h htest helt hclos hcell hkind hnames hx (hcap _) hs fun s' R' D C ys g d1 d2 c1 c2 c3 p1 p2 => comp_end hS.base g d1 d2 c1 c2 c3 p1 p2 hQ

theorem kept_all (ws : Nat → V) (n : Nat) : kept ws (fun _ => true) n = (List.range n).map ws := by
  unfold kept
  rw [List.filter_eq_self.mpr (fun _ _ => rfl)]
theorem Ev.compM {x : String} {px pos : Pos} {elt iter : Expr} {scope : Scope} {src : List V} (cl : List (Str × Addr)) (σc : Sg) (ws : List V) (h : It G k env σ iter src) (hn : src.length ≤ 1000000) (hl : ws.length = src.length)
    (helt : ∀ (i : Nat) v w C, src[i]? = some v → ws[i]? = some w → Ev G k (compEnvC scope cl C env) ((x, .val v) :: σc) elt w)
    (hcap : ∀ Fs C s R, Sv G Fs env R σ s → Capt (compEnvC scope cl C env) R s.heap σc)
    (hk0 : k ≠ 0 := by omega) (hclos : closureFor scope env = pure cl := by rfl) (hcell : ∀ y ∈ scope.names, y.2 ≠ .cell := by decide) (hkind : scope.kind = .function := by rfl) (hnames : ∀ y ∈ scope.names, y.2 = .local → scope.names.lookup y.1 = some .local := by decide)
    (hx : scope.names.lookup (Str.ofString x) = some .local := by rfl) (hs : ∀ x, foldedSetIterable iter env x = pure x := by intro _; rfl) :
    Ev G k env σ (.ListComp elt [⟨.Name (Str.ofString x) px, iter, [], 0⟩] scope pos) (.list ws) := by
  have e : kept (fun i => (ws[i]?).getD .none) (fun _ => true) src.length = ws := by
    rw [kept_all, ← hl]
    apply List.ext_getElem
    · simp
    · intro i h1 h2
      have h1' : i < ws.length := by simpa using h1
      simp [h1']
  rw [← e]
  refine Ev.compI cl σc (fun i => (ws[i]?).getD .none) (fun _ => true) h hn (fun i v C _ => Ts.nil) (fun i v C hv _ => ?_) hcap hk0 hclos hcell hkind hnames hx hs
  have hi : i < ws.length := by rw [hl]; exact (List.getElem?_eq_some_iff.mp hv).1
  have ew : ws[i]? = some ws[i] := List.getElem?_eq_getElem hi
  simp only [ew, Option.getD_some]
  exact helt i v _ C hv ew
end
end Mine
open PySem PySem.W PyProof.Rows
set_option Elab.async false
set_option linter.unusedVariables false
set_option maxRecDepth 100000
namespace Mine

/-! slices of texts -/
noncomputable def cut (x : Str) (a b : Nat) : Str := ⟨((x.cps.toList.take b).drop a).toArray⟩
theorem picked (x : Array Nat) (a n : Nat) (h : a + n ≤ x.size) : (List.range n).filterMap (fun (i : Nat) => x[a + i]?) = (x.toList.drop a).take n := by
  induction n with
  | zero => simp
  | succ n ih =>
    rw [List.range_succ, List.filterMap_append, ih (by omega)]
    have e : x[a + n]? = some x[a + n] := Array.getElem?_eq_getElem (by omega)
    rw [List.filterMap_cons, e, List.filterMap_nil, List.take_add_one, List.getElem?_drop, Array.getElem?_toList, e]
    rfl
noncomputable def Clip (v : Option Int) (d n a : Nat) : Prop := match v with | none => a = d | some i => (0 ≤ i ∧ (a : Int) = min i n) ∨ (i < 0 ∧ (a : Int) = max 0 (i + n))
noncomputable def clipI (v : Option Int) (d n : Int) : Int := match v with | none => d | some i => max 0 (min (if i < 0 then i + n else i) n)
theorem Clip.le {v : Option Int} {d n a : Nat} (h : Clip v d n a) (hd : d ≤ n) : a ≤ n := by
  cases v with
  | none => have h : a = d := h; omega
  | some i => have h : (0 ≤ i ∧ (a : Int) = min i n) ∨ (i < 0 ∧ (a : Int) = max 0 (i + n)) := h; omega
theorem Clip.eq {v : Option Int} {d n a : Nat} (h : Clip v d n a) : clipI v d n = a := by
  cases v with
  | none => have h : a = d := h; show (d : Int) = a; omega
  | some i =>
    have h : (0 ≤ i ∧ (a : Int) = min i n) ∨ (i < 0 ∧ (a : Int) = max 0 (i + n)) := h
    show max 0 (min (if i < 0 then i + (n : Int) else i) (n : Int)) = a
    split <;> omega
theorem indices_one (l u : Option Int) (n a b : Nat) (ha : Clip l 0 n a) (hb : Clip u n n b) : Builtin.Str.strSliceIndices l u 1 n = (List.range (b - a)).map (a + ·) := by
  have hbn := hb.le (Nat.le_refl _)
  have han := ha.le (Nat.zero_le _)
  have key : Builtin.Str.strSliceIndices l u 1 n = sliceRange (clipI l (0 : Nat) n) (clipI u n n) 1 := by
    cases l <;> cases u <;> rfl
  rw [key, ha.eq, hb.eq]
  unfold sliceRange
  have e : (if (1 : Int) > 0 then (if (a : Int) < b then ((b : Int) - a + 1 - 1) / 1 else 0) else (if (a : Int) > b then ((a : Int) - b - 1 - 1) / (-1) else 0)).toNat = b - a := by
    rw [if_pos (by decide)]
    split <;> omega
  dsimp only
  rw [e]
  apply List.map_congr_left
  intro i _
  show ((a : Int) + 1 * (i : Int)).toNat = a + i
  omega
theorem slice_cut (x : Str) (l u : Option Int) (a b : Nat) (ha : Clip l 0 x.length a) (hb : Clip u x.length x.length b) :
    Txt.slice x l u = cut x a b := by
  have hi := indices_one l u x.length a b ha hb
  have hbn := hb.le (Nat.le_refl _)
  have han := ha.le (Nat.zero_le _)
  have hlen : x.cps.toList.length = x.length := Array.length_toList
  unfold Txt.slice cut
  rw [hi]
  by_cases hc : ((1 : Int) == 1 && ((List.range (b - a)).map (a + ·)).length == x.length) = true
  · rw [if_pos hc]
    simp at hc
    have e1 : a = 0 := by omega
    have e2 : b = x.length := by omega
    rw [e1, e2, ← hlen, List.take_length]
    simp
  · rw [if_neg hc]
    congr 1
    congr 1
    rw [List.filterMap_map]
    by_cases hab : a ≤ b
    · have := picked x.cps a (b - a) (by show a + (b - a) ≤ x.length; omega)
      rw [show ((fun (i : Nat) => x.cps[i]?) ∘ fun i => a + i) = fun (i : Nat) => x.cps[a + i]? from rfl, this, List.drop_take]
    · rw [show b - a = 0 by omega]
      rw [List.drop_eq_nil_of_le (by rw [List.length_take]; omega)]
      rfl

section
variable {G : Cx} {Fs : List Env} {k : Nat} {env : Env} {σ σ' : Sg} {o : Out}

noncomputable def Part (G : Cx) (k : Nat) (env : Env) (σ : Sg) : Option Expr → Option Int → Prop
  | none, none => True
  | some e, some i => Ev G k env σ e (.int i)
  | _, _ => False

theorem Part.run {A : Around} {s : Shared} {R : PH} {e : Option Expr} {i : Option Int} {Q : Value → Shared → Prop} {E : Value → Shared → Prop} (h : Part G k env σ e i) (hA : Aok k Fs A) (hS : Sv G Fs env R σ s)
    (hQ : ∀ t s' R', Grow G Fs R s R' s' → Q (partValue (i.map fun j => (j, t))) s') : wpAny (model G.prog G.w) A (evalPart e env) Q E s := by
  cases e <;> cases i <;> first | exact h.elim | skip
  · exact evalPart_none_step (hQ 0 s R (.refl hS.base))
  · refine evalPart_some_step (h A s R _ E hA hS fun val s₁ R₁ g₁ r₁ => ?_)
    obtain ⟨t, rfl⟩ := r₁
    exact hQ t s₁ R₁ g₁

theorem Ev.slice {x : String} {p p' pos : Pos} {lo up : Option Expr} {y : Str} {l u : Option Int} (a b : Nat) (h : Ev G k env σ (.Name (Str.ofString x) p) (.str y)) (hl : Part G k env σ lo l) (hu : Part G k env σ up u)
    (ha : Clip l 0 y.length a) (hb : Clip u y.length y.length b)
    (hn : y.length ≤ 1000000) : Ev G k env σ (.Subscript (.Name (Str.ofString x) p) (.Slice lo up none p') pos) (.str (cut y a b)) := fun _ A s R Q E hA hS hQ => by
  refine Subscript_Slice (h A s R _ E hA hS fun val s₁ R₁ g₁ r₁ => wpAny_Slice (hl.run hA (hS.grow g₁) fun t₁ s₂ R₂ g₂ => hu.run hA ((hS.grow g₁).grow g₂) fun t₂ s₃ R₃ g₃ => evalPart_none_step ?_)) (fun o r => rfl)
  obtain ⟨t, rfl⟩ := r₁
  have hcut := slice_cut y l u a b ha hb
  have g := (g₁.trans g₂).trans g₃
  have fin : ∀ t' tk, Q (.str (Txt.slice y l u) t') { s₃ with heap := s₃.heap.push { cls := .type "slice", data := .fields #[partValue (l.map fun j => (j, t₁)), partValue (u.map fun j => (j, t₂)), .none] }, toks := tk } := fun t' tk =>
    hQ _ _ R₃ (g.trans (Grow.keep (tk := tk) g₃.base fun _ _ e => Heap.get?_push_of_some _ e)) ⟨t', by rw [hcut]⟩
  have hsz : y.length ≤ sizeLine := by show _ ≤ 16777216; omega
  refine ⟨"str", _, F.slot_str_getitem.lookup, typeIs_str _ _ _, wpAny_getItem_str_slice (l := l.map fun j => (j, t₁)) (u := u.map fun j => (j, t₂)) (st := none) ⟨_, Heap.get?_push_size _ rfl, rfl, rfl⟩ rfl ?_⟩
  cases l <;> cases u <;> exact post_val_or_str ⟨Nat.le_trans (Txt.slice_le y _ _) hsz, fun t' tk => fin t' tk⟩

/-! ranges -/
theorem boot_range : bootBuiltins (Str.ofString "range") = some (.type "range") := by kernel_rfl

noncomputable def steps (a c : Int) (n : Nat) : List V := (List.range n).map fun (i : Nat) => V.int (a + (i : Int) * c)
theorem steps_get {a c : Int} {n i : Nat} {v : V} (h : (steps a c n)[i]? = some v) : i < n ∧ v = .int (a + (i : Int) * c) := by
  unfold steps at h
  rw [List.getElem?_map] at h
  cases q : (List.range n)[i]? with
  | none => rw [q] at h; cases h
  | some j =>
    rw [q] at h
    have := List.getElem?_eq_some_iff.mp q
    obtain ⟨h1, h2⟩ := this
    simp at h1 h2
    subst h2
    exact ⟨h1, (Option.some.inj h).symm⟩
theorem steps_len (a c : Int) (n : Nat) : (steps a c n).length = n := by simp [steps]

theorem bounded {prog : Program} {w : World} {A : Around} {I : Addr} {fp wr : List Addr} {n : Nat} {P : Nat → Value → Prop} {J : Nat → Heap → Prop} (W : Walks prog w A I fp wr n P J) : Walks prog w A I fp wr n (fun i v => i < n ∧ P i v) J where
  sub := W.sub
  frame := W.frame
  item := fun i s Q E hi st hQ => W.item i s Q E hi st fun v h' tk hP hJ hk => hQ v h' tk ⟨hi, hP⟩ hJ hk
  done := W.done
  self := W.self

theorem range_tail {A : Around} {s : Shared} {R : PH} {a b c : Int} {t u v : Tok} {n : Nat} {Q : Value → Shared → Prop} {E : Value → Shared → Prop} {tk : Nat} (B : Base G Fs R s) (hk0 : k ≠ 0) (hA : Aok k Fs A) (hn : Builtin.Range.rangeSize a b c = n) (hsmall : Builtin.Range.small a b c = true)
    (hQ : ∀ s₁ R₁ I fp P J, Grow G Fs R s R₁ s₁ → Walks G.prog G.w A I fp [I] (steps a c n).length P J → J 0 s₁.heap → (∀ i h, J i h → ∃ ob, h.get? I = some ob ∧ IterOb ob) → s.heap.get? I = none → R₁ I = none → I ∉ G.T →
      (∀ b ∈ fp, b ≠ I → R₁ b ≠ none) → (∀ i v, P i v → ∃ w, (steps a c n)[i]? = some w ∧ Rep R₁ w v) → Q (.ref I) s₁) :
    wpAny (model G.prog G.w) A (pyIter (.ref s.heap.objs.size)) Q E { s with heap := s.heap.push { cls := .type "range", data := .fields #[.int a t, .int b u, .int c v] }, toks := tk } := by
  refine wpAny_pyIter_range (IsRange.new _ a b c t u v) hsmall ?_
  have g₁ := Grow.keep (tk := tk) B (h' := s.heap.push { cls := .type "range", data := .fields #[.int a t, .int b u, .int c v] }) fun _ _ e => Heap.get?_push_of_some _ e
  have g₂ := Grow.keep (tk := tk) g₁.base (h' := (s.heap.push { cls := .type "range", data := .fields #[.int a t, .int b u, .int c v] }).push { cls := .type "range_iterator", data := .fields #[rawInt a, rawInt (Builtin.Range.rangeSize a b c), rawInt c] }) fun _ _ e => Heap.get?_push_of_some _ e
  have hnew := new_none (s.heap.push { cls := .type "range", data := .fields #[.int a t, .int b u, .int c v] })
  have hnew0 := g₁.older hnew
  have W := bounded (Walks.range (prog := G.prog) (w := G.w) (hA.handled hk0) (s.heap.push { cls := .type "range", data := .fields #[.int a t, .int b u, .int c v] }).objs.size a c n)
  have e := Heap.get?_push_size (s.heap.push { cls := .type "range", data := .fields #[.int a t, .int b u, .int c v] }) (o := { cls := .type "range_iterator", data := .fields #[rawInt a, rawInt (Builtin.Range.rangeSize a b c), rawInt c] }) rfl
  have hl := steps_len a c n
  generalize hP : (fun (i : Nat) (v : Value) => i < n ∧ ∃ t, v = Value.int (a + ↑i * c) t) = P at W
  generalize hJ : (fun (i : Nat) h => IsRangeIter h (s.heap.push { cls := .type "range", data := .fields #[.int a t, .int b u, .int c v] }).objs.size (a + (i : Nat) * c) ((n : Int) - (i : Nat)) c) = J at W
  rw [← hl] at W
  refine hQ _ R _ _ P J (g₁.trans g₂) W ?_ (fun i h hJ' => ?_) hnew0 (none_of_new B hnew0) (notT_of_new B hnew0) (fun b' hb hbI => ?_) (fun i v' hv => ?_)
  · subst hJ
    show _ = _
    rw [e, hn]
    simp
  · subst hJ
    refine ⟨_, hJ', ?_, ?_, ?_, fun v q => ?_, fun es n q => ?_⟩
    · show Value.type "range_iterator" ≠ _; nofun
    · show Value.type "range_iterator" ≠ _; decide
    · show Value.type "range_iterator" ≠ _; decide
    · cases q
    · cases q
  · exact absurd (List.mem_singleton.mp hb) hbI
  · subst hP
    obtain ⟨hi, t', rfl⟩ := hv
    refine ⟨.int (a + (i : Int) * c), ?_, t', rfl⟩
    unfold steps
    rw [List.getElem?_map, List.getElem?_eq_getElem (by simpa using hi)]
    simp

theorem It.range1 {p pos : Pos} {e : Expr} {b : Nat} (hm : G.mg (Str.ofString "range") = none) (h : Ev G k env σ e (.int b)) (hb' : b ≤ 1000000)
    (hx : env.kindOf (Str.ofString "range") = some .globalImplicit := by rfl) (hg : env.globals = mainGlobals := by rfl) (hbl : env.builtins = builtinsNs := by rfl) (hk : env.scope.kind = .function := by rfl)
    (he : starEach [e] env = (false, eval e env) :: starEach [] env := by rfl) (hp : ∀ pos, (backTo pos (starEach [] env)).any (·.1) = false := by intro _; rfl) :
    It G k env σ (.Call (.Name (Str.ofString "range") p) [e] [] pos) (steps 0 1 b) := fun _ A s R Q E hk0 hA hS hQ => by
  refine Call_name (wpAny_builtin hS.base hm boot_range (by decide) (callWith_type1 (args_cons (h A s R _ E hA hS fun v s₁ R₁ g₁ r₁ => args_nil ?_) he) he (hp pos)) hx (by decide) hk hg hbl)
  obtain ⟨t, rfl⟩ := r₁
  refine call_range_1 ?_
  refine range_tail (n := b) g₁.base hk0 hA (by rw [rangeSize_one]; split <;> omega) (small_one (by omega) (by omega) (by omega) (by omega)) fun s₂ R₂ I fp P J g₂ W hJ hJI hI hRI hIT hfp hP => hQ s₂ R₂ I fp P J (g₁.trans g₂) W hJ hJI (g₁.older hI) hRI hIT hfp hP

end
end Mine
open PySem PySem.W PyProof.Rows
set_option Elab.async false
set_option linter.unusedVariables false
set_option maxRecDepth 100000
namespace Mine
section
variable {G : Cx} {Fs : List Env} {k : Nat} {env : Env} {σ σ' : Sg} {o : Out}

theorem Ex.ifRet {t : Expr} {b : Bool} {body rest : List Stmt} {pos : Pos} (h : Tr G k env σ t b) (h₁ : b = true → ∃ v, o = .ret v ∧ Ex G k env σ body o) (h₂ : b = false → Ex G k env σ rest o) : Ex G k env σ (.If t body [] pos :: rest) o := by
  cases b with
  | true =>
    obtain ⟨v, rfl, hb⟩ := h₁ rfl
    exact Ex.stop (X1.ifTrue h (fun _ => hb) (fun q => nomatch q))
  | false => exact Ex.cons (X1.ifTrue (o := .next σ) h (fun q => nomatch q) (fun _ => Ex.nil)) (h₂ rfl)

theorem Part.one {e : Expr} {i : Int} (h : Ev G k env σ e (.int i)) : Part G k env σ (some e) (some i) := h
end

theorem m0 {α : Type} {a : α} {l : List α} : a ∈ a :: l := List.mem_cons_self ..
theorem m1 {α : Type} {a b : α} {l : List α} : a ∈ b :: a :: l := List.mem_cons_of_mem _ m0
theorem m2 {α : Type} {a b c : α} {l : List α} : a ∈ b :: c :: a :: l := List.mem_cons_of_mem _ m1
theorem m3 {α : Type} {a b c d : α} {l : List α} : a ∈ b :: c :: d :: a :: l := List.mem_cons_of_mem _ m2
theorem m4 {α : Type} {a b c d e : α} {l : List α} : a ∈ b :: c :: d :: e :: a :: l := List.mem_cons_of_mem _ m3
theorem m5 {α : Type} {a b c d e f : α} {l : List α} : a ∈ b :: c :: d :: e :: f :: a :: l := List.mem_cons_of_mem _ m4
theorem m6 {α : Type} {a b c d e f g : α} {l : List α} : a ∈ b :: c :: d :: e :: f :: g :: a :: l := List.mem_cons_of_mem _ m5
theorem m7 {α : Type} {a b c d e f g h : α} {l : List α} : a ∈ b :: c :: d :: e :: f :: g :: h :: a :: l := List.mem_cons_of_mem _ m6

noncomputable def ivs (l : List Nat) : List V := l.map fun (n : Nat) => V.int n
theorem ivs_len (l : List Nat) : (ivs l).length = l.length := by simp [ivs]
theorem ivs_get {l : List Nat} {i : Nat} {v : V} (h : (ivs l)[i]? = some v) : ∃ n, l[i]? = some n ∧ v = .int n := by
  unfold ivs at h
  rw [List.getElem?_map] at h
  cases q : l[i]? with
  | none => rw [q] at h; cases h
  | some n => rw [q] at h; exact ⟨n, rfl, (Option.some.inj h).symm⟩
theorem ivs_append (a b : List Nat) : ivs (a ++ b) = ivs a ++ ivs b := by simp [ivs]
end Mine
open PySem PySem.W PyProof.Rows
set_option Elab.async false
set_option linter.unusedVariables false
set_option maxRecDepth 100000
namespace Mine
section
variable {prog p : Program} {w : World} {s₁ : Shared} {mg mb : Str → Option Value} {loose : List Str} {mean : ExcName → Option Value} {K : Frag} {ts : List Tab}

noncomputable def pairs (ts : List Tab) : List (Addr × Addr) := ts.map fun t => (t.c, t.P)
theorem pairs_P (ts : List Tab) : (pairs ts).map (·.2) = ts.map (·.P) := by unfold pairs; rw [List.map_map]; rfl

theorem codeAll_get {h : Heap} : ∀ {tabs : List (Addr × Addr)}, CodeAll tabs h → ∀ q ∈ tabs, CodeHd h q.1 q.2
  | _ :: _, k, _, .head _ => k.1
  | _ :: _, k, _, .tail _ m => codeAll_get k.2 _ m

noncomputable def mkCx (prog : Program) (w : World) (ts : List Tab) (T : Top p loose mean mg mb s₁.heap) (hT : TabsAt (pairs ts) s₁.heap) (hnd : (ts.map (·.P)).Nodup) : Cx where
  prog := prog
  w := w
  h0 := (ghostOf s₁.heap (pairs ts)).get?
  ts := ts
  mg := mg
  mb := mb
  os := s₁.os
  hT := fun P hP => hideAll_none _ (by rw [pairs_P]; exact hP)
  apart := hnd
  heads := fun h hs t ht => (codeAll_get (ghost_code hT) (t.c, t.P) (List.mem_map_of_mem ht)).keeps hs
  g := fun h hs => (ghost_ns hT T.g).keeps hs
  b := fun h hs => (ghost_ns hT T.b).keeps hs
  nolimit := fun h hs => (ghost_top hT T).nolimit.keeps hs
  nodigits := fun h hs => let ⟨mc, a, r⟩ := (ghost_top hT T).nodigits; ⟨mc, a.keeps hs, r⟩
  builtins := T.builtins
  bmain := by
    obtain ⟨bm, ob, b1, b2, b3, b4, b5, b6⟩ := (ghost_top hT T).bmain
    refine ⟨bm, ob, b1, b2, fun q => ?_, b3, b4, b5, b6⟩
    obtain ⟨o, es, ep, e, hd, _⟩ := ghost_ns hT T.g
    rw [q, e] at b3; cases b3; rw [hd] at b6; cases b6

theorem mkCx_top {T : Top p loose mean mg mb s₁.heap} {hT : TabsAt (pairs ts) s₁.heap} {hnd : (ts.map (·.P)).Nodup} (KX : K.In s₁.heap) (hK : noTabs K = true) : TopK (mkCx prog w ts T hT hnd) K :=
  ⟨fun a o e => ghost_K hT KX hK a o e, fun x r e => by
    cases r with
    | none => exact mg_none_of KX T.g e
    | some v => exact mg_of KX T.g e⟩
theorem mkCx_base {T : Top p loose mean mg mb s₁.heap} {hT : TabsAt (pairs ts) s₁.heap} {hnd : (ts.map (·.P)).Nodup} (hg : s₁.gens = #[]) : Base (mkCx prog w ts T hT hnd) [] (ghostOf s₁.heap (pairs ts)).get? s₁ :=
  ⟨.refl _, fun b o e => of_hideAll _ e, fun t ht => ⟨#[], (hT (t.c, t.P) (List.mem_map_of_mem ht)).2, .inl rfl⟩, fun P hP => hideAll_none _ (by rw [pairs_P]; exact hP), hg, rfl, fun e he => nomatch he⟩

theorem caller_ok (k : Nat) (hk : k ≤ 100) : Aok k [] callerA := by
  have hm : claimMargin = 300 := rfl
  exact ⟨fun _ => rfl, by show 1 + claimMargin + k ≤ 900; omega, by show 4 + 40 * k ≤ 9000; omega, rfl⟩
theorem grown_all {G : Cx} {h : Heap} (hB : G.tabOk h) : ∀ (l : List Tab), (∀ t ∈ l, t ∈ G.ts) → GrownAll (pairs l) h
  | [], _ => trivial
  | t :: r, hm => ⟨by obtain ⟨ps, e, _⟩ := hB t (hm t m0); exact ⟨ps, e⟩, grown_all hB r fun t' ht' => hm t' (List.mem_cons_of_mem _ ht')⟩

theorem repL_ints {R : PH} : ∀ {its : List Value} {ns : List Int}, IntsAre its ns → RepL R (ns.map V.int) its
  | _, _, .nil => rfl
  | _, _, .cons n t h => ⟨_, _, rfl, ⟨t, rfl⟩, repL_ints h⟩
end
end Mine
open PySem PySem.W PyProof.Rows
set_option Elab.async false
set_option linter.unusedVariables false
set_option maxRecDepth 100000
namespace Mine
noncomputable def keyOk (e : DictEntry) : Bool := match e.key with
  | .str x _ => (match x.cps.toList with | [d] => decide (d < 93) | _ => false)
  | _ => false
noncomputable def okB (a : Option Str) (b : Option Value) : Bool := match a, b with
  | some x, some (.str y _) => x == y
  | none, none => true
  | _, _ => false
theorem okB_some {x : Str} {b : Option Value} (h : okB (some x) b = true) : ∃ t, b = some (.str x t) := by
  unfold okB at h
  split at h
  · rename_i x' y t e
    cases e
    exact ⟨t, by rw [beq_iff_eq.mp h]⟩
  · rename_i e; cases e
  · cases h
theorem okB_none {b : Option Value} (h : okB none b = true) : b = none := by
  unfold okB at h
  split at h
  · rename_i e; cases e
  · rfl
  · cases h
theorem trD_none {c : Nat} (h : 93 ≤ c) : trD c = none := by
  have hs : shortOf c = none := by
    unfold shortOf
    split <;> first | omega | rfl
  unfold trD; rw [hs]; exact if_neg (by omega)
theorem dct_of {es : Array DictEntry} (h1 : es.toList.all keyOk = true) (h2 : (List.range 93).all (fun c => okB (trD c) (findBy Value.isStrOf es ⟨#[c]⟩)) = true) : ∀ c, match trD c with
    | some x => ∃ t, findBy Value.isStrOf es ⟨#[c]⟩ = some (.str x t)
    | none => findBy Value.isStrOf es ⟨#[c]⟩ = none := fun c => by
  by_cases hc : c < 93
  · have h := List.all_eq_true.mp h2 c (List.mem_range.mpr hc)
    cases hD : trD c with
    | some x => rw [hD] at h; exact okB_some h
    | none => rw [hD] at h; exact okB_none h
  · rw [trD_none (by omega)]
    show findBy Value.isStrOf es ⟨#[c]⟩ = none
    unfold findBy
    have : es.find? (fun e => Value.isStrOf ⟨#[c]⟩ e.key) = none := by
      rw [Array.find?_eq_none]
      intro e he
      have hk := List.all_eq_true.mp h1 e (Array.mem_toList_iff.mpr he)
      intro hs
      obtain ⟨t, ht⟩ := Value.isStrOf_shape hs
      unfold keyOk at hk
      rw [ht] at hk
      simp at hk
      omega
    rw [this]; rfl
end Mine
open PySem PySem.W PyProof.Rows
set_option Elab.async false
set_option linter.unusedVariables false
set_option maxRecDepth 100000
namespace Mine
section
variable {G : Cx} {Fs : List Env} {k : Nat} {env : Env} {σ σ' : Sg} {o : Out}

theorem Ev.itemAny {value slice : Expr} {pos : Pos} {vs : List V} {v : V} {i : Int} {j : Nat} (h : Ev G k env σ value (.list vs)) (hi : Ev G k env σ slice (.int i)) (hj : At i vs.length j) (hv : vs[j]? = some v) (hn : vs.length ≤ 1000000)
    (hs : ∀ a t, subscripted slice false (.ref a) (.int i t) = operate [.ref a, .int i t] (getItem (.ref a) (.int i t)) := by intro _ _; rfl) :
    Ev G k env σ (.Subscript value slice pos) v := fun _ A s R Q E hA hS hQ => by
  refine Subscript_ (h A s R _ E hA hS fun val s₁ R₁ g₁ r₁ => hi A s₁ R₁ _ E hA (hS.grow g₁) fun iv s₂ R₂ g₂ r₂ => ?_)
  obtain ⟨t, rfl⟩ := r₂
  obtain ⟨a, its, rfl, sq, rl⟩ := Rep.sub g₂.up r₁
  obtain ⟨y, hy, hr⟩ := rl.get hv
  have hl := (sq.sub g₂.base.sub).isList
  exact tail_any hl.typeIs slot_list_getitem.lookup (getItem_L hl (by rw [rl.length]; exact hj) hy (hQ y s₂ R₂ (g₁.trans g₂) hr) (by rw [rl.length]; exact hn)) (hs a t)
end
end Mine
namespace Mine
noncomputable def codeOf (x : Int) : Nat :=
  if x % 5 = 0 then (x / 5 % 128).toNat
  else if x % 5 = 1 then 55296 + (x / 5 % 2048).toNat
  else if x % 5 = 2 then ([34, 92, 47, 8, 12, 10, 13, 9][(x / 5 % 8).toNat]?).getD 0
  else if x % 5 = 3 then (x / 5 % 1114112).toNat
  else (x / 5 % 65536).toNat
theorem codeOf_lt (x : Int) : codeOf x < 1114112 := by
  unfold codeOf
  split
  · omega
  · split
    · omega
    · split
      · have h8 : ∀ j, j < 8 → ([34, 92, 47, 8, 12, 10, 13, 9][j]?).getD 0 < 1114112 := by decide
        exact h8 _ (by omega)
      · split <;> omega
end Mine
open PySem PySem.W PyProof.Rows
set_option Elab.async false
set_option linter.unusedVariables false
set_option maxRecDepth 100000
namespace Mine
section
variable {G : Cx} {Fs : List Env} {k : Nat} {env : Env} {σ σ' : Sg} {o : Out}
theorem Op2.inS {x y : Str} : Op2 G k (compareOp .In) (.str y) (.str x) (.bool (Txt.contains x y)) := fun _ A s R a b Q E hA hB ⟨t, e⟩ ⟨u, e'⟩ hQ => by
  subst e e'; exact P.in_str (hQ _ _ R (.refl hB) rfl)
theorem repL_intsAre {R : PH} : ∀ {ns : List Int} {its : List Value}, RepL R (ns.map V.int) its → IntsAre its ns
  | [], _, e => by rw [show _ = [] from e]; exact .nil
  | n :: r, _, ⟨x, q, e, ⟨t, ht⟩, h⟩ => by rw [e, ht]; exact .cons n t (repL_intsAre h)
theorem Op2.inL {n : Int} {ns : List Int} : Op2 G k (compareOp .In) (.int n) (.list (ns.map V.int)) (.bool (ns.any (· == n))) := fun _ A s R a b Q E hA hB ⟨t, e⟩ ⟨c, its, e', sq, rl⟩ hQ => by
  subst e e'; exact in_list_ints (sq.sub hB.sub).isList (repL_intsAre rl) (hQ _ _ R (.refl hB) rfl)
theorem Op2.notInL {n : Int} {ns : List Int} : Op2 G k (compareOp .NotIn) (.int n) (.list (ns.map V.int)) (.bool (!(ns.any (· == n)))) := fun _ A s R a b Q E hA hB ⟨t, e⟩ ⟨c, its, e', sq, rl⟩ hQ => by
  subst e e'; exact notin_list_ints (sq.sub hB.sub).isList (repL_intsAre rl) (hQ _ _ R (.refl hB) rfl)
end
end Mine
open PySem PySem.W PyProof.Rows
set_option Elab.async false
set_option linter.unusedVariables false
set_option maxRecDepth 100000
namespace Mine
section
variable {G : Cx} {Fs : List Env} {k : Nat} {env : Env} {σ σ' : Sg} {o : Out}

noncomputable def LV.isD : LV → Bool
  | .ownD _ => true
  | _ => false
noncomputable def noD (σ : Sg) : Bool := σ.all fun p => !p.2.isD
theorem noD_mem {σ : Sg} (h : noD σ = true) {y : String} {v : V} (hm : (y, LV.ownD v) ∈ σ) : False := by
  have := List.all_eq_true.mp h _ hm
  cases this
theorem St.gone {R Kp : PH} {s : Shared} {C : Addr} {h' : Heap} {oC : Obj} {es : Array DictEntry} {n : Nat} (S : St G Fs env R Kp σ s) (hk : Heap.SameBut C s.heap h') (hR : R C = Option.none) (hK : Kp C = Option.none) (eC : s.heap.get? C = some oC) (dC : oC.data = .dict es n)
    (hL : C ≠ env.locals) (hF : ∀ e ∈ Fs, e.frame ≠ some C) (hnd : noD σ = true) : St G Fs env R Kp σ { s with heap := h' } := by
  obtain ⟨f, hv, hi⟩ := S.vars
  obtain ⟨m, oL, es', ep, eL, dL, rL⟩ := S.ns
  have keep : ∀ b o, b ≠ C → s.heap.get? b = some o → h'.get? b = some o := fun b o hb e => (hk.2 b hb).trans e
  have varK : ∀ y val', VarIs s.heap env y val' → VarIs h' env y val' := fun y val' hy => by
    rcases hy with ⟨k1, m1, ⟨o1, es1, ep1, x1, y1, z1⟩, q1⟩ | ⟨k1, c1, hc1, o1, q1, d1⟩
    · exact .inl ⟨k1, m1, ⟨o1, es1, ep1, keep _ _ (Ne.symm hL) x1, y1, z1⟩, q1⟩
    · exact .inr ⟨k1, c1, hc1, o1, keep _ _ (by rintro rfl; rw [eC] at q1; cases q1; rw [dC] at d1; cases d1) q1, d1⟩
  refine ⟨⟨S.base.sub0, fun b o e => keep b o (by rintro rfl; rw [hR] at e; cases e) (S.base.sub b o e), tab_sameBut S.base.tab hk (fun o vs e q => by rw [eC] at e; cases e; rw [dC] at q; cases q), S.base.noT, S.base.gens, S.base.os, fun e he => ?_⟩,
    fun b ob e => (by obtain ⟨o1, q1, l1⟩ := S.kp b ob e; exact ⟨o1, keep b o1 (by rintro rfl; rw [hK] at e; cases e) q1, l1⟩), S.kpT, S.locR, S.locK, ⟨m, oL, es', ep, keep _ _ (Ne.symm hL) eL, dL, rL⟩, fun p hp => ?_, S.apart, S.top, f, fun y lv hy => ?_, hi⟩
  · obtain ⟨x1, L, o, es2, n2, y1, y2, y3, y4⟩ := S.base.fr e he
    exact ⟨x1, L, o, es2, n2, y1, keep L o (by rintro rfl; exact hF e he y1) y2, y3, y4⟩
  · obtain ⟨q1, q2, v, ob, e, d⟩ := S.cells p hp
    exact ⟨q1, q2, v, ob, keep _ _ (fun q => by rw [q, eC] at e; cases e; rw [dC] at d; cases d) e, d⟩
  · obtain ⟨val', w1, w2, w3⟩ := hv y lv hy
    refine ⟨val', varK _ _ w1, ?_, w3⟩
    cases lv with
    | val v => exact w2
    | own ws =>
      obtain ⟨a', its'', e1', ⟨n', q⟩, r'⟩ := w2
      exact ⟨a', its'', e1', ⟨n', keep _ _ (by rintro rfl; rw [eC] at q; cases q; cases dC) q⟩, r'⟩
    | ownD v => exact (noD_mem hnd hy).elim

end
end Mine
open PySem PySem.W PyProof.Rows
set_option Elab.async false
set_option linter.unusedVariables false
set_option maxRecDepth 100000
namespace Mine
section
variable {G : Cx} {Fs : List Env} {k : Nat} {env : Env} {σ σ' : Sg} {o : Out}

theorem isPart_of {l : Option Int} {t : Tok} : IsPart (partValue (l.map fun j => (j, t))) l := by
  cases l with
  | none => exact .none
  | some i => exact .int i t

end
end Mine
open PySem PySem.W PyProof.Rows
set_option Elab.async false
set_option linter.unusedVariables false
set_option maxRecDepth 100000
namespace Mine
section
variable {G : Cx} {Fs : List Env} {k : Nat} {env : Env} {σ σ' : Sg} {o : Out}
end
end Mine
open PySem PySem.W PyProof.Rows
set_option Elab.async false
set_option linter.unusedVariables false
set_option maxRecDepth 100000
namespace Mine
section
variable {G : Cx} {Fs : List Env} {k : Nat} {env : Env} {σ : Sg}
end
noncomputable def sv (l : List Int) : List V := l.map V.int
theorem sv_len (l : List Int) : (sv l).length = l.length := by simp [sv]
theorem sv_get {l : List Int} {i : Nat} {v : V} (h : (sv l)[i]? = some v) : ∃ n, l[i]? = some n ∧ v = .int n := by
  unfold sv at h
  rw [List.getElem?_map] at h
  cases q : l[i]? with
  | none => rw [q] at h; cases h
  | some n => rw [q] at h; exact ⟨n, rfl, (Option.some.inj h).symm⟩
noncomputable def txt (l : List Nat) : Str := ⟨l.toArray⟩
theorem txt_list (l : List Nat) : (txt l).cps.toList = l := by unfold txt; simp
theorem txt_len (l : List Nat) : (txt l).length = l.length := by show l.toArray.size = _; simp
theorem txt_append (a b : List Nat) : txt a ++ txt b = txt (a ++ b) := by
  show (⟨a.toArray ++ b.toArray⟩ : Str) = ⟨(a ++ b).toArray⟩
  congr 1
  apply Array.ext'
  simp
theorem cut_txt (l : List Nat) (a b : Nat) : cut (txt l) a b = txt ((l.take b).drop a) := by unfold cut; rw [txt_list]; rfl
theorem cat_chars (l : List Nat) : cat (l.map fun c => (⟨#[c]⟩ : Str)) = txt l := by
  unfold cat txt
  congr 1
  congr 1
  induction l with
  | nil => rfl
  | cons c r ih => simp [ih]
theorem hexsign : ∀ d, d < 16 → (Str.ofString "0123456789abcdef").cps[d]? = some (hxd d) := by decide +kernel
theorem empty_eq : Str.ofString "" = ⟨#[]⟩ := by decide +kernel
theorem sliceBounds_clip (l u : Option Int) (n a b : Nat) (ha : Clip l 0 n a) (hb : Clip u n n b) : sliceBounds l u none n = ((a : Int), (b : Int), 1) := by
  have key : sliceBounds l u none n = (clipI l (0 : Nat) n, clipI u n n, 1) := by
    cases l <;> cases u <;> rfl
  rw [key, ha.eq, hb.eq]
theorem pick_cut (its : List Value) (l u : Option Int) (a b : Nat) (ha : Clip l 0 its.length a) (hb : Clip u its.length its.length b) : (slicePick its.toArray l u none).toList = (its.take b).drop a := by
  rw [kmk_pick_nat its.toArray (a := a) (b := b) (sliceBounds_clip l u its.toArray.size a b (by simpa using ha) (by simpa using hb))]
  rw [List.drop_take]
section
variable {G : Cx} {Fs : List Env} {k : Nat} {env : Env} {σ σ' : Sg} {o : Out}
end
end Mine
open PySem PySem.W PyProof.Rows
set_option Elab.async false
set_option linter.unusedVariables false
set_option maxRecDepth 100000
namespace Mine
theorem one_lt (a b : Nat) : ([a] < [b]) ↔ a < b := by
  rw [List.cons_lt_cons_iff]
  exact ⟨fun h => h.elim id fun h => (nomatch h.2), .inl⟩
theorem best_min (f : Nat → Nat) : ∀ n, argBest (fun i j => decide (f i < f j)) n ≤ n ∧ ∀ i, i ≤ n → f (argBest (fun i j => decide (f i < f j)) n) ≤ f i
  | 0 => ⟨Nat.le_refl _, fun i hi => by rw [Nat.le_zero.mp hi]; exact Nat.le_refl _⟩
  | n + 1 => by
    obtain ⟨h1, h2⟩ := best_min f n
    show (if decide (f (n + 1) < f (argBest _ n)) = true then n + 1 else argBest _ n) ≤ n + 1 ∧ ∀ i, i ≤ n + 1 → f (if decide (f (n + 1) < f (argBest _ n)) = true then n + 1 else argBest _ n) ≤ f i
    by_cases h : f (n + 1) < f (argBest (fun i j => decide (f i < f j)) n)
    · rw [if_pos (decide_eq_true h)]
      refine ⟨Nat.le_refl _, fun i hi => ?_⟩
      rcases Nat.lt_or_ge n i with q | q
      · rw [Nat.le_antisymm hi q]; exact Nat.le_refl _
      · exact Nat.le_trans (Nat.le_of_lt h) (h2 i q)
    · rw [if_neg (by simpa using h)]
      refine ⟨Nat.le_succ_of_le h1, fun i hi => ?_⟩
      rcases Nat.lt_or_ge n i with q | q
      · rw [Nat.le_antisymm hi q]; exact Nat.not_lt.mp h
      · exact h2 i q
theorem getD_of {x : Array Nat} {i c : Nat} (h : x[i]? = some c) : x.getD i 0 = c := by rw [Array.getD_eq_getD_getElem?, h]; rfl
theorem cmp_lt {prog : Program} {w : World} {A : Around} (x : Str) : CmpOf prog w A .Lt (SignAt x) (fun i j => decide (x.cps.getD i 0 < x.cps.getD j 0)) := fun i j vi vj s Q E hi hj h => by
  obtain ⟨c, t, ec, rfl⟩ := hi
  obtain ⟨d, u, ed, rfl⟩ := hj
  refine richCompare_gives (op := .Lt) (typeIs_str s _ t) (typeIs_str s _ u) F.slot_str_lt F.entry_str_lt (F.args_str_lt_2 _ _) (gives_str_lt _ _ t u) (fun x => nomatch x) ?_
  dsimp only at h
  rw [getD_of ec, getD_of ed] at h
  show Q (.bool (decide ([c] < [d]))) s
  rw [decide_eq_decide.mpr (one_lt c d)]
  exact h
section
variable {G : Cx} {Fs : List Env} {k : Nat} {env : Env} {σ σ' : Sg} {o : Out}
theorem kept_old {s : Shared} {ob : Obj} {h' : Heap} (hk : ∀ b o, b ∉ [s.heap.objs.size] → (s.heap.push ob).get? b = some o → h'.get? b = some o) : ∀ b o, s.heap.get? b = some o → h'.get? b = some o := fun b o e =>
  hk b o (fun hm => absurd (List.mem_singleton.mp hm ▸ Heap.lt_size e) (Nat.lt_irrefl _)) (Heap.get?_push_of_some _ e)
theorem mem_at {l : Array Nat} {c : Nat} (h : c ∈ l.toList) : ∃ i, i < l.size ∧ l.getD i 0 = c := by
  obtain ⟨i, hi, e⟩ := List.getElem_of_mem h
  have hi' : i < l.size := by simpa using hi
  exact ⟨i, hi', getD_of (by rw [Array.getElem?_eq_getElem hi', ← e]; simp)⟩
theorem at_mem {l : Array Nat} {i c : Nat} (h : l[i]? = some c) : c ∈ l.toList := by
  rw [← Array.getElem?_toList] at h
  exact List.mem_of_getElem? h

theorem Fn.minS {x : Str} {c : Nat} (hc : c ∈ x.cps.toList) (hm : ∀ d ∈ x.cps.toList, c ≤ d) (hk0 : k ≠ 0 := by omega) : Fn G k (.builtin "min") [.str x] (.str ⟨#[c]⟩) := fun _ A s R xs Q E hA hB hr hQ => by
  obtain ⟨_, _, rfl, ⟨t, rfl⟩, rfl⟩ := hr
  obtain ⟨i, hi, ei⟩ := mem_at hc
  have hpos : 0 < x.cps.size := Nat.lt_of_le_of_lt (Nat.zero_le _) hi
  have last : ∀ v h' tk, SignAt x (argBest (fun i j => decide (x.cps.getD i 0 < x.cps.getD j 0)) (x.cps.size - 1)) v → (∀ b o, s.heap.get? b = some o → h'.get? b = some o) → Q v { s with heap := h', toks := tk } := fun v h' tk hv hk => by
    obtain ⟨d, u, ed, rfl⟩ := hv
    have h1 := (best_min (fun i => x.cps.getD i 0) (x.cps.size - 1)).2 i (Nat.le_sub_one_of_lt hi)
    have h2 : x.cps.getD (argBest (fun i j => decide (x.cps.getD i 0 < x.cps.getD j 0)) (x.cps.size - 1)) 0 = d := getD_of ed
    have h3 : d ≤ c := by rw [← h2, ← ei]; exact h1
    have e : d = c := Nat.le_antisymm h3 (hm d (at_mem ed))
    subst e
    exact hQ _ _ R (Grow.keep hB hk) ⟨u, rfl⟩
  refine call_min_walk ?_
  have fin : ∀ (cls : String), Walks G.prog G.w A.in1 s.heap.objs.size [s.heap.objs.size] [s.heap.objs.size] x.cps.size (SignAt x) (fun i h => h.IsStrIter s.heap.objs.size cls x t i) → _ := fun cls W =>
    (⟨s.heap.objs.size, _, _, _, _, _, _, rfl, W, ⟨_, Heap.get?_push_size _ rfl, rfl, rfl⟩, fun b hb => by rw [List.mem_singleton.mp hb]; show _ < (s.heap.push _).objs.size; rw [Heap.size_push]; exact Nat.lt_succ_self _, hpos, cmp_lt x, fun v h' tk hP hk => last v h' tk hP (kept_old hk)⟩ :
      ∃ I fp wr n P St bt, Value.ref s.heap.objs.size = .ref I ∧ Walks G.prog G.w A.in1 I fp wr n P St ∧ St 0 (s.heap.push { cls := .type cls, data := .fields #[.str x t, .int 0 0] }) ∧ (∀ b ∈ fp, b < (s.heap.push { cls := .type cls, data := .fields #[.str x t, .int 0 0] }).objs.size) ∧ 0 < n ∧ CmpOf G.prog G.w A.in1 .Lt P bt ∧
        ∀ v h' tk, P (argBest bt (n - 1)) v → (∀ b o, b ∉ wr → (s.heap.push { cls := .type cls, data := .fields #[.str x t, .int 0 0] }).get? b = some o → h'.get? b = some o) → Q v { s with heap := h', toks := tk })
  cases ha : x.cps.all (· < 128)
  · exact wpAny_pyIter_wide ha (fin "str_iterator" (Walks.strWide (A := A.in1) (hA.handled hk0) _ x t))
  · exact wpAny_pyIter_ascii ha (fin "str_ascii_iterator" (Walks.strAscii (A := A.in1) (hA.handled hk0) _ x t))
end
end Mine
open PySem PySem.W PyProof.Rows
set_option Elab.async false
set_option linter.unusedVariables false
set_option maxRecDepth 100000
namespace Mine
set_option maxHeartbeats 2000000 in
open PySem.AutoSeq1 in
section
variable {G : Cx} {Fs : List Env} {k : Nat} {env : Env} {σ σ' : Sg} {o : Out}
end
end Mine
open PySem PySem.W PyProof.Rows
set_option Elab.async false
set_option linter.unusedVariables false
set_option maxRecDepth 100000
namespace Mine
/-! where the pieces begin -/
end Mine
open PySem PySem.W PyProof.Rows
set_option Elab.async false
set_option linter.unusedVariables false
set_option maxRecDepth 100000
namespace Mine
theorem escE_iff (c : Nat) : escE c = true ↔ (c < 32 ∨ c = 34 ∨ c = 92) := by
  unfold escE
  rw [Bool.or_eq_true, Bool.or_eq_true, decide_eq_true_iff, beq_iff_eq, beq_iff_eq]
  constructor
  · rintro ((h | h) | h)
    · exact .inl h
    · exact .inr (.inl h)
    · exact .inr (.inr h)
  · rintro (h | h | h)
    · exact .inl (.inl h)
    · exact .inl (.inr h)
    · exact .inr h
end Mine
open PySem PySem.W PyProof.Rows
set_option Elab.async false
set_option linter.unusedVariables false
set_option maxRecDepth 100000
namespace Mine
/-! pairs -/
section
variable {K α : Type} [DecidableEq K]
noncomputable def storedG (kvs : List (K × α)) (k : K) (a : α) : List (K × α) := if kvs.any (fun kv => kv.1 = k) then kvs.map (fun kv => if kv.1 = k then (kv.1, a) else kv) else kvs ++ [(k, a)]
noncomputable def lookG (kvs : List (K × α)) (k : K) : Option α := (kvs.find? fun kv => kv.1 = k).map (·.2)
variable {P : α → Value → Prop}
theorem PVals.length : ∀ {kvs : List (K × α)} {vs : List (K × Value)}, PVals P kvs vs → vs.length = kvs.length
  | [], _, e => by rw [show _ = [] from e]; rfl
  | _ :: _, _, ⟨v, r, e, _, q⟩ => by rw [e, List.length_cons, List.length_cons, PVals.length q]
theorem PVals.any (k : K) : ∀ {kvs : List (K × α)} {vs : List (K × Value)}, PVals P kvs vs → vs.any (fun kv => kv.1 = k) = kvs.any (fun kv => kv.1 = k)
  | [], _, e => by rw [show _ = [] from e]; rfl
  | (k', a) :: _, _, ⟨v, r, e, _, q⟩ => by rw [e, List.any_cons, List.any_cons, PVals.any k q]
theorem PVals.map (k : K) {a : α} {v : Value} (hp : P a v) : ∀ {kvs : List (K × α)} {vs : List (K × Value)}, PVals P kvs vs → PVals P (kvs.map fun kv => if kv.1 = k then (kv.1, a) else kv) (vs.map fun kv => if kv.1 = k then (kv.1, v) else kv)
  | [], _, e => by rw [show _ = [] from e]; exact rfl
  | (k', a') :: r, _, ⟨v', r', e, p, q⟩ => by
    rw [e]
    show PVals P ((if k' = k then (k', a) else (k', a')) :: _) ((if k' = k then (k', v) else (k', v')) :: _)
    by_cases h : k' = k
    · rw [if_pos h, if_pos h]; exact ⟨v, _, rfl, hp, PVals.map k hp q⟩
    · rw [if_neg h, if_neg h]; exact ⟨v', _, rfl, p, PVals.map k hp q⟩
theorem PVals.snoc {k : K} {a : α} {v : Value} (hp : P a v) : ∀ {kvs : List (K × α)} {vs : List (K × Value)}, PVals P kvs vs → PVals P (kvs ++ [(k, a)]) (vs ++ [(k, v)])
  | [], _, e => by rw [show _ = [] from e]; exact ⟨v, [], rfl, hp, rfl⟩
  | _ :: _, _, ⟨v', r', e, p, q⟩ => by rw [e]; exact ⟨v', _, rfl, p, PVals.snoc hp q⟩
theorem PVals.stored {k : K} {a : α} {v : Value} (hp : P a v) {kvs : List (K × α)} {vs : List (K × Value)} (h : PVals P kvs vs) : PVals P (storedG kvs k a) (PySem.stored vs k v) := by
  unfold storedG PySem.stored
  rw [PVals.any k h]
  split
  · exact PVals.map k hp h
  · exact PVals.snoc hp h
theorem PVals.look (k : K) : ∀ {kvs : List (K × α)} {vs : List (K × Value)}, PVals P kvs vs → (match lookG kvs k with | some a => ∃ v, valueAt vs k = some v ∧ P a v | none => valueAt vs k = none)
  | [], _, e => by rw [show _ = [] from e]; exact rfl
  | (k', a) :: r, _, ⟨v, r', e, p, q⟩ => by
    have ih := PVals.look k q
    rw [e]
    by_cases h : k' = k
    · have e1 : lookG ((k', a) :: r) k = some a := by unfold lookG; rw [List.find?_cons, show decide ((k', a).1 = k) = true from decide_eq_true h]; rfl
      have e2 : valueAt ((k', v) :: r') k = some v := by unfold valueAt; rw [List.find?_cons, show decide ((k', v).1 = k) = true from decide_eq_true h]; rfl
      rw [e1]
      exact ⟨v, e2, p⟩
    · have e1 : lookG ((k', a) :: r) k = lookG r k := by unfold lookG; rw [List.find?_cons, show decide ((k', a).1 = k) = false from decide_eq_false h]
      have e2 : valueAt ((k', v) :: r') k = valueAt r' k := by unfold valueAt; rw [List.find?_cons, show decide ((k', v).1 = k) = false from decide_eq_false h]
      rw [e1, e2]; exact ih
theorem PVals.isSome (k : K) {kvs : List (K × α)} {vs : List (K × Value)} (h : PVals P kvs vs) : (valueAt vs k).isSome = (lookG kvs k).isSome := by
  have := PVals.look k h
  cases q : lookG kvs k with
  | some a => rw [q] at this; obtain ⟨v, e, _⟩ := this; rw [e]; rfl
  | none => rw [q] at this; rw [this]; rfl
theorem stored_len (kvs : List (K × α)) (k : K) (a : α) : (storedG kvs k a).length ≤ kvs.length + 1 := by
  unfold storedG
  split
  · rw [List.length_map]; exact Nat.le_succ _
  · rw [List.length_append]; exact Nat.le_refl _
end

theorem isDictOf_data {prog : Program} {w : World} {K : Type} [DecidableEq K] {knd : KeyKind prog w K} {o : Obj} {vs : List (K × Value)} (h : Obj.IsDictOf knd o vs) : ∃ es n, o.data = .dict es n := let ⟨es, n, _, e, _⟩ := h; ⟨es, n, e⟩

section
variable {G : Cx} {Fs : List Env} {k : Nat} {env : Env} {σ σ' : Sg} {o : Out}

theorem St.mutateD {R Kp : PH} {s : Shared} {x : String} {v : V} (S : St G Fs env R Kp σ s) (hm : (x, LV.ownD v) ∈ σ) :
    ∃ a oa, VarIs s.heap env (Str.ofString x) (.ref a) ∧ s.heap.get? a = some oa ∧ R a = Option.none ∧ Kp a = Option.none ∧ ¬ InFr Fs a ∧ (∃ es n, oa.data = .dict es n) ∧ (∀ R' : PH, R' a = some oa → Rep R' v (.ref a)) ∧
      ∀ h' tk o' v', Heap.SameBut a s.heap h' → h'.get? a = some o' → (∃ es n, o'.data = .dict es n) → v'.isD = true → (∀ R' : PH, R' a = some o' → Rep R' v' (.ref a)) → St G Fs env R Kp (put σ x (.ownD v')) { s with heap := h', toks := tk } := by
  obtain ⟨f, hv, hi⟩ := S.vars
  obtain ⟨val, v1, ⟨a, oa, e1, hd, e2, hf, ⟨es2, n2, d2⟩, r⟩, v3⟩ := hv x _ hm
  obtain ⟨e3, hR, hK⟩ := v3 rfl
  subst e1
  have hfa : a = f x := Value.ref.inj e3
  rw [← hfa] at hR hK
  refine ⟨a, oa, v1, e2, hR, hK, hf, ⟨es2, n2, d2⟩, r, fun h' tk o' v' hs hp hdd hd' hr => ?_⟩
  have keep : ∀ b o, b ≠ a → s.heap.get? b = some o → h'.get? b = some o := fun b o hb e => (hs.2 b hb).trans e
  obtain ⟨m, oL, es, ep, eL, dL, rL⟩ := S.ns
  have hLa : env.locals ≠ a := fun q => by
    obtain ⟨⟨outer, ef⟩, hfr⟩ := S.top
    exact hf (by rw [ef]; exact ⟨env, List.mem_cons_self .., q ▸ hfr⟩)
  have varK : ∀ y val', VarIs s.heap env y val' → VarIs h' env y val' := fun y val' hy => by
    rcases hy with ⟨k1, m1, ⟨o1, es1, ep1, x1, y1, z1⟩, q1⟩ | ⟨k1, c1, hc1, o1, q1, d1⟩
    · exact .inl ⟨k1, m1, ⟨o1, es1, ep1, keep _ _ hLa x1, y1, z1⟩, q1⟩
    · exact .inr ⟨k1, c1, hc1, o1, keep _ _ (by rintro rfl; rw [e2] at q1; cases q1; rw [d2] at d1; cases d1) q1, d1⟩
  refine ⟨⟨S.base.sub0, fun b o e => keep b o (by rintro rfl; rw [hR] at e; cases e) (S.base.sub b o e), tab_sameBut S.base.tab hs (fun o vs e q => by rw [e2] at e; cases e; rw [d2] at q; cases q), S.base.noT, S.base.gens, S.base.os, fun e he => (S.base.fr e he).step (fun b o es n q1 q2 => ?_) fun _ _ _ e => e⟩,
    fun b o e => (by obtain ⟨o1, q1, l1⟩ := S.kp b o e; exact ⟨o1, keep b o1 (by rintro rfl; rw [hK] at e; cases e) q1, l1⟩), S.kpT, S.locR, S.locK, ⟨m, oL, es, ep, keep _ _ hLa eL, dL, rL⟩, fun p hp' => ?_, S.apart, S.top, f, fun y lv hy => ?_, fun y z ws us hy hz o1 o2 => ?_⟩
  · by_cases hb : b = a
    · subst hb; obtain ⟨es', n', q⟩ := hdd; exact ⟨o', es', n', hp, q⟩
    · exact ⟨o, es, n, keep b o hb q1, q2⟩
  · obtain ⟨q1, q2, v, o, e, d⟩ := S.cells p hp'
    exact ⟨q1, q2, v, o, keep _ _ (by rintro q; rw [q, e2] at e; cases e; rw [d2] at d; cases d) e, d⟩
  · rcases mem_put hy with ⟨rfl, rfl⟩ | ⟨hne, hy⟩
    · exact ⟨.ref a, varK _ _ v1, ⟨a, o', rfl, hd', hp, hf, hdd, hr⟩, fun e => ⟨e3, by rw [← hfa]; exact hR, by rw [← hfa]; exact hK⟩⟩
    · obtain ⟨val', w1, w2, w3⟩ := hv y lv hy
      refine ⟨val', varK _ _ w1, ?_, w3⟩
      cases lv with
      | val v => exact w2
      | own ws =>
        obtain ⟨a', its'', e1', ⟨n', q⟩, r'⟩ := w2
        exact ⟨a', its'', e1', ⟨n', keep _ _ (by rintro rfl; rw [e2] at q; cases q; cases d2) q⟩, r'⟩
      | ownD v2 =>
        obtain ⟨a', o2, e1', hd2, q, hf2, hdd2, r'⟩ := w2
        refine ⟨a', o2, e1', hd2, keep _ _ (fun e => hne (hi y x _ _ hy hm rfl rfl ?_)) q, hf2, hdd2, r'⟩
        have := (w3 rfl).1
        rw [e1'] at this
        rw [← Value.ref.inj this, e, hfa]
  · have own : ∀ {y lv}, (y, lv) ∈ put σ x (.ownD v') → lv.owned = true → ∃ lv', (y, lv') ∈ σ ∧ lv'.owned = true := fun {y lv} hy ho => by
      rcases mem_put hy with ⟨rfl, q⟩ | ⟨_, hy⟩
      · exact ⟨_, hm, rfl⟩
      · exact ⟨lv, hy, ho⟩
    obtain ⟨ws', hy', p1⟩ := own hy o1
    obtain ⟨us', hz', p2⟩ := own hz o2
    exact hi y z ws' us' hy' hz' p1 p2

theorem St.freezeD {R Kp : PH} {s : Shared} {x : String} {v : V} (S : St G Fs env R Kp σ s) (hm : (x, LV.ownD v) ∈ σ) : ∃ R', GrowX R Kp R' ∧ St G Fs env R' Kp (put σ x (.val v)) s := by
  obtain ⟨f, hv, hi⟩ := S.vars
  obtain ⟨val, v1, ⟨a, oa, e1, hd, e2, hf, ⟨es2, n2, d2⟩, r⟩, v3⟩ := hv x _ hm
  obtain ⟨e3, hR, hK⟩ := v3 rfl
  rw [e1] at e3
  have hfa : a = f x := Value.ref.inj e3
  rw [← hfa] at hR hK
  have hup : Sub R (R.put a oa) := fun b o' e => by rw [PH.put_ne (fun q => by rw [q, hR] at e; cases e)]; exact e
  have none_put : ∀ b, R b = Option.none → b ≠ a → R.put a oa b = Option.none := fun b e hb => by rw [PH.put_ne hb]; exact e
  obtain ⟨m, oL, es, ep, eL, dL, rL⟩ := S.ns
  have hLa : env.locals ≠ a := fun q => by
    obtain ⟨⟨outer, ef⟩, hfr⟩ := S.top
    exact hf (by rw [ef]; exact ⟨env, List.mem_cons_self .., q ▸ hfr⟩)
  refine ⟨R.put a oa, ⟨hup, fun b o e => ?_⟩, ⟨⟨S.base.sub0.trans hup, fun b o e => ?_, S.base.tab, fun P hP => ?_, S.base.gens, S.base.os, fun e he => ?_⟩, S.kp, S.kpT, none_put _ S.locR hLa, S.locK, ⟨m, oL, es, ep, eL, dL, rL⟩, fun p hp => ?_, S.apart, S.top, f, fun y lv hy => ?_, fun y z ws us hy hz o1 o2 => ?_⟩⟩
  · by_cases hb : b = a
    · subst hb; exact .inr hK
    · rw [PH.put_ne hb] at e; exact .inl e
  · by_cases hb : b = a
    · subst hb; rw [PH.put_self] at e; cases e; exact e2
    · rw [PH.put_ne hb] at e; exact S.base.sub b o e
  · refine none_put P (S.base.noT P hP) fun q => ?_
    exact notTab S.base.tab e2 (.inr fun ps q => by rw [d2] at q; cases q) (q ▸ hP)
  · obtain ⟨x1, L, ob, es', n', y1, y2, y3, y4⟩ := S.base.fr e he
    exact ⟨x1, L, ob, es', n', y1, y2, y3, none_put L y4 (by rintro rfl; exact hf ⟨e, he, y1⟩)⟩
  · obtain ⟨q1, q2, v, o, e, d⟩ := S.cells p hp
    refine ⟨none_put _ q1 fun q => ?_, q2, v, o, e, d⟩
    rw [q, e2] at e; cases e; rw [d2] at d; cases d
  · rcases mem_put hy with ⟨rfl, rfl⟩ | ⟨hne, hy⟩
    · exact ⟨val, v1, r _ (PH.put_self ..), fun e => nomatch e⟩
    · obtain ⟨val', w1, w2, w3⟩ := hv y lv hy
      refine ⟨val', w1, ?_, fun e => ?_⟩
      · cases lv with
        | val v => exact Rep.sub hup w2
        | own ws => obtain ⟨a', its', e1', q, r'⟩ := w2; exact ⟨a', its', e1', q, r'.sub hup⟩
        | ownD v => exact w2
      · obtain ⟨q1, q2, q3⟩ := w3 e
        exact ⟨q1, none_put _ q2 fun q => hne (hi y x _ _ hy hm e rfl (by rw [q, hfa])), q3⟩
  · rcases mem_put hy with ⟨_, q⟩ | ⟨_, hy⟩
    · rw [q] at o1; cases o1
    · rcases mem_put hz with ⟨_, q⟩ | ⟨_, hz⟩
      · rw [q] at o2; cases o2
      · exact hi y z ws us hy hz o1 o2
theorem Ex.freezeD {ss : List Stmt} (x : String) {v : V} (h : Ex G k env (put σ x (.val v)) ss o) (hm : (x, LV.ownD v) ∈ σ) : Ex G k env σ ss o := fun _ A s R Kp Q E hA hS hQ => by
  obtain ⟨R', g, S⟩ := hS.freezeD hm
  exact h A s R' Kp Q E hA S (hQ.from (.refl s) g)

theorem dict_fits {h : Heap} {a : Addr} {oa : Obj} {K : Type} [DecidableEq K] {p : Program} {w : World} {knd : KeyKind p w K} {vs : List (K × Value)} (e : h.get? a = some oa) (x : Obj.IsDictOf knd oa vs) (hn : vs.length ≤ 1000000) : h.DictOf knd a vs ∧ vs.length ≤ sizeLine := by
  refine ⟨Heap.dictOf_iff.mpr ⟨oa, e, x⟩, Nat.le_trans hn (by decide)⟩

theorem X1.setSI {x : String} {p p' pos : Pos} {slice e : Expr} {kvs : List (Str × Int)} {y : Str} {i : Int} (hm : (x, LV.ownD (.dSI G.prog G.w kvs)) ∈ σ) (h : Ev G k env σ e (.int i)) (hi : Ev G k env σ slice (.str y)) (hn : kvs.length ≤ 1000000)
    (hk : env.scope.kind = .function := by rfl) (hd : (Str.ofString x == ("__debug__" : Str)) = false := by decide) (hcd : (Str.ofString x == ("__classdict__" : Str)) = false := by decide)
    (hs : swapsWith e (some (.Subscript (.Name (Str.ofString x) p) slice p')) pos.line env = pure false := by rfl) :
    X1 G k env σ (.Assign [.Subscript (.Name (Str.ofString x) p) slice p'] e pos) (.next (put σ x (.ownD (.dSI G.prog G.w (storedG kvs y i))))) := fun _ A s R Kp Q E hA hS hQ => by
  refine wpAny_Assign_Subscript (h A s R _ E hA hS.sv fun val s₁ R₁ g₁ r₁ => ?_) hs
  obtain ⟨t₁, rfl⟩ := r₁
  have S₁ := hS.grow g₁
  obtain ⟨a, oa, hvar, _⟩ := S₁.mutateD hm
  refine wpAny_var hvar (hi A s₁ R₁ _ E hA S₁.sv fun iv s₂ R₂ g₂ r₂ => ?_) hk hd hcd
  obtain ⟨t, rfl⟩ := r₂
  have S₂ := S₁.grow g₂
  obtain ⟨a₂, oa₂, hvar₂, ea₂, _, _, _, _, hrep, mut₂⟩ := S₂.mutateD hm
  have ha : a₂ = a := Value.ref.inj (hvar₂.fn (hvar.ext S₁.base.tab g₂.ext))
  subst ha
  have g := g₁.trans g₂
  obtain ⟨_, q, hne, oq, vs, eq, hD, hP⟩ := hrep s₂.heap.get? ea₂
  cases q
  rw [ea₂] at eq; cases eq
  obtain ⟨hD', hsz⟩ := dict_fits ea₂ hD (by rw [hP.length]; exact hn)
  refine wpAny_setItem_pairs (hsz := hsz) (k := y) (strKind_is G.prog G.w y t) hD' fun h' hp' hs' => hQ _ R₂ (g.adv.trans ⟨h', _, rfl⟩) (g.x hS.kp) ?_
  obtain ⟨o', eo', hO'⟩ := Heap.dictOf_iff.mp hp'
  exact mut₂ h' _ o' _ hs' eo' (isDictOf_data hO') rfl fun R' e' => ⟨a₂, rfl, hne, o', _, e', hO', PVals.stored ⟨t₁, rfl⟩ hP⟩

theorem St.storeD {R Kp : PH} {s : Shared} {x : String} {v : V} {a : Addr} {oa : Obj} {A : Around} {E : Value → Shared → Prop} {Q : Unit → Shared → Prop} (S : St G Fs env R Kp σ s) (hx : OwnName env (Str.ofString x)) (hk : env.scope.kind = .function) (hd : v.isD = true) (ea : s.heap.get? a = some oa) (hdd : ∃ es n, oa.data = .dict es n)
    (hr : ∀ R' : PH, R' a = some oa → Rep R' v (.ref a)) (hR : R a = Option.none) (hK : Kp a = Option.none) (hf : ¬ InFr Fs a) (hnew : ∀ y b lv', (y, lv') ∈ σ → lv'.owned = true → y ≠ x → VarIs s.heap env (Str.ofString y) (.ref b) → b ≠ a)
    (h : ∀ h' tk, St G Fs env R Kp (put σ x (.ownD v)) { s with heap := h', toks := tk } → Q () { s with heap := h', toks := tk }) : wpAny (model G.prog G.w) A (storeName env (Str.ofString x) (.ref a)) Q E s :=
  S.store (lv := .ownD v) hx hk ⟨a, ⟨a, oa, rfl, hd, ea, hf, hdd, hr⟩, fun _ => ⟨rfl, hR, hK, hnew⟩⟩ fun h' tk _ S' => h h' tk S'

theorem St.newAt {R Kp : PH} {s s₁ : Shared} {R₁ : PH} {a : Addr} (S : St G Fs env R Kp σ s) (hn : s.heap.get? a = none) (g : Grow G Fs R s R₁ s₁) : Kp a = Option.none ∧ ¬ InFr Fs a ∧ ∀ y b lv', (y, lv') ∈ σ → lv'.owned = true → VarIs s₁.heap env (Str.ofString y) (.ref b) → b ≠ a := by
  refine ⟨?_, fun ⟨e, he, hfr⟩ => ?_, fun y b lv' hy ho hv => ?_⟩
  · cases q : Kp a with
    | none => rfl
    | some o => obtain ⟨o1, e1, _⟩ := S.kp _ _ q; rw [hn] at e1; cases e1
  · obtain ⟨_, L, o, _, _, y1, y2, _⟩ := S.base.fr e he
    rw [hfr] at y1; cases y1
    rw [hn] at y2; cases y2
  · rintro rfl
    obtain ⟨f, hvs, _⟩ := S.vars
    obtain ⟨val, w1, w2, _⟩ := hvs y _ hy
    obtain ⟨a', oy, e1, e2⟩ := w2.there ho
    have := (w1.ext S.base.tab g.ext).fn hv
    rw [this] at e1; cases e1
    rw [hn] at e2; cases e2

theorem Ev.itemSI {x : String} {p pos : Pos} {slice : Expr} {kvs : List (Str × Int)} {i : Int} {y : Str} (h : Ev G k env σ (.Name (Str.ofString x) p) (.dSI G.prog G.w kvs)) (hi : Ev G k env σ slice (.str y)) (hv : lookG kvs y = some i)
    (hs : ∀ a t, subscripted slice false (.ref a) (.str y t) = operate [.ref a, .str y t] (getItem (.ref a) (.str y t)) := by intro _ _; rfl) :
    Ev G k env σ (.Subscript (.Name (Str.ofString x) p) slice pos) (.int i) := fun _ A s R Q E hA hS hQ => by
  refine Subscript_ (h A s R _ E hA hS fun val s₁ R₁ g₁ r₁ => hi A s₁ R₁ _ E hA (hS.grow g₁) fun iv s₂ R₂ g₂ r₂ => ?_)
  obtain ⟨t, rfl⟩ := r₂
  obtain ⟨a, rfl, _, oa, vs, ea, hD, hP⟩ := Rep.sub g₂.up r₁
  have hm := (Heap.dictOf_iff.mpr ⟨oa, g₂.base.sub _ _ ea, hD⟩).mapOf
  have hl := PVals.look y hP
  rw [hv] at hl
  obtain ⟨v, ev, t', rfl⟩ := hl
  exact subscriptTail_builtin hm.typeIs slot_dict_getitem.lookup (wpAny_getItem_of (k := y) (strKind_is G.prog G.w y t) hm ev (hQ _ _ R₂ ((g₁.trans g₂).more _) ⟨t', rfl⟩)) (hs a t) (fun r => rfl)

theorem new_ne {s : Shared} {R : PH} (B : Base G Fs R s) : s.heap.objs.size ≠ sysModules := by
  obtain ⟨o, _, _, e, _⟩ := G.g _ B.ground
  have := Heap.lt_size e
  intro q
  rw [q] at this
  exact absurd this (by decide)
theorem Op2.inSI {y : Str} {kvs : List (Str × Int)} : Op2 G k (compareOp .In) (.str y) (.dSI G.prog G.w kvs) (.bool (lookG kvs y).isSome) := fun _ A s R x z Q E hA hB ⟨t, e⟩ ⟨a, e', hne, oa, vs, ea, hD, hP⟩ hQ => by
  subst e e'
  have hm := (Heap.dictOf_iff.mpr ⟨oa, hB.sub _ _ ea, hD⟩).mapOf
  refine wpAny_in_of (k := y) (strKind_is G.prog G.w y t) (beq_eq_false_iff_ne.mpr hne) hm ?_
  rw [PVals.isSome y hP]
  exact hQ _ _ R (.toks hB _) rfl
theorem Op2.notInSI {y : Str} {kvs : List (Str × Int)} : Op2 G k (compareOp .NotIn) (.str y) (.dSI G.prog G.w kvs) (.bool (!(lookG kvs y).isSome)) := fun _ A s R x z Q E hA hB ⟨t, e⟩ ⟨a, e', hne, oa, vs, ea, hD, hP⟩ hQ => by
  subst e e'
  have hm := (Heap.dictOf_iff.mpr ⟨oa, hB.sub _ _ ea, hD⟩).mapOf
  refine wpAny_notIn_of (k := y) (strKind_is G.prog G.w y t) (beq_eq_false_iff_ne.mpr hne) hm ?_
  rw [PVals.isSome y hP]
  exact hQ _ _ R (.toks hB _) rfl
end
end Mine
open PySem PySem.W PyProof.Rows
set_option Elab.async false
set_option linter.unusedVariables false
set_option maxRecDepth 100000
namespace Mine
section
variable {G : Cx} {Fs : List Env} {k : Nat} {env : Env} {σ σ' : Sg} {o : Out}
end
end Mine
open PySem PySem.W PyProof.Rows
set_option Elab.async false
set_option linter.unusedVariables false
set_option maxRecDepth 100000
namespace Mine
theorem repL_strsFrom {R : PH} : ∀ (l : List Str) (n : Nat), RepL R (l.map V.str) (strsFrom n l)
  | [], _ => rfl
  | x :: r, n => ⟨_, _, rfl, ⟨n, rfl⟩, repL_strsFrom r (n + 1)⟩
section
variable {G : Cx} {Fs : List Env} {k : Nat} {env : Env} {σ σ' : Sg} {o : Out}
theorem Ev.call0 {x : String} {p pos : Pos} {f : Addr} {o : Obj} {fd : FuncData} {v : V} (hv : G.mg (Str.ofString x) = some (.ref f)) (ho : G.h0 f = some o) (hd : o.data = .func fd) (hf : Fn G k (.ref f) [] v)
    (hx : env.kindOf (Str.ofString x) = some .globalImplicit := by rfl) (hg : env.globals = mainGlobals := by rfl) (hk : env.scope.kind = .function := by rfl) (hb : (Str.ofString x == ("__debug__" : Str)) = false := by decide) :
    Ev G k env σ (.Call (.Name (Str.ofString x) p) [] [] pos) v := fun _ A s R Q E hA hS hQ => by
  show wpAny _ A (do callWith pos (← eval (.Name (Str.ofString x) p) env) [] [] []) Q E s
  refine wpAny_bind (wpAny_global hS.base hv ?_ hx hb hk hg)
  refine PySem.Calls.callWith_function (o := o) (fd := fd) (evalArgs_nil3 ⟨⟨hS.base.ground _ _ ho, hd⟩, ?_⟩)
  exact hf A s R [] Q E hA hS.base rfl fun val s₂ R₂ g₂ r₂ => hQ val s₂ R₂ g₂ r₂
theorem Meth.split {x : Str} : Meth (.str x) "split" "str.split" := Meth.str F.slot_str_split F.type_str_split
theorem Fn.split {x y : Str} (hy : (y.length == 0) = false) (hx : x.length ≤ 1000000) (hn : (Builtin.Str.partsBetween x (Builtin.Str.occurrences x y 0 x.length (x.length + 1)) y.length).length ≤ 1000002) : Fn G k (.builtin "str.split") [.str x, .str y] (.list ((Txt.split x y).map V.str)) := fun _ A s R xs Q E hA hB hr hQ => by
  obtain ⟨_, _, rfl, ⟨t, rfl⟩, _, _, rfl, ⟨u, rfl⟩, rfl⟩ := hr
  have self : Txt.split x y = [x] → Q (.ref s.heap.objs.size) { s with heap := s.heap.push { cls := .type "list", data := .seq [Value.str x t].toArray } } := fun e => by
    have g := Grow.pushed (tk := s.toks) (o := { cls := .type "list", data := .seq [Value.str x t].toArray }) hB
    refine hQ _ _ _ g ⟨_, [.str x t], rfl, ⟨_, _, PH.put_self .., rfl, rfl⟩, ?_⟩
    rw [e]; exact ⟨_, [], rfl, ⟨t, rfl⟩, rfl⟩
  cases h1 : (decide (x.length < y.length) || decide (Builtin.Str.strKind x < Builtin.Str.strKind y))
  · cases hf : (Builtin.Str.occurrences x y 0 x.length (x.length + 1)).isEmpty
    · refine call_meets F.slot_str_split (typeIs_str _ _ _) F.entry_str_split (F.args_str_split_2 _ _) (meets_str_split_sep x y t u h1 hy hf (Nat.le_trans hx (by decide)) (Nat.le_trans hn (by decide))) ?_
      have g := Grow.pushed (tk := s.toks + (Builtin.Str.partsBetween x (Builtin.Str.occurrences x y 0 x.length (x.length + 1)) y.length).length) (o := { cls := .type "list", data := .seq (strsFrom s.toks (Builtin.Str.partsBetween x (Builtin.Str.occurrences x y 0 x.length (x.length + 1)) y.length)).toArray }) hB
      refine hQ _ _ _ g ⟨_, strsFrom s.toks (Builtin.Str.partsBetween x (Builtin.Str.occurrences x y 0 x.length (x.length + 1)) y.length), rfl, ⟨_, _, PH.put_self .., rfl, rfl⟩, ?_⟩
      have e : Txt.split x y = Builtin.Str.partsBetween x (Builtin.Str.occurrences x y 0 x.length (x.length + 1)) y.length := (if_neg (ne_true_of_eq_false h1)).trans (if_neg (ne_true_of_eq_false hf))
      rw [e]
      exact repL_strsFrom _ _
    · exact call_meets F.slot_str_split (typeIs_str _ _ _) F.entry_str_split (F.args_str_split_2 _ _) (meets_str_split_not_found x y t u h1 hy hf) (self ((if_neg (ne_true_of_eq_false h1)).trans (if_pos hf)))
  · exact call_meets F.slot_str_split (typeIs_str _ _ _) F.entry_str_split (F.args_str_split_2 _ _) (meets_str_split_cannot_occur x y t u h1) (self (if_pos h1))
theorem Fn.joinG {sep : Str} {texts : List Str} (h : JoinOk sep texts = true) : Fn G k (.builtin "str.join") [.str sep, .list (texts.map V.str)] (.str (Txt.join sep texts)) := fun _ A s R xs Q E hA hB hr hQ => by
  obtain ⟨_, _, rfl, ⟨t, rfl⟩, _, _, rfl, ⟨a, its, rfl, sq, rl⟩, rfl⟩ := hr
  obtain ⟨l, e1, e2⟩ := RepL_strs rl
  have hl := (sq.sub hB.sub).isList
  rw [e1] at hl
  exact SC.join (texts := texts) hl e2 h fun t' tk => hQ _ _ R (.toks hB _) ⟨_, rfl⟩
theorem joinOk_of {sep : Str} {texts : List Str} {B : Nat} (hB : ∀ y ∈ texts, y.length ≤ B) (h : texts.length * B + texts.length * sep.length ≤ 16777216) : JoinOk sep texts = true := by
  unfold JoinOk
  rw [Bool.not_eq_true']
  unfold Builtin.Str.tooLong
  rw [StrLaws.joinTotal]
  have h1 := StrLaws.sumLen_le texts hB
  exact decide_eq_false (by show ¬ _ > 16777216; omega)
theorem Ev.sliceL {x : String} {p p' pos : Pos} {lo up : Option Expr} {vs : List V} {l u : Option Int} (a b : Nat) (hm : (x, LV.val (.list vs)) ∈ σ) (hl : Part G k env σ lo l) (hu : Part G k env σ up u) (hn : vs.length ≤ 1000000)
    (ha : Clip l 0 vs.length a) (hb : Clip u vs.length vs.length b)
    (hk : env.scope.kind = .function := by rfl) (hd : (Str.ofString x == ("__debug__" : Str)) = false := by decide) (hcd : (Str.ofString x == ("__classdict__" : Str)) = false := by decide) :
    Ev G k env σ (.Subscript (.Name (Str.ofString x) p) (.Slice lo up none p') pos) (.list ((vs.take b).drop a)) := fun _ A s R Q E hA hS hQ => by
  obtain ⟨val, hvar, ax, its, rfl, hsq, rl⟩ := hS.vars _ _ hm
  refine wpAny_Subscript_list_slice (wpAny_var hvar (hl.run hA hS fun t₁ s₂ R₂ g₂ => hu.run hA (hS.grow g₂) fun t₂ s₃ R₃ g₃ => ?_) hk hd hcd) (fun o r => rfl)
  have g := g₂.trans g₃
  have hli := ((hsq.sub g.up).sub g.base.sub).isList
  refine ⟨ax, its.toArray, l, u, rfl, hli, by rw [List.size_toArray, rl.length]; show _ ≤ 16777216; omega, isPart_of, isPart_of, ?_⟩
  have ga := Grow.keep (tk := s₃.toks) (h' := s₃.heap.push { cls := .type "slice", data := .fields #[partValue (l.map fun j => (j, t₁)), partValue (u.map fun j => (j, t₂)), .none] }) g₃.base fun _ _ e => Heap.get?_push_of_some _ e
  have gb := Grow.pushed (tk := s₃.toks) (o := { cls := .type "list", data := .seq (slicePick its.toArray l u none) }) ga.base
  have e : (s₃.heap.push { cls := .type "slice", data := .fields #[partValue (l.map fun j => (j, t₁)), partValue (u.map fun j => (j, t₂)), .none] }).objs.size = s₃.heap.objs.size + 1 := Heap.size_push ..
  refine hQ _ _ _ ((g.trans ga).trans gb) ⟨_, (slicePick its.toArray l u none).toList, rfl, ⟨{ cls := .type "list", data := .seq (slicePick its.toArray l u none) }, 0, ?_, rfl, ?_⟩, ?_⟩
  · show PH.put _ _ _ _ = _
    rw [← e]; exact PH.put_self ..
  · simp
  · have el := rl.length
    rw [pick_cut its l u a b (by rw [el]; exact ha) (by rw [el]; exact hb)]
    exact ((rl.take b).drop a).sub (g.up.trans (ga.up.trans gb.up))

noncomputable def PairsSI : List (Value × Value) → List (Str × Int) → Prop
  | [], kvs => kvs = []
  | (kv, vv) :: r, kvs => ∃ x i t u kr, kvs = (x, i) :: kr ∧ kv = .str x t ∧ vv = .int i u ∧ PairsSI r kr
noncomputable def EvP (G : Cx) (k : Nat) (env : Env) (σ : Sg) (keys : List (Option Expr)) (values : List Expr) (kvs : List (Str × Int)) : Prop :=
  ∀ ⦃Fs : List Env⦄ (pos : Pos) (A : Around) (s : Shared) (R : PH) (Q : List (Value × Value) → Shared → Prop) (E : Value → Shared → Prop), Aok k Fs A → Sv G Fs env R σ s →
    (∀ vs s' R', Grow G Fs R s R' s' → PairsSI vs kvs → Q vs s') → wpAny (model G.prog G.w) A (evalPairs (pairTrees keys values env pos)) Q E s
theorem EvP.nil : EvP G k env σ [] [] [] := fun _ pos A s R Q E hA hS hQ => evalPairs_nil (hQ [] s R (.refl hS.base) rfl)
theorem EvP.cons {e e' : Expr} {ks : List (Option Expr)} {vs : List Expr} {x : Str} {i : Int} {kvs : List (Str × Int)} (h : Ev G k env σ e (.str x)) (h' : Ev G k env σ e' (.int i)) (hr : EvP G k env σ ks vs kvs) : EvP G k env σ (some e :: ks) (e' :: vs) ((x, i) :: kvs) :=
  fun _ pos A s R Q E hA hS hQ => pairTrees_cons_walk (h A s R _ E hA hS fun kv s₁ R₁ g₁ r₁ => h' A s₁ R₁ _ E hA (hS.grow g₁) fun vv s₂ R₂ g₂ r₂ => hr pos A s₂ R₂ _ E hA ((hS.grow g₁).grow g₂) fun r s₃ R₃ g₃ q => by
    obtain ⟨t, rfl⟩ := r₁
    obtain ⟨u, rfl⟩ := r₂
    exact hQ _ s₃ R₃ ((g₁.trans g₂).trans g₃) ⟨x, i, t, u, kvs, rfl, rfl, rfl, q⟩)
theorem PairsSI.carries {p : Program} {w : World} : ∀ {vs : List (Value × Value)} {kvs : List (Str × Int)}, PairsSI vs kvs → ∃ kvs', Carries (PySem.strKind p w) vs kvs' ∧ PVals isIntV kvs kvs' ∧ kvs'.map (·.1) = kvs.map (·.1)
  | [], _, e => by rw [show _ = [] from e]; exact ⟨[], trivial, rfl, rfl⟩
  | (kv, vv) :: r, _, ⟨x, i, t, u, kr, e, e1, e2, h⟩ => by
    obtain ⟨k', a, b, c⟩ := PairsSI.carries (p := p) (w := w) h
    rw [e, e1, e2]
    exact ⟨(x, .int i u) :: k', ⟨strKind_is p w x t, rfl, a⟩, ⟨_, _, rfl, ⟨u, rfl⟩, b⟩, by rw [List.map_cons, List.map_cons, c]⟩
theorem merged_pvals {K α : Type} [DecidableEq K] {P : α → Value → Prop} : ∀ {kvs acc : List (K × α)} {kvs' acc' : List (K × Value)}, PVals P kvs kvs' → PVals P acc acc' → PVals P (kvs.foldl (fun a kv => storedG a kv.1 kv.2) acc) (merged acc' kvs')
  | [], _, _, _, e, h => by rw [show _ = [] from e]; exact h
  | (k, a) :: r, acc, _, acc', ⟨v, r', e, p, q⟩, h => by
    rw [e]
    show PVals P (r.foldl _ (storedG acc k a)) (merged (PySem.stored acc' k v) r')
    exact merged_pvals q (PVals.stored p h)
theorem X1.assignSI {x : String} {p pos pos' : Pos} {keys : List (Option Expr)} {values : List Expr} {kvs : List (Str × Int)} (h : EvP G k env σ keys values kvs) (hx : OwnName env (Str.ofString x)) (hall : keys.all (·.isSome) = true := by rfl) (hl : keys.length = values.length := by rfl) (h0 : keys ≠ [] := by nofun) (hlen : keys.length ≤ 15 := by decide)
    (hnd : noD σ = true := by rfl) (hk : env.scope.kind = .function := by rfl)
    (hs : swapsWith (.Dict keys values pos') (some (.Name (Str.ofString x) p)) pos.line env = pure false := by rfl) : X1 G k env σ (.Assign [.Name (Str.ofString x) p] (.Dict keys values pos') pos) (.next (put σ x (.ownD (.dSI G.prog G.w (kvs.foldl (fun a kv => storedG a kv.1 kv.2) []))))) := fun _ A s R Kp Q E hA hS hQ => by
  refine wpAny_Assign_Name (wpAny_Dict_walk (knd := PySem.strKind G.prog G.w) hall hl h0 hlen ?_) hs
  have hnew := new_none s.heap
  have g₁ : Grow G _ R s R { s with heap := s.heap.push { cls := .type "dict", data := .dict #[] } } := Grow.keep (tk := s.toks) hS.base fun _ _ e => Heap.get?_push_of_some _ e
  obtain ⟨n1, n2, n3⟩ := hS.newAt hnew g₁
  refine h pos' A _ R _ E hA (hS.grow g₁).sv fun vs s₂ R₂ g₂ hP => ?_
  obtain ⟨kvs', c1, c2, c3⟩ := PairsSI.carries (p := G.prog) (w := G.w) hP
  have eD : (s.heap.push { cls := .type "dict", data := .dict #[] }).get? s.heap.objs.size = some { cls := .type "dict", data := .dict #[] } := Heap.get?_push_size _ rfl
  have hDT : s.heap.objs.size ∉ G.T := notT_of_new hS.base hnew
  obtain ⟨oD, eD2, lD⟩ := g₂.ext _ _ hDT eD
  rw [lD.not n2] at eD2
  refine ⟨kvs', c1, ⟨_, #[], 0, eD2, ⟨rfl, rfl, rfl⟩, rfl, fun _ he => by simp at he, .nil, List.nodup_nil⟩, fun h' hd' hs' => ?_⟩
  have S₂ := (hS.grow g₁).grow g₂
  have hRD : R₂ s.heap.objs.size = Option.none := by
    cases q : R₂ s.heap.objs.size with
    | none => rfl
    | some o' =>
      rcases g₂.new _ _ q with q' | q'
      · rw [none_of_new hS.base hnew] at q'; cases q'
      · rw [eD] at q'; cases q'
  have hL : s.heap.objs.size ≠ env.locals := fun q => by
    obtain ⟨m, oL, es, ep, eL, _⟩ := hS.ns
    rw [← q, hnew] at eL; cases eL
  have S₃ := S₂.gone (h' := h') hs' hRD n1 eD2 rfl hL (fun e he q => n2 ⟨e, he, q⟩) hnd
  have S₄ := S₃.grow (Grow.toks S₃.base (s₂.toks + vs.length))
  obtain ⟨o', eo', hO'⟩ := Heap.dictOf_iff.mp hd'
  refine S₄.storeD (v := .dSI G.prog G.w (kvs.foldl (fun a kv => storedG a kv.1 kv.2) [])) hx hk rfl eo' (isDictOf_data hO') (fun R' e' => ⟨_, rfl, new_ne hS.base, o', _, e', hO', merged_pvals c2 (show PVals isIntV ([] : List (Str × Int)) [] from rfl)⟩) hRD n1 n2 (fun y b lv' hy ho hne hv => ?_)
    fun h'' tk S' => hQ _ R₂ (((g₁.adv.trans g₂.adv).trans ⟨h', s₂.toks + vs.length, rfl⟩).trans ⟨h'', tk, rfl⟩) ((g₁.trans g₂).x hS.kp) S'
  rintro rfl
  obtain ⟨f, hvs, _⟩ := S₄.vars
  obtain ⟨val, w1, w2, _⟩ := hvs y _ hy
  have := w1.fn hv
  subst this
  cases lv' with
  | val v => cases ho
  | own ws =>
    obtain ⟨a', its, e1, ⟨n', q⟩, _⟩ := w2
    cases e1
    rw [show h'.get? _ = _ from eo'] at q
    cases q
    obtain ⟨es, n, hdd⟩ := isDictOf_data hO'
    cases hdd
  | ownD v => exact noD_mem hnd hy
end
end Mine
open PySem PySem.W PyProof.Rows
set_option Elab.async false
set_option linter.unusedVariables false
set_option maxRecDepth 100000
namespace Mine
open PySem.StrLaws PySem.Builtin.Str
noncomputable def J (sep : List Nat) : List (List Nat) → List Nat
  | [] => []
  | [q] => q
  | q :: r => q ++ (sep ++ J sep r)
noncomputable def occ (sep l : List Nat) (k : Nat) : Prop := (l.drop k).take sep.length = sep
noncomputable def FreeJ (sep : List Nat) : List (List Nat) → Prop
  | [] => True
  | [q] => ∀ k, ¬ occ sep q k
  | q :: r => (∀ k, k < q.length → ¬ occ sep (q ++ (sep ++ J sep r)) k) ∧ FreeJ sep r
theorem at_occ {sep l : List Nat} (hs : sep ≠ []) (k : Nat) : StrLaws.At (txt l) (txt sep) (txt l).length k ↔ occ sep l k := by
  unfold StrLaws.At occ
  rw [subAt_eq, txt_len, txt_len, txt_list, txt_list, beq_iff_eq]
  refine ⟨fun h => h.2, fun h => ⟨?_, h⟩⟩
  have := congrArg List.length h
  rw [List.length_take, List.length_drop] at this
  have hp : 0 < sep.length := List.length_pos_iff.mpr hs
  omega
theorem chain_unique {s sub : Str} {hi : Nat} : ∀ {c1 c2 : List Nat} {a f1 f2 : Nat}, ChainG s sub hi a c1 f1 → (∀ k, f1 ≤ k → ¬ StrLaws.At s sub hi k) → ChainG s sub hi a c2 f2 → (∀ k, f2 ≤ k → ¬ StrLaws.At s sub hi k) → c1 = c2
  | [], [], _, _, _, _, _, _, _ => rfl
  | [], d :: r, a, f1, f2, h1, n1, h2, _ => by
    have e : f1 = a := h1
    exact absurd h2.2.1 (n1 d (e ▸ h2.1))
  | c :: r, [], a, f1, f2, h1, _, h2, n2 => by
    have e : f2 = a := h2
    exact absurd h1.2.1 (n2 c (e ▸ h1.1))
  | c :: r, d :: r', a, f1, f2, h1, n1, h2, n2 => by
    have e : c = d := by
      rcases Nat.lt_trichotomy c d with q | q | q
      · exact absurd h1.2.1 (h2.2.2.1 c h1.1 q)
      · exact q
      · exact absurd h2.2.1 (h1.2.2.1 d h2.1 q)
    subst e
    rw [chain_unique h1.2.2.2 n1 h2.2.2.2 n2]
theorem strSub_txt (l : List Nat) (a b : Nat) : strSub (txt l) a b = txt ((l.drop a).take (b - a)) := by
  apply Str.ext'
  apply Array.toList_inj.mp
  rw [strSub_toList, txt_list, txt_list]
theorem J_cons {sep q : List Nat} {r : List (List Nat)} (h : r ≠ []) : J sep (q :: r) = q ++ (sep ++ J sep r) := by
  cases r with
  | nil => exact absurd rfl h
  | cons a b => rfl
theorem free_cons {sep q : List Nat} {r : List (List Nat)} (h : r ≠ []) : FreeJ sep (q :: r) ↔ (∀ k, k < q.length → ¬ occ sep (q ++ (sep ++ J sep r)) k) ∧ FreeJ sep r := by
  cases r with
  | nil => exact absurd rfl h
  | cons a b => exact Iff.rfl
theorem chain_J {sep : List Nat} (hs : sep ≠ []) : ∀ (qs : List (List Nat)) (pre : List Nat), qs ≠ [] → FreeJ sep qs → ∃ cuts f, ChainG (txt (pre ++ J sep qs)) (txt sep) (txt (pre ++ J sep qs)).length pre.length cuts f ∧ (∀ k, f ≤ k → ¬ StrLaws.At (txt (pre ++ J sep qs)) (txt sep) (txt (pre ++ J sep qs)).length k) ∧
      partsFrom (txt (pre ++ J sep qs)) (txt sep).length pre.length cuts = qs.map txt
  | [], _, h, _ => absurd rfl h
  | [q], pre, _, hf => by
    refine ⟨[], pre.length, rfl, fun k hk hA => ?_, ?_⟩
    · rw [at_occ hs] at hA
      obtain ⟨j, rfl⟩ := Nat.le.dest hk
      unfold occ at hA
      rw [List.drop_length_add_append] at hA
      exact hf j hA
    · show [strSub (txt (pre ++ q)) pre.length (txt (pre ++ q)).length] = _
      rw [strSub_txt, txt_len, List.length_append, List.drop_left, Nat.add_sub_cancel_left, List.take_length]; rfl
  | q :: q' :: r, pre, _, hf => by
    have hne : (q' :: r) ≠ [] := nofun
    obtain ⟨f1, f2⟩ := (free_cons hne).mp hf
    have eJ := J_cons (sep := sep) (q := q) hne
    obtain ⟨cuts, f, c1, c2, c3⟩ := chain_J hs (q' :: r) (pre ++ (q ++ sep)) hne f2
    have e : pre ++ (q ++ sep) ++ J sep (q' :: r) = pre ++ J sep (q :: q' :: r) := by rw [eJ]; simp only [List.append_assoc]
    rw [e] at c1 c2 c3
    have hl : (pre ++ (q ++ sep)).length = pre.length + q.length + (txt sep).length := by rw [txt_len, List.length_append, List.length_append]; omega
    rw [hl] at c1 c3
    refine ⟨(pre.length + q.length) :: cuts, f, ⟨Nat.le_add_right _ _, ?_, fun k h1 h2 hA => ?_, c1⟩, c2, ?_⟩
    · rw [at_occ hs, eJ]
      unfold occ
      rw [List.drop_length_add_append, List.drop_left, List.take_left]
    · rw [at_occ hs, eJ] at hA
      obtain ⟨j, rfl⟩ := Nat.le.dest h1
      unfold occ at hA
      rw [List.drop_length_add_append] at hA
      exact f1 j (by omega) hA
    · show strSub (txt (pre ++ J sep (q :: q' :: r))) pre.length (pre.length + q.length) :: partsFrom _ _ _ _ = _
      rw [c3, strSub_txt, List.drop_left, Nat.add_sub_cancel_left, eJ, List.take_left]; rfl
theorem split_J {sep : List Nat} (hs : sep ≠ []) (hk : ∀ x : Str, ¬ Builtin.Str.strKind x < Builtin.Str.strKind (txt sep)) {qs : List (List Nat)} (hq : qs ≠ []) (hf : FreeJ sep qs) : Txt.split (txt (J sep qs)) (txt sep) = qs.map txt := by
  obtain ⟨cuts, f, c1, c2, c3⟩ := chain_J hs qs [] hq hf
  rw [List.nil_append] at c1 c2 c3
  have hp : 0 < sep.length := List.length_pos_iff.mpr hs
  obtain ⟨g, d1, d2⟩ := occ_tight (txt (J sep qs)) (txt sep) (by rw [txt_len]; exact hp)
  have e := chain_unique d1 d2 c1 c2
  have whole : cuts = [] → [txt (J sep qs)] = qs.map txt := fun h => by
    rw [← c3, h]
    show _ = [strSub _ 0 _]
    rw [sub_whole]
  unfold Txt.split
  rw [e]
  split
  · rename_i h
    rw [Bool.or_eq_true, decide_eq_true_iff, decide_eq_true_iff] at h
    have h := h.resolve_right (hk _)
    refine whole ?_
    cases cuts with
    | nil => rfl
    | cons c r => have := c1.2.1.1; omega
  · split
    · rename_i h; exact whole (List.isEmpty_iff.mp h)
    · rw [partsBetween_eq]; exact c3
theorem join_J (sep : List Nat) : ∀ qs : List (List Nat), Txt.join (txt sep) (qs.map txt) = txt (J sep qs) := by
  have key : ∀ qs : List (List Nat), Str.join (txt sep) (qs.map txt) = txt (J sep qs) := by
    intro qs
    induction qs with
    | nil => rfl
    | cons q r ih =>
      cases r with
      | nil => rfl
      | cons q' r =>
        show txt q ++ txt sep ++ Str.join (txt sep) ((q' :: r).map txt) = _
        rw [ih, txt_append, txt_append]
        show txt (q ++ sep ++ J sep (q' :: r)) = txt (q ++ (sep ++ J sep (q' :: r)))
        rw [List.append_assoc]
  intro qs
  show glued (txt sep) (qs.map txt) = _
  rw [glued_eq_join, key]
theorem kind_one (x : Str) : ¬ Builtin.Str.strKind x < 1 := by
  unfold Builtin.Str.strKind
  split
  · exact Nat.lt_irrefl _
  · split <;> decide
theorem free_one : ∀ {qs : List (List Nat)}, (∀ q ∈ qs, 92 ∉ q) → FreeJ [92] qs
  | [], _ => trivial
  | [q], h => fun k hk => h q m0 (by
      unfold occ at hk
      cases e : q.drop k with
      | nil => rw [e] at hk; cases hk
      | cons a r =>
        rw [e] at hk
        have : a = 92 := (List.cons.inj hk).1
        have hm : (92 : Nat) ∈ q.drop k := by rw [e, this]; exact m0
        exact List.mem_of_mem_drop hm)
  | q :: q' :: r, h => by
    refine (free_cons (r := q' :: r) nofun).mpr ⟨fun k hk hA => ?_, free_one fun p hp => h p (List.mem_cons_of_mem _ hp)⟩
    unfold occ at hA
    rw [List.drop_append_of_le_length (Nat.le_of_lt hk), List.drop_eq_getElem_cons hk] at hA
    have : q[k] = 92 := (List.cons.inj hA).1
    exact h q m0 (this ▸ List.getElem_mem hk)
noncomputable def Tame (q : List Nat) : Prop := ∀ k, q[k]? = some 92 → ∃ d, q[k + 1]? = some d ∧ d ≠ 92
theorem occ_two {l : List Nat} {k : Nat} (h : occ [92, 92] l k) : l[k]? = some 92 ∧ l[k + 1]? = some 92 := by
  unfold occ at h
  have h0 : (l.drop k)[0]? = some 92 := by
    have := congrArg (·[0]?) h
    simpa using this
  have h1 : (l.drop k)[1]? = some 92 := by
    have := congrArg (·[1]?) h
    simpa using this
  rw [List.getElem?_drop] at h0 h1
  exact ⟨h0, h1⟩
theorem free_two : ∀ {qs : List (List Nat)}, (∀ q ∈ qs, Tame q) → FreeJ [92, 92] qs
  | [], _ => trivial
  | [q], h => fun k hk => by
    obtain ⟨a, b⟩ := occ_two hk
    obtain ⟨d, e, ne⟩ := h q m0 k a
    rw [b] at e; exact ne (Option.some.inj e).symm
  | q :: q' :: r, h => by
    refine (free_cons (r := q' :: r) nofun).mpr ⟨fun k hk hA => ?_, free_two fun p hp => h p (List.mem_cons_of_mem _ hp)⟩
    obtain ⟨a, b⟩ := occ_two hA
    rw [List.getElem?_append_left hk] at a
    obtain ⟨d, e, ne⟩ := h q m0 k a
    rw [List.getElem?_append_left (List.getElem?_eq_some_iff.mp e).1, e] at b
    exact ne (Option.some.inj b)
theorem Tame.nil : Tame [] := fun k h => by simp at h
theorem Tame.append {a b : List Nat} (ha : Tame a) (hb : Tame b) : Tame (a ++ b) := fun k h => by
  rcases Nat.lt_or_ge k a.length with q | q
  · rw [List.getElem?_append_left q] at h
    obtain ⟨d, e, ne⟩ := ha k h
    exact ⟨d, by rw [List.getElem?_append_left (List.getElem?_eq_some_iff.mp e).1]; exact e, ne⟩
  · rw [List.getElem?_append_right q] at h
    obtain ⟨d, e, ne⟩ := hb _ h
    exact ⟨d, by rw [List.getElem?_append_right (by omega), show k + 1 - a.length = k - a.length + 1 by omega]; exact e, ne⟩
end Mine
open PySem PySem.W PyProof.Rows
set_option Elab.async false
set_option linter.unusedVariables false
set_option maxRecDepth 100000
namespace Mine
noncomputable def segs : List Nat → List (List Nat)
  | [] => [[]]
  | c :: r => if c = 92 then [] :: segs r else ((c :: (segs r).headD []) :: (segs r).tail)
theorem segs_ne (l : List Nat) : segs l ≠ [] := by
  cases l with
  | nil => exact nofun
  | cons c r => unfold segs; split <;> exact nofun
theorem segs_eq (l : List Nat) : segs l = (segs l).headD [] :: (segs l).tail := by
  cases h : segs l with
  | nil => exact absurd h (segs_ne l)
  | cons a r => rfl
theorem J_front (sep a q : List Nat) (r : List (List Nat)) : J sep ((a ++ q) :: r) = a ++ J sep (q :: r) := by
  cases r with
  | nil => rfl
  | cons b t => show (a ++ q) ++ (sep ++ J sep (b :: t)) = a ++ (q ++ (sep ++ J sep (b :: t))); rw [List.append_assoc]
theorem J_segs : ∀ l : List Nat, J [92] (segs l) = l
  | [] => rfl
  | c :: r => by
    have ih := J_segs r
    unfold segs
    by_cases h : c = 92
    · rw [if_pos h, J_cons (segs_ne r), ih, h]; rfl
    · rw [if_neg h]
      have := J_front [92] [c] ((segs r).headD []) (segs r).tail
      rw [show [c] ++ (segs r).headD [] = c :: (segs r).headD [] from rfl] at this
      rw [this, ← segs_eq, ih]; rfl
theorem trE_92 : (trE 92).cps.toList = [92, 92] := by decide
theorem out_segs : ∀ l : List Nat, outL escE trE l = J [92, 92] ((segs l).map (outL escE trE))
  | [] => rfl
  | c :: r => by
    have ih := out_segs r
    have e : outL escE trE (c :: r) = (if escE c then (trE c).cps.toList else [c]) ++ outL escE trE r := rfl
    have hne : (segs r).map (outL escE trE) ≠ [] := fun q => segs_ne r (List.map_eq_nil_iff.mp q)
    unfold segs
    by_cases h : c = 92
    · rw [if_pos h, List.map_cons, J_cons hne, ← ih, e, h, if_pos (by decide), trE_92]; rfl
    · rw [if_neg h, List.map_cons]
      have e2 : outL escE trE (c :: (segs r).headD []) = (if escE c then (trE c).cps.toList else [c]) ++ outL escE trE ((segs r).headD []) := rfl
      rw [e2, J_front, e, ih]
      congr 1
      conv => lhs; rw [segs_eq r]
      rfl
theorem segs_mem : ∀ {l s : List Nat}, s ∈ segs l → ∀ c ∈ s, c ∈ l ∧ c ≠ 92
  | [], s, h, c, hc => by rw [List.mem_singleton.mp h] at hc; cases hc
  | d :: r, s, h, c, hc => by
    unfold segs at h
    split at h
    · rcases List.mem_cons.mp h with h | h
      · rw [h] at hc; cases hc
      · have := segs_mem h c hc; exact ⟨List.mem_cons_of_mem _ this.1, this.2⟩
    · rename_i hd
      have hsub : ∀ t ∈ segs r, ∀ c ∈ t, c ∈ d :: r ∧ c ≠ 92 := fun t ht c hc => by have := segs_mem ht c hc; exact ⟨List.mem_cons_of_mem _ this.1, this.2⟩
      rcases List.mem_cons.mp h with h | h
      · rw [h] at hc
        rcases List.mem_cons.mp hc with rfl | hc
        · exact ⟨m0, hd⟩
        · exact hsub _ (by rw [segs_eq r]; exact m0) c hc
      · exact hsub s (by rw [segs_eq r]; exact List.mem_cons_of_mem _ h) c hc
theorem segs_len : ∀ l : List Nat, (segs l).length ≤ l.length + 1
  | [] => Nat.le_refl _
  | c :: r => by
    have := segs_len r
    unfold segs
    split
    · simp only [List.length_cons]; omega
    · rw [segs_eq r] at this
      simp only [List.length_cons] at *
      omega
noncomputable def pcs : List Nat → List Nat × List (Nat × List Nat)
  | [] => ([], [])
  | c :: r => if escE c then ([], (c, (pcs r).1) :: (pcs r).2) else (c :: (pcs r).1, (pcs r).2)
noncomputable def bodyE (e : Nat) : List Nat := (trE e).cps.toList.drop 1
noncomputable def cutT (p : Nat × List Nat) : List Nat := bodyE p.1 ++ p.2
theorem trE_head {c : Nat} (he : escE c = true) : (trE c).cps.toList = 92 :: bodyE c := by
  have hD := trD_of_escE he
  unfold bodyE
  cases q : shortOf c with
  | some l =>
    have e1 : trD c = some ⟨#[92, l]⟩ := by unfold trD; rw [q]
    rw [Option.some.inj (hD.symm.trans e1)]; rfl
  | none =>
    have h32 : c < 32 := by
      rcases (escE_iff c).mp he with h | rfl | rfl
      · exact h
      · cases q
      · cases q
    have e1 : trD c = some (esc4 c) := by unfold trD; rw [q]; exact if_pos h32
    rw [Option.some.inj (hD.symm.trans e1)]; rfl
theorem out_pcs : ∀ s : List Nat, outL escE trE s = J [92] ((pcs s).1 :: (pcs s).2.map cutT)
  | [] => rfl
  | c :: r => by
    have ih := out_pcs r
    have e : outL escE trE (c :: r) = (if escE c then (trE c).cps.toList else [c]) ++ outL escE trE r := rfl
    have ep : pcs (c :: r) = if escE c then ([], (c, (pcs r).1) :: (pcs r).2) else (c :: (pcs r).1, (pcs r).2) := rfl
    rw [e, ih, ep]
    by_cases h : escE c = true
    · rw [if_pos h, if_pos h, trE_head h]
      show _ = J [92] ([] :: ((bodyE c ++ (pcs r).1) :: (pcs r).2.map cutT))
      rw [J_cons (r := (bodyE c ++ (pcs r).1) :: (pcs r).2.map cutT) nofun, J_front]; rfl
    · rw [if_neg h, if_neg h]
      exact (J_front [92] [c] (pcs r).1 ((pcs r).2.map cutT)).symm
theorem pcs_flat : ∀ s : List Nat, s = (pcs s).1 ++ (pcs s).2.flatMap fun p => p.1 :: p.2
  | [] => rfl
  | c :: r => by
    have ih := pcs_flat r
    unfold pcs
    by_cases h : escE c = true
    · rw [if_pos h]
      show c :: r = [] ++ (c :: ((pcs r).1 ++ (pcs r).2.flatMap fun p => p.1 :: p.2))
      rw [← ih]; rfl
    · rw [if_neg h]
      show c :: r = c :: ((pcs r).1 ++ _)
      rw [← ih]
theorem pcs_mem : ∀ {s : List Nat}, (∀ c ∈ (pcs s).1, c ∈ s ∧ escE c = false) ∧ ∀ p ∈ (pcs s).2, (p.1 ∈ s ∧ escE p.1 = true) ∧ ∀ c ∈ p.2, c ∈ s ∧ escE c = false
  | [] => ⟨nofun, nofun⟩
  | c :: r => by
    obtain ⟨h1, h2⟩ := pcs_mem (s := r)
    have up : ∀ d, d ∈ r ∧ escE d = false → d ∈ c :: r ∧ escE d = false := fun d h => ⟨List.mem_cons_of_mem _ h.1, h.2⟩
    unfold pcs
    by_cases h : escE c = true
    · rw [if_pos h]
      refine ⟨nofun, fun p hp => ?_⟩
      rcases List.mem_cons.mp hp with rfl | hp
      · exact ⟨⟨m0, h⟩, fun d hd => up d (h1 d hd)⟩
      · exact ⟨⟨List.mem_cons_of_mem _ (h2 p hp).1.1, (h2 p hp).1.2⟩, fun d hd => up d ((h2 p hp).2 d hd)⟩
    · rw [if_neg h]
      refine ⟨fun d hd => ?_, fun p hp => ⟨⟨List.mem_cons_of_mem _ (h2 p hp).1.1, (h2 p hp).1.2⟩, fun d hd => up d ((h2 p hp).2 d hd)⟩⟩
      rcases List.mem_cons.mp hd with rfl | hd
      · exact ⟨m0, by simpa using h⟩
      · exact up d (h1 d hd)
theorem pcs_len : ∀ s : List Nat, (pcs s).2.length ≤ s.length
  | [] => Nat.le_refl _
  | c :: r => by
    have := pcs_len r
    unfold pcs
    split
    · show (pcs r).2.length + 1 ≤ _; rw [List.length_cons]; omega
    · rw [List.length_cons]; exact Nat.le_succ_of_le this
noncomputable def keyU (n : Nat) : Str := txt [117, 48, 48, 48 + n / 16, hxd (n % 16)]
noncomputable def tab0 : List (Str × Int) := [(txt [34], 34), (txt [98], 8), (txt [102], 12), (txt [110], 10), (txt [114], 13), (txt [116], 9)]
noncomputable def tabStep (t : List (Str × Int)) (n : Nat) : List (Str × Int) := if ([8, 12, 10, 13, 9] : List Int).any (· == (n : Int)) then t else storedG t (keyU n) (n : Int)
noncomputable def tabN (i : Nat) : List (Str × Int) := (List.range i).foldl tabStep tab0
theorem tab0_fold : tab0.foldl (fun a kv => storedG a kv.1 kv.2) [] = tab0 := by decide +kernel
theorem tabN_len (i : Nat) : (tabN i).length ≤ i + 6 := by
  have key : ∀ (l : List Nat) (t : List (Str × Int)), (l.foldl tabStep t).length ≤ t.length + l.length := by
    intro l
    induction l with
    | nil => intro t; exact Nat.le_refl _
    | cons u r ih =>
      intro t
      have h1 := ih (tabStep t u)
      have h2 : (tabStep t u).length ≤ t.length + 1 := by
        unfold tabStep
        split
        · exact Nat.le_succ _
        · exact stored_len _ _ _
      rw [List.foldl_cons, List.length_cons]; omega
  have := key (List.range i) tab0
  rw [List.length_range] at this
  unfold tabN
  have e : tab0.length = 6 := rfl
  omega
noncomputable def table : List (Str × Int) := tabN 32
theorem table_look : ∀ e, e < 93 → escE e = true → e ≠ 92 → (match shortOf e with
    | some l => bodyE e = [l] ∧ lookG table (txt [l]) = some (e : Int)
    | none => (bodyE e).length = 5 ∧ (bodyE e).headD 0 = 117 ∧ lookG table (txt [117]) = none ∧ lookG table (txt (bodyE e)) = some (e : Int)) := by
  have key : (List.range 93).all (fun e => !(escE e) || e == 92 || (match shortOf e with
    | some l => decide (bodyE e = [l]) && decide (lookG table (txt [l]) = some (e : Int))
    | none => decide ((bodyE e).length = 5) && (decide ((bodyE e).headD 0 = 117) && (decide (lookG table (txt [117]) = none) && decide (lookG table (txt (bodyE e)) = some (e : Int)))))) = true := by decide +kernel
  intro e he h1 h2
  have := List.all_eq_true.mp key e (List.mem_range.mpr he)
  rw [h1, beq_eq_false_iff_ne.mpr h2] at this
  cases q : shortOf e with
  | some l =>
    rw [q] at this
    simp only [Bool.not_true, Bool.false_or, Bool.and_eq_true, decide_eq_true_iff] at this
    exact this
  | none =>
    rw [q] at this
    simp only [Bool.not_true, Bool.false_or, Bool.and_eq_true, decide_eq_true_iff] at this
    exact this
theorem body_no92 : ∀ e, e < 93 → escE e = true → e ≠ 92 → 92 ∉ bodyE e := by
  have key : (List.range 93).all (fun e => !(escE e) || e == 92 || decide (92 ∉ bodyE e)) = true := by decide +kernel
  intro e he h1 h2
  have := List.all_eq_true.mp key e (List.mem_range.mpr he)
  rw [h1, beq_eq_false_iff_ne.mpr h2] at this
  simpa using this
theorem esc_lt {e : Nat} (h : escE e = true) : e < 93 := by
  rcases (escE_iff e).mp h with h | h | h <;> omega
theorem cut_look {p : Nat × List Nat} (h : escE p.1 = true) (h2 : p.1 ≠ 92) : ∃ z, (z = 1 ∨ z = 5) ∧ ((lookG table (txt ((cutT p).take 1))).isSome = decide (z = 1)) ∧ (cutT p).take z = bodyE p.1 ∧ (cutT p).drop z = p.2 ∧ lookG table (txt (bodyE p.1)) = some (p.1 : Int) ∧ z ≤ (cutT p).length := by
  have hl := table_look p.1 (esc_lt h) h h2
  unfold cutT
  cases q : shortOf p.1 with
  | some l =>
    rw [q] at hl
    obtain ⟨e1, e2⟩ := hl
    refine ⟨1, .inl rfl, ?_⟩
    rw [e1]
    refine ⟨?_, rfl, rfl, e2, by rw [List.length_append]; show 1 ≤ 1 + _; omega⟩
    show (lookG table (txt [l])).isSome = true
    rw [e2]; rfl
  | none =>
    rw [q] at hl
    obtain ⟨e1, e2, e3, e4⟩ := hl
    refine ⟨5, .inr rfl, ?_, ?_, ?_, e4, ?_⟩
    · have : (bodyE p.1 ++ p.2).take 1 = [117] := by
        cases hb : bodyE p.1 with
        | nil => rw [hb] at e1; cases e1
        | cons a r => rw [hb] at e2; rw [show a = 117 from e2]; rfl
      rw [this, e3]; rfl
    · rw [← e1, List.take_left]
    · rw [← e1, List.drop_left]
    · rw [List.length_append, e1]; omega
theorem cuts_no92 {s : List Nat} (h : ∀ c ∈ s, c ≠ 92) : ∀ q ∈ (pcs s).1 :: (pcs s).2.map cutT, 92 ∉ q := fun q hq => by
  obtain ⟨h1, h2⟩ := pcs_mem (s := s)
  rcases List.mem_cons.mp hq with rfl | hq
  · intro h92; exact h 92 (h1 92 h92).1 rfl
  · obtain ⟨p, hp, rfl⟩ := List.mem_map.mp hq
    intro h92
    obtain ⟨⟨a, b⟩, c⟩ := h2 p hp
    rcases List.mem_append.mp h92 with q | q
    · exact body_no92 p.1 (esc_lt b) b (h p.1 a) q
    · exact h 92 (c 92 q).1 rfl
theorem kind1 : Builtin.Str.strKind (txt [92]) = 1 := by decide +kernel
theorem kind2 : Builtin.Str.strKind (txt [92, 92]) = 1 := by decide +kernel
theorem split_cuts {s : List Nat} (h : ∀ c ∈ s, c ≠ 92) : Txt.split (txt (outL escE trE s)) (txt [92]) = ((pcs s).1 :: (pcs s).2.map cutT).map txt := by
  rw [out_pcs]
  exact split_J (sep := [92]) (qs := (pcs s).1 :: (pcs s).2.map cutT) nofun (fun x => by rw [kind1]; exact kind_one x) nofun (free_one (cuts_no92 h))
theorem tame_enc {c : Nat} (h : c ≠ 92) : Tame (if escE c then (trE c).cps.toList else [c]) := by
  by_cases he : escE c = true
  · rw [if_pos he, trE_head he]
    intro k hk
    cases k with
    | zero =>
      have hb := body_no92 c (esc_lt he) he h
      cases hd : bodyE c with
      | nil =>
        have := table_look c (esc_lt he) he h
        cases q : shortOf c with
        | some l => rw [q] at this; rw [hd] at this; cases this.1
        | none => rw [q] at this; rw [hd] at this; cases this.1
      | cons a r =>
        refine ⟨a, rfl, fun e => hb ?_⟩
        rw [hd, e]; exact m0
    | succ k =>
      have : (92 : Nat) ∈ bodyE c := List.mem_of_getElem? (show (bodyE c)[k]? = some 92 from hk)
      exact absurd this (body_no92 c (esc_lt he) he h)
  · rw [if_neg he]
    intro k hk
    have : (92 : Nat) ∈ [c] := List.mem_of_getElem? hk
    exact absurd (List.mem_singleton.mp this).symm h
theorem tame_out : ∀ {s : List Nat}, (∀ c ∈ s, c ≠ 92) → Tame (outL escE trE s)
  | [], _ => Tame.nil
  | c :: r, h => by
    have e : outL escE trE (c :: r) = (if escE c then (trE c).cps.toList else [c]) ++ outL escE trE r := rfl
    rw [e]
    exact (tame_enc (h c m0)).append (tame_out fun d hd => h d (List.mem_cons_of_mem _ hd))
theorem split_parts (cs : List Nat) : Txt.split (txt (outL escE trE cs)) (txt [92, 92]) = ((segs cs).map (outL escE trE)).map txt := by
  rw [out_segs]
  refine split_J (sep := [92, 92]) nofun (fun x => by rw [kind2]; exact kind_one x) (fun q => segs_ne cs (List.map_eq_nil_iff.mp q)) (free_two fun q hq => ?_)
  obtain ⟨s, hs, rfl⟩ := List.mem_map.mp hq
  exact tame_out fun c hc => (segs_mem hs c hc).2
noncomputable def plains (s : List Nat) : List Nat := (pcs s).1 ++ (pcs s).2.flatMap (·.2)
theorem plains_mem {s : List Nat} {c : Nat} (h : c ∈ plains s) : escE c = false ∧ c ∈ s := by
  obtain ⟨h1, h2⟩ := pcs_mem (s := s)
  unfold plains at h
  rcases List.mem_append.mp h with h | h
  · exact ⟨(h1 c h).2, (h1 c h).1⟩
  · obtain ⟨p, hp, hc⟩ := List.mem_flatMap.mp h
    exact ⟨((h2 p hp).2 c hc).2, ((h2 p hp).2 c hc).1⟩
theorem plains_len (s : List Nat) : (plains s).length ≤ s.length := by
  have e := congrArg List.length (pcs_flat s)
  unfold plains
  rw [List.length_append] at *
  have key : ∀ l : List (Nat × List Nat), (l.flatMap (·.2)).length ≤ (l.flatMap fun p => p.1 :: p.2).length := by
    intro l
    induction l with
    | nil => exact Nat.le_refl _
    | cons a r ih => rw [List.flatMap_cons, List.flatMap_cons, List.length_append, List.length_append, List.length_cons]; omega
  have := key (pcs s).2
  omega
theorem no_quote {l : List Nat} (h : 34 ∉ l) : Txt.contains (txt l) (⟨#[34]⟩ : Str) = false := by
  show (!(Builtin.Str.occurrences (txt l) (⟨#[34]⟩ : Str) 0 (txt l).length 1).isEmpty) = false
  rcases StrLaws.occ_head (txt l) (⟨#[34]⟩ : Str) 1 (Nat.le_refl 1) with ⟨e, _⟩ | ⟨a, r, e, hA, _⟩
  · rw [e]; rfl
  · have := (StrLaws.subAt_one (txt l) 34 a).mp hA
    rw [txt_list] at this
    exact absurd (List.mem_of_getElem? this) h
end Mine
open PySem PySem.W PyProof.Rows
set_option Elab.async false
namespace Mine
set_option maxRecDepth 100000 in
set_option maxHeartbeats 8000000 in
open_top hd02 for PySem.Challenge.rw_dm0198_02
end Mine

open PySem PySem.W PyProof.Rows
set_option Elab.async false
set_option linter.unusedVariables false
set_option maxRecDepth 100000
set_option maxHeartbeats 1000000
namespace Mine
namespace L02
noncomputable abbrev K (G : Cx) : Frag := hd02.heap_39 G.w.params

noncomputable def encEF (G : Cx) : FuncData := fdAt (K G) 48
noncomputable def tabE : Tab := { c := 47, P := 43, line := 10, col := 4, qual := (Str.ofString "py_encode_basestring" ++ Str.ofString ".<locals>.") ++ Str.ofString "replace" }

section
variable {G : Cx} {Fs : List Env} {k : Nat}

theorem mg_dct (X : TopK G (K G)) : G.mg (Str.ofString "ESCAPE_DCT") = some (.ref 37) := by
  have h : nsIn (hd02.heap_39 G.w.params) mainGlobals (Str.ofString "ESCAPE_DCT") = some (some (.ref 37)) := by rfl
  exact X.m _ _ h

theorem mg_patE (X : TopK G (K G)) : G.mg (Str.ofString "ESCAPE") = some (.ref 36) := by
  have h : nsIn (hd02.heap_39 G.w.params) mainGlobals (Str.ofString "ESCAPE") = some (some (.ref 36)) := by rfl
  exact X.m _ _ h
theorem replE {f c' : Addr} {qual : Str} {doc pm ctv : Value} {x : Str} {q : Nat} (X : TopK G (K G)) (D : Dct G 37) (hq : q < x.cps.size) (he : escE (x.cps.getD q 0) = true) :
    FnR G (k + 2) (Made f (fnMade (Str.ofString "replace") qual (defParams (stmtsOf (encEF G))) (defBody (stmtsOf (encEF G))) (defScope (stmtsOf (encEF G))) [] doc pm c' ctv) c' qual) (.ref f) [.mtch x q] (.str (trE (x.cps.getD q 0))) := by
  refine FnR.mk (fd := fnX (Str.ofString "replace") qual (defParams (stmtsOf (encEF G))) (defBody (stmtsOf (encEF G))) (defScope (stmtsOf (encEF G))) [] .none .none doc pm none (.ref c') ctv) ["match"] (fun R h hC hs _ => ⟨hs _ _ hC.1, hC.2.rec⟩) rfl rfl rfl rfl (fun xs h => ?_) (by decide) (fun y hy L => ?_) (fun L => ?_) ?_
  · exact bind_one (fun v => rfl) xs h
  · simp at hy; subst hy; exact .inl rfl
  · exact Ex.stop (X1.ret (Ev.dct D (mg_dct X) (c := x.cps.getD q 0) (Ev.method (Ev.name (List.mem_cons_self ..)) Meth.group (EvL.cons Ev.const_int EvL.nil) (Fn.group hq)) (trD_of_escE he)))
  · show ([] : List Str).Nodup
    exact List.nodup_nil

theorem encE {x : Str} (X : TopK G (K G)) (D : Dct G 37) (hp : PatAt G.h0 36 codeE 0) (ht : tabE ∈ G.ts) (hx : x.cps.size ≤ 10000) :
    Fn G (k + 5) (.ref 48) [.str x] (.str (quoted (outL escE trE x.cps.toList))) := by
  refine Fn.mk (ob := _) (fd := encEF G) (body := stmtsOf (encEF G)) ["s"] (X.k 48 _ rfl) rfl rfl rfl (fun h hs => ?_) rfl (fun xs h => ?_) (by decide) (fun y hy L => ?_) (fun L => ?_) ?_
  · exact ⟨47, _, _, _, rfl, hs _ _ (X.k 47 _ rfl), rfl, rfl⟩
  · exact bind_one (fun v => rfl) xs h
  · simp at hy; subst hy; exact .inl rfl
  · intro Fs A s R Kp Q E hA hS hQ
    refine wpAny_execs_cons (def_ok (name := "replace") hS ht rfl rfl rfl rfl (.inl rfl) fun s₁ R₁ f c' doc ctv a₁ g₁ S₁ hRf hok => ?_)
    refine wpAny_execs_cons (wpAny_Return_some (EvC.run (k := k + 4) (C := Made f (fnMade (Str.ofString "replace") tabE.qual (defParams (stmtsOf (encEF G))) (defBody (stmtsOf (encEF G))) (defScope (stmtsOf (encEF G))) [] doc ((G.mg "__name__").getD .none) c' ctv) c' tabE.qual) (v := .str (quoted (outL escE trE x.cps.toList))) ?_ hA S₁.sv ⟨hRf, hok⟩ fun val s₂ R₂ g₂ r₂ => ?_))
    · have htr : ∀ c, escE c = true → (trE c).cps.size ≤ 20 := fun c hc => Nat.le_trans (trD_size (trD_of_escE hc)) (by decide)
      have hl : (outL escE trE x.cps.toList).length ≤ 200000 := by
        have := outL_len (esc := escE) (tr := trE) htr x.cps.toList
        have e : x.cps.toList.length = x.cps.size := Array.length_toList
        omega
      refine EvC.v (EvC.binop Made.lasts (EvC.binop Made.lasts (EvC.of (Ev.const_str' quote_eq)) (EvC.sub (k := k + 2) (by decide) (mg_patE X) hp (finds_E x.cps) (fun q hq he => replE X D hq he) hx htr rfl (List.mem_cons_of_mem _ (List.mem_cons_self ..)) (Ev.name (List.mem_cons_self ..))) (Op2.cat ?_)) (EvC.of (Ev.const_str' quote_eq)) (Op2.cat ?_)) (by rw [cat_quoted])
      · have e2 := str_len (outL escE trE x.cps.toList)
        show 1 + (⟨(outL escE trE x.cps.toList).toArray⟩ : Str).length ≤ 16777216
        omega
      · have e2 := str_len (outL escE trE x.cps.toList)
        rw [PySem.Str.length_append]
        show 1 + (⟨(outL escE trE x.cps.toList).toArray⟩ : Str).length + 1 ≤ 16777216
        omega
    · exact hQ val s₂ R₂ (a₁.trans g₂.adv) (g₁.trans (g₂.x S₁.kp)) g₂.base (S₁.grow g₂).kp r₂
  · show ([] : List Str).Nodup
    exact List.nodup_nil
end
end L02
end Mine
open PySem PySem.W PyProof.Rows
set_option Elab.async false
set_option linter.unusedVariables false
set_option maxRecDepth 100000
set_option maxHeartbeats 1000000
namespace Mine
namespace L02
noncomputable def codeF (G : Cx) : FuncData := fdAt (K G) 55
section
variable {G : Cx} {Fs : List Env} {k : Nat}
theorem code {x : Int} (X : TopK G (K G)) : Fn G (k + 1) (.ref 55) [.int x] (.int (codeOf x)) := by
  refine Fn.mk (ob := _) (fd := codeF G) (body := stmtsOf (codeF G)) ["x"] (X.k 55 _ rfl) rfl rfl rfl (fun h hs => ⟨54, _, _, _, rfl, hs _ _ (X.k 54 _ rfl), rfl, rfl⟩) rfl (bind_one fun v => rfl) (by decide) (fun y hy L => by simp at hy; subst hy; exact .inl rfl) (fun L => ?_) (show ([] : List Str).Nodup from List.nodup_nil)
  have ex : ∀ {p : Pos}, Ev G k (callEnvC (codeF G) L 55) (params ["x"] [.int x]) (.Name (Str.ofString "x") p) (.int x) := by intro p; exact Ev.name m0
  have test : ∀ {n : Int} {b : Bool} {p p1 p2 p3 p4 : Pos} {k1 k2 : Nat}, (x % 5 == n) = b → Tr G k (callEnvC (codeF G) L 55) (params ["x"] [.int x]) (.Compare (.BinOp (.Name (Str.ofString "x") p) .Mod (.Constant (.int 5) k1 p1) p2) [.Eq] [.Constant (.int n) k2 p3] p4) b := by
    intro n b p p1 p2 p3 p4 k1 k2 hb
    exact Tr.b (Tr.cmp (Ev.binop ex Ev.const_int (Op2.mod (by decide))) Ev.const_int Op2.eq) hb
  have nonneg : ∀ n : Int, 0 < n → ((x / 5 % n).toNat : Int) = x / 5 % n := fun n hn => Int.toNat_of_nonneg (Int.emod_nonneg _ (Int.ne_of_gt hn))
  unfold codeOf
  refine Ex.ifRet (test rfl) (fun hb => ⟨_, rfl, ?_⟩) (fun hb => ?_)
  · rw [if_pos (by simpa using hb)]
    exact Ex.stop (X1.ret (Ev.v (Ev.binop (Ev.binop ex Ev.const_int (Op2.div (by decide))) Ev.const_int (Op2.mod (by decide))) (by rw [nonneg 128 (by decide)])))
  rw [if_neg (by simpa using hb)]
  refine Ex.ifRet (test rfl) (fun hb => ⟨_, rfl, ?_⟩) (fun hb => ?_)
  · rw [if_pos (by simpa using hb)]
    refine Ex.stop (X1.ret (Ev.v (Ev.binop Ev.const_int (Ev.binop (Ev.binop ex Ev.const_int (Op2.div (by decide))) Ev.const_int (Op2.mod (by decide))) Op2.add) ?_))
    rw [← nonneg 2048 (by decide)]; rfl
  rw [if_neg (by simpa using hb)]
  refine Ex.ifRet (test rfl) (fun hb => ⟨_, rfl, ?_⟩) (fun hb => ?_)
  · rw [if_pos (by simpa using hb)]
    have hlt : (x / 5 % 8).toNat < 8 := by omega
    have h8 : ∀ j, j < 8 → (ivs [34, 92, 47, 8, 12, 10, 13, 9])[j]? = some (.int (([34, 92, 47, 8, 12, 10, 13, 9][j]?).getD 0 : Nat)) := fun j hj => by
      unfold ivs; rw [List.getElem?_map, List.getElem?_eq_getElem (by simpa using hj)]; rfl
    refine Ex.stop (X1.ret (Ev.itemAny (vs := ivs [34, 92, 47, 8, 12, 10, 13, 9]) (Ev.list (EvL.cons Ev.const_int (EvL.cons Ev.const_int (EvL.cons Ev.const_int (EvL.cons Ev.const_int (EvL.cons Ev.const_int (EvL.cons Ev.const_int (EvL.cons Ev.const_int (EvL.cons Ev.const_int EvL.nil)))))))) (by show 8 ≤ 16777216; decide)) (Ev.binop (Ev.binop ex Ev.const_int (Op2.div (by decide))) Ev.const_int (Op2.mod (by decide))) ⟨.inl (nonneg 8 (by decide)).symm, hlt⟩ (h8 _ hlt) (by decide)))
  rw [if_neg (by simpa using hb)]
  refine Ex.ifRet (test rfl) (fun hb => ⟨_, rfl, ?_⟩) (fun hb => ?_)
  · rw [if_pos (by simpa using hb)]
    exact Ex.stop (X1.ret (Ev.v (Ev.binop (Ev.binop ex Ev.const_int (Op2.div (by decide))) Ev.const_int (Op2.mod (by decide))) (by rw [nonneg 1114112 (by decide)])))
  rw [if_neg (by simpa using hb)]
  exact Ex.stop (X1.ret (Ev.v (Ev.binop (Ev.binop ex Ev.const_int (Op2.div (by decide))) Ev.const_int (Op2.mod (by decide))) (by rw [nonneg 65536 (by decide)])))
end
end L02
end Mine
open PySem PySem.W PyProof.Rows
set_option Elab.async false
set_option linter.unusedVariables false
set_option maxRecDepth 100000
set_option maxHeartbeats 1000000
namespace Mine
theorem k34 : Str.ofString "\"" = txt [34] := by decide +kernel
theorem kb : Str.ofString "b" = txt [98] := by decide +kernel
theorem kf : Str.ofString "f" = txt [102] := by decide +kernel
theorem kn : Str.ofString "n" = txt [110] := by decide +kernel
theorem kr : Str.ofString "r" = txt [114] := by decide +kernel
theorem kt : Str.ofString "t" = txt [116] := by decide +kernel
theorem ku : Str.ofString "u00" = txt [117, 48, 48] := by decide +kernel
theorem sign01 : ∀ d, d < 2 → (Str.ofString "01").cps[d]? = some (48 + d) := by decide +kernel
theorem tabN_succ (i : Nat) : tabN (i + 1) = tabStep (tabN i) i := by unfold tabN; rw [List.range_succ, List.foldl_append]; rfl
theorem Ex.sg {G : Cx} {k : Nat} {env : Env} {σ σ' : Sg} {ss : List Stmt} {o : Out} (h : Ex G k env σ' ss o) (e : σ = σ') : Ex G k env σ ss o := e ▸ h
namespace L02
noncomputable def tableF (G : Cx) : FuncData := fdAt (K G) 62
section
variable {G : Cx} {Fs : List Env} {k : Nat}
theorem mg_range (X : TopK G (K G)) : G.mg (Str.ofString "range") = none := by
  have h : nsIn (hd02.heap_39 G.w.params) mainGlobals (Str.ofString "range") = some (none) := by rfl
  exact X.m _ _ h
theorem table_fn (X : TopK G (K G)) : Fn G (k + 2) (.ref 62) [] (.dSI G.prog G.w table) := by
  refine Fn.mk (ob := _) (fd := tableF G) (body := stmtsOf (tableF G)) [] (X.k 62 _ rfl) rfl rfl rfl (fun h hs => ⟨61, _, _, _, rfl, hs _ _ (X.k 61 _ rfl), rfl, rfl⟩) rfl (fun xs h => by rw [List.length_eq_zero_iff.mp h]; rfl) (by decide) (fun y hy L => nomatch hy) (fun L => ?_) (show ([] : List Str).Nodup from List.nodup_nil)
  refine Ex.cons (X1.assignSI (x := "table") (kvs := tab0) (EvP.cons (Ev.const_str' k34) Ev.const_int (EvP.cons (Ev.const_str' kb) Ev.const_int (EvP.cons (Ev.const_str' kf) Ev.const_int (EvP.cons (Ev.const_str' kn) Ev.const_int (EvP.cons (Ev.const_str' kr) Ev.const_int (EvP.cons (Ev.const_str' kt) Ev.const_int EvP.nil)))))) (.inl rfl)) ?_
  rw [tab0_fold]
  refine Ex.cons (X1.for (x := "n") (vs := steps 0 1 32) (F := fun i => [("table", .ownD (.dSI G.prog G.w (tabN i)))]) 32 (It.range1 (b := 32) (mg_range X) Ev.const_int (by decide)) (by rw [steps_len]; exact Nat.le_refl _) (fun i v hi hv => ?_) (.inl ⟨by rw [steps_len], rfl⟩) (.inl rfl)) ?_
  · obtain ⟨_, hvv⟩ := steps_get hv
    have hvv : v = .int (i : Nat) := by rw [hvv]; congr 1; omega
    subst hvv
    rw [tabN_succ]
    have hl : (tabN i).length ≤ 1000000 := by have := tabN_len i; omega
    generalize tabN i = T at hl ⊢
    refine Ex.drop (σ' := [("table", .ownD (.dSI G.prog G.w (tabStep T i))), ("n", .val (.int (i : Nat)))]) ?_ (fun p hp => List.mem_append_left [("n", LV.val (.int (i : Nat)))] hp)
    have en : ∀ {p : Pos}, Ev G (k + 1) (callEnvC (tableF G) L 62) [("table", .ownD (.dSI G.prog G.w T)), ("n", .val (.int (i : Nat)))] (.Name (Str.ofString "n") p) (.int i) := by intro p; exact Ev.name m1
    refine Ex.cons (X1.ifTrue (b := !(([8, 12, 10, 13, 9] : List Int).any (· == (i : Int)))) (Tr.cmp en (Ev.list (vs := sv [8, 12, 10, 13, 9]) (EvL.cons Ev.const_int (EvL.cons Ev.const_int (EvL.cons Ev.const_int (EvL.cons Ev.const_int (EvL.cons Ev.const_int EvL.nil))))) (by show 5 ≤ 16777216; decide)) Op2.notInL) (fun hb => ?_) (fun hb => ?_)) Ex.nil
    · have e : tabStep T i = storedG T (keyU i) (i : Int) := by unfold tabStep; rw [if_neg (by rw [Bool.not_eq_true'] at hb; rw [hb]; decide)]
      rw [e]
      have hS1 : (Str.ofString "01").length = 2 := by decide +kernel
      have hS : (Str.ofString "0123456789abcdef").length = 16 := by decide +kernel
      exact Ex.cons (X1.setSI (x := "table") (y := keyU i) (i := (i : Int)) m0 en (Ev.v (Ev.binop (Ev.binop (Ev.const_str' ku) (Ev.sign (j := i / 16) (c := 48 + i / 16) Ev.const_str (Ev.binop en Ev.const_int (Op2.div (by decide))) ⟨.inl (by omega), by rw [hS1]; omega⟩ (sign01 _ (by omega)) (by rw [hS1]; decide)) (Op2.cat (by show 3 + 1 ≤ 16777216; decide))) (Ev.sign (j := i % 16) (c := hxd (i % 16)) Ev.const_str (Ev.binop en Ev.const_int (Op2.mod (by decide))) ⟨.inl (by omega), by rw [hS]; omega⟩ (hexsign _ (by omega)) (by rw [hS]; decide)) (Op2.cat (by show 4 + 1 ≤ 16777216; decide))) (by rfl)) hl) Ex.nil
    · have e : tabStep T i = T := by unfold tabStep; rw [if_pos (by rw [Bool.not_eq_false'] at hb; exact hb)]
      rw [e]
      exact Ex.nil
  rw [steps_len]
  refine Ex.freezeD "table" (v := .dSI G.prog G.w table) ?_ m0
  exact Ex.stop (X1.ret (Ev.name m0))
end
end L02
end Mine
open PySem PySem.W PyProof.Rows
set_option Elab.async false
set_option linter.unusedVariables false
set_option maxRecDepth 100000
set_option maxHeartbeats 2000000
namespace Mine
theorem quoted_cut (l : List Nat) : cut (quoted l) 1 (l.length + 1) = txt l := by
  unfold cut quoted txt
  congr 1
  congr 1
  simp
theorem quoted_len (l : List Nat) : (quoted l).length = l.length + 2 := by
  show (([34] ++ l ++ [34]).toArray).size = _
  simp
theorem m8 {α : Type} {a b c d e f g h i : α} {l : List α} : a ∈ b :: c :: d :: e :: f :: g :: h :: i :: a :: l := List.mem_cons_of_mem _ m7
theorem m9 {α : Type} {a b c d e f g h i j : α} {l : List α} : a ∈ b :: c :: d :: e :: f :: g :: h :: i :: j :: a :: l := List.mem_cons_of_mem _ m8
theorem m10 {α : Type} {a b c d e f g h i j k : α} {l : List α} : a ∈ b :: c :: d :: e :: f :: g :: h :: i :: j :: k :: a :: l := List.mem_cons_of_mem _ m9
theorem m11 {α : Type} {a b c d e f g h i j k m : α} {l : List α} : a ∈ b :: c :: d :: e :: f :: g :: h :: i :: j :: k :: m :: a :: l := List.mem_cons_of_mem _ m10
theorem boot_min : bootBuiltins (Str.ofString "min") = some (.builtin "min") := by kernel_rfl
theorem bs1_eq : Str.ofString "\\" = txt [92] := by decide +kernel
theorem bs2_eq : Str.ofString "\\\\" = txt [92, 92] := by decide +kernel
theorem sp_eq : Str.ofString " " = txt [32] := by decide +kernel
noncomputable def sT (w : List Nat) : V := .str (txt w)
theorem parts_len (x : Str) (w : Nat) : ∀ (cuts : List Nat) (a : Nat), (StrLaws.partsFrom x w a cuts).length = cuts.length + 1
  | [], _ => rfl
  | c :: r, a => congrArg (· + 1) (parts_len x w r _)
theorem parts_ok {l : List Nat} {y : Str} (h : l.length ≤ 100000) : (Builtin.Str.partsBetween (txt l) (Builtin.Str.occurrences (txt l) y 0 (txt l).length ((txt l).length + 1)) y.length).length ≤ 1000002 := by
  rw [StrLaws.partsBetween_eq, parts_len]
  have h1 := StrLaws.occ_length_le (txt l) y 0 (txt l).length ((txt l).length + 1)
  have := txt_len l
  omega
theorem segs_each : ∀ {l s : List Nat}, s ∈ segs l → s.length ≤ l.length
  | [], s, h => by rw [List.mem_singleton.mp h]; exact Nat.le_refl _
  | d :: r, s, h => by
    unfold segs at h
    split at h
    · rcases List.mem_cons.mp h with h | h
      · rw [h]; exact Nat.zero_le _
      · have := segs_each h; rw [List.length_cons]; omega
    · have hh : (segs r).headD [] ∈ segs r ∧ ∀ t ∈ (segs r).tail, t ∈ segs r := by
        have e := segs_eq r
        generalize (segs r).headD [] = x at e
        generalize (segs r).tail = y at e
        rw [e]; exact ⟨m0, fun t ht => List.mem_cons_of_mem _ ht⟩
      rcases List.mem_cons.mp h with h | h
      · rw [h]
        have := segs_each hh.1
        simp only [List.length_cons]; omega
      · have := segs_each (hh.2 s h)
        rw [List.length_cons]; omega
theorem flat_len {α : Type} {f : α → List Nat} {B : Nat} : ∀ {l : List α}, (∀ a ∈ l, (f a).length ≤ B) → (l.flatMap f).length ≤ l.length * B
  | [], _ => Nat.zero_le _
  | a :: r, h => by
    have h1 := h a m0
    have h2 := flat_len (l := r) fun b hb => h b (List.mem_cons_of_mem _ hb)
    rw [List.flatMap_cons, List.length_append, List.length_cons, Nat.succ_mul]
    omega
theorem flat_take {α : Type} (f : α → List Nat) (l : List α) (j : Nat) : ((l.take j).flatMap f).length ≤ (l.flatMap f).length := by
  conv => rhs; rw [← List.take_append_drop j l]
  rw [List.flatMap_append, List.length_append]
  exact Nat.le_add_right _ _
theorem pcs_each {s : List Nat} {p : Nat × List Nat} (h : p ∈ (pcs s).2) : p.2.length ≤ s.length := by
  have key : ∀ l : List (Nat × List Nat), p ∈ l → p.2.length ≤ (l.flatMap fun p => p.1 :: p.2).length := by
    intro l
    induction l with
    | nil => exact nofun
    | cons a r ih =>
      intro h
      rw [List.flatMap_cons, List.length_append, List.length_cons]
      rcases List.mem_cons.mp h with rfl | h
      · omega
      · have := ih h; omega
  have e := congrArg List.length (pcs_flat s)
  rw [List.length_append] at e
  have := key _ h
  omega
theorem pcs_two (s : List Nat) (j : Nat) : ((pcs s).1 ++ ((pcs s).2.take j).flatMap fun p => p.1 :: p.2).length ≤ s.length := by
  have e := congrArg List.length (pcs_flat s)
  rw [List.length_append] at *
  have := flat_take (fun p : Nat × List Nat => p.1 :: p.2) (pcs s).2 j
  omega
theorem pcs_own (s : List Nat) (j : Nat) : ((pcs s).1 ++ ((pcs s).2.take j).flatMap (·.2)).length ≤ s.length := by
  have h := plains_len s
  unfold plains at h
  rw [List.length_append] at *
  have := flat_take (fun p : Nat × List Nat => p.2) (pcs s).2 j
  omega
theorem body_len {c : Nat} (h : escE c = true) : (bodyE c).length ≤ 6 := by
  have := trD_size (trD_of_escE h)
  unfold bodyE
  rw [List.length_drop, Array.length_toList]
  omega
theorem cut_from (l : List Nat) (z : Nat) : cut (txt l) z l.length = txt (l.drop z) := by rw [cut_txt, List.take_length]
theorem cut_to (l : List Nat) (z : Nat) : cut (txt l) 0 z = txt (l.take z) := by rw [cut_txt, List.drop_zero]
namespace L02
noncomputable def lawF (G : Cx) : FuncData := fdAt (K G) 67
noncomputable def codes (script : List Int) : List Nat := [92, 92, 110, 34, 8, 31, 92, 117, 127, 233, 55357, 56832, 128512] ++ script.map codeOf
theorem codes_lt (script : List Int) : ∀ c ∈ codes script, c < 1114112 := fun c hc => by
  unfold codes at hc
  rcases List.mem_append.mp hc with h | h
  · exact (by decide : ∀ c ∈ [92, 92, 110, 34, 8, 31, 92, 117, 127, 233, 55357, 56832, 128512], c < 1114112) c h
  · obtain ⟨x, _, rfl⟩ := List.mem_map.mp h
    exact codeOf_lt x
section
variable {G : Cx} {Fs : List Env} {k : Nat}
theorem mg_min (X : TopK G (K G)) : G.mg (Str.ofString "min") = none := by
  have h : nsIn (hd02.heap_39 G.w.params) mainGlobals (Str.ofString "min") = some (none) := by rfl
  exact X.m _ _ h
theorem mg_chr (X : TopK G (K G)) : G.mg (Str.ofString "chr") = none := by
  have h : nsIn (hd02.heap_39 G.w.params) mainGlobals (Str.ofString "chr") = some (none) := by rfl
  exact X.m _ _ h
theorem mg_code (X : TopK G (K G)) : G.mg (Str.ofString "_law_code") = some (.ref 55) := by
  have h : nsIn (hd02.heap_39 G.w.params) mainGlobals (Str.ofString "_law_code") = some (some (.ref 55)) := by rfl
  exact X.m _ _ h
theorem mg_table (X : TopK G (K G)) : G.mg (Str.ofString "_law_table") = some (.ref 62) := by
  have h : nsIn (hd02.heap_39 G.w.params) mainGlobals (Str.ofString "_law_table") = some (some (.ref 62)) := by rfl
  exact X.m _ _ h
theorem mg_encE (X : TopK G (K G)) : G.mg (Str.ofString "py_encode_basestring") = some (.ref 48) := by
  have h : nsIn (hd02.heap_39 G.w.params) mainGlobals (Str.ofString "py_encode_basestring") = some (some (.ref 48)) := by rfl
  exact X.m _ _ h
theorem law_ex {script : List Int} (X : TopK G (K G)) (D : Dct G 37) (hpE : PatAt G.h0 36 codeE 0) (htE : tabE ∈ G.ts) (hn : script.length ≤ 63) (L : Addr) : Ex G (k + 7) (callEnvC (lawF G) L 67) (params ["script"] [.list (sv script)]) (stmtsOf (lawF G)) (.ret (.bool true)) := by
  have hlen : (codes script).length = script.length + 13 := by unfold codes; simp
  have hlt := codes_lt script
  refine Ex.cons (X1.assign (x := "codes") (v := .list (ivs (codes script))) ((Ev.binop (Ev.list (EvL.cons Ev.const_int (EvL.cons Ev.const_int (EvL.cons Ev.const_int (EvL.cons Ev.const_int (EvL.cons Ev.const_int (EvL.cons Ev.const_int (EvL.cons Ev.const_int (EvL.cons Ev.const_int (EvL.cons Ev.const_int (EvL.cons Ev.const_int (EvL.cons Ev.const_int (EvL.cons Ev.const_int (EvL.cons Ev.const_int EvL.nil)))))))))))))) (Ev.compM [] [] (ivs (script.map codeOf)) (It.list (Ev.name m0)) (by rw [sv_len]; omega) (by rw [ivs_len, sv_len, List.length_map]) (fun i v w C hv hw => ?_) (fun _ _ _ _ _ => Capt.nil)) (Op2.catL ?_)).v ?_) (.inl rfl)) ?_
  · obtain ⟨x, hx, rfl⟩ := sv_get hv
    obtain ⟨u, hu, rfl⟩ := ivs_get hw
    rw [List.getElem?_map, hx] at hu
    cases hu
    exact Ev.call (mg_code X) (X.k 55 _ rfl) rfl (EvL.cons (Ev.name m0) EvL.nil) (code X)
  · rw [ivs_len, List.length_map]
    show 13 + _ ≤ _
    omega
  · unfold codes; rw [ivs_append]; rfl
  have hcl : (codes script).length ≤ 76 := by omega
  clear hlen
  generalize codes script = cs at *
  have hoE : ∀ l : List Nat, l.length ≤ 76 → (outL escE trE l).length ≤ 2000 := fun l hl => by
    have := outL_len (esc := escE) (tr := trE) (fun c hc => Nat.le_trans (trD_size (trD_of_escE hc)) (by decide)) l
    omega
  have hcat2 : cat (cs.map fun c => (⟨#[c]⟩ : Str)) = txt cs := cat_chars cs
  refine Ex.cons (X1.assign (x := "text") (v := .str (txt cs)) (Ev.v (Ev.method (Ev.const_str' empty_eq) Meth.join (EvL.cons (Ev.compM [] [] ((cs.map fun c => (⟨#[c]⟩ : Str)).map V.str) (It.list (Ev.name m1)) (by rw [ivs_len]; omega) (by rw [ivs_len, List.length_map, List.length_map]) (fun i v w C hv hw => ?_) (fun _ _ _ _ _ => Capt.nil)) EvL.nil) (Fn.join rfl ?_)) ?_) (.inl rfl)) ?_
  · obtain ⟨c, hc, rfl⟩ := ivs_get hv
    rw [List.getElem?_map, List.getElem?_map, hc] at hw
    have hw : w = .str ⟨#[c]⟩ := (Option.some.inj hw).symm
    rw [hw]
    have := hlt c (List.mem_of_getElem? hc)
    exact Ev.v (Ev.callB (mg_chr X) boot_chr (EvL.cons (Ev.name m0) EvL.nil) (Fn.chr (by omega) (by omega))) (by rfl)
  · rw [hcat2, txt_len]; omega
  · rw [hcat2]
  have hts : (txt cs).cps.size ≤ 10000 := by show (txt cs).length ≤ _; rw [txt_len]; omega
  refine Ex.cons (X1.assign (x := "written") (v := .str (quoted (outL escE trE cs))) (Ev.v (Ev.call (mg_encE X) (X.k 48 _ rfl) rfl (EvL.cons (Ev.name m2) EvL.nil) (encE (k := k + 2) X D hpE htE hts)) (by rw [txt_list])) (.inl rfl)) ?_
  refine Ex.cons (X1.assign (x := "table") (v := .dSI G.prog G.w table) (Ev.call0 (mg_table X) (X.k 62 _ rfl) rfl (table_fn (k := k + 5) X)) (.inl rfl)) ?_
  have hlook : ∀ {p : Nat × List Nat}, escE p.1 = true → p.1 ≠ 92 → _ := fun {p} h h2 => cut_look (p := p) h h2
  generalize table = T at hlook ⊢
  refine Ex.cons (X1.assign (x := "itself") (v := .str (txt [32])) (Ev.const_str' sp_eq) (.inl rfl)) ?_
  refine Ex.cons (X1.assignOwn (x := "parts") EvL.nil (.inl rfl)) ?_
  have ho := hoE cs hcl
  have hsl := segs_len cs
  have hmem := fun s (hs : s ∈ segs cs) => segs_mem hs
  have heach := fun s (hs : s ∈ segs cs) => segs_each hs
  have hspl := split_parts cs
  have hJ := J_segs cs
  have inner : ∀ {σ : Sg} {p1 p2 p3 p4 p5 p6 : Pos} {k1 k2 : Nat}, ("written", LV.val (.str (quoted (outL escE trE cs)))) ∈ σ → Ev G (k + 7) (callEnvC (lawF G) L 67) σ (.Subscript (.Name (Str.ofString "written") p1) (.Slice (some (.Constant (.int 1) k1 p2)) (some (.UnaryOp .USub (.Constant (.int 1) k2 p3) p4)) none p5) p6) (.str (txt (outL escE trE cs))) := by
    intro σ p1 p2 p3 p4 p5 p6 k1 k2 hm
    exact Ev.v (Ev.slice 1 ((outL escE trE cs).length + 1) (Ev.name hm) (l := some 1) (u := some (-1)) (Part.one Ev.const_int) (Part.one (Ev.neg Ev.const_int)) (.inl ⟨by decide, by rw [quoted_len]; omega⟩) (.inr ⟨by decide, by rw [quoted_len]; omega⟩) (by rw [quoted_len]; omega)) (by rw [quoted_cut])
  generalize hss : segs cs = ss at hsl hmem heach hspl hJ
  have hown : ∀ i, ((ss.take i).flatMap plains).length ≤ 6000 := fun i => by
    have h1 : ((ss.take i).flatMap plains).length ≤ (ss.take i).length * 76 := flat_len fun s hs => by
      have := plains_len s
      have := heach s (List.mem_of_mem_take hs)
      omega
    rw [List.length_take] at h1
    have h2 : min i ss.length ≤ 77 := by omega
    have := Nat.mul_le_mul_right 76 h2
    omega
  refine Ex.sg (σ' := [("script", .val (.list (sv script))), ("codes", .val (.list (ivs cs))), ("text", .val (.str (txt cs))), ("written", .val (.str (quoted (outL escE trE cs)))), ("table", .val (.dSI G.prog G.w T)), ("itself", .val (.str (txt ([32] ++ (ss.take 0).flatMap plains)))), ("parts", .own ((ss.take 0).map sT))]) ?_ rfl
  refine Ex.cons (X1.for (x := "part") (vs := ss.map fun s => sT (outL escE trE s)) (F := fun i => [("script", .val (.list (sv script))), ("codes", .val (.list (ivs cs))), ("text", .val (.str (txt cs))), ("written", .val (.str (quoted (outL escE trE cs)))), ("table", .val (.dSI G.prog G.w T)), ("itself", .val (.str (txt ([32] ++ (ss.take i).flatMap plains)))), ("parts", .own ((ss.take i).map sT))]) ss.length (It.list (Ev.v (Ev.method (inner m3) Meth.split (EvL.cons (Ev.const_str' bs2_eq) EvL.nil) (Fn.split rfl (by rw [txt_len]; omega) (parts_ok (by omega)))) (by rw [hspl, List.map_map, List.map_map]; rfl))) (by rw [List.length_map]; exact Nat.le_refl _) (fun i v hi hv => ?_) (.inl ⟨by rw [List.length_map], rfl⟩) (.inl rfl)) ?_
  · rw [List.getElem?_map] at hv
    obtain ⟨s, hs⟩ : ∃ s, ss[i]? = some s := ⟨ss[i], List.getElem?_eq_getElem hi⟩
    rw [hs] at hv
    have hv : v = .str (txt (outL escE trE s)) := (Option.some.inj hv).symm
    subst hv
    have hsm := List.mem_of_getElem? hs
    have h76 : s.length ≤ 76 := Nat.le_trans (heach s hsm) hcl
    have h92 : ∀ c ∈ s, c ≠ 92 := fun c hc => (hmem s hsm c hc).2
    have hslt : ∀ c ∈ s, c < 1114112 := fun c hc => hlt c (hmem s hsm c hc).1
    have ht : ss.take (i + 1) = ss.take i ++ [s] := by rw [List.take_add_one, hs]; rfl
    have hI := hown i
    have hP : ((ss.take i).map sT).length ≤ 77 := by rw [List.length_map, List.length_take]; omega
    have e1 : (ss.take (i + 1)).flatMap plains = (ss.take i).flatMap plains ++ plains s := by rw [ht, List.flatMap_append]; simp
    have e2 : (ss.take (i + 1)).map sT = (ss.take i).map sT ++ [sT s] := by rw [ht, List.map_append]; rfl
    rw [e1, e2]
    clear e1 e2 ht
    generalize (ss.take i).flatMap plains = I at hI ⊢
    generalize (ss.take i).map sT = P at hP ⊢
    have hos := hoE s h76
    have hflat := pcs_flat s
    obtain ⟨hq1, hq2⟩ := pcs_mem (s := s)
    have hcut := split_cuts h92
    have hpl := pcs_len s
    have htwo := pcs_two s
    have howns := pcs_own s
    have hpe := fun p (hp : p ∈ (pcs s).2) => pcs_each hp
    have hplain : plains s = (pcs s).1 ++ (pcs s).2.flatMap (·.2) := rfl
    rw [hplain]
    clear hplain
    generalize hq : pcs s = q at hflat hq1 hq2 hcut hpl htwo howns hpe ⊢
    obtain ⟨a, ps⟩ := q
    dsimp only at hflat hq1 hq2 hcut hpl htwo howns hpe ⊢
    have ha : a.length ≤ 76 := by have := htwo 0; rw [List.length_append] at this; omega
    have edge : ("part", LV.val (.str (txt (outL escE trE s)))) = ("part", LV.val (.str (txt (outL escE trE s)))) := rfl
    refine Ex.drop (σ' := [("script", .val (.list (sv script))), ("codes", .val (.list (ivs cs))), ("text", .val (.str (txt cs))), ("written", .val (.str (quoted (outL escE trE cs)))), ("table", .val (.dSI G.prog G.w T)), ("itself", .val (.str (txt ([32] ++ (I ++ (a ++ ps.flatMap (·.2))))))), ("parts", .own (P ++ [sT s])), ("part", .val (.str (txt (outL escE trE s)))), ("cuts", .val (.list ((a :: ps.map cutT).map sT))), ("signs", .val (.str (txt (a ++ ps.flatMap fun p => p.1 :: p.2))))]) ?_ (fun p hp => List.mem_append_left [("part", LV.val (.str (txt (outL escE trE s)))), ("cuts", .val (.list ((a :: ps.map cutT).map sT))), ("signs", .val (.str (txt (a ++ ps.flatMap fun p => p.1 :: p.2))))] hp)
    refine Ex.cons (X1.assign (x := "cuts") (v := .list ((a :: ps.map cutT).map sT)) (Ev.v (Ev.method (Ev.name m7) Meth.split (EvL.cons (Ev.const_str' bs1_eq) EvL.nil) (Fn.split rfl (by rw [txt_len]; omega) (parts_ok (by omega)))) (by rw [hcut, List.map_map]; rfl)) (.inl rfl)) ?_
    have hcl2 : ((a :: ps.map cutT).map sT).length ≤ 77 := by rw [List.length_map, List.length_cons, List.length_map]; omega
    have first : ∀ {σ : Sg} {p1 p2 p3 : Pos} {k1 : Nat}, ("cuts", LV.val (.list ((a :: ps.map cutT).map sT))) ∈ σ → Ev G (k + 7) (callEnvC (lawF G) L 67) σ (.Subscript (.Name (Str.ofString "cuts") p1) (.Constant (.int 0) k1 p2) p3) (.str (txt a)) := by
      intro σ p1 p2 p3 k1 hm
      exact Ev.itemAny (j := 0) (Ev.name hm) Ev.const_int ⟨.inl rfl, by rw [List.length_map, List.length_cons]; exact Nat.succ_pos _⟩ rfl (by omega)
    refine Ex.cons (X1.assign (x := "itself") (v := .str (txt ([32] ++ (I ++ (a ++ []))))) (Ev.v (Ev.binop (Ev.name m5) (first m8) (Op2.cat ?_)) ?_) (.inl rfl)) ?_
    · rw [txt_len, txt_len, List.length_append]; show 1 + _ + _ ≤ 16777216; omega
    · rw [txt_append, List.append_nil, List.append_assoc]
    refine Ex.cons (X1.assign (x := "signs") (v := .str (txt (a ++ []))) (Ev.v (first m8) (by rw [List.append_nil])) (.inl rfl)) ?_
    refine Ex.cons (X1.for (x := "cut") (vs := ps.map fun p => sT (cutT p)) (F := fun j => [("script", .val (.list (sv script))), ("codes", .val (.list (ivs cs))), ("text", .val (.str (txt cs))), ("written", .val (.str (quoted (outL escE trE cs)))), ("table", .val (.dSI G.prog G.w T)), ("itself", .val (.str (txt ([32] ++ (I ++ (a ++ (ps.take j).flatMap (·.2))))))), ("parts", .own P), ("part", .val (.str (txt (outL escE trE s)))), ("cuts", .val (.list ((a :: ps.map cutT).map sT))), ("signs", .val (.str (txt (a ++ (ps.take j).flatMap fun p => p.1 :: p.2))))]) ps.length (It.list (Ev.v (Ev.sliceL 1 (ps.length + 1) m8 (l := some 1) (u := none) (Part.one Ev.const_int) trivial (by omega) (.inl ⟨by decide, ?_⟩) ?_) ?_)) (by rw [List.length_map]; exact Nat.le_refl _) (fun j v hj hv => ?_) (.inl ⟨by rw [List.length_map], rfl⟩) (.inl rfl)) ?_
    · rw [List.length_map, List.length_cons, List.length_map]; omega
    · show ps.length + 1 = _; rw [List.length_map, List.length_cons, List.length_map]
    · rw [List.take_of_length_le (by rw [List.length_map, List.length_cons, List.length_map]; exact Nat.le_refl _)]
      show V.list ((ps.map cutT).map sT) = _
      rw [List.map_map]; rfl
    · rw [List.getElem?_map] at hv
      obtain ⟨p, hp⟩ : ∃ p, ps[j]? = some p := ⟨ps[j], List.getElem?_eq_getElem hj⟩
      rw [hp] at hv
      have hv : v = .str (txt (cutT p)) := (Option.some.inj hv).symm
      subst hv
      have hpm := List.mem_of_getElem? hp
      obtain ⟨⟨p1, p2⟩, p3⟩ := hq2 p hpm
      have hp2 := hpe p hpm
      have hct : (cutT p).length ≤ 82 := by have := body_len p2; unfold cutT; rw [List.length_append]; omega
      have hcc := hslt p.1 p1
      obtain ⟨z, hz, h1, h2, h3, h4, h5⟩ := hlook p2 (h92 p.1 p1)
      have ht : ps.take (j + 1) = ps.take j ++ [p] := by rw [List.take_add_one, hp]; rfl
      have e1 : (ps.take (j + 1)).flatMap (·.2) = (ps.take j).flatMap (·.2) ++ p.2 := by rw [ht, List.flatMap_append]; simp
      have e2 : ((ps.take (j + 1)).flatMap fun p => p.1 :: p.2) = ((ps.take j).flatMap fun p => p.1 :: p.2) ++ (p.1 :: p.2) := by rw [ht, List.flatMap_append]; simp
      rw [e1, e2]
      clear e1 e2 ht
      have l1 := howns j
      have l2 := htwo j
      generalize (ps.take j).flatMap (·.2) = A1 at l1 ⊢
      generalize ((ps.take j).flatMap fun p => p.1 :: p.2) = A2 at l2 ⊢
      rw [List.length_append] at l1 l2
      generalize hct' : cutT p = ct at hct h1 h2 h3 h5 ⊢
      refine Ex.drop (σ' := [("script", .val (.list (sv script))), ("codes", .val (.list (ivs cs))), ("text", .val (.str (txt cs))), ("written", .val (.str (quoted (outL escE trE cs)))), ("table", .val (.dSI G.prog G.w T)), ("itself", .val (.str (txt ([32] ++ (I ++ (a ++ (A1 ++ p.2))))))), ("parts", .own P), ("part", .val (.str (txt (outL escE trE s)))), ("cuts", .val (.list ((a :: ps.map cutT).map sT))), ("signs", .val (.str (txt (a ++ (A2 ++ (p.1 :: p.2)))))), ("cut", .val (.str (txt ct))), ("size", .val (.int (z : Nat)))]) ?_ (fun p hp => List.mem_append_left [("cut", LV.val (.str (txt ct))), ("size", .val (.int (z : Nat)))] hp)
      have htl : (txt ct).length ≤ 1000000 := by rw [txt_len]; omega
      refine Ex.cons (X1.assign (x := "size") (v := .int (z : Nat)) (Ev.ifexp (c := decide (z = 1)) (Tr.b (Tr.cmp (Ev.slice 0 1 (Ev.name m10) (l := none) (u := some 1) trivial (Part.one Ev.const_int) rfl (.inl ⟨by decide, by rw [txt_len]; omega⟩) htl) (Ev.name m4) Op2.inSI) (by rw [cut_to]; exact h1)) (fun h => ?_) (fun h => ?_)) (.inl rfl)) ?_
      · have h := of_decide_eq_true h; subst h; exact Ev.const_int
      · have h := of_decide_eq_false h; have h := hz.resolve_left h; subst h; exact Ev.const_int
      have to : ∀ {σ : Sg} {p1 p2 p3 p4 : Pos}, ("cut", LV.val (.str (txt ct))) ∈ σ → ("size", LV.val (.int (z : Nat))) ∈ σ → Ev G (k + 7) (callEnvC (lawF G) L 67) σ (.Subscript (.Name (Str.ofString "cut") p1) (.Slice none (some (.Name (Str.ofString "size") p2)) none p3) p4) (.str (txt (bodyE p.1))) := by
        intro σ p1 p2 p3 p4 hm hm2
        exact Ev.v (Ev.slice 0 z (Ev.name hm) (l := none) (u := some (z : Int)) trivial (Part.one (Ev.name hm2)) rfl (.inl ⟨by omega, by rw [txt_len]; omega⟩) htl) (by rw [cut_to, h2])
      have fr : ∀ {σ : Sg} {p1 p2 p3 p4 : Pos}, ("cut", LV.val (.str (txt ct))) ∈ σ → ("size", LV.val (.int (z : Nat))) ∈ σ → Ev G (k + 7) (callEnvC (lawF G) L 67) σ (.Subscript (.Name (Str.ofString "cut") p1) (.Slice (some (.Name (Str.ofString "size") p2)) none none p3) p4) (.str (txt p.2)) := by
        intro σ p1 p2 p3 p4 hm hm2
        exact Ev.v (Ev.slice z ct.length (Ev.name hm) (l := some (z : Int)) (u := none) (Part.one (Ev.name hm2)) trivial (.inl ⟨by omega, by rw [txt_len]; omega⟩) (by show _ = _; rw [txt_len]) htl) (by rw [cut_from, h3])
      refine Ex.cons (X1.ifTrue (b := false) (Tr.b (Tr.cmp (to m10 m11) (Ev.name m4) Op2.notInSI) (by rw [h4]; rfl)) (fun h => nomatch h) (fun _ => Ex.nil)) ?_
      refine Ex.cons (X1.assign (x := "itself") (v := .str (txt ([32] ++ (I ++ (a ++ (A1 ++ p.2)))))) (Ev.v (Ev.binop (Ev.name m5) (fr m10 m11) (Op2.cat ?_)) ?_) (.inl rfl)) ?_
      · rw [txt_len, txt_len, List.length_append, List.length_append, List.length_append]; show 1 + _ + _ ≤ 16777216; omega
      · rw [txt_append, List.append_assoc, List.append_assoc, List.append_assoc]
      refine Ex.cons (X1.assign (x := "signs") (v := .str (txt (a ++ (A2 ++ (p.1 :: p.2))))) (Ev.v (Ev.binop (Ev.binop (Ev.name m9) (Ev.v (v' := .str (txt [p.1])) (Ev.callB (mg_chr X) boot_chr (EvL.cons (Ev.itemSI (Ev.name m4) (to m10 m11) h4) EvL.nil) (Fn.chr (by omega) (by omega))) (by rfl)) (Op2.cat ?_)) (fr m10 m11) (Op2.cat ?_)) ?_) (.inl rfl)) Ex.nil
      · rw [txt_len, txt_len, List.length_append]; show _ + 1 ≤ 16777216; omega
      · rw [PySem.Str.length_append, txt_len, txt_len, txt_len, List.length_append]; show _ + 1 + _ ≤ 16777216; omega
      · rw [txt_append, txt_append, List.append_assoc, List.append_assoc]; rfl
    rw [List.length_map, List.take_length]
    refine Ex.cons (X1.append (x := "parts") m6 (Ev.v (v' := sT s) (Ev.name m9) ?_) (by omega)) Ex.nil
    rw [← hflat]; rfl
  rw [List.length_map, List.take_length]
  have hown' := hown ss.length
  rw [List.take_length] at hown'
  have hno : ∀ c ∈ ss.flatMap plains, escE c = false := fun c hc => by
    obtain ⟨s, _, hc⟩ := List.mem_flatMap.mp hc
    exact (plains_mem hc).1
  refine Ex.ifRet (b := false) (Tr.b (Tr.or (TrOr.cons (Tr.cmp (Ev.name m3) (Ev.v (v' := .str (quoted (outL escE trE cs))) (Ev.binop (Ev.binop (Ev.const_str' quote_eq) (inner m3) (Op2.cat ?_)) (Ev.const_str' quote_eq) (Op2.cat ?_)) ?_) Op2.nes) (fun _ => TrOr.cons (Tr.cmp (Ev.const_str' quote_eq) (Ev.name m5) Op2.inS) (fun _ => TrOr.cons (Tr.cmp (Ev.callB (mg_min X) boot_min (EvL.cons (Ev.name m5) EvL.nil) (Fn.minS (c := 32) ?_ ?_)) (Ev.const_str' sp_eq) Op2.nes) (fun _ => TrOr.nil))))) ?_) (fun h => nomatch h) (fun _ => ?_)
  · rw [txt_len]; show 1 + _ ≤ 16777216; omega
  · rw [PySem.Str.length_append, txt_len]; show 1 + _ + 1 ≤ 16777216; omega
  · exact congrArg V.str (cat_quoted _)
  · rw [txt_list]; exact m0
  · intro d hd
    rw [txt_list] at hd
    rcases List.mem_cons.mp hd with hd | hd
    · rw [hd]; exact Nat.le_refl _
    · have h := hno d hd
      rcases Nat.lt_or_ge d 32 with h' | h'
      · rw [(escE_iff d).mpr (.inl h')] at h; cases h
      · exact h'
  · have e1 : (quoted (outL escE trE cs) != quoted (outL escE trE cs)) = false := bne_self_eq_false ..
    have e2 : ((⟨#[32]⟩ : Str) != txt [32]) = false := bne_self_eq_false (txt [32])
    rw [e1, e2, no_quote (l := [32] ++ ss.flatMap plains) (fun h => by
      rcases List.mem_cons.mp h with h | h
      · cases h
      · have := hno 34 h
        rw [(escE_iff 34).mpr (.inr (.inl rfl))] at this; cases this)]
    rfl
  refine Ex.freeze "parts" (vs := ss.map sT) ?_ m6
  refine Ex.stop (X1.ret (Ev.v (Ev.cmp (Ev.method (Ev.const_str' bs1_eq) Meth.join (EvL.cons (Ev.v (v' := .list ((ss.map txt).map V.str)) (Ev.name m6) (by rw [List.map_map]; rfl)) EvL.nil) (Fn.joinG (joinOk_of (B := 76) (fun y hy => ?_) ?_))) (Ev.name m2) Op2.eqs) ?_))
  · obtain ⟨s, hs, rfl⟩ := List.mem_map.mp hy
    rw [txt_len]
    exact Nat.le_trans (heach s hs) hcl
  · rw [List.length_map]
    have h2 : ss.length ≤ 77 := by omega
    have := Nat.mul_le_mul_right 76 h2
    show _ + ss.length * 1 ≤ _
    omega
  · rw [join_J, hJ]; simp
end
end L02
end Mine
open PySem PySem.W PyProof.Rows
set_option Elab.async false
set_option linter.unusedVariables false
namespace Mine
namespace L02
theorem dct {G : Cx} (X : TopK G (K G)) : Dct G 37 := by
  refine ⟨⟨_, _, X.k 37 _ rfl, ?_, dct_of (by kernel_rfl) (by kernel_rfl)⟩, by decide⟩
  repeat' first | exact trivial | refine ⟨⟨_, _, rfl, rfl⟩, ?_⟩
theorem patE {G : Cx} (X : TopK G (K G)) : PatAt G.h0 36 codeE 0 := by
  refine ⟨⟨_, _, 35, _, 0, X.k 36 _ rfl, rfl, rfl, rfl, rfl, rfl, rfl, X.k 35 _ rfl, ?_⟩⟩
  show Data.seq _ 0 = Data.seq _ 0
  congr 1
  apply Array.ext'
  rw [Array.toList_map]
  rfl
end L02
end Mine
set_option maxRecDepth 100000 in
set_option maxHeartbeats 8000000 in
theorem PySem.Challenge.cw_dm0198_02_holds : PySem.Challenge.rw_dm0198_02.Holds :=
  Mine.hd02 (by
  k_fill
  intro w s₀ s₁ mg mb G Y fa o pm cd doc dV kV ho hd hcd hD hmg hg args vals as hpre hlay hrd hwl hlo
  have KX := km_in_of Y
  km_tabs Y
  refine Ground.open G ?_
  intro T B D TE TW
  km_lay T hmg ho hd cd
  wrow_args hpre hlay hrd hwl hlo
  refine enter_call ?_
  kn_posts
  have hX : nsIn (Mine.hd02.heap_39 w.params) mainGlobals (Str.ofString "law") = some (some (.ref 67)) := by rfl
  have hfa := mg_of KX T.g hX
  have e_fa : fa = 67 := by
    have q := hmg.symm.trans hfa
    exact Value.ref.inj (Option.some.inj q)
  subst e_fa
  rename_i ns _ _ _ _ _ _ _ sc its _ hIL _ _ _ hII _ hlen _
  have hT : TabsAt (Mine.pairs [Mine.L02.tabE]) s₁.heap := by assumption
  have hnd : ([Mine.L02.tabE].map (·.P)).Nodup := by decide
  have KG := Mine.mkCx_top (prog := Challenge.rw_dm0198_02.row.prog) (w := w) (T := T) (hT := hT) (hnd := hnd) KX (by kernel_rfl)
  have BG := Mine.mkCx_base (prog := Challenge.rw_dm0198_02.row.prog) (w := w) (T := T) (hT := hT) (hnd := hnd) hg
  have hsc : Mine.SeqAt s₁.heap.get? "list" sc its := Mine.seqAt_of_isList hIL
  have hn63 : ns.length ≤ 63 := by omega
  refine Mine.Fn.code (G := Mine.mkCx Challenge.rw_dm0198_02.row.prog w [Mine.L02.tabE] T hT hnd) (Fs := []) (k := 7) (fd := Mine.L02.lawF (Mine.mkCx Challenge.rw_dm0198_02.row.prog w [Mine.L02.tabE] T hT hnd)) (vs := [.list (Mine.sv ns)]) (v := .bool true) ["script"] (KG.k 67 _ rfl) rfl rfl rfl
    (fun h hs => ⟨66, _, _, _, rfl, hs _ _ (KG.k 66 _ rfl), rfl, rfl⟩) rfl (Mine.bind_one fun v => rfl) (by decide) (fun y hy L => by simp at hy; subst hy; first | exact .inl rfl | exact .inr ⟨rfl, _, rfl⟩)
    (fun L => Mine.L02.law_ex (k := 0) KG (Mine.L02.dct KG) (Mine.L02.patE KG) (List.mem_cons_self ..) hn63 L) (by first | exact (show ([] : List Str).Nodup from List.nodup_nil) | decide) (Mine.caller_ok 8 (by decide)) BG ?_ fun val s' R' g r => ?_
  · refine ⟨_, [], rfl, ⟨sc, its, rfl, ?_, Mine.repL_ints hII⟩, rfl⟩
    obtain ⟨o, n, e, hc, hdd⟩ := hsc
    exact ⟨o, n, ghost_get hT e (fun q => by rw [q] at hc; cases hc), hc, hdd⟩
  · rw [show val = .bool true from r]
    refine ⟨⟨.inl ⟨_, .bool true, [], rfl, ?_, .bool true, ?_, ?_⟩, fun b ob e => g.base.sub b ob (g.up b ob e), g.base.os, g.base.gens⟩, Mine.grown_all g.base.tab [Mine.L02.tabE] fun t ht => ht⟩
    · refine raisesW_false ?_
      wrow_none_raised
    · wrow_post
    · exact fun _ => ⟨List.nodup_nil, fun a ha => nomatch ha⟩)
