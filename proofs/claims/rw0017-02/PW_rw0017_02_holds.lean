import PyProof.Rows.All
import Wide.All
import OpenK.AllK
import Wide.FinOn
import PySem.Challenge.RW_rw0017_02
open PySem PySem.W PyProof.Rows
set_option Elab.async false
set_option maxRecDepth 100000
set_option maxHeartbeats 8000000
namespace Mine

/-! ### plain data and how the heap bears it -/
inductive D where
  | none
  | bool (b : Bool)
  | int (i : Int)
  | str (x : List Nat)
  | bytes (b : List UInt8)
  | tup (l : List D)
  | lst (l : List D)

def HTup (h : Heap) (a : Addr) (vs : Array Value) : Prop := ∃ n, h.get? a = some { cls := .type "tuple", data := .seq vs n }
theorem HTup.isTup {h : Heap} {a : Addr} {vs : Array Value} (x : HTup h a vs) : IsTup h a vs := let ⟨n, e⟩ := x; ⟨_, e, rfl, n, rfl⟩
theorem HTup.isTuple {h : Heap} {a : Addr} {vs : Array Value} (x : HTup h a vs) : h.IsTuple a vs := let ⟨n, e⟩ := x; ⟨_, e, rfl, n, rfl⟩
def isSeqO (o : Obj) : Prop := ∃ c xs n, o = { cls := .type c, data := .seq xs n }

mutual
def Rd (h : Heap) (W : List Addr) : D → Value → Prop
  | .none, v => v = .none
  | .bool b, v => v = .bool b
  | .int i, v => ∃ t, v = .int i t
  | .str x, v => ∃ t, v = .str ⟨x.toArray⟩ t
  | .bytes b, v => ∃ t, v = .bytes b.toArray t
  | .tup l, v => ∃ a vs, v = .ref a ∧ a ∉ W ∧ HTup h a vs.toArray ∧ RdL h W l vs
  | .lst l, v => ∃ a vs, v = .ref a ∧ a ∉ W ∧ h.PlainList a vs.toArray ∧ RdL h W l vs
def RdL (h : Heap) (W : List Addr) : List D → List Value → Prop
  | [], vs => vs = []
  | d :: ds, vs => ∃ v vs', vs = v :: vs' ∧ Rd h W d v ∧ RdL h W ds vs'
end

def SeqKeep (W : List Addr) (h h' : Heap) : Prop := ∀ b o, b ∉ W → isSeqO o → h.get? b = some o → h'.get? b = some o

mutual
theorem Rd.keep {h h' : Heap} {W : List Addr} (K : SeqKeep W h h') : ∀ {d : D} {v : Value}, Rd h W d v → Rd h' W d v
  | .none, _, x => x
  | .bool _, _, x => x
  | .int _, _, x => x
  | .str _, _, x => x
  | .bytes _, _, x => x
  | .tup _, _, ⟨a, vs, e, ha, ⟨n, hg⟩, hl⟩ => ⟨a, vs, e, ha, ⟨n, K a _ ha ⟨_, _, _, rfl⟩ hg⟩, RdL.keep K hl⟩
  | .lst _, _, ⟨a, vs, e, ha, ⟨n, hg⟩, hl⟩ => ⟨a, vs, e, ha, ⟨n, K a _ ha ⟨_, _, _, rfl⟩ hg⟩, RdL.keep K hl⟩
theorem RdL.keep {h h' : Heap} {W : List Addr} (K : SeqKeep W h h') : ∀ {ds : List D} {vs : List Value}, RdL h W ds vs → RdL h' W ds vs
  | [], _, x => x
  | _ :: _, _, ⟨v, vs', e, x, y⟩ => ⟨v, vs', e, Rd.keep K x, RdL.keep K y⟩
end

mutual
/-- an address that is not there is not read -/
theorem Rd.own {h : Heap} {W : List Addr} {n : Addr} (hn : ∀ o, isSeqO o → h.get? n ≠ some o) : ∀ {d : D} {v : Value}, Rd h W d v → Rd h (n :: W) d v
  | .none, _, x => x
  | .bool _, _, x => x
  | .int _, _, x => x
  | .str _, _, x => x
  | .bytes _, _, x => x
  | .tup _, _, ⟨a, vs, e, ha, ⟨k, hg⟩, hl⟩ => ⟨a, vs, e, fun q => (List.mem_cons.mp q).elim (fun q => hn _ ⟨_, _, _, rfl⟩ (q ▸ hg)) ha, ⟨k, hg⟩, RdL.own hn hl⟩
  | .lst _, _, ⟨a, vs, e, ha, ⟨k, hg⟩, hl⟩ => ⟨a, vs, e, fun q => (List.mem_cons.mp q).elim (fun q => hn _ ⟨_, _, _, rfl⟩ (q ▸ hg)) ha, ⟨k, hg⟩, RdL.own hn hl⟩
theorem RdL.own {h : Heap} {W : List Addr} {n : Addr} (hn : ∀ o, isSeqO o → h.get? n ≠ some o) : ∀ {ds : List D} {vs : List Value}, RdL h W ds vs → RdL h (n :: W) ds vs
  | [], _, x => x
  | _ :: _, _, ⟨v, vs', e, x, y⟩ => ⟨v, vs', e, Rd.own hn x, RdL.own hn y⟩
end

mutual
theorem Rd.sub {h : Heap} {W W' : List Addr} (hs : ∀ a ∈ W', a ∈ W) : ∀ {d : D} {v : Value}, Rd h W d v → Rd h W' d v
  | .none, _, x => x
  | .bool _, _, x => x
  | .int _, _, x => x
  | .str _, _, x => x
  | .bytes _, _, x => x
  | .tup _, _, ⟨a, vs, e, ha, hg, hl⟩ => ⟨a, vs, e, fun q => ha (hs _ q), hg, RdL.sub hs hl⟩
  | .lst _, _, ⟨a, vs, e, ha, hg, hl⟩ => ⟨a, vs, e, fun q => ha (hs _ q), hg, RdL.sub hs hl⟩
theorem RdL.sub {h : Heap} {W W' : List Addr} (hs : ∀ a ∈ W', a ∈ W) : ∀ {ds : List D} {vs : List Value}, RdL h W ds vs → RdL h W' ds vs
  | [], _, x => x
  | _ :: _, _, ⟨v, vs', e, x, y⟩ => ⟨v, vs', e, Rd.sub hs x, RdL.sub hs y⟩
end

/-- flat data hold no address -/
def D.flat : D → Bool
  | .tup _ | .lst _ => false
  | _ => true
theorem Rd.flat {h h' : Heap} {W W' : List Addr} {d : D} {v : Value} (hf : d.flat = true) (x : Rd h W d v) : Rd h' W' d v := by
  cases d <;> first | exact x | cases hf

theorem RdL.length {h : Heap} {W : List Addr} : ∀ {ds : List D} {vs : List Value}, RdL h W ds vs → vs.length = ds.length
  | [], _, x => by cases x; rfl
  | _ :: _, _, ⟨v, vs', e, _, y⟩ => by subst e; simp [RdL.length y]
theorem RdL.get {h : Heap} {W : List Addr} : ∀ {ds : List D} {vs : List Value} {i : Nat} {d : D}, RdL h W ds vs → ds[i]? = some d → ∃ v, vs[i]? = some v ∧ Rd h W d v
  | [], _, _, _, _, e => by simp at e
  | _ :: _, _, 0, _, ⟨v, vs', e, x, _⟩, e' => by subst e; simp at e'; subst e'; exact ⟨v, rfl, x⟩
  | _ :: _, _, i + 1, _, ⟨v, vs', e, _, y⟩, e' => by subst e; simp at e'; exact let ⟨u, a, b⟩ := RdL.get y e'; ⟨u, by simpa using a, b⟩
theorem RdL.get' {h : Heap} {W : List Addr} {ds : List D} {vs : List Value} {i : Nat} {v : Value} (x : RdL h W ds vs) (e : vs[i]? = some v) : ∃ d, ds[i]? = some d ∧ Rd h W d v := by
  have hi : i < ds.length := by
    have := x.length
    have h2 : i < vs.length := by
      rcases Nat.lt_or_ge i vs.length with q | q
      · exact q
      · rw [List.getElem?_eq_none q] at e; cases e
    omega
  obtain ⟨u, a, b⟩ := x.get (List.getElem?_eq_getElem hi)
  rw [a] at e; cases e
  exact ⟨_, List.getElem?_eq_getElem hi, b⟩
theorem RdL.append {h : Heap} {W : List Addr} : ∀ {ds es : List D} {vs us : List Value}, RdL h W ds vs → RdL h W es us → RdL h W (ds ++ es) (vs ++ us)
  | [], _, _, _, x, y => by cases x; exact y
  | _ :: _, _, _, _, ⟨v, vs', e, x, x'⟩, y => by subst e; exact ⟨v, vs' ++ _, rfl, x, RdL.append x' y⟩
theorem RdL.single {h : Heap} {W : List Addr} {d : D} {v : Value} (x : Rd h W d v) : RdL h W [d] [v] := ⟨v, [], rfl, x, rfl⟩
theorem RdL.cons {h : Heap} {W : List Addr} {d : D} {v : Value} {ds : List D} {vs : List Value} (x : Rd h W d v) (y : RdL h W ds vs) : RdL h W (d :: ds) (v :: vs) := ⟨v, vs, rfl, x, y⟩
theorem RdL.drop {h : Heap} {W : List Addr} : ∀ {ds : List D} {vs : List Value} (n : Nat), RdL h W ds vs → RdL h W (ds.drop n) (vs.drop n)
  | _, _, 0, x => x
  | [], _, _ + 1, x => by cases x; exact rfl
  | _ :: _, _, n + 1, ⟨_, _, e, _, y⟩ => by subst e; exact RdL.drop n y
theorem RdL.take {h : Heap} {W : List Addr} : ∀ {ds : List D} {vs : List Value} (n : Nat), RdL h W ds vs → RdL h W (ds.take n) (vs.take n)
  | _, _, 0, _ => rfl
  | [], _, _ + 1, x => by cases x; exact rfl
  | _ :: _, _, n + 1, ⟨v, _, e, x, y⟩ => by subst e; exact ⟨v, _, rfl, x, RdL.take n y⟩
theorem RdL.reverse {h : Heap} {W : List Addr} : ∀ {ds : List D} {vs : List Value}, RdL h W ds vs → RdL h W ds.reverse vs.reverse
  | [], _, x => by cases x; exact rfl
  | _ :: _, _, ⟨v, vs', e, x, y⟩ => by subst e; rw [List.reverse_cons, List.reverse_cons]; exact RdL.append (RdL.reverse y) (RdL.single x)
theorem RdL.split {h : Heap} {W : List Addr} : ∀ {ds es : List D} {us : List Value}, RdL h W (ds ++ es) us → ∃ vs ws, us = vs ++ ws ∧ RdL h W ds vs ∧ RdL h W es ws
  | [], _, us, y => ⟨[], us, rfl, rfl, y⟩
  | _ :: _, _, _, ⟨v, vs', e, x, y⟩ => by
    subst e
    obtain ⟨vs, ws, e, p, q⟩ := RdL.split y
    subst e
    exact ⟨v :: vs, ws, rfl, ⟨v, vs, rfl, x, p⟩, q⟩
theorem RdL.of_get {h : Heap} {W : List Addr} : ∀ {ds : List D} {vs : List Value}, vs.length = ds.length → (∀ (i : Nat) (d : D) (v : Value), ds[i]? = some d → vs[i]? = some v → Rd h W d v) → RdL h W ds vs
  | [], [], _, _ => rfl
  | d :: ds, v :: vs, hl, k => ⟨v, vs, rfl, k 0 d v rfl rfl, RdL.of_get (by simpa using hl) fun i d' v' e e' => k (i + 1) d' v' (by simpa using e) (by simpa using e')⟩
  | [], _ :: _, hl, _ => by simp at hl
  | _ :: _, [], hl, _ => by simp at hl

/-! ### states -/
def Ext (s s' : Shared) : Prop := ∃ h' tk, s' = { s with heap := h', toks := tk } ∧ ∀ b o, s.heap.get? b = some o → h'.get? b = some o
theorem Ext.refl (s : Shared) : Ext s s := ⟨s.heap, s.toks, rfl, fun _ _ e => e⟩
theorem Ext.trans {a b c : Shared} (x : Ext a b) (y : Ext b c) : Ext a c := by
  obtain ⟨h, t, rfl, k⟩ := x
  obtain ⟨h', t', rfl, k'⟩ := y
  exact ⟨h', t', rfl, fun b o e => k' b o (k b o e)⟩
theorem Ext.get {s s' : Shared} (x : Ext s s') {b : Addr} {o : Obj} (e : s.heap.get? b = some o) : s'.heap.get? b = some o := by
  obtain ⟨h, t, rfl, k⟩ := x; exact k b o e
theorem Ext.toks (s : Shared) (t : Nat) : Ext s { s with toks := t } := ⟨s.heap, t, rfl, fun _ _ e => e⟩
theorem Ext.push (s : Shared) (o : Obj) (t : Nat := s.toks) : Ext s { s with heap := s.heap.push o, toks := t } := ⟨_, t, rfl, fun _ _ e => Heap.get?_push_of_some _ e⟩
theorem Ext.heap {s : Shared} {h : Heap} (t : Nat) (k : ∀ b o, s.heap.get? b = some o → h.get? b = some o) : Ext s { s with heap := h, toks := t } := ⟨h, t, rfl, k⟩
theorem Ext.keeps {s s' : Shared} (x : Ext s s') : ∀ b o, s.heap.get? b = some o → s'.heap.get? b = some o := fun _ _ e => x.get e
theorem Ext.seq {s s' : Shared} (x : Ext s s') (W : List Addr) : SeqKeep W s.heap s'.heap := fun _ _ _ _ e => x.get e
theorem Rd.keeps {s s' : Shared} {W : List Addr} {d : D} {v : Value} (x : Rd s.heap W d v) (k : Ext s s') : Rd s'.heap W d v := x.keep (k.seq W)
theorem RdL.keeps {s s' : Shared} {W : List Addr} {d : List D} {v : List Value} (x : RdL s.heap W d v) (k : Ext s s') : RdL s'.heap W d v := x.keep (k.seq W)
theorem plainList_keeps {s s' : Shared} {a : Addr} {vs : Array Value} (x : s.heap.PlainList a vs) (k : Ext s s') : s'.heap.PlainList a vs := let ⟨n, e⟩ := x; ⟨n, k.get e⟩
theorem get_size (h : Heap) : h.get? h.objs.size = none := by
  cases q : h.get? h.objs.size with
  | none => rfl
  | some o => exact absurd (Heap.lt_size q) (Nat.lt_irrefl _)
theorem Ext.none {s s' : Shared} (x : Ext s s') {a : Addr} (h : s'.heap.get? a = none) : s.heap.get? a = none := by
  cases q : s.heap.get? a with
  | none => rfl
  | some o => rw [x.get q] at h; cases h

/-- what is known of the text's own objects -/
structure GL (K : Frag) (h : Heap) : Prop where
  k : K.In h
  g : ∃ mg mb, h.Ns mainGlobals mg ∧ h.Ns builtinsNs mb ∧ ∀ x : Str, x ≠ "__name__" → mb x = bootBuiltins x
  nolimit : h.NoLimit
theorem GL.keeps {K : Frag} {h h' : Heap} (x : GL K h) (k : ∀ b o, h.get? b = some o → h'.get? b = some o) : GL K h' :=
  ⟨x.k.keeps k, let ⟨mg, mb, a, b, c⟩ := x.g; ⟨mg, mb, a.keeps k, b.keeps k, c⟩, x.nolimit.keeps k⟩

structure Cx where
  s₀ : Shared
  Kp : Addr → Obj → Prop

inductive B where
  | d (d : D)
  | own (l : List D)

def Var (env : Env) (m : Str → Option Value) (h : Heap) (x : Str) (v : Value) : Prop :=
  (env.kindOf x = some .local ∧ m x = some v) ∨
  ((env.kindOf x = some .cell ∨ env.kindOf x = some .free) ∧ ∃ c, env.cells.lookup x = some c ∧ h.IsCell c (some v))

def RdB (h : Heap) (W : List Addr) : B → Value → Prop
  | .d d, v => Rd h W d v
  | .own l, v => ∃ a vs, v = .ref a ∧ a ∈ W ∧ h.PlainList a vs.toArray ∧ RdL h W l vs

def FP (env : Env) (W : List Addr) : List Addr := env.locals :: (env.cells.map (·.2) ++ W)

abbrev Rho := List (Str × B)

structure Core (K : Frag) (env : Env) (c : Cx) (W : List Addr) (ρ : Rho) (s : Shared) : Prop where
  same : ∃ h tk, s = { c.s₀ with heap := h, toks := tk }
  gl : ∀ h, (∀ b o, c.Kp b o → h.get? b = some o) → GL K h
  keep : ∀ b o, c.Kp b o → s.heap.get? b = some o
  new : ∀ a ∈ FP env W, ∀ o, ¬ c.Kp a o
  nodup : (FP env W).Nodup
  live : ∀ a ∈ W, ∃ vs, s.heap.PlainList a vs
  kind : env.scope.kind = .function
  globals : env.globals = mainGlobals
  builtins : env.builtins = builtinsNs
  cells : ∀ a ∈ env.cells.map (·.2), ∃ v, s.heap.IsCell a v
  vars : ∃ m, s.heap.Ns env.locals m ∧ (∀ x b, ρ.lookup x = some b → ∃ v, Var env m s.heap x v ∧ RdB s.heap W b v) ∧
    ∀ x y l l' a, ρ.lookup x = some (.own l) → ρ.lookup y = some (.own l') → Var env m s.heap x (.ref a) → Var env m s.heap y (.ref a) → x = y

theorem isCell_keeps {s s' : Shared} {a : Addr} {v : Option Value} (x : s.heap.IsCell a v) (k : Ext s s') : s'.heap.IsCell a v := let ⟨o, e, d⟩ := x; ⟨o, k.get e, d⟩
theorem isCell_inj {h : Heap} {c : Addr} {v v' : Option Value} (x : h.IsCell c v) (y : h.IsCell c v') : v = v' := by
  obtain ⟨o, e, d⟩ := x
  obtain ⟨o', e', d'⟩ := y
  rw [e] at e'; cases e'
  rw [d] at d'; cases d'; rfl
theorem Var.inj {env : Env} {m : Str → Option Value} {h : Heap} {x : Str} {v v' : Value} (p : Var env m h x v) (q : Var env m h x v') : v = v' := by
  rcases p with ⟨k, e⟩ | ⟨k, c, hc, e⟩ <;> rcases q with ⟨k', e'⟩ | ⟨k', c', hc', e'⟩
  · rw [e] at e'; cases e'; rfl
  · rw [k] at k'; rcases k' with k' | k' <;> cases k'
  · rw [k'] at k; rcases k with k | k <;> cases k
  · rw [hc] at hc'; cases hc'
    exact Option.some.inj (isCell_inj e e')

theorem RdB.keep {h h' : Heap} {W : List Addr} {b : B} {v : Value} (x : RdB h W b v) (K : SeqKeep W h h') (hW : ∀ a ∈ W, ∀ vs, h.PlainList a vs → h'.PlainList a vs) : RdB h' W b v := by
  cases b with
  | d d => exact Rd.keep K x
  | own l => obtain ⟨a, vs, e, ha, hp, hl⟩ := x; exact ⟨a, vs, e, ha, hW a ha _ hp, hl.keep K⟩

variable {K : Frag} {env : Env} {c : Cx} {W : List Addr} {ρ : Rho} {s s' : Shared}

theorem Core.heap_mono (C : Core K env c W ρ s) (k : Ext s s') : Core K env c W ρ s' where
  same := by obtain ⟨h, t, e⟩ := C.same; obtain ⟨h', t', e', _⟩ := k; exact ⟨h', t', by rw [e', e]⟩
  gl := C.gl
  keep := fun b o e => k.get (C.keep b o e)
  new := C.new
  nodup := C.nodup
  live := fun a ha => let ⟨vs, x⟩ := C.live a ha; ⟨vs, plainList_keeps x k⟩
  kind := C.kind
  globals := C.globals
  builtins := C.builtins
  cells := fun a e => let ⟨v, y⟩ := C.cells a e; ⟨v, isCell_keeps y k⟩
  vars := by
    obtain ⟨m, hn, hv, ha⟩ := C.vars
    have up : ∀ {x v}, Var env m s.heap x v → Var env m s'.heap x v := fun p => p.imp id fun ⟨k1, c, hc, e⟩ => ⟨k1, c, hc, isCell_keeps e k⟩
    refine ⟨m, hn.keeps fun _ _ e => k.get e, fun x b e => ?_, fun x y l l' a h1 h2 p q => ?_⟩
    · obtain ⟨v, p, r⟩ := hv x b e
      exact ⟨v, up p, r.keep (k.seq W) fun _ _ _ y => plainList_keeps y k⟩
    · obtain ⟨v, p', _⟩ := hv x _ h1
      obtain ⟨v', q', _⟩ := hv y _ h2
      have e1 := (up p').inj p
      have e2 := (up q').inj q
      subst e1; subst e2
      exact ha x y l l' a h1 h2 p' q'

theorem Core.weaken {ρ' : Rho} (C : Core K env c W ρ s) (h : ∀ x b, ρ'.lookup x = some b → ρ.lookup x = some b) : Core K env c W ρ' s :=
  { C with vars := let ⟨m, hn, hv, ha⟩ := C.vars; ⟨m, hn, fun x b e => hv x b (h x b e), fun x y l l' a h1 h2 => ha x y l l' a (h _ _ h1) (h _ _ h2)⟩ }

theorem Core.notin (C : Core K env c W ρ s) {a : Addr} (h : s.heap.get? a = none) : a ∉ W := fun q => by
  obtain ⟨vs, n, e⟩ := C.live a q; rw [h] at e; cases e
theorem Core.top (C : Core K env c W ρ s) : GL K s.heap := C.gl s.heap C.keep
theorem Core.alive (C : Core K env c W ρ s) : ∀ a ∈ W, ∃ o, s.heap.get? a = some o := fun a ha => let ⟨_, _, e⟩ := C.live a ha; ⟨_, e⟩

theorem mem_map_of_lookup {cs : List (Str × Addr)} {x : Str} {a : Addr} (h : cs.lookup x = some a) : a ∈ cs.map (·.2) := by
  induction cs with
  | nil => cases h
  | cons p r ih =>
    obtain ⟨n, b⟩ := p
    rw [List.lookup_cons] at h
    cases hb : x == n with
    | true => rw [hb] at h; cases h; exact List.mem_cons_self
    | false => rw [hb] at h; exact List.mem_cons_of_mem _ (ih h)

theorem lookup_cons_self {x : Str} {b : B} : List.lookup x ((x, b) :: ρ) = some b := by simp [List.lookup_cons]
theorem lookup_cons_ne {x y : Str} {b : B} (h : y ≠ x) : List.lookup y ((x, b) :: ρ) = ρ.lookup y := by
  rw [List.lookup_cons, beq_eq_false_iff_ne.mpr h]

/-- two names of cells at one address are one name -/
theorem cell_apart {cs : List (Str × Addr)} (nd : (cs.map (·.2)).Nodup) {x y : Str} {a : Addr} (h : cs.lookup x = some a) (h' : cs.lookup y = some a) : x = y := by
  induction cs with
  | nil => cases h
  | cons p r ih =>
    obtain ⟨n, b⟩ := p
    rw [List.map_cons, List.nodup_cons] at nd
    rw [List.lookup_cons] at h h'
    cases hx : x == n <;> cases hy : y == n <;> rw [hx] at h <;> rw [hy] at h'
    · exact ih nd.2 h h'
    · cases h'; exact absurd (mem_map_of_lookup h) nd.1
    · cases h; exact absurd (mem_map_of_lookup h') nd.1
    · rw [eq_of_beq hx, eq_of_beq hy]

/-- what may follow a store -/
theorem Core.stored (C : Core K env c W ρ s) {x : Str} {b : B} {v : Value} {W' : List Addr} (hW : ∀ a ∈ W', a ∈ W ∨ (∃ l, b = .own l ∧ v = .ref a ∧ (∃ vs, s.heap.PlainList a vs) ∧ a ∉ FP env W ∧ ∀ o, ¬ c.Kp a o)) (nd : W'.Nodup)
    (hrest : ∀ m y b' u, s.heap.Ns env.locals m → Var env m s.heap y u → y ≠ x → ρ.lookup y = some b' → RdB s.heap W b' u → RdB s.heap W' b' u)
    (hv : RdB s.heap W' b v)
    (hal : ∀ l, b = .own l → ∀ y l' u, y ≠ x → ρ.lookup y = some (.own l') → RdB s.heap W (.own l') u → u ≠ v)
    (hk : env.kindOf x = some .local ∨ (env.kindOf x = some .cell ∧ (env.cells.lookup x).isSome))
    {M : Model} {A : Around} {Q : Unit → Shared → Prop} {E : Value → Shared → Prop} (hQ : ∀ s', Core K env c W' ((x, b) :: ρ) s' → Q () s') :
    wpAny M A (storeName env x v) Q E s := by
  obtain ⟨m, hn, hvars, halias⟩ := C.vars
  have ndc : (env.cells.map (·.2)).Nodup := ((List.nodup_append.mp (List.nodup_cons.mp C.nodup).2)).1
  have hLc : ∀ a ∈ env.cells.map (·.2), a ≠ env.locals := fun a ha e => (List.nodup_cons.mp C.nodup).1 (e ▸ List.mem_append_left _ ha)
  have hmemW : ∀ a ∈ W', a ≠ env.locals ∧ a ∉ env.cells.map (·.2) := fun a ha => by
    rcases hW a ha with q | ⟨l, _, _, _, q, _⟩
    · exact ⟨fun e => (List.nodup_cons.mp C.nodup).1 (e ▸ List.mem_append_right _ q), fun q' => (List.nodup_append.mp (List.nodup_cons.mp C.nodup).2).2.2 a q' a q rfl⟩
    · exact ⟨fun e => q (e ▸ List.mem_cons_self), fun q' => q (List.mem_cons_of_mem _ (List.mem_append_left _ q'))⟩
  have hnew : ∀ a ∈ FP env W', ∀ o, ¬ c.Kp a o := fun a ha o => by
    rcases List.mem_cons.mp ha with e | q
    · exact C.new a (e ▸ List.mem_cons_self) o
    · rcases List.mem_append.mp q with q | q
      · exact C.new a (List.mem_cons_of_mem _ (List.mem_append_left _ q)) o
      · rcases hW a q with q | ⟨_, _, _, _, _, q⟩
        · exact C.new a (List.mem_cons_of_mem _ (List.mem_append_right _ q)) o
        · exact q o
  have hnd : (FP env W').Nodup := by
    refine List.nodup_cons.mpr ⟨fun q => ?_, List.nodup_append.mpr ⟨ndc, nd, fun a ha b hb e => (hmemW b hb).2 (e ▸ ha)⟩⟩
    rcases List.mem_append.mp q with q | q
    · exact hLc _ q rfl
    · exact (hmemW _ q).1 rfl
  have hlive : ∀ a ∈ W', ∃ vs, s.heap.PlainList a vs := fun a ha => by
    rcases hW a ha with q | ⟨_, _, _, q, _⟩
    · exact C.live a q
    · exact q
  rcases hk with hk | ⟨hk, hcell⟩
  · refine wpAny_storeName_local hk hn (fun h' hn' hs' => hQ _ ?_) (by rw [C.kind]; rfl)
    have seqk : ∀ V, SeqKeep V s.heap h' := fun V b o _ ho e => by
      refine hs'.extBut b o (fun q => ?_) e
      obtain ⟨o', es, ep, h1, h2, _⟩ := hn
      rw [q, h1] at e; cases e
      obtain ⟨_, _, _, rfl⟩ := ho
      cases h2
    have plk : ∀ a vs, s.heap.PlainList a vs → h'.PlainList a vs := fun a vs ⟨n, e⟩ => ⟨n, seqk [] a _ (by simp) ⟨_, _, _, rfl⟩ e⟩
    have ck : ∀ a u, a ∈ env.cells.map (·.2) → s.heap.IsCell a u → h'.IsCell a u := fun a u ha y => y.sameBut hs' (hLc a ha)
    have vk : ∀ y u, y ≠ x → Var env m s.heap y u → Var env (fun z => if z = x then some v else m z) h' y u := fun y u hy p =>
      p.imp (fun ⟨k, e⟩ => ⟨k, by simp [hy, e]⟩) fun ⟨k, a, ha, e⟩ => ⟨k, a, ha, ck a _ (mem_map_of_lookup ha) e⟩
    refine { same := ?_, gl := C.gl, keep := ?_, new := hnew, nodup := hnd, live := fun a ha => (hlive a ha).imp fun vs y => plk a vs y, kind := C.kind, globals := C.globals, builtins := C.builtins,
             cells := fun a ha => (C.cells a ha).imp fun u y => ck a u ha y, vars := ⟨_, hn', fun y b' e => ?_, fun y z l l' a h1 h2 p q => ?_⟩ }
    · obtain ⟨h, t, e⟩ := C.same; exact ⟨h', s.toks + 1, by rw [e]⟩
    · exact fun b o e => hs'.extBut b o (fun q => C.new env.locals List.mem_cons_self o (q ▸ e)) (C.keep b o e)
    · by_cases hy : y = x
      · subst hy
        rw [lookup_cons_self] at e; cases e
        exact ⟨v, .inl ⟨hk, by simp⟩, hv.keep (seqk _) fun a _ vs y => plk a vs y⟩
      · rw [lookup_cons_ne hy] at e
        obtain ⟨u, p, r⟩ := hvars y b' e
        exact ⟨u, vk y u hy p, (hrest m y b' u hn p hy e r).keep (seqk _) fun a _ vs y => plk a vs y⟩
    · by_cases hy : y = x <;> by_cases hz : z = x
      · rw [hy, hz]
      · subst hy
        rw [lookup_cons_self] at h1; cases h1
        rw [lookup_cons_ne hz] at h2
        obtain ⟨u, p', r⟩ := hvars z _ h2
        have e1 := (vk z u hz p').inj q
        have e2 : v = .ref a := by
          refine Var.inj (env := env) (m := fun z => if z = y then some v else m z) (h := h') (x := y) (.inl ⟨hk, by simp⟩) p
        exact absurd (e1.trans e2.symm) (hal l rfl z l' u hz h2 r)
      · subst hz
        rw [lookup_cons_self] at h2; cases h2
        rw [lookup_cons_ne hy] at h1
        obtain ⟨u, p', r⟩ := hvars y _ h1
        have e1 := (vk y u hy p').inj p
        have e2 : v = .ref a := Var.inj (env := env) (m := fun z' => if z' = z then some v else m z') (h := h') (x := z) (.inl ⟨hk, by simp⟩) q
        exact absurd (e1.trans e2.symm) (hal l' rfl y l u hy h1 r)
      · rw [lookup_cons_ne hy] at h1
        rw [lookup_cons_ne hz] at h2
        obtain ⟨u, p', _⟩ := hvars y _ h1
        obtain ⟨u', q', _⟩ := hvars z _ h2
        have e1 := (vk y u hy p').inj p
        have e2 := (vk z u' hz q').inj q
        subst e1; subst e2
        exact halias y z l l' a h1 h2 p' q'
  · obtain ⟨cx, hcx⟩ := Option.isSome_iff_exists.mp hcell
    have hcm := mem_map_of_lookup hcx
    obtain ⟨v₀, hc₀⟩ := C.cells cx hcm
    refine wpAny_storeName_cell C.kind hk hcx hc₀ (fun h' hc' hs' => hQ _ ?_)
    have seqk : ∀ V, SeqKeep V s.heap h' := fun V b o _ ho e => by
      refine hs'.extBut b o (fun q => ?_) e
      obtain ⟨o', h1, h2⟩ := hc₀
      rw [q, h1] at e; cases e
      obtain ⟨_, _, _, rfl⟩ := ho
      cases h2
    have plk : ∀ a vs, s.heap.PlainList a vs → h'.PlainList a vs := fun a vs ⟨n, e⟩ => ⟨n, seqk [] a _ (by simp) ⟨_, _, _, rfl⟩ e⟩
    have vk : ∀ y u, y ≠ x → Var env m s.heap y u → Var env m h' y u := fun y u hy p =>
      p.imp id fun ⟨k, a, ha, e⟩ => ⟨k, a, ha, e.sameBut hs' fun q => hy (cell_apart ndc (q ▸ ha) hcx)⟩
    have vx : Var env m h' x v := .inr ⟨.inl hk, cx, hcx, hc'⟩
    refine { same := ?_, gl := C.gl, keep := ?_, new := hnew, nodup := hnd, live := fun a ha => (hlive a ha).imp fun vs y => plk a vs y, kind := C.kind, globals := C.globals, builtins := C.builtins,
             cells := fun a ha => ?_, vars := ⟨m, hn.sameBut hs' (fun q => hLc cx hcm q.symm), fun y b' e => ?_, fun y z l l' a h1 h2 p q => ?_⟩ }
    · obtain ⟨h, t, e⟩ := C.same; exact ⟨h', s.toks, by rw [e]⟩
    · exact fun b o e => hs'.extBut b o (fun q => C.new cx (List.mem_cons_of_mem _ (List.mem_append_left _ hcm)) o (q ▸ e)) (C.keep b o e)
    · by_cases q : a = cx
      · exact ⟨_, q ▸ hc'⟩
      · exact (C.cells a ha).imp fun u y => y.sameBut hs' q
    · by_cases hy : y = x
      · subst hy
        rw [lookup_cons_self] at e; cases e
        exact ⟨v, vx, hv.keep (seqk _) fun a _ vs y => plk a vs y⟩
      · rw [lookup_cons_ne hy] at e
        obtain ⟨u, p, r⟩ := hvars y b' e
        exact ⟨u, vk y u hy p, (hrest m y b' u hn p hy e r).keep (seqk _) fun a _ vs y => plk a vs y⟩
    · by_cases hy : y = x <;> by_cases hz : z = x
      · rw [hy, hz]
      · subst hy
        rw [lookup_cons_self] at h1; cases h1
        rw [lookup_cons_ne hz] at h2
        obtain ⟨u, p', r⟩ := hvars z _ h2
        have e1 := (vk z u hz p').inj q
        exact absurd (e1.trans (vx.inj p).symm) (hal l rfl z l' u hz h2 r)
      · subst hz
        rw [lookup_cons_self] at h2; cases h2
        rw [lookup_cons_ne hy] at h1
        obtain ⟨u, p', r⟩ := hvars y _ h1
        have e1 := (vk y u hy p').inj p
        exact absurd (e1.trans (vx.inj q).symm) (hal l' rfl y l u hy h1 r)
      · rw [lookup_cons_ne hy] at h1
        rw [lookup_cons_ne hz] at h2
        obtain ⟨u, p', _⟩ := hvars y _ h1
        obtain ⟨u', q', _⟩ := hvars z _ h2
        have e1 := (vk y u hy p').inj p
        have e2 := (vk z u' hz q').inj q
        subst e1; subst e2
        exact halias y z l l' a h1 h2 p' q'

/-- a plain value -/
theorem Core.store (C : Core K env c W ρ s) {x : Str} {d : D} {v : Value} (hv : Rd s.heap W d v)
    (hk : env.kindOf x = some .local ∨ (env.kindOf x = some .cell ∧ (env.cells.lookup x).isSome))
    {M : Model} {A : Around} {Q : Unit → Shared → Prop} {E : Value → Shared → Prop} (hQ : ∀ s', Core K env c W ((x, .d d) :: ρ) s' → Q () s') :
    wpAny M A (storeName env x v) Q E s :=
  C.stored (b := .d d) (fun a ha => .inl ha) (List.nodup_append.mp (List.nodup_cons.mp C.nodup).2).2.1 (fun _ _ _ _ _ _ _ _ r => r) hv (fun l e => nomatch e) hk hQ

mutual
theorem Rd.more {h : Heap} {W : List Addr} {a : Addr} : ∀ {d : D} {v : Value}, Rd h W d v → Rd h [a] d v → Rd h (a :: W) d v
  | .none, _, x, _ => x
  | .bool _, _, x, _ => x
  | .int _, _, x, _ => x
  | .str _, _, x, _ => x
  | .bytes _, _, x, _ => x
  | .tup _, _, ⟨b, vs, e, hb, ⟨n, hg⟩, hl⟩, ⟨b', vs', e', hb', ⟨n', hg'⟩, hl'⟩ => by
    subst e; cases e'
    rw [hg] at hg'
    injection hg' with q; injection q with _ _ q _
    injection q with q _
    have q' : vs = vs' := by simpa using q
    subst q'
    exact ⟨b, vs, rfl, by simp at hb'; simp [hb, hb'], ⟨n, hg⟩, RdL.more hl hl'⟩
  | .lst _, _, ⟨b, vs, e, hb, ⟨n, hg⟩, hl⟩, ⟨b', vs', e', hb', ⟨n', hg'⟩, hl'⟩ => by
    subst e; cases e'
    rw [hg] at hg'
    injection hg' with q; injection q with _ _ q _
    injection q with q _
    have q' : vs = vs' := by simpa using q
    subst q'
    exact ⟨b, vs, rfl, by simp at hb'; simp [hb, hb'], ⟨n, hg⟩, RdL.more hl hl'⟩
theorem RdL.more {h : Heap} {W : List Addr} {a : Addr} : ∀ {ds : List D} {vs : List Value}, RdL h W ds vs → RdL h [a] ds vs → RdL h (a :: W) ds vs
  | [], _, x, _ => x
  | _ :: _, _, ⟨v, vs', e, p, q⟩, ⟨u, us', e', p', q'⟩ => by
    subst e; cases e'
    exact ⟨v, vs', rfl, Rd.more p p', RdL.more q q'⟩
end

theorem ns_inj {h : Heap} {a : Addr} {m m' : Str → Option Value} (x : h.Ns a m) (y : h.Ns a m') : m = m' := by
  obtain ⟨o, es, ep, e, d, _, f⟩ := x
  obtain ⟨o', es', ep', e', d', _, f'⟩ := y
  rw [e] at e'; cases e'
  rw [d] at d'; injection d' with d'; subst d'
  exact funext fun n => (f n).symm.trans (f' n)

theorem Core.fresh (C : Core K env c W ρ s) {a : Addr} (h : s.heap.get? a = none) : a ∉ FP env W ∧ ∀ o, ¬ c.Kp a o := by
  refine ⟨fun q => ?_, fun o q => by rw [C.keep a o q] at h; cases h⟩
  rcases List.mem_cons.mp q with q | q
  · obtain ⟨m, ⟨o, _, _, e, _⟩, _⟩ := C.vars
    rw [q, e] at h; cases h
  · rcases List.mem_append.mp q with q | q
    · obtain ⟨v, o, e, _⟩ := C.cells a q; rw [e] at h; cases h
    · exact C.notin h q

/-- a new list is the name's own -/
theorem Core.storeOwn {s₀ : Shared} (C₀ : Core K env c W ρ s₀) (k : Ext s₀ s) {x : Str} {l : List D} {a : Addr} {vs : List Value} (hnone : s₀.heap.get? a = none) (hp : s.heap.PlainList a vs.toArray) (hl : RdL s.heap W l vs)
    (hla : RdL s.heap [a] l vs)
    (hk : env.kindOf x = some .local ∨ (env.kindOf x = some .cell ∧ (env.cells.lookup x).isSome))
    {M : Model} {A : Around} {Q : Unit → Shared → Prop} {E : Value → Shared → Prop} (hQ : ∀ s', Core K env c (a :: W) ((x, .own l) :: ρ) s' → Q () s') :
    wpAny M A (storeName env x (.ref a)) Q E s := by
  have C := C₀.heap_mono k
  obtain ⟨hfr, hkp⟩ := C₀.fresh hnone
  have haW : a ∉ W := fun q => hfr (List.mem_cons_of_mem _ (List.mem_append_right _ q))
  have hno : ∀ o, isSeqO o → s₀.heap.get? a ≠ some o := fun o _ e => by rw [hnone] at e; cases e
  refine C.stored (b := .own l) (W' := a :: W) (fun b hb => ?_) (List.nodup_cons.mpr ⟨haW, (List.nodup_append.mp (List.nodup_cons.mp C.nodup).2).2.1⟩) (fun m y b' u hn p _ e r => ?_) ⟨a, vs, rfl, List.mem_cons_self, hp, hl.more hla⟩ (fun l' e y l'' u _ _ r q => ?_) hk hQ
  · rcases List.mem_cons.mp hb with q | q
    · exact .inr ⟨l, rfl, by rw [q], ⟨_, q ▸ hp⟩, q ▸ hfr, fun o => q ▸ hkp o⟩
    · exact .inl q
  · obtain ⟨m₀, hn₀, hv₀, _⟩ := C₀.vars
    have em : m = m₀ := ns_inj hn (hn₀.keeps k.keeps)
    subst em
    obtain ⟨u₀, p₀, r₀⟩ := hv₀ y b' e
    have e2 : u₀ = u := Var.inj (p₀.imp id fun ⟨k1, c, hc, e⟩ => ⟨k1, c, hc, isCell_keeps e k⟩) p
    subst e2
    cases b' with
    | d d => exact (Rd.own hno r₀).keeps k
    | own l' =>
      obtain ⟨b, us, e', hb, hpb, hlb⟩ := r₀
      exact ⟨b, us, e', List.mem_cons_of_mem _ hb, plainList_keeps hpb k, (RdL.own hno hlb).keeps k⟩
  · obtain ⟨b, us, e', hb, _⟩ := r
    rw [e'] at q; cases q; exact haW hb

/-- an own list is given up: it is a plain value from now on -/
theorem Core.give (C : Core K env c W ρ s) {x : Str} {l : List D} (hx : ρ.lookup x = some (.own l)) : ∃ W', Core K env c W' ((x, .d (.lst l)) :: ρ) s := by
  obtain ⟨m, hn, hv, ha⟩ := C.vars
  obtain ⟨v, p, a, vs, rfl, haW, hp, hl⟩ := hv x _ hx
  have hsub : ∀ b ∈ W.filter (fun b => b ≠ a), b ∈ W := fun b hb => (List.mem_filter.mp hb).1
  have hFP : ∀ b ∈ FP env (W.filter fun b => b ≠ a), b ∈ FP env W := fun b hb => by
    rcases List.mem_cons.mp hb with q | q
    · exact q ▸ List.mem_cons_self
    · rcases List.mem_append.mp q with q | q
      · exact List.mem_cons_of_mem _ (List.mem_append_left _ q)
      · exact List.mem_cons_of_mem _ (List.mem_append_right _ (hsub b q))
  refine ⟨W.filter fun b => b ≠ a, { C with new := fun b hb => C.new b (hFP b hb), nodup := ?_, live := fun b hb => C.live b (hsub b hb), vars := ⟨m, hn, fun y b e => ?_, fun y z l₁ l₂ b h1 h2 p q => ?_⟩ }⟩
  · obtain ⟨n1, n2⟩ := List.nodup_cons.mp C.nodup
    obtain ⟨n2, n3, n4⟩ := List.nodup_append.mp n2
    exact List.nodup_cons.mpr ⟨fun q => n1 ((List.mem_append.mp q).elim (fun q => List.mem_append_left _ q) fun q => List.mem_append_right _ (hsub _ q)), List.nodup_append.mpr ⟨n2, n3.filter _, fun b hb d hd => n4 b hb d (hsub d hd)⟩⟩
  · by_cases hy : y = x
    · subst hy
      rw [lookup_cons_self] at e; cases e
      exact ⟨_, p, a, vs, rfl, by simp, hp, hl.sub hsub⟩
    · rw [lookup_cons_ne hy] at e
      obtain ⟨u, pu, r⟩ := hv y b e
      refine ⟨u, pu, ?_⟩
      cases b with
      | d d => exact Rd.sub hsub r
      | own l' =>
        obtain ⟨b, us, e', hb, hpb, hlb⟩ := r
        refine ⟨b, us, e', List.mem_filter.mpr ⟨hb, ?_⟩, hpb, hlb.sub hsub⟩
        have : b ≠ a := fun q => hy (ha y x l' l a e hx (by rw [← q, ← e']; exact pu) p)
        simpa using this
  · have hy : y ≠ x := fun q => by subst q; rw [lookup_cons_self] at h1; cases h1
    have hz : z ≠ x := fun q => by subst q; rw [lookup_cons_self] at h2; cases h2
    rw [lookup_cons_ne hy] at h1; rw [lookup_cons_ne hz] at h2
    exact ha y z l₁ l₂ b h1 h2 p q

/-- an own list is changed -/
theorem Core.mutate (C : Core K env c W ρ s) {x : Str} {l l' : List D} {a : Addr} {m : Str → Option Value} (hx : ρ.lookup x = some (.own l)) (hn : s.heap.Ns env.locals m) (p : Var env m s.heap x (.ref a)) {h' : Heap} {tk : Nat}
    (hs : ∀ b o, b ≠ a → s.heap.get? b = some o → h'.get? b = some o) {vs : List Value} (hp : h'.PlainList a vs.toArray) (hl : RdL h' W l' vs) : Core K env c W ((x, .own l') :: ρ) { s with heap := h', toks := tk } := by
  obtain ⟨m', hn', hv, ha⟩ := C.vars
  have em := ns_inj hn hn'; subst em
  obtain ⟨v, p', b, us, e, hbW, hpb, _⟩ := hv x _ hx
  have e2 := p.inj p'
  subst e; cases e2
  have ndc := List.nodup_cons.mp C.nodup
  have haL : a ≠ env.locals := fun q => ndc.1 (q ▸ List.mem_append_right _ hbW)
  have haC : a ∉ env.cells.map (·.2) := fun q => (List.nodup_append.mp ndc.2).2.2 a q a hbW rfl
  have seqk : SeqKeep W s.heap h' := fun b o hb _ e => hs b o (fun q => hb (q ▸ hbW)) e
  have ck : ∀ b u, b ∈ env.cells.map (·.2) → s.heap.IsCell b u → h'.IsCell b u := fun b u hb ⟨o, e, d⟩ => ⟨o, hs b o (fun q => haC (q ▸ hb)) e, d⟩
  have vk : ∀ y u, Var env m s.heap y u → Var env m h' y u := fun y u q => q.imp id fun ⟨k, c, hc, e⟩ => ⟨k, c, hc, ck c _ (mem_map_of_lookup hc) e⟩
  have plk : ∀ b vs, b ≠ a → s.heap.PlainList b vs → h'.PlainList b vs := fun b vs hb ⟨n, e⟩ => ⟨n, hs b _ hb e⟩
  have hother : ∀ y l₁ b, y ≠ x → ρ.lookup y = some (.own l₁) → Var env m s.heap y (.ref b) → b ≠ a := fun y l₁ b hy hl₁ q e => hy (ha y x l₁ l a hl₁ hx (e ▸ q) p)
  refine { same := ?_, gl := C.gl, keep := ?_, new := C.new, nodup := C.nodup, live := fun b hb => ?_, kind := C.kind, globals := C.globals, builtins := C.builtins, cells := fun b hb => (C.cells b hb).imp fun u y => ck b u hb y,
           vars := ⟨m, ?_, fun y b e => ?_, fun y z l₁ l₂ b h1 h2 q q' => ?_⟩ }
  · obtain ⟨h, t, e⟩ := C.same; exact ⟨h', tk, by rw [e]⟩
  · exact fun b o e => hs b o (fun q => C.new a (List.mem_cons_of_mem _ (List.mem_append_right _ hbW)) o (q ▸ e)) (C.keep b o e)
  · by_cases q : b = a
    · exact ⟨_, q ▸ hp⟩
    · exact (C.live b hb).imp fun vs y => plk b vs q y
  · obtain ⟨o, es, ep, e, r⟩ := hn
    exact ⟨o, es, ep, hs _ o (Ne.symm haL) e, r⟩
  · by_cases hy : y = x
    · subst hy
      rw [lookup_cons_self] at e; cases e
      exact ⟨_, vk _ _ p, a, vs, rfl, hbW, hp, hl⟩
    · rw [lookup_cons_ne hy] at e
      obtain ⟨u, pu, r⟩ := hv y b e
      refine ⟨u, vk _ _ pu, ?_⟩
      cases b with
      | d d => exact Rd.keep seqk r
      | own l₁ =>
        obtain ⟨b, ws, e', hb, hpb', hlb⟩ := r
        exact ⟨b, ws, e', hb, plk b _ (hother y l₁ b hy e (e' ▸ pu)) hpb', hlb.keep seqk⟩
  · have key : ∀ y l₁, List.lookup y ((x, B.own l') :: ρ) = some (.own l₁) → ∃ l₂, ρ.lookup y = some (.own l₂) := fun y l₁ e => by
      by_cases hy : y = x
      · exact ⟨l, hy ▸ hx⟩
      · rw [lookup_cons_ne hy] at e; exact ⟨_, e⟩
    obtain ⟨k1, h1⟩ := key y l₁ h1
    obtain ⟨k2, h2⟩ := key z l₂ h2
    obtain ⟨u, pu, _⟩ := hv y _ h1
    obtain ⟨u', pu', _⟩ := hv z _ h2
    have e1 := (vk _ _ pu).inj q
    have e2 := (vk _ _ pu').inj q'
    subst e1; subst e2
    exact ha y z k1 k2 b h1 h2 pu pu'
end Mine

namespace Mine

def noE : Value → Shared → Prop := fun _ _ => False
def sel (q : Bool) (W : List Addr) : List Addr := bif q then W else []
theorem sel_sub {q : Bool} {W : List Addr} : ∀ a ∈ sel q W, a ∈ W := by cases q <;> simp [sel]
def Live (V : List Addr) (h : Heap) : Prop := ∀ a ∈ V, ∃ o, h.get? a = some o
theorem Live.keeps {V : List Addr} {s s' : Shared} (x : Live V s.heap) (k : Ext s s') : Live V s'.heap := fun a ha => (x a ha).imp fun _ e => k.get e
theorem Live.notin {V : List Addr} {h : Heap} (x : Live V h) {a : Addr} (e : h.get? a = none) : a ∉ V := fun q => by obtain ⟨o, e'⟩ := x a q; rw [e] at e'; cases e'
/-- enough room around -/
structure Aok (A : Around) (n : Nat) : Prop where
  h : A.handled = none
  d : A.depth + n < recursionLimit
  u : A.units + 10 * n + 100 < cLine
theorem Aok.in1 {A : Around} {n : Nat} (x : Aok A (n + 1)) : Aok A.in1 n := ⟨x.h, by have := x.d; show A.depth + n < _; omega, by have := x.u; show A.units + 1 + 10 * n + 100 < _; omega⟩
theorem Aok.le {A : Around} {n m : Nat} (x : Aok A n) (h : m ≤ n) : Aok A m := ⟨x.h, by have := x.d; omega, by have := x.u; omega⟩
theorem Aok.deeper {A : Around} {n : Nat} {env : Env} (x : Aok A (n + 1)) : Aok (A.deeper env) n := ⟨x.h, by have := x.d; show A.depth + 1 + n < _; omega, by have := x.u; show A.units + 3 + 10 * n + 100 < _; omega⟩

section
variable (prog : Program) (w : World) (A : Around) (K : Frag) (env : Env) (ρ : Rho)
/-- the expression is worth d; nothing that stood is changed -/
def Ev (q : Bool) (e : Expr) (d : D) : Prop := ∀ c W s, Core K env c W ρ s → wpAny (model prog w) A (eval e env) (fun v s' => Ext s s' ∧ Rd s'.heap (sel q W) d v) noE s
/-- a new list, not read by its items -/
def EvN (e : Expr) (l : List D) : Prop := ∀ c W s, Core K env c W ρ s → wpAny (model prog w) A (eval e env) (fun v s' => Ext s s' ∧ ∃ a vs, v = .ref a ∧ s.heap.get? a = none ∧ s'.heap.PlainList a vs.toArray ∧ RdL s'.heap W l vs ∧ RdL s'.heap [a] l vs) noE s
/-- a test -/
def EvC (e : Expr) (b : Bool) : Prop := ∀ c W s, Core K env c W ρ s → wpAny (model prog w) A (isTrue e env (eval e env)) (fun b' s' => Ext s s' ∧ b' = b) noE s
/-- a name of the top -/
def EvF (e : Expr) (f : Value) : Prop := ∀ c W s, Core K env c W ρ s → wpAny (model prog w) A (eval e env) (fun v s' => v = f ∧ s' = s) noE s
/-- arguments -/
def EvL (q : Bool) (es : List Expr) (ds : List D) : Prop := ∀ pos c W s, Core K env c W ρ s → wpAny (model prog w) A (spliced (backTo pos (starEach es env))) (fun vs s' => Ext s s' ∧ RdL s'.heap (sel q W) ds vs) noE s
/-- a step on values -/
def Op (f : List Value → Sem Value) (ds : List D) (d : D) : Prop := ∀ V s vs, Live V s.heap → GL K s.heap → RdL s.heap V ds vs → wpAny (model prog w) A (f vs) (fun v s' => Ext s s' ∧ Rd s'.heap V d v) noE s
def OpN (f : List Value → Sem Value) (ds : List D) (l : List D) : Prop := ∀ V s vs, Live V s.heap → GL K s.heap → RdL s.heap V ds vs → wpAny (model prog w) A (f vs) (fun v s' => Ext s s' ∧ ∃ a us, v = .ref a ∧ s.heap.get? a = none ∧ s'.heap.PlainList a us.toArray ∧ RdL s'.heap V l us ∧ RdL s'.heap [a] l us) noE s
end
def f2 (f : Value → Value → Sem Value) : List Value → Sem Value
  | [a, b] => f a b
  | _ => unsupported "f2"
def f1 (f : Value → Sem Value) : List Value → Sem Value
  | [a] => f a
  | _ => unsupported "f1"

section
variable {prog : Program} {w : World} {A : Around} {K : Frag} {env : Env} {ρ : Rho}

theorem Core.selLive {c : Cx} {W : List Addr} {s : Shared} (C : Core K env c W ρ s) (q : Bool) : Live (sel q W) s.heap := fun a ha => C.alive a (sel_sub a ha)

theorem Ev.cast {q : Bool} {e : Expr} {d d' : D} (h : Ev prog w A K env ρ q e d) (x : d = d') : Ev prog w A K env ρ q e d' := x ▸ h
theorem Ev.flat {q q' : Bool} {e : Expr} {d : D} (h : Ev prog w A K env ρ q' e d) (hf : d.flat = true) : Ev prog w A K env ρ q e d := fun c W s C =>
  wpAny_mono (h c W s C) (fun _ _ ⟨k, r⟩ => ⟨k, r.flat hf⟩) fun _ _ x => x
theorem EvN.ev {q : Bool} {e : Expr} {l : List D} (h : EvN prog w A K env ρ e l) : Ev prog w A K env ρ q e (.lst l) := fun c W s C =>
  wpAny_mono (h c W s C) (fun _ _ ⟨k, a, vs, e, hn, hp, hl, _⟩ => ⟨k, a, vs, e, (C.selLive q).notin hn, hp, hl.sub sel_sub⟩) fun _ _ x => x
theorem Op.cast {f : List Value → Sem Value} {ds : List D} {d d' : D} (h : Op prog w A K f ds d) (x : d = d') : Op prog w A K f ds d' := x ▸ h
theorem up {α : Type} {M : Model} {Q : α → Shared → Prop} {E : Value → Shared → Prop} {t : Sem α} {s : Shared} (h : wpAny M A t Q noE s) : wpAny M A t Q E s := wpAny_mono h (fun _ _ x => x) fun _ _ x => x.elim

/-! ### names -/
theorem var_load {m : Str → Option Value} {s : Shared} {x : Str} {pos : Pos} {v : Value} {Q : Value → Shared → Prop} {E : Value → Shared → Prop} (hk : env.scope.kind = .function) (hn : s.heap.Ns env.locals m) (hv : Var env m s.heap x v)
    (h : Q v s) (hd : (x == ("__debug__" : Str)) = false) (hc : (x == ("__classdict__" : Str)) = false) : wpAny (model prog w) A (eval (.Name x pos) env) Q E s := by
  rcases hv with ⟨k, e⟩ | ⟨k | k, a, ha, e⟩
  · exact wpAny_Name (wpAny_loadName_local hk k hn e h) hd
  · exact wpAny_Name (wpAny_loadName_cell hk k ha e h) hd
  · exact wpAny_Name (wpAny_loadName_free hk k ha e h hc) hd
theorem ev_name {q : Bool} {x : Str} {pos : Pos} {d : D} (h : ρ.lookup x = some (.d d)) (hd : (x == ("__debug__" : Str)) = false := by decide) (hc : (x == ("__classdict__" : Str)) = false := by decide) :
    Ev prog w A K env ρ q (.Name x pos) d := fun c W s C => by
  obtain ⟨m, hn, hv, _⟩ := C.vars
  obtain ⟨v, p, r⟩ := hv x _ h
  exact var_load C.kind hn p ⟨.refl s, Rd.sub sel_sub r⟩ hd hc
theorem ev_nameT {x : Str} {pos : Pos} {l : List D} (h : ρ.lookup x = some (.own l)) (hd : (x == ("__debug__" : Str)) = false := by decide) (hc : (x == ("__classdict__" : Str)) = false := by decide) :
    Ev prog w A K env ρ false (.Name x pos) (.lst l) := fun c W s C => by
  obtain ⟨m, hn, hv, _⟩ := C.vars
  obtain ⟨v, p, r⟩ := hv x _ h
  obtain ⟨a, vs, e, _, hp, hl⟩ := r
  exact var_load C.kind hn p ⟨.refl s, a, vs, e, List.not_mem_nil, hp, hl.sub fun a ha => absurd ha List.not_mem_nil⟩ hd hc
theorem ev_global {x : Str} {pos : Pos} {v : Value} (e : nsIn K mainGlobals x = some (some v)) (hx : env.kindOf x = some .globalImplicit) (hd : (x == ("__debug__" : Str)) = false := by decide) :
    EvF prog w A K env ρ (.Name x pos) v := fun c W s C => by
  obtain ⟨mg, mb, hg, hb, hbb⟩ := C.top.g
  exact Calls.Name_function_global C.kind hx (Calls.loadGlobal_global (env := env) (by rw [C.globals]; exact hg) (mg_of C.top.k hg e) ⟨rfl, rfl⟩) hd
theorem ev_builtin {x : Str} {pos : Pos} {v : Value} (e : nsIn K mainGlobals x = some none) (hv : bootBuiltins x = some v) (hx : env.kindOf x = some .globalImplicit) (hn : x ≠ "__name__" := by decide) (hd : (x == ("__debug__" : Str)) = false := by decide) :
    EvF prog w A K env ρ (.Name x pos) v := fun c W s C => by
  obtain ⟨mg, mb, hg, hb, hbb⟩ := C.top.g
  exact Calls.Name_function_global C.kind hx (Calls.loadGlobal_builtin (env := env) (by rw [C.globals]; exact hg) (mg_none_of C.top.k hg e) (by rw [C.builtins]; exact hb) ((hbb x hn).trans hv) ⟨rfl, rfl⟩) hd
theorem EvF.ev {q : Bool} {e : Expr} {f : Value} {d : D} (h : EvF prog w A K env ρ e f) (r : ∀ hh W, Rd hh W d f) : Ev prog w A K env ρ q e d := fun c W s C =>
  wpAny_mono (h c W s C) (fun v s' ⟨e1, e2⟩ => by subst e1; subst e2; exact ⟨.refl _, r _ _⟩) fun _ _ x => x

/-! ### constants -/
theorem ev_int {q : Bool} {i : Int} {k : Nat} {pos : Pos} : Ev prog w A K env ρ q (.Constant (.int i) k pos) (.int i) := fun _ _ s _ => wpAny_Constant_int ⟨.toks s _, _, rfl⟩
theorem ev_str {q : Bool} {x : Str} {k : Nat} {pos : Pos} : Ev prog w A K env ρ q (.Constant (.str x) k pos) (.str x.cps.toList) := fun _ _ s _ => wpAny_Constant_str ⟨.toks s _, _, rfl⟩
theorem ev_bytes {q : Bool} {b : List UInt8} {k : Nat} {pos : Pos} : Ev prog w A K env ρ q (.Constant (.bytes b) k pos) (.bytes b) := fun _ _ s _ => by
  show wpAny _ _ (mkTextBytes b.toArray) _ _ _
  exact wpAny_mkTextBytes ⟨.toks s _, _, rfl⟩
theorem ev_bool {q b : Bool} {k : Nat} {pos : Pos} : Ev prog w A K env ρ q (.Constant (.bool b) k pos) (.bool b) := fun _ _ s _ => wpAny_Constant_bool ⟨.refl s, rfl⟩
theorem ev_none {q : Bool} {k : Nat} {pos : Pos} : Ev prog w A K env ρ q (.Constant .none k pos) .none := fun _ _ s _ => fun _ _ _ => ⟨.refl s, rfl⟩

/-! ### arguments, displays, calls -/
theorem evL_nil {q : Bool} : EvL prog w A K env ρ q [] [] := fun _ _ _ s _ => Calls.spliced_nil ⟨.refl s, rfl⟩
theorem evL_cons {q : Bool} {e : Expr} {es : List Expr} {d : D} {ds : List D} (h₁ : Ev prog w A K env ρ q e d) (h₂ : EvL prog w A K env ρ q es ds)
    (hs : starEach (e :: es) env = (false, eval e env) :: starEach es env := by rfl) : EvL prog w A K env ρ q (e :: es) (d :: ds) := fun pos c W s C => by
  rw [hs]
  show wpAny _ _ (spliced ((false, eval e env) :: backTo pos (starEach es env))) _ _ _
  exact Calls.spliced_cons (wpAny_mono (h₁ c W s C) (fun v s₁ ⟨k₁, r₁⟩ => wpAny_mono (h₂ pos c W s₁ (C.heap_mono k₁)) (fun vs s₂ ⟨k₂, r₂⟩ => ⟨k₁.trans k₂, v, vs, rfl, r₁.keeps k₂, r₂⟩) fun _ _ x => x) fun _ _ x => x)
theorem EvL.cast {q : Bool} {es : List Expr} {ds ds' : List D} (h : EvL prog w A K env ρ q es ds) (x : ds = ds') : EvL prog w A K env ρ q es ds' := x ▸ h

theorem ev_tuple {q : Bool} {es : List Expr} {k : Nat} {pos : Pos} {ds : List D} (h : EvL prog w A K env ρ q es ds) (hsz : ds.length ≤ 1000000 := by decide) : Ev prog w A K env ρ q (.Tuple es k pos) (.tup ds) := fun c W s C =>
  wpAny_Tuple_spliced (wpAny_mono (h pos c W s C) (fun vs s₁ ⟨k₁, r⟩ => by
    have hl := r.length
    refine ⟨by rw [hl]; exact Nat.le_trans hsz (by decide), k₁.trans (.push _ _), s₁.heap.objs.size, vs, rfl, ((C.heap_mono k₁).selLive q).notin (get_size _), ⟨0, Heap.get?_push_size _ rfl⟩, r.keeps (.push _ _)⟩) fun _ _ x => x)
theorem evN_list {es : List Expr} {pos : Pos} {ds : List D} (h : EvL prog w A K env ρ true es ds) (hsz : ds.length ≤ 1000000 := by decide) : EvN prog w A K env ρ (.List es pos) ds := fun c W s C =>
  wpAny_List_spliced (wpAny_mono (h pos c W s C) (fun vs s₁ ⟨k₁, r⟩ => by
    have hl := r.length
    refine ⟨by rw [hl]; exact Nat.le_trans hsz (by decide), k₁.trans (.push _ _), s₁.heap.objs.size, vs, rfl, k₁.none (get_size _), ⟨0, Heap.get?_push_size _ rfl⟩, r.keeps (.push _ _), ?_⟩
    exact (RdL.sub (fun a ha => by simp at ha; simp [ha]) (RdL.own (n := s₁.heap.objs.size) (fun o _ e => by rw [get_size] at e; cases e) r)).keeps (.push _ _)) fun _ _ x => x)
theorem evalArgs_any {f : Value} {es : List Expr} {pos : Pos} {M : Model} {Q : Args → Shared → Prop} {E : Value → Shared → Prop} {s : Shared} (hs : ((backTo pos (starEach es env)).any (·.1)) = false)
    (h : wpAny M A (spliced (backTo pos (starEach es env))) (fun vs s' => Q ⟨vs, []⟩ s') E s) : wpAny M A (evalArgs f true (backTo pos (starEach es env)) []) Q E s := by
  cases hb : backTo pos (starEach es env) with
  | nil =>
    rw [hb] at h
    unfold evalArgs
    show wpAny M A (spliced [] >>= _) Q E s
    refine wpAny_bind (wpAny_mono h (fun vs s' h' => ?_) fun _ _ x => x)
    refine wpAny_holding ?_
    exact wpAny_bind (wpAny_pure (wpAny_bind (wpAny_pure (wpAny_pure h'))))
  | cons p r =>
    obtain ⟨b, x⟩ := p
    rw [hb] at h hs
    have hb0 : b = false := by
      cases b with
      | false => rfl
      | true => simp at hs
    subst hb0
    exact Calls.evalArgs_plain h

/-- a call of a built-in function or a type by its name -/
theorem ev_call {q : Bool} {f : Value} {x : Str} {np pos : Pos} {es : List Expr} {ds : List D} {d : D} (hf : EvF prog w A K env ρ (.Name x np) f)
    (hk : (∃ id, f = .builtin id) ∨ ∃ T, f = .type T) (ha : EvL prog w A K env ρ q es ds)
    (hc : Op prog w A K (fun vs => call f vs) ds d)
    (hs : ((backTo pos (starEach es env)).any (·.1)) = false := by rfl) : Ev prog w A K env ρ q (.Call (.Name x np) es [] pos) d := fun c W s C => by
  refine wpAny_Call_ofName (wpAny_mono (hf c W s C) (fun v s' ⟨e1, e2⟩ => ?_) fun _ _ x => x)
  subst e1; subst e2
  have go : wpAny (model prog w) A (evalArgs v true (backTo pos (starEach es env)) []) (fun a s₁ => wpAny (model prog w) A (call v ([] ++ a.pos) a.kw) (fun v s'' => Ext s' s'' ∧ Rd s''.heap (sel q W) d v) noE s₁) noE s' :=
    evalArgs_any hs (wpAny_mono (ha pos c W s' C) (fun vs s₁ ⟨k₁, r₁⟩ => wpAny_mono (hc _ s₁ vs ((C.heap_mono k₁).selLive q) (C.heap_mono k₁).top r₁) (fun _ _ ⟨k₂, r₂⟩ => ⟨k₁.trans k₂, r₂⟩) fun _ _ x => x) fun _ _ x => x)
  rcases hk with ⟨id, rfl⟩ | ⟨T, rfl⟩
  · exact Calls.callWith_builtin hs go
  · exact PyProof.Rows.callWith_type hs go
/-- what a call of a def of the text gives: a new value -/
def Fn (prog : Program) (w : World) (K : Frag) (k : Nat) (f : Addr) (ds : List D) (d : D) : Prop :=
  ∀ A s vs, Aok A k → GL K s.heap → RdL s.heap [] ds vs → codeAny (model prog w) A (.call (.ref f) ⟨vs, []⟩) (fun r s' => ∃ v, r = .ok (.ret v) ∧ Ext s s' ∧ ∀ V, Live V s.heap → Rd s'.heap V d v) s

theorem ev_callDef {q : Bool} {k : Nat} {a : Addr} {o : Obj} {fd : FuncData} {x : Str} {np pos : Pos} {es : List Expr} {ds : List D} {d : D} (hf : EvF prog w A K env ρ (.Name x np) (.ref a)) (ha : EvL prog w A K env ρ false es ds)
    (ho : K.lookup a = some o) (hd : o.data = .func fd)
    (hc : Fn prog w K k a ds d) (hA : Aok A k)
    (hs : ((backTo pos (starEach es env)).any (·.1)) = false := by rfl) : Ev prog w A K env ρ q (.Call (.Name x np) es [] pos) d := fun c W s C => by
  refine wpAny_Call_ofName (wpAny_mono (hf c W s C) (fun v s' ⟨e1, e2⟩ => ?_) fun _ _ x => x)
  subst e1; subst e2
  refine Calls.callWith_function (evalArgs_any hs (wpAny_mono (ha pos c W s' C) (fun vs s₁ ⟨k₁, r₁⟩ => ⟨⟨(C.heap_mono k₁).top.k _ _ ho, hd⟩, wpAny_call (codeAny_mono (hc A s₁ vs hA (C.heap_mono k₁).top r₁) ?_)⟩) fun _ _ x => x))
  rintro _ _ ⟨v, rfl, k₂, r₂⟩
  exact ⟨k₁.trans k₂, r₂ _ ((C.heap_mono k₁).selLive q)⟩

/-- a method of a value of a built-in type -/
def TyOf (d : D) (T : String) : Prop := match d with
  | .str _ => T = "str" | .bytes _ => T = "bytes" | .lst _ => T = "list" | .tup _ => T = "tuple" | .int _ => T = "int" | _ => False
theorem TyOf.is {d : D} {T : String} (x : TyOf d T) {s : Shared} {V : List Addr} {v : Value} (r : Rd s.heap V d v) : s.TypeIs v T ∧ ∀ a, v = .ref a → ∃ ob, s.heap.get? a = some ob ∧ ob.dict = none := by
  cases d <;> first
    | exact x.elim
    | (subst x; obtain ⟨t, rfl⟩ := r; exact ⟨rfl, fun _ e => nomatch e⟩)
    | (subst x; obtain ⟨a, vs, rfl, _, ⟨n, e⟩, _⟩ := r; exact ⟨⟨_, e, rfl⟩, fun b q => by cases q; exact ⟨_, e, rfl⟩⟩)

theorem ev_method {q : Bool} {o : Expr} {name : Str} {apos pos : Pos} {es : List Expr} {T id : String} {d₀ d : D} {ds : List D} (ho : Ev prog w A K env ρ q o d₀) (ha : EvL prog w A K env ρ q es ds)
    (hT : TyOf d₀ T) (pa : PlainAttrs T) (slot : Slot T name id) (hty : typeOf (.builtin id) = pure (.type "method_descriptor"))
    (hc : Op prog w A K (fun vs => call (.builtin id) vs) (d₀ :: ds) d)
    (hbase : attributeBase o name env (eval o env) = eval o env := by rfl)
    (hfew : ((backTo pos (starEach es env)).all (fun x => !x.1) && (backToKw pos (keywordEach [] env)).all (fun x => x.1.isSome) && decide (es.length + ([] : List Keyword).length + (if ([] : List Keyword).isEmpty then 0 else 1) < 30)) = true := by rfl)
    (hline : (apos.endLine == pos.line) = true := by rfl)
    (hs : ((backTo pos (starEach es env)).any (·.1)) = false := by rfl) : Ev prog w A K env ρ q (.Call (.Attribute o name apos) es [] pos) d := fun c W s C => by
  refine wpAny_Call_method hbase hfew hline pa slot hty (wpAny_mono (ho c W s C) (fun v s₁ ⟨k₁, r₁⟩ => ⟨(hT.is r₁).1, (hT.is r₁).2, ?_⟩) fun _ _ x => x)
  refine Calls.callWith_builtin hs (evalArgs_any hs (wpAny_mono (ha pos c W s₁ (C.heap_mono k₁)) (fun vs s₂ ⟨k₂, r₂⟩ => ?_) fun _ _ x => x))
  have C₂ := (C.heap_mono k₁).heap_mono k₂
  exact wpAny_mono (hc _ s₂ (v :: vs) (C₂.selLive q) C₂.top ⟨v, vs, rfl, r₁.keeps k₂, r₂⟩) (fun _ _ ⟨k₃, r₃⟩ => ⟨k₁.trans (k₂.trans k₃), r₃⟩) fun _ _ x => x
theorem evN_method {o : Expr} {name : Str} {apos pos : Pos} {es : List Expr} {T id : String} {d₀ : D} {l : List D} {ds : List D} (ho : Ev prog w A K env ρ true o d₀) (ha : EvL prog w A K env ρ true es ds)
    (hT : TyOf d₀ T) (pa : PlainAttrs T) (slot : Slot T name id) (hty : typeOf (.builtin id) = pure (.type "method_descriptor"))
    (hc : OpN prog w A K (fun vs => call (.builtin id) vs) (d₀ :: ds) l)
    (hbase : attributeBase o name env (eval o env) = eval o env := by rfl)
    (hfew : ((backTo pos (starEach es env)).all (fun x => !x.1) && (backToKw pos (keywordEach [] env)).all (fun x => x.1.isSome) && decide (es.length + ([] : List Keyword).length + (if ([] : List Keyword).isEmpty then 0 else 1) < 30)) = true := by rfl)
    (hline : (apos.endLine == pos.line) = true := by rfl)
    (hs : ((backTo pos (starEach es env)).any (·.1)) = false := by rfl) : EvN prog w A K env ρ (.Call (.Attribute o name apos) es [] pos) l := fun c W s C => by
  refine wpAny_Call_method hbase hfew hline pa slot hty (wpAny_mono (ho c W s C) (fun v s₁ ⟨k₁, r₁⟩ => ⟨(hT.is r₁).1, (hT.is r₁).2, ?_⟩) fun _ _ x => x)
  refine Calls.callWith_builtin hs (evalArgs_any hs (wpAny_mono (ha pos c W s₁ (C.heap_mono k₁)) (fun vs s₂ ⟨k₂, r₂⟩ => ?_) fun _ _ x => x))
  have C₂ := (C.heap_mono k₁).heap_mono k₂
  exact wpAny_mono (hc _ s₂ (v :: vs) (C₂.selLive true) C₂.top ⟨v, vs, rfl, r₁.keeps k₂, r₂⟩) (fun _ _ ⟨k₃, a, us, e, hn, r₃⟩ => ⟨k₁.trans (k₂.trans k₃), a, us, e, (k₁.trans k₂).none hn, r₃⟩) fun _ _ x => x

/-! ### operators -/
theorem ev_bin {q : Bool} {l r : Expr} {op : Operator} {pos : Pos} {d₁ d₂ d : D} (h₁ : Ev prog w A K env ρ q l d₁) (h₂ : Ev prog w A K env ρ q r d₂) (hop : Op prog w A K (f2 (binaryOp op)) [d₁, d₂] d) :
    Ev prog w A K env ρ q (.BinOp l op r pos) d := fun c W s C =>
  wpAny_BinOp (wpAny_mono (h₁ c W s C) (fun a s₁ ⟨k₁, r₁⟩ => wpAny_mono (h₂ c W s₁ (C.heap_mono k₁)) (fun b s₂ ⟨k₂, r₂⟩ =>
    have C₂ := (C.heap_mono k₁).heap_mono k₂
    wpAny_mono (hop _ s₂ [a, b] (C₂.selLive q) C₂.top ⟨a, [b], rfl, r₁.keeps k₂, b, [], rfl, r₂, rfl⟩) (fun _ _ ⟨k₃, r₃⟩ => ⟨k₁.trans (k₂.trans k₃), r₃⟩) fun _ _ x => x) fun _ _ x => x) fun _ _ x => x)
theorem evN_bin {l r : Expr} {op : Operator} {pos : Pos} {d₁ d₂ : D} {ds : List D} (h₁ : Ev prog w A K env ρ true l d₁) (h₂ : Ev prog w A K env ρ true r d₂) (hop : OpN prog w A K (f2 (binaryOp op)) [d₁, d₂] ds) :
    EvN prog w A K env ρ (.BinOp l op r pos) ds := fun c W s C =>
  wpAny_BinOp (wpAny_mono (h₁ c W s C) (fun a s₁ ⟨k₁, r₁⟩ => wpAny_mono (h₂ c W s₁ (C.heap_mono k₁)) (fun b s₂ ⟨k₂, r₂⟩ =>
    have C₂ := (C.heap_mono k₁).heap_mono k₂
    wpAny_mono (hop _ s₂ [a, b] (C₂.selLive true) C₂.top ⟨a, [b], rfl, r₁.keeps k₂, b, [], rfl, r₂, rfl⟩) (fun _ _ ⟨k₃, a, us, e, hn, r₃⟩ => ⟨k₁.trans (k₂.trans k₃), a, us, e, (k₁.trans k₂).none hn, r₃⟩) fun _ _ x => x) fun _ _ x => x) fun _ _ x => x)
theorem ev_un {q : Bool} {x : Expr} {op : UnaryOp} {pos : Pos} {d₁ d : D} (h₁ : Ev prog w A K env ρ q x d₁) (hop : Op prog w A K (f1 (unaryOp op)) [d₁] d) : Ev prog w A K env ρ q (.UnaryOp op x pos) d := fun c W s C =>
  wpAny_UnaryOp (wpAny_mono (h₁ c W s C) (fun a s₁ ⟨k₁, r₁⟩ =>
    wpAny_mono (hop _ s₁ [a] ((C.heap_mono k₁).selLive q) (C.heap_mono k₁).top ⟨a, [], rfl, r₁, rfl⟩) (fun _ _ ⟨k₃, r₃⟩ => ⟨k₁.trans k₃, r₃⟩) fun _ _ x => x) fun _ _ x => x)

theorem Op.mk2 {f : Value → Value → Sem Value} {d₁ d₂ d : D} (h : ∀ V s a b, Live V s.heap → GL K s.heap → Rd s.heap V d₁ a → Rd s.heap V d₂ b → wpAny (model prog w) A (f a b) (fun v s' => Ext s s' ∧ Rd s'.heap V d v) noE s) :
    Op prog w A K (f2 f) [d₁, d₂] d := fun V s _ L G ⟨a, _, e, r₁, b, _, e', r₂, e''⟩ => by
  cases e''; subst e'; subst e; exact h V s a b L G r₁ r₂
theorem Op.mk1 {f : Value → Sem Value} {d₁ d : D} (h : ∀ V s a, Live V s.heap → GL K s.heap → Rd s.heap V d₁ a → wpAny (model prog w) A (f a) (fun v s' => Ext s s' ∧ Rd s'.heap V d v) noE s) :
    Op prog w A K (f1 f) [d₁] d := fun V s _ L G ⟨a, _, e, r₁, e''⟩ => by
  cases e''; subst e; exact h V s a L G r₁
theorem OpN.mk2 {f : Value → Value → Sem Value} {d₁ d₂ : D} {l : List D} (h : ∀ V s a b, Live V s.heap → GL K s.heap → Rd s.heap V d₁ a → Rd s.heap V d₂ b → wpAny (model prog w) A (f a b) (fun v s' => Ext s s' ∧ ∃ a us, v = .ref a ∧ s.heap.get? a = none ∧ s'.heap.PlainList a us.toArray ∧ RdL s'.heap V l us ∧ RdL s'.heap [a] l us) noE s) :
    OpN prog w A K (f2 f) [d₁, d₂] l := fun V s _ L G ⟨a, _, e, r₁, b, _, e', r₂, e''⟩ => by
  cases e''; subst e'; subst e; exact h V s a b L G r₁ r₂

theorem op_add {a b : Int} : Op prog w A K (f2 (binaryOp .Add)) [.int a, .int b] (.int (a + b)) := Op.mk2 fun _ s _ _ _ _ ⟨t, e⟩ ⟨u, e'⟩ => by subst e; subst e'; exact PyProof.Rows.add_int ⟨.toks s _, _, rfl⟩
theorem op_sub {a b : Int} : Op prog w A K (f2 (binaryOp .Sub)) [.int a, .int b] (.int (a - b)) := Op.mk2 fun _ s _ _ _ _ ⟨t, e⟩ ⟨u, e'⟩ => by subst e; subst e'; exact PyProof.Rows.sub_int ⟨.toks s _, _, rfl⟩
theorem bits_small {a : Int} (h : a.natAbs < 2 ^ 64) : ¬ Builtin.Int.intBits a > shortFactorBits := by
  have : Builtin.Int.intBits a ≤ 64 := by
    unfold Builtin.Int.intBits
    split
    · omega
    · have : a.natAbs.log2 < 64 := by
        rcases Nat.eq_zero_or_pos a.natAbs with q | q
        · rw [q]; decide
        · exact (Nat.log2_lt (by omega)).mpr h
      omega
  unfold shortFactorBits; omega
theorem mulOk_left {a b : Int} (h : a.natAbs < 2 ^ 64) : IntMulOk a b := by
  unfold IntMulOk
  rw [show decide (Builtin.Int.intBits a > shortFactorBits) = false from decide_eq_false (bits_small h)]
  simp
theorem op_mul {a b : Int} (hz : a.natAbs < 2 ^ 64) : Op prog w A K (f2 (binaryOp .Mult)) [.int a, .int b] (.int (a * b)) := Op.mk2 fun _ s _ _ _ _ ⟨t, e⟩ ⟨u, e'⟩ => by
  subst e; subst e'; exact PyProof.Rows.mul_int ⟨.toks s _, _, rfl⟩ (mulOk_left hz)
theorem op_mod {a b : Int} (hb : 0 < b) : Op prog w A K (f2 (binaryOp .Mod)) [.int a, .int b] (.int (a % b)) := Op.mk2 fun _ s _ _ _ _ ⟨t, e⟩ ⟨u, e'⟩ => by
  subst e; subst e'
  exact PyProof.Rows.mod_int (by omega) ⟨.toks s _, _, by rw [Int.fmod_eq_emod_of_nonneg _ (by omega)]⟩
theorem op_fdiv {a b : Int} (hb : 0 < b) (hb2 : b < 2 ^ 30) : Op prog w A K (f2 (binaryOp .FloorDiv)) [.int a, .int b] (.int (a / b)) := Op.mk2 fun _ s _ _ _ _ ⟨t, e⟩ ⟨u, e'⟩ => by
  subst e; subst e'
  refine PyProof.Rows.floordiv_int (by omega) ⟨.toks s _, _, by rw [Int.fdiv_eq_ediv_of_nonneg _ (by omega)]⟩ (.inl ?_)
  unfold Builtin.divisionGoesByPylong
  simp only [Bool.and_eq_false_iff, decide_eq_false_iff_not]
  left
  split
  · omega
  · have : b.natAbs.log2 < 30 := (Nat.log2_lt (by omega)).mpr (by omega)
    omega
theorem op_pow {a b : Int} (hb : 0 ≤ b) (hb2 : b ≤ 1000) (ha : a.natAbs < 2 ^ 64) : Op prog w A K (f2 (binaryOp .Pow)) [.int a, .int b] (.int (a ^ b.toNat)) := Op.mk2 fun _ s _ _ _ _ ⟨t, e⟩ ⟨u, e'⟩ => by
  subst e; subst e'
  refine PyProof.Rows.pow_int hb ?_ ⟨.toks s _, _, rfl⟩
  have h1 := bits_small ha
  unfold shortFactorBits at h1
  have h2 : (Builtin.Int.intBits a : Int) ≤ 64 := by omega
  have h3 : (Builtin.Int.intBits a : Int) * b ≤ 64 * 1000 := Int.mul_le_mul h2 hb2 hb (by omega)
  omega
theorem str_app (a b : List Nat) : (⟨a.toArray⟩ : Str) ++ (⟨b.toArray⟩ : Str) = ⟨(a ++ b).toArray⟩ := by
  apply Str.ext'
  rw [Str.cps_append]
  simp
theorem op_cat {a b : List Nat} (hz : a.length + b.length ≤ 16777216) : Op prog w A K (f2 (binaryOp .Add)) [.str a, .str b] (.str (a ++ b)) := Op.mk2 fun _ s _ _ _ _ ⟨t, e⟩ ⟨u, e'⟩ => by
  subst e; subst e'; exact PySem.SB.add (fun t' k => ⟨.toks s _, _, by rw [str_app]⟩) (by have := hz; simp [Str.length, sizeLine]; omega)
theorem op_catB {a b : List UInt8} (hz : a.length + b.length ≤ 16777216) : Op prog w A K (f2 (binaryOp .Add)) [.bytes a, .bytes b] (.bytes (a ++ b)) := Op.mk2 fun _ s _ _ _ _ ⟨t, e⟩ ⟨u, e'⟩ => by
  subst e; subst e'; exact KBy.add_bytes (by have := hz; simp [sizeLine]; omega) fun t' k => ⟨.toks s _, t', by simp⟩
end
end Mine

namespace Mine

mutual
def toPy : D → PyData
  | .none => .none
  | .bool b => .bool b
  | .int i => .int i
  | .str x => .str ⟨x.toArray⟩
  | .bytes _ => .none
  | .tup l => .tuple (toPyL l)
  | .lst l => .list (toPyL l)
def toPyL : List D → List PyData
  | [] => []
  | d :: ds => toPy d :: toPyL ds
end
mutual
/-- ints, texts and what is built of them -/
def D.pl : D → Bool
  | .int _ => true
  | .str x => x.all (· < 0x110000)
  | .tup l | .lst l => plL l
  | _ => false
def plL : List D → Bool
  | [] => true
  | d :: ds => d.pl && plL ds
end
mutual
theorem Rd.reads {h : Heap} {W : List Addr} : ∀ {d : D} {v : Value}, d.pl = true → Rd h W d v → ∃ as, Reads h v (toPy d) as
  | .none, _, p, _ => nomatch p
  | .bool b, _, p, _ => nomatch p
  | .int i, _, _, ⟨t, e⟩ => by cases e; exact ⟨_, .int i t⟩
  | .str x, _, _, ⟨t, e⟩ => by cases e; exact ⟨_, .str _ t⟩
  | .bytes _, _, p, _ => nomatch p
  | .tup l, _, p, ⟨a, vs, e, _, ⟨n, hg⟩, hl⟩ => by
    subst e
    obtain ⟨as, r⟩ := RdL.reads (ds := l) p hl
    exact ⟨_, .tuple hg rfl rfl r⟩
  | .lst l, _, p, ⟨a, vs, e, _, ⟨n, hg⟩, hl⟩ => by
    subst e
    obtain ⟨as, r⟩ := RdL.reads (ds := l) p hl
    exact ⟨_, .list hg rfl rfl r⟩
theorem RdL.reads {h : Heap} {W : List Addr} : ∀ {ds : List D} {vs : List Value}, plL ds = true → RdL h W ds vs → ∃ as, ReadsAll h vs (toPyL ds) as
  | [], _, _, e => by cases e; exact ⟨_, .nil⟩
  | d :: ds, _, p, ⟨v, vs', e, x, y⟩ => by
    subst e
    have p' := Bool.and_eq_true_iff.mp p
    obtain ⟨as, r⟩ := Rd.reads p'.1 x
    obtain ⟨bs, r'⟩ := RdL.reads p'.2 y
    exact ⟨_, .cons r r'⟩
end

mutual
def eqD : D → D → Bool
  | .int a, .int b => a == b
  | .str a, .str b => a == b
  | .tup a, .tup b => eqL a b
  | .lst a, .lst b => eqL a b
  | _, _ => false
def eqL : List D → List D → Bool
  | [], [] => true
  | a :: as, b :: bs => eqD a b && eqL as bs
  | _, _ => false
end
theorem str_beq (a b : List Nat) : ((⟨a.toArray⟩ : Str) == ⟨b.toArray⟩) = (a == b) := by
  rw [Bool.eq_iff_iff, beq_iff_eq, beq_iff_eq]
  constructor
  · intro h; have := congrArg (fun x : Str => x.cps.toList) h; simpa using this
  · intro h; rw [h]
mutual
theorem eqv_eq : ∀ (a b : D), a.pl = true → b.pl = true → PyData.eqv (toPy a) (toPy b) = eqD a b
  | .int i, .int j, _, _ => by simp [toPy, PyData.eqv, eqD]
  | .str x, .str y, _, _ => by simp only [toPy, PyData.eqv, eqD]; exact str_beq x y
  | .tup x, .tup y, p, q => by simp only [toPy, PyData.eqv, eqD]; exact eqvL_eq x y p q
  | .lst x, .lst y, p, q => by simp only [toPy, PyData.eqv, eqD]; exact eqvL_eq x y p q
  | .int _, .str _, _, _ => by simp [toPy, PyData.eqv, eqD]
  | .int _, .tup _, _, _ => by simp [toPy, PyData.eqv, eqD]
  | .int _, .lst _, _, _ => by simp [toPy, PyData.eqv, eqD]
  | .str _, .int _, _, _ => by simp [toPy, PyData.eqv, eqD]
  | .str _, .tup _, _, _ => by simp [toPy, PyData.eqv, eqD]
  | .str _, .lst _, _, _ => by simp [toPy, PyData.eqv, eqD]
  | .tup _, .int _, _, _ => by simp [toPy, PyData.eqv, eqD]
  | .tup _, .str _, _, _ => by simp [toPy, PyData.eqv, eqD]
  | .tup _, .lst _, _, _ => by simp [toPy, PyData.eqv, eqD]
  | .lst _, .int _, _, _ => by simp [toPy, PyData.eqv, eqD]
  | .lst _, .str _, _, _ => by simp [toPy, PyData.eqv, eqD]
  | .lst _, .tup _, _, _ => by simp [toPy, PyData.eqv, eqD]
  | .none, _, p, _ => nomatch p
  | .bool _, _, p, _ => nomatch p
  | .bytes _, _, p, _ => nomatch p
  | .int _, .none, _, q => nomatch q
  | .int _, .bool _, _, q => nomatch q
  | .int _, .bytes _, _, q => nomatch q
  | .str _, .none, _, q => nomatch q
  | .str _, .bool _, _, q => nomatch q
  | .str _, .bytes _, _, q => nomatch q
  | .tup _, .none, _, q => nomatch q
  | .tup _, .bool _, _, q => nomatch q
  | .tup _, .bytes _, _, q => nomatch q
  | .lst _, .none, _, q => nomatch q
  | .lst _, .bool _, _, q => nomatch q
  | .lst _, .bytes _, _, q => nomatch q
theorem eqvL_eq : ∀ (a b : List D), plL a = true → plL b = true → PyData.eqvAll (toPyL a) (toPyL b) = eqL a b
  | [], [], _, _ => by simp [toPyL, PyData.eqvAll, eqL]
  | a :: as, b :: bs, p, q => by
    simp only [toPyL, PyData.eqvAll, eqL]
    rw [eqv_eq a b (Bool.and_eq_true_iff.mp p).1 (Bool.and_eq_true_iff.mp q).1, eqvL_eq as bs (Bool.and_eq_true_iff.mp p).2 (Bool.and_eq_true_iff.mp q).2]
  | [], _ :: _, _, _ => by simp [toPyL, PyData.eqvAll, eqL]
  | _ :: _, [], _, _ => by simp [toPyL, PyData.eqvAll, eqL]
end
mutual
theorem canLay_pl : ∀ (a : D), a.pl = true → (toPy a).canLay0 = true
  | .int i, _ => by simp [toPy, PyData.canLay0]
  | .str i, p => by simpa [toPy, PyData.canLay0, PyData.strOk, D.pl] using p
  | .tup l, p => by simp only [toPy, PyData.canLay0]; exact canLayL_pl l p
  | .lst l, p => by simp only [toPy, PyData.canLay0]; exact canLayL_pl l p
  | .none, p => nomatch p
  | .bool _, p => nomatch p
  | .bytes _, p => nomatch p
theorem canLayL_pl : ∀ (a : List D), plL a = true → PyData.canLayAll0 (toPyL a) = true
  | [], _ => by simp [toPyL, PyData.canLayAll0]
  | a :: as, p => by
    simp only [toPyL, PyData.canLayAll0]
    rw [canLay_pl a (Bool.and_eq_true_iff.mp p).1, canLayL_pl as (Bool.and_eq_true_iff.mp p).2]; rfl
end
mutual
/-- nested at most n deep -/
def D.low : Nat → D → Bool
  | 0, .tup _ => false
  | 0, .lst _ => false
  | n + 1, .tup l => lowL n l
  | n + 1, .lst l => lowL n l
  | _, _ => true
def lowL : Nat → List D → Bool
  | _, [] => true
  | n, d :: ds => d.low n && lowL n ds
end
mutual
theorem depth_low : ∀ (n : Nat) (d : D), d.low n = true → (toPy d).depth ≤ n
  | n, .int _, _ => by simp [toPy, PyData.depth]
  | n, .str _, _ => by simp [toPy, PyData.depth]
  | n, .none, _ => by simp [toPy, PyData.depth]
  | n, .bool _, _ => by simp [toPy, PyData.depth]
  | n, .bytes _, _ => by simp [toPy, PyData.depth]
  | n + 1, .tup l, p => by simp only [toPy, PyData.depth]; have := depthL_low n l p; omega
  | n + 1, .lst l, p => by simp only [toPy, PyData.depth]; have := depthL_low n l p; omega
  | 0, .tup _, p => nomatch p
  | 0, .lst _, p => nomatch p
theorem depthL_low : ∀ (n : Nat) (l : List D), lowL n l = true → PyData.depthAll (toPyL l) ≤ n
  | _, [], _ => by simp [toPyL, PyData.depthAll]
  | n, d :: ds, p => by
    simp only [toPyL, PyData.depthAll]
    have h1 := depth_low n d (Bool.and_eq_true_iff.mp p).1
    have h2 := depthL_low n ds (Bool.and_eq_true_iff.mp p).2
    omega
end

section
variable {prog : Program} {w : World} {A : Around} {K : Frag} {env : Env} {ρ : Rho}

/-! ### comparisons -/
theorem op_eq {n : Nat} {a b : D} (hA : Aok A n) (pa : a.pl = true) (pb : b.pl = true) (la : a.low 8 = true) : Op prog w A K (f2 (compareOp .Eq)) [a, b] (.bool (eqD a b)) := Op.mk2 fun _ s _ _ _ _ r₁ r₂ => by
  obtain ⟨as, ra⟩ := r₁.reads pa
  obtain ⟨bs, rb⟩ := r₂.reads pb
  exact SeqAt.compareEq_reads ra rb (canLay_pl a pa) (canLay_pl b pb) (by have := hA.u; have := depth_low 8 a la; omega) ⟨.refl s, by rw [eqv_eq a b pa pb]; rfl⟩
theorem op_ne {n : Nat} {a b : D} (hA : Aok A n) (pa : a.pl = true) (pb : b.pl = true) (la : a.low 8 = true) : Op prog w A K (f2 (compareOp .NotEq)) [a, b] (.bool (!eqD a b)) := Op.mk2 fun _ s _ _ _ _ r₁ r₂ => by
  obtain ⟨as, ra⟩ := r₁.reads pa
  obtain ⟨bs, rb⟩ := r₂.reads pb
  exact SeqAt.compareNe_reads ra rb (canLay_pl a pa) (canLay_pl b pb) (by have := hA.u; have := depth_low 8 a la; omega) ⟨.refl s, by rw [eqv_eq a b pa pb]; rfl⟩
theorem op_lt {a b : Int} : Op prog w A K (f2 (compareOp .Lt)) [.int a, .int b] (.bool (decide (a < b))) := Op.mk2 fun _ s _ _ _ _ ⟨t, e⟩ ⟨u, e'⟩ => by
  subst e; subst e'; exact wpAny_lt_int ⟨.refl s, rfl⟩
theorem op_gt {a b : Int} : Op prog w A K (f2 (compareOp .Gt)) [.int a, .int b] (.bool (decide (b < a))) := Op.mk2 fun _ s _ _ _ _ ⟨t, e⟩ ⟨u, e'⟩ => by
  subst e; subst e'; exact PyProof.Rows.gt_int ⟨.refl s, rfl⟩
theorem op_ge {a b : Int} : Op prog w A K (f2 (compareOp .GtE)) [.int a, .int b] (.bool (decide (b ≤ a))) := Op.mk2 fun _ s _ _ _ _ ⟨t, e⟩ ⟨u, e'⟩ => by
  subst e; subst e'; exact PyProof.Rows.ge_int ⟨.refl s, rfl⟩
theorem op_ltS {a b : List Nat} : Op prog w A K (f2 (compareOp .Lt)) [.str a, .str b] (.bool (decide (a < b))) := Op.mk2 fun _ s _ _ _ _ ⟨t, e⟩ ⟨u, e'⟩ => by
  subst e; subst e'; exact PyProof.Rows.lt_str ⟨.refl s, by simp; rfl⟩
theorem op_gtS {a b : List Nat} : Op prog w A K (f2 (compareOp .Gt)) [.str a, .str b] (.bool (decide (b < a))) := Op.mk2 fun _ s _ _ _ _ ⟨t, e⟩ ⟨u, e'⟩ => by
  subst e; subst e'; exact PySem.P.gt_str ⟨.refl s, by simp; rfl⟩
theorem op_is {a b : Bool} : Op prog w A K (f2 (compareOp .Is)) [.bool a, .bool b] (.bool (a == b)) := Op.mk2 fun _ s x y _ _ (e : x = _) (e' : y = _) => by
  subst e; subst e'; exact wpAny_is_plain (by rfl) ⟨.refl s, by cases a <;> cases b <;> rfl⟩
theorem op_isnot {a b : Bool} : Op prog w A K (f2 (compareOp .IsNot)) [.bool a, .bool b] (.bool (!(a == b))) := Op.mk2 fun _ s x y _ _ (e : x = _) (e' : y = _) => by
  subst e; subst e'; exact wpAny_isNot_plain (by rfl) ⟨.refl s, by cases a <;> cases b <;> rfl⟩
theorem op_in {n : Nat} {d : D} {l : List D} (hA : Aok A n) (pa : d.pl = true) (pb : plL l = true) (la : d.low 8 = true) : Op prog w A K (f2 (compareOp .In)) [d, .lst l] (.bool (l.any fun y => eqD y d)) := Op.mk2 fun _ s _ _ _ _ r₁ r₂ => by
  obtain ⟨as, ra⟩ := r₁.reads pa
  obtain ⟨bs, rb⟩ := r₂.reads (d := .lst l) pb
  refine SeqAt.in_list_reads rb ra (canLayL_pl l pb) (canLay_pl d pa) (by have := hA.u; have := depth_low 8 d la; omega) ⟨.refl s, ?_⟩
  show _ = Value.bool _
  congr 1
  clear rb r₂
  induction l with
  | nil => rfl
  | cons x l ih =>
    simp only [toPyL, List.any_cons]
    rw [eqv_eq x d (Bool.and_eq_true_iff.mp pb).1 pa, ih (Bool.and_eq_true_iff.mp pb).2]
theorem op_notin {n : Nat} {d : D} {l : List D} (hA : Aok A n) (pa : d.pl = true) (pb : plL l = true) (la : d.low 8 = true) : Op prog w A K (f2 (compareOp .NotIn)) [d, .lst l] (.bool (!(l.any fun y => eqD y d))) := Op.mk2 fun _ s _ _ _ _ r₁ r₂ => by
  obtain ⟨as, ra⟩ := r₁.reads pa
  obtain ⟨bs, rb⟩ := r₂.reads (d := .lst l) pb
  refine SeqAt.notIn_list_reads rb ra (canLayL_pl l pb) (canLay_pl d pa) (by have := hA.u; have := depth_low 8 d la; omega) ⟨.refl s, ?_⟩
  show _ = Value.bool _
  congr 2
  clear rb r₂
  induction l with
  | nil => rfl
  | cons x l ih =>
    simp only [toPyL, List.any_cons]
    rw [eqv_eq x d (Bool.and_eq_true_iff.mp pb).1 pa, ih (Bool.and_eq_true_iff.mp pb).2]
theorem op_notinS {x y : List Nat} : Op prog w A K (f2 (compareOp .NotIn)) [.str y, .str x] (.bool (!Txt.contains ⟨x.toArray⟩ ⟨y.toArray⟩)) := Op.mk2 fun _ s _ _ _ _ ⟨t, e⟩ ⟨u, e'⟩ => by
  subst e; subst e'; exact SB.notContains ⟨.refl s, rfl⟩

theorem op_eqS {a b : List Nat} : Op prog w A K (f2 (compareOp .Eq)) [.str a, .str b] (.bool (a == b)) := Op.mk2 fun _ s _ _ _ _ ⟨t, e⟩ ⟨u, e'⟩ => by
  subst e; subst e'; exact PySem.P.eq_str ⟨.refl s, by simp; rfl⟩
theorem op_neS {a b : List Nat} : Op prog w A K (f2 (compareOp .NotEq)) [.str a, .str b] (.bool (!(a == b))) := Op.mk2 fun _ s _ _ _ _ ⟨t, e⟩ ⟨u, e'⟩ => by
  subst e; subst e'; exact PySem.P.ne_str ⟨.refl s, by simp [bne]; rfl⟩
theorem op_eqI {a b : Int} : Op prog w A K (f2 (compareOp .Eq)) [.int a, .int b] (.bool (a == b)) := Op.mk2 fun _ s _ _ _ _ ⟨t, e⟩ ⟨u, e'⟩ => by
  subst e; subst e'; exact PyProof.Rows.eq_int ⟨.refl s, rfl⟩
theorem op_neI {a b : Int} : Op prog w A K (f2 (compareOp .NotEq)) [.int a, .int b] (.bool (a != b)) := Op.mk2 fun _ s _ _ _ _ ⟨t, e⟩ ⟨u, e'⟩ => by
  subst e; subst e'; exact PyProof.Rows.ne_int ⟨.refl s, rfl⟩

/-! ### tests -/
theorem evC_cmp {l r : Expr} {op : CmpOp} {pos : Pos} {d₁ d₂ : D} {b : Bool} (h₁ : Ev prog w A K env ρ false l d₁) (h₂ : Ev prog w A K env ρ false r d₂) (hop : Op prog w A K (f2 (compareOp op)) [d₁, d₂] (.bool b))
    (hm : ∀ t, markedBehindIn op r t = t := by intro _; rfl) : EvC prog w A K env ρ (.Compare l [op] [r] pos) b := fun c W s C => by
  rw [isTrue_Compare1, hm]
  refine wpAny_bind (wpAny_mono (h₁ c W s C) (fun a s₁ ⟨k₁, r₁⟩ => wpAny_bind (wpAny_holding (wpAny_mono (h₂ c W s₁ (C.heap_mono k₁)) (fun b' s₂ ⟨k₂, r₂⟩ => ?_) fun _ _ x => x))) fun _ _ x => x)
  have C₂ := (C.heap_mono k₁).heap_mono k₂
  refine wpAny_bind (wpAny_standAt (wpAny_bind (wpAny_operating (wpAny_mono (hop _ s₂ [a, b'] (C₂.selLive false) C₂.top ⟨a, [b'], rfl, r₁.keeps k₂, b', [], rfl, r₂, rfl⟩) (fun v s₃ ⟨k₃, r₃⟩ => ?_) fun _ _ x => x))))
  have e : v = .bool b := r₃
  subst e
  exact wpAny_holding (wpAny_truthy_bool ⟨k₁.trans (k₂.trans k₃), rfl⟩)
theorem ev_cmp {q : Bool} {l r : Expr} {op : CmpOp} {pos : Pos} {d₁ d₂ : D} {b : Bool} (h₁ : Ev prog w A K env ρ false l d₁) (h₂ : Ev prog w A K env ρ false r d₂) (hop : Op prog w A K (f2 (compareOp op)) [d₁, d₂] (.bool b))
    (hm : ∀ t, markedBehindIn op r t = t := by intro _; rfl) : Ev prog w A K env ρ q (.Compare l [op] [r] pos) (.bool b) := fun c W s C => by
  show wpAny _ _ (do let a ← eval l env; let b ← holding [a] (markedBehindIn op r (eval r env)); standAt pos; operate [a, b] (compareOp op a b)) _ _ _
  rw [hm]
  refine wpAny_bind (wpAny_mono (h₁ c W s C) (fun a s₁ ⟨k₁, r₁⟩ => wpAny_bind (wpAny_holding (wpAny_mono (h₂ c W s₁ (C.heap_mono k₁)) (fun b' s₂ ⟨k₂, r₂⟩ => ?_) fun _ _ x => x))) fun _ _ x => x)
  have C₂ := (C.heap_mono k₁).heap_mono k₂
  exact wpAny_bind (wpAny_standAt (wpAny_operating (wpAny_mono (hop _ s₂ [a, b'] (C₂.selLive false) C₂.top ⟨a, [b'], rfl, r₁.keeps k₂, b', [], rfl, r₂, rfl⟩) (fun v s₃ ⟨k₃, r₃⟩ => ⟨k₁.trans (k₂.trans k₃), r₃⟩) fun _ _ x => x)))
theorem evC_not {e : Expr} {pos : Pos} {b : Bool} (h : EvC prog w A K env ρ e b) : EvC prog w A K env ρ (.UnaryOp .Not e pos) (!b) := fun c W s C =>
  wpAny_isTrue_Not (wpAny_mono (h c W s C) (fun _ _ ⟨k, e⟩ => ⟨k, by rw [e]⟩) fun _ _ x => x)

/-- the truth of a value -/
def tr : D → Bool
  | .none => false
  | .bool b => b
  | .int i => i != 0
  | .str x => !x.isEmpty
  | .bytes x => !x.isEmpty
  | .tup l => !l.isEmpty
  | .lst l => !l.isEmpty
theorem evC_val {e : Expr} {d : D} (h : Ev prog w A K env ρ false e d) (hd : (match d with | .bool _ | .int _ | .none => true | .str x => decide (x.length ≤ 16777216) | .lst x => decide (x.length ≤ 16777216) | _ => false) = true)
    (he : isTrue e env (eval e env) = (do let v ← eval e env; standAt e.pos; holding [v] (truthy v)) := by rfl) : EvC prog w A K env ρ e (tr d) := fun c W s C => by
  refine isTrue_plain (wpAny_mono (h c W s C) (fun v s₁ ⟨k, r⟩ => ?_) fun _ _ x => x) he
  cases d with
  | none => cases r; exact truthy_none ⟨k, rfl⟩
  | bool b => cases r; exact wpAny_truthy_bool ⟨k, rfl⟩
  | int i => obtain ⟨t, rfl⟩ := r; exact PyProof.Rows.truthy_int ⟨k, rfl⟩
  | str x =>
    obtain ⟨t, rfl⟩ := r
    have hx : x.length ≤ 16777216 := of_decide_eq_true hd
    refine PySem.P.truthy_str (by simp [Str.length]; omega) ⟨k.trans (.toks _ _), ?_⟩
    cases x <;> simp [Str.length, tr]; try omega
  | lst l =>
    obtain ⟨a, vs, rfl, _, hp, hl⟩ := r
    have hx : l.length ≤ 16777216 := of_decide_eq_true hd
    have := hl.length
    refine wpAny_truthy_list hp.isList (by simp; omega) ⟨k.trans (.toks _ _), ?_⟩
    cases l <;> cases vs <;> simp_all [tr]
  | bytes _ => cases hd
  | tup _ => cases hd

theorem evC_and {x y : Expr} {pos : Pos} {a b : Bool} (h₁ : EvC prog w A K env ρ x a) (h₂ : a = true → EvC prog w A K env ρ y b) : EvC prog w A K env ρ (.BoolOp .And [x, y] pos) (a && b) := fun c W s C => by
  refine wpAny_isTrue_BoolOp ?_
  show wpAny _ _ (do
    match BoolOp.And, ← isTrue x env (eval x env) with
    | .And, false => pure false
    | .Or, true => pure true
    | _, _ => allTrue .And [y] env) _ _ _
  refine wpAny_bind (wpAny_mono (h₁ c W s C) (fun b' s₁ ⟨k, e⟩ => ?_) fun _ _ x => x)
  subst e
  cases b' with
  | false => exact wpAny_pure ⟨k, rfl⟩
  | true =>
    show wpAny _ _ (do
      match BoolOp.And, ← isTrue y env (eval y env) with
      | .And, false => pure false
      | .Or, true => pure true
      | _, _ => pure true) _ _ _
    refine wpAny_bind (wpAny_mono (h₂ rfl c W s₁ (C.heap_mono k)) (fun b'' s₂ ⟨k', e⟩ => ?_) fun _ _ x => x)
    subst e
    cases b'' <;> exact wpAny_pure ⟨k.trans k', rfl⟩
/-! ### items -/
def getT : D → Option (String × String)
  | .str _ => some ("str", "str.__getitem__")
  | .lst _ => some ("list", "list.__getitem__")
  | .tup _ => some ("tuple", "tuple.__getitem__")
  | .bytes _ => some ("bytes", "bytes.__getitem__")
  | _ => none
theorem getT_spec {d : D} {p : String × String} (e : getT d = some p) {s : Shared} {V : List Addr} {v : Value} (r : Rd s.heap V d v) : s.TypeIs v p.1 ∧ typeLookup (.type p.1) "__getitem__" = pure (some (.builtin p.2)) := by
  cases d <;> cases e
  · obtain ⟨t, rfl⟩ := r; exact ⟨rfl, F.slot_str_getitem.lookup⟩
  · obtain ⟨t, rfl⟩ := r; exact ⟨rfl, FB.slot_bytes_getitem.lookup⟩
  · obtain ⟨a, vs, rfl, _, ⟨n, e⟩, _⟩ := r; exact ⟨⟨_, e, rfl⟩, slot_tuple_getitem.lookup⟩
  · obtain ⟨a, vs, rfl, _, ⟨n, e⟩, _⟩ := r; exact ⟨⟨_, e, rfl⟩, slot_list_getitem.lookup⟩

theorem ev_index {q : Bool} {value slice : Expr} {pos : Pos} {d₁ d : D} {i : Int} (h₁ : Ev prog w A K env ρ q value d₁) (h₂ : Ev prog w A K env ρ q slice (.int i)) (hT : (getT d₁).isSome = true)
    (hop : Op prog w A K (f2 getItem) [d₁, .int i] d) (hs : ∀ o i, subscripted slice false o i = operate [o, i] (getItem o i) := by intro _ _; rfl) : Ev prog w A K env ρ q (.Subscript value slice pos) d := fun c W s C => by
  obtain ⟨p, hp⟩ := Option.isSome_iff_exists.mp hT
  refine Subscript_ (wpAny_mono (h₁ c W s C) (fun o s₁ ⟨k₁, r₁⟩ => wpAny_mono (h₂ c W s₁ (C.heap_mono k₁)) (fun v s₂ ⟨k₂, r₂⟩ => ?_) fun _ _ x => x) fun _ _ x => x)
  have C₂ := (C.heap_mono k₁).heap_mono k₂
  have g := getT_spec hp (r₁.keeps k₂)
  exact tail_any g.1 g.2 (wpAny_mono (hop _ s₂ [o, v] (C₂.selLive q) C₂.top ⟨o, [v], rfl, r₁.keeps k₂, v, [], rfl, r₂, rfl⟩) (fun _ _ ⟨k₃, r₃⟩ => ⟨k₁.trans (k₂.trans k₃), r₃⟩) fun _ _ x => x) (hs o v)

theorem op_itemL {l : List D} {i : Int} {d : D} (h0 : 0 ≤ i) (h1 : i < 2 ^ 63) (hd : l[i.toNat]? = some d) : Op prog w A K (f2 getItem) [.lst l, .int i] d := Op.mk2 fun V s _ _ _ _ ⟨a, vs, e, _, hp, hl⟩ ⟨t, e'⟩ => by
  subst e; subst e'
  obtain ⟨v, hv, r⟩ := hl.get hd
  exact wpAny_getItem_list hp.isList h0 h1 (by simpa using hv) ⟨.refl s, r⟩
theorem op_itemLast {l : List D} {d : D} (hd : l.getLast? = some d) (hz : l.length ≤ 1000000) : Op prog w A K (f2 getItem) [.lst l, .int (-1)] d := Op.mk2 fun V s _ _ _ _ ⟨a, vs, e, _, hp, hl⟩ ⟨t, e'⟩ => by
  subst e; subst e'
  have hlen := hl.length
  have hne : 0 < l.length := by cases l <;> simp_all
  rw [List.getLast?_eq_getElem?] at hd
  obtain ⟨v, hv, r⟩ := hl.get hd
  refine wpAny_getItem_list_neg hp.isList (by decide) (by simp; omega) (by decide) (x := v) ?_ ⟨.refl s, r⟩
  have : ((-1 : Int) + (vs.toArray.size : Int)).toNat = l.length - 1 := by simp; omega
  rw [this]; simpa using hv
theorem op_itemT {l : List D} {i : Int} {d : D} (h0 : 0 ≤ i) (h1 : i < 2 ^ 63) (hd : l[i.toNat]? = some d) : Op prog w A K (f2 getItem) [.tup l, .int i] d := Op.mk2 fun V s _ _ _ _ ⟨a, vs, e, _, hp, hl⟩ ⟨t, e'⟩ => by
  subst e; subst e'
  obtain ⟨v, hv, r⟩ := hl.get hd
  have hlt : i.toNat < vs.length := by
    rcases Nat.lt_or_ge i.toNat vs.length with q | q
    · exact q
    · rw [List.getElem?_eq_none q] at hv; cases hv
  refine PyProof.Rows.getItem_tuple hp.isTup (by omega) (by omega) (j := i.toNat) ?_ (by simpa using hv) ⟨.refl s, r⟩
  unfold seqIndex?
  simp
  omega
theorem op_itemS {x : List Nat} {i : Int} {c : Nat} (h0 : 0 ≤ i) (h1 : i < 2 ^ 62) (hd : x[i.toNat]? = some c) : Op prog w A K (f2 getItem) [.str x, .int i] (.str [c]) := Op.mk2 fun V s _ _ _ _ ⟨t, e⟩ ⟨u, e'⟩ => by
  subst e; subst e'
  have hlt : i.toNat < x.length := by
    rcases Nat.lt_or_ge i.toNat x.length with q | q
    · exact q
    · rw [List.getElem?_eq_none q] at hd; cases hd
  refine PyProof.Rows.getItem_str (c := c) (by simp; omega) ?_ ⟨.toks s _, _, rfl⟩
  have : seqIndex? i (Str.length ⟨x.toArray⟩) = some i.toNat := by
    unfold seqIndex?
    simp [Str.length]
    omega
  rw [this]
  simpa using hd

/-! ### cuts -/
def EvP (prog : Program) (w : World) (A : Around) (K : Frag) (env : Env) (ρ : Rho) (x : Option Expr) (k : Option Int) : Prop := ∀ c W s, Core K env c W ρ s → wpAny (model prog w) A (evalPart x env) (fun v s' => Ext s s' ∧ IsPart v k) noE s
theorem evP_none : EvP prog w A K env ρ none none := fun _ _ s _ => wpAny_pure ⟨.refl s, .none⟩
theorem evP_some {e : Expr} {i : Int} (h : Ev prog w A K env ρ false e (.int i)) : EvP prog w A K env ρ (some e) (some i) := fun c W s C =>
  wpAny_mono (h c W s C) (fun v s' ⟨k, t, e⟩ => ⟨k, by subst e; exact .int _ _⟩) fun _ _ x => x
def Cut (prog : Program) (w : World) (A : Around) (lo hi st : Option Int) (d₁ d : D) : Prop := ∀ V s o sl vl vu vst, Live V s.heap → Rd s.heap V d₁ o → s.heap.IsSliceOf sl vl vu vst → IsPart vl lo → IsPart vu hi → IsPart vst st →
  wpAny (model prog w) A (getItem o (.ref sl)) (fun v s' => Ext s s' ∧ Rd s'.heap V d v) noE s
theorem ev_cut {q : Bool} {value : Expr} {lower upper step : Option Expr} {p pos : Pos} {lo hi st : Option Int} {d₁ d : D} (h₁ : Ev prog w A K env ρ q value d₁) (hl : EvP prog w A K env ρ lower lo) (hu : EvP prog w A K env ρ upper hi) (hst : EvP prog w A K env ρ step st)
    (hT : (getT d₁).isSome = true) (hc : Cut prog w A lo hi st d₁ d)
    (hs : ∀ o i, ∃ ops, subscripted (.Slice lower upper step p) false o i = operate ops (getItem o i) := by intro o i; exact ⟨_, rfl⟩) : Ev prog w A K env ρ q (.Subscript value (.Slice lower upper step p) pos) d := fun c W s C => by
  obtain ⟨p, hp⟩ := Option.isSome_iff_exists.mp hT
  refine Subscript_ (wpAny_mono (h₁ c W s C) (fun o s₁ ⟨k₁, r₁⟩ => wpAny_Slice (wpAny_mono (hl c W s₁ (C.heap_mono k₁)) (fun vl s₂ ⟨k₂, pl⟩ => wpAny_mono (hu c W s₂ ((C.heap_mono k₁).heap_mono k₂)) (fun vu s₃ ⟨k₃, pu⟩ =>
    wpAny_mono (hst c W s₃ (((C.heap_mono k₁).heap_mono k₂).heap_mono k₃)) (fun vst s₄ ⟨k₄, pst⟩ => ?_) fun _ _ x => x) fun _ _ x => x) fun _ _ x => x)) fun _ _ x => x)
  have k : Ext s₁ { s₄ with heap := s₄.heap.push { cls := .type "slice", data := .fields #[vl, vu, vst] } } := k₂.trans (k₃.trans (k₄.trans (.push _ _)))
  have C₅ := (C.heap_mono k₁).heap_mono k
  have g := getT_spec hp (r₁.keeps k)
  obtain ⟨ops, ho⟩ := hs o (.ref s₄.heap.objs.size)
  exact tail_any g.1 g.2 (wpAny_mono (hc _ _ o _ vl vu vst (C₅.selLive q) (r₁.keeps k) (Heap.IsSliceOf.new ..) pl pu pst) (fun _ _ ⟨k', r'⟩ => ⟨k₁.trans (k.trans k'), r'⟩) fun _ _ x => x) ho

theorem cut_list {l l' : List D} {lo hi st : Option Int} (h0 : st ≠ some 0) (hz : l.length ≤ 1000000) (h : ∀ V hh (vs : List Value), RdL hh V l vs → RdL hh V l' (slicePick vs.toArray lo hi st).toList) : Cut prog w A lo hi st (.lst l) (.lst l') := by
  intro V s o sl vl vu vst L ⟨a, vs, e, ha, hp, hl⟩ hs pl pu pst
  subst e
  have hlen := hl.length
  refine wpAny_getItem_list_slice hp.isList hs pl pu pst h0 ⟨.push s _, s.heap.objs.size, (slicePick vs.toArray lo hi st).toList, rfl, L.notin (get_size _), ⟨0, Heap.get?_push_size _ rfl⟩, (h V _ vs hl).keeps (.push s _)⟩ ?_
  simp [sizeLine]; omega
theorem cut_upto {l : List D} {b : Int} (h0 : 0 ≤ b) (hz : l.length ≤ 1000000) : Cut prog w A none (some b) none (.lst l) (.lst (l.take b.toNat)) := cut_list (by simp) hz fun V hh vs r => by
  have := slicePick_upto' vs.toArray b.toNat
  rw [Int.toNat_of_nonneg h0] at this
  rw [this]; simpa using r.take b.toNat
theorem cut_from {l : List D} {a : Int} (h0 : 0 ≤ a) (hz : l.length ≤ 1000000) : Cut prog w A (some a) none none (.lst l) (.lst (l.drop a.toNat)) := cut_list (by simp) hz fun V hh vs r => by
  have := slicePick_from' vs.toArray a.toNat
  rw [Int.toNat_of_nonneg h0] at this
  rw [this]; simpa using r.drop a.toNat
theorem cut_run {l : List D} {a b : Int} (h0 : 0 ≤ a) (h1 : a ≤ b) (h2 : b ≤ l.length) (hz : l.length ≤ 1000000) : Cut prog w A (some a) (some b) none (.lst l) (.lst ((l.drop a.toNat).take (b.toNat - a.toNat))) := cut_list (by simp) hz fun V hh vs r => by
  have hlen := r.length
  have := slicePick_run vs.toArray a.toNat b.toNat (by simp; omega) (by omega)
  rw [Int.toNat_of_nonneg h0, Int.toNat_of_nonneg (by omega)] at this
  rw [this]; simpa using (r.drop a.toNat).take (b.toNat - a.toNat)
theorem cut_rev {l : List D} (hz : l.length ≤ 1000000) : Cut prog w A none none (some (-1)) (.lst l) (.lst l.reverse) := cut_list (by simp) hz fun V hh vs r => by
  rw [krv_pick]; simpa using r.reverse
theorem cut_bytes {b : List UInt8} {i : Int} (h0 : 0 ≤ i) (h1 : i < b.length) (hz : b.length ≤ 1000000) : Cut prog w A (some i) (some (i + 1)) none (.bytes b) (.bytes ((b.drop i.toNat).take 1)) := by
  intro V s o sl vl vu vst L ⟨t, e⟩ hs pl pu pst
  subst e
  cases pst
  have e : (KBy.picked b.toArray (some i) (some (i + 1))) = ((b.drop i.toNat).take 1).toArray := by
    rw [KBc.picked_eq]
    have e1 : clipAt b.toArray.size i = i.toNat := by have := clipAt_nat b.toArray.size i.toNat; rw [Int.toNat_of_nonneg h0] at this; rw [this]; simp; omega
    have e2 : clipAt b.toArray.size (i + 1) = i.toNat + 1 := by have := clipAt_nat b.toArray.size (i.toNat + 1); rw [show ((i.toNat + 1 : Nat) : Int) = i + 1 by omega] at this; rw [this]; simp; omega
    simp only [Option.elim, e1, e2]
    simp
  refine getItem_meets (typeIs_bytes _ _ _) (by decide) FB.slot_bytes_getitem FB.entry_bytes_getitem (FB.args_bytes_getitem_2 _ _) (KBc.meets_slice2 b.toArray t sl pl pu) ⟨hs, ?_, fun t' k => ⟨.toks s _, t', by rw [e]⟩⟩
  exact Nat.le_trans (KBc.size_picked_le _ _ _) (by simp [sizeLine]; omega)
end
end Mine

namespace Mine
section
variable {prog : Program} {w : World} {A : Around} {K : Frag} {env : Env} {ρ : Rho}

abbrev cb (id : String) : List Value → Sem Value := fun vs => call (.builtin id) vs
abbrev ct (T : String) : List Value → Sem Value := fun vs => call (.type T) vs

theorem Op.call1 {f : Value} {d₁ d : D} (h : ∀ V s a, Live V s.heap → GL K s.heap → Rd s.heap V d₁ a → wpAny (model prog w) A (call f [a]) (fun v s' => Ext s s' ∧ Rd s'.heap V d v) noE s) :
    Op prog w A K (fun vs => call f vs) [d₁] d := fun V s _ L G ⟨a, _, e, r₁, e''⟩ => by
  cases e''; subst e; exact h V s a L G r₁
theorem Op.call2 {f : Value} {d₁ d₂ d : D} (h : ∀ V s a b, Live V s.heap → GL K s.heap → Rd s.heap V d₁ a → Rd s.heap V d₂ b → wpAny (model prog w) A (call f [a, b]) (fun v s' => Ext s s' ∧ Rd s'.heap V d v) noE s) :
    Op prog w A K (fun vs => call f vs) [d₁, d₂] d := fun V s _ L G ⟨a, _, e, r₁, b, _, e', r₂, e''⟩ => by
  cases e''; subst e'; subst e; exact h V s a b L G r₁ r₂
theorem Op.call4 {f : Value} {d₁ d₂ d₃ d₄ d : D} (h : ∀ V s a b c x, Live V s.heap → GL K s.heap → Rd s.heap V d₁ a → Rd s.heap V d₂ b → Rd s.heap V d₃ c → Rd s.heap V d₄ x → wpAny (model prog w) A (call f [a, b, c, x]) (fun v s' => Ext s s' ∧ Rd s'.heap V d v) noE s) :
    Op prog w A K (fun vs => call f vs) [d₁, d₂, d₃, d₄] d := fun V s _ L G ⟨a, _, e, r₁, b, _, e', r₂, c, _, e3, r₃, x, _, e4, r₄, e''⟩ => by
  cases e''; subst e4; subst e3; subst e'; subst e; exact h V s a b c x L G r₁ r₂ r₃ r₄
theorem OpN.call1 {f : Value} {d₁ : D} {l : List D} (h : ∀ V s a, Live V s.heap → GL K s.heap → Rd s.heap V d₁ a → wpAny (model prog w) A (call f [a]) (fun v s' => Ext s s' ∧ ∃ a us, v = .ref a ∧ s.heap.get? a = none ∧ s'.heap.PlainList a us.toArray ∧ RdL s'.heap V l us ∧ RdL s'.heap [a] l us) noE s) :
    OpN prog w A K (fun vs => call f vs) [d₁] l := fun V s _ L G ⟨a, _, e, r₁, e''⟩ => by
  cases e''; subst e; exact h V s a L G r₁
theorem OpN.call2 {f : Value} {d₁ d₂ : D} {l : List D} (h : ∀ V s a b, Live V s.heap → GL K s.heap → Rd s.heap V d₁ a → Rd s.heap V d₂ b → wpAny (model prog w) A (call f [a, b]) (fun v s' => Ext s s' ∧ ∃ a us, v = .ref a ∧ s.heap.get? a = none ∧ s'.heap.PlainList a us.toArray ∧ RdL s'.heap V l us ∧ RdL s'.heap [a] l us) noE s) :
    OpN prog w A K (fun vs => call f vs) [d₁, d₂] l := fun V s _ L G ⟨a, _, e, r₁, b, _, e', r₂, e''⟩ => by
  cases e''; subst e'; subst e; exact h V s a b L G r₁ r₂

/-! ### numbers -/
theorem op_lenL {l : List D} (hz : l.length ≤ 1000000) : Op prog w A K (cb "len") [.lst l] (.int l.length) := Op.call1 fun V s _ _ _ ⟨a, vs, e, _, hp, hl⟩ => by
  subst e
  have := hl.length
  exact PyProof.Rows.len_list hp.isList (by simp; omega) ⟨.toks s _, _, by simp [this]; rfl⟩
theorem op_lenS {x : List Nat} (hz : x.length ≤ 1000000) : Op prog w A K (cb "len") [.str x] (.int x.length) := Op.call1 fun V s _ _ _ ⟨t, e⟩ => by
  subst e
  exact PyProof.Rows.len_str (by simp [Str.length]; omega) ⟨.toks s _, _, by simp [Str.length]; rfl⟩
theorem op_abs {i : Int} : Op prog w A K (cb "abs") [.int i] (.int (if i < 0 then -i else i)) := Op.call1 fun V s _ _ _ ⟨t, e⟩ => by
  subst e
  exact PyProof.Rows.call_abs_int fun u tk => ⟨.toks s _, _, rfl⟩
theorem op_int {i : Int} : Op prog w A K (ct "int") [.int i] (.int i) := Op.call1 fun V s _ _ _ ⟨t, e⟩ => by
  subst e
  exact call_int_int ⟨.refl s, _, rfl⟩
theorem op_neg {i : Int} : Op prog w A K (f1 (unaryOp .USub)) [.int i] (.int (-i)) := Op.mk1 fun V s _ _ _ ⟨t, e⟩ => by
  subst e
  exact PyProof.Rows.neg_int ⟨.toks s _, _, rfl⟩
theorem op_divmod {a b : Int} (hb : 0 < b) (hb2 : b < 2 ^ 30) : Op prog w A K (cb "divmod") [.int a, .int b] (.tup [.int (a / b), .int (a % b)]) := Op.call2 fun V s _ _ L _ ⟨t, e⟩ ⟨u, e'⟩ => by
  subst e; subst e'
  refine divmod_int (by omega) ⟨.push s _ _, s.heap.objs.size, _, rfl, L.notin (get_size _), ⟨0, Heap.get?_push_size _ rfl⟩, RdL.cons ⟨s.toks, by rw [Int.fdiv_eq_ediv_of_nonneg _ (by omega)]⟩ (RdL.cons ⟨s.toks + 1, by rw [Int.fmod_eq_emod_of_nonneg _ (by omega)]⟩ rfl)⟩ (.inl ?_)
  · unfold Builtin.divisionGoesByPylong
    simp only [Bool.and_eq_false_iff, decide_eq_false_iff_not]
    left
    split
    · omega
    · have : b.natAbs.log2 < 30 := (Nat.log2_lt (by omega)).mpr (by omega)
      omega

/-! ### lists of ints and of texts -/
abbrev dI (ns : List Int) : D := .lst (ns.map .int)
abbrev dS (xs : List (List Nat)) : D := .lst (xs.map .str)
theorem RdL.toInts {h : Heap} {V : List Addr} : ∀ {ns : List Int} {vs : List Value}, RdL h V (ns.map .int) vs → IntsAre vs ns
  | [], _, e => by cases e; exact .nil
  | n :: ns, _, ⟨v, vs', e, ⟨t, e'⟩, r⟩ => by subst e; subst e'; exact .cons n t (RdL.toInts r)
theorem RdL.of_ints {h : Heap} {V : List Addr} : ∀ {ns : List Int} {vs : List Value}, IntsAre vs ns → RdL h V (ns.map .int) vs
  | _, _, .nil => rfl
  | _, _, .cons n t r => ⟨_, _, rfl, ⟨t, rfl⟩, RdL.of_ints r⟩
abbrev S (x : List Nat) : Str := ⟨x.toArray⟩
theorem RdL.toStrs {h : Heap} {V : List Addr} : ∀ {xs : List (List Nat)} {vs : List Value}, RdL h V (xs.map .str) vs → StrsAre vs (xs.map S)
  | [], _, e => by cases e; exact .nil
  | n :: ns, _, ⟨v, vs', e, ⟨t, e'⟩, r⟩ => by subst e; subst e'; exact .cons _ t (RdL.toStrs r)
theorem RdL.of_strs {h : Heap} {V : List Addr} : ∀ {ys : List Str} {vs : List Value}, StrsAre vs ys → RdL h V (ys.map fun y => .str y.cps.toList) vs
  | _, _, .nil => rfl
  | _, _, .cons y t r => ⟨_, _, rfl, ⟨t, rfl⟩, RdL.of_strs r⟩

theorem intsAre_pairs {vs : List Value} {ns : List Int} (h : IntsAre vs ns) : ∃ l : List (Int × Tok), vs = l.map (fun p => .int p.1 p.2) ∧ l.map (·.1) = ns := by
  induction h with
  | nil => exact ⟨[], rfl, rfl⟩
  | cons n t _ ih => obtain ⟨l, e1, e2⟩ := ih; exact ⟨(n, t) :: l, by simp [e1], by simp [e2]⟩
theorem op_sum {n : Nat} {ns : List Int} (hA : Aok A n) : Op prog w A K (cb "sum") [dI ns] (.int ns.sum) := Op.call1 fun V s _ _ _ ⟨a, vs, e, _, hp, hl⟩ => by
  subst e
  obtain ⟨l, e1, e2⟩ := intsAre_pairs hl.toInts
  subst e1
  refine sum_intListG (xs := l.toArray) hA.h (by simpa [intItems] using hp.isList) fun h' tk t' k => ⟨.heap tk k, t', ?_⟩
  rw [preSum_eq]
  simp [e2, ← List.map_take]
  rw [List.take_of_length_le (by simp [← e2])]

theorem op_max {n : Nat} {ns : List Int} {M : Int} (hA : Aok A n) (hM : M ∈ ns) (hle : ∀ x ∈ ns, x ≤ M) : Op prog w A K (cb "max") [dI ns] (.int M) := Op.call1 fun V s _ _ _ ⟨a, vs, e, _, hp, hl⟩ => by
  subst e
  have hlen := hl.length
  have hi := hl.toInts
  have hne : 0 < vs.length := by have := List.length_pos_of_mem hM; simp at hlen; omega
  have hat : ∀ (i : Nat) (v : Value), vs[i]? = some v → ∃ t, v = Value.int (ns.getD i 0) t := fun i v e => by
    obtain ⟨d, hd, r⟩ := hl.get' e
    rw [List.getElem?_map] at hd
    cases q : ns[i]? with
    | none => rw [q] at hd; cases hd
    | some k => rw [q] at hd; cases hd; obtain ⟨t, rfl⟩ := r; exact ⟨t, by rw [List.getD_eq_getElem?_getD, q]; rfl⟩
  refine call_max_walk (wpAny_pyIter_list hp.isList ⟨s.heap.objs.size, [s.heap.objs.size, a], [s.heap.objs.size], vs.toArray.size, fun i v => vs.toArray[i]? = some v, fun i h => h.IsListIter s.heap.objs.size a i ∧ h.IsList a vs.toArray,
    fun i j => decide (ns.getD i 0 > ns.getD j 0), rfl, Walks.list (A := A.in1) hA.h _ a (Nat.ne_of_lt (Heap.lt_size hp.choose_spec)) vs.toArray, ⟨⟨_, Heap.get?_push_size _ rfl, rfl, rfl⟩, hp.isList.push _⟩, ?_, by simpa using hne, CmpOf.ints_gt (fun i => ns.getD i 0) fun i v e => hat i v ((List.getElem?_toArray ..).symm.trans e), fun v h' tk hv hk => ?_⟩)
  · intro b hb
    rw [Heap.size_push]
    simp at hb
    rcases hb with rfl | rfl
    · exact Nat.lt_succ_self _
    · exact Nat.lt_succ_of_lt (Heap.lt_size hp.choose_spec)
  · obtain ⟨t, rfl⟩ := hat _ _ ((List.getElem?_toArray ..).symm.trans hv)
    have key : ∀ k, k < ns.length → ns.getD (argBest (fun i j => decide (ns.getD i 0 > ns.getD j 0)) k) 0 ∈ ns ∧ ∀ i, i ≤ k → ns.getD i 0 ≤ ns.getD (argBest (fun i j => decide (ns.getD i 0 > ns.getD j 0)) k) 0 := by
      intro k
      induction k with
      | zero => intro hk; refine ⟨?_, fun i hi => ?_⟩
                · show ns.getD 0 0 ∈ ns; rw [List.getD_eq_getElem?_getD, List.getElem?_eq_getElem hk]; simp
                · have : i = 0 := by omega
                  subst this; exact Int.le_refl _
      | succ k ih =>
        intro hk
        obtain ⟨h1, h2⟩ := ih (by omega)
        show ns.getD (if decide (ns.getD (k + 1) 0 > ns.getD (argBest (fun i j => decide (ns.getD i 0 > ns.getD j 0)) k) 0) = true then k + 1 else argBest (fun i j => decide (ns.getD i 0 > ns.getD j 0)) k) 0 ∈ ns ∧ ∀ i, i ≤ k + 1 → ns.getD i 0 ≤ ns.getD (if decide (ns.getD (k + 1) 0 > ns.getD (argBest (fun i j => decide (ns.getD i 0 > ns.getD j 0)) k) 0) = true then k + 1 else argBest (fun i j => decide (ns.getD i 0 > ns.getD j 0)) k) 0
        split
        · rename_i hc
          simp only [decide_eq_true_eq] at hc
          refine ⟨?_, fun i hi => ?_⟩
          · rw [List.getD_eq_getElem?_getD, List.getElem?_eq_getElem hk]; simp
          · rcases Nat.lt_or_ge i (k + 1) with q | q
            · have := h2 i (by omega); omega
            · have : i = k + 1 := by omega
              subst this; exact Int.le_refl _
        · rename_i hc
          simp only [decide_eq_true_eq] at hc
          refine ⟨h1, fun i hi => ?_⟩
          rcases Nat.lt_or_ge i (k + 1) with q | q
          · exact h2 i (by omega)
          · have : i = k + 1 := by omega
            subst this; omega
    have hl0 : vs.toArray.size - 1 = ns.length - 1 := by simp at hlen ⊢; omega
    have hns : 0 < ns.length := List.length_pos_of_mem hM
    obtain ⟨h1, h2⟩ := key (ns.length - 1) (by omega)
    refine ⟨.heap tk fun b o e => hk b o (by simp; exact Nat.ne_of_lt (Heap.lt_size e)) (Heap.get?_push_of_some _ e), t, ?_⟩
    rw [hl0]
    generalize argBest (fun i j => decide (ns.getD i 0 > ns.getD j 0)) (ns.length - 1) = j at h1 h2 ⊢
    have e1 := hle _ h1
    obtain ⟨i, hi, hM'⟩ := List.getElem_of_mem hM
    have e2 := h2 i (by omega)
    rw [List.getD_eq_getElem?_getD, List.getElem?_eq_getElem hi, hM'] at e2
    have e3 : M ≤ ns.getD j 0 := e2
    rw [show ns.getD j 0 = M by omega]

/-! ### texts -/
theorem op_find {x y : List Nat} : Op prog w A K (cb "str.find") [.str x, .str y] (.int (Txt.find (S x) (S y))) := Op.call2 fun V s _ _ _ _ ⟨t, e⟩ ⟨u, e'⟩ => by
  subst e; subst e'; exact SC.find ⟨.toks s _, _, rfl⟩
theorem op_startswith {x y : List Nat} : Op prog w A K (cb "str.startswith") [.str x, .str y] (.bool (Txt.startswith (S x) (S y))) := Op.call2 fun V s _ _ _ _ ⟨t, e⟩ ⟨u, e'⟩ => by
  subst e; subst e'; exact SC.startswith ⟨.refl s, rfl⟩
theorem op_endswith {x y : List Nat} : Op prog w A K (cb "str.endswith") [.str x, .str y] (.bool (Txt.endswith (S x) (S y))) := Op.call2 fun V s _ _ _ _ ⟨t, e⟩ ⟨u, e'⟩ => by
  subst e; subst e'; exact SC.endswith ⟨.refl s, rfl⟩
theorem op_join {x : List Nat} {xs : List (List Nat)} (hz : (xs.map (·.length)).sum + xs.length * x.length ≤ 16777216) : Op prog w A K (cb "str.join") [.str x, dS xs] (.str (Txt.join (S x) (xs.map S)).cps.toList) := Op.call2 fun V s _ _ _ _ ⟨t, e⟩ ⟨a, vs, e', _, hp, hl⟩ => by
  subst e; subst e'
  refine join_list hp.isList (by simpa using hl.toStrs) ?_ fun t' k => ⟨.toks s k, t', rfl⟩
  simpa [Str.length, Function.comp_def] using hz
theorem opN_split {x y : List Nat} (hy : y ≠ []) (hz : x.length ≤ 1000000) : OpN prog w A K (cb "str.split") [.str x, .str y] ((Txt.split (S x) (S y)).map fun p => .str p.cps.toList) := OpN.call2 fun V s _ _ L _ ⟨t, e⟩ ⟨u, e'⟩ => by
  subst e; subst e'
  have hn : (Builtin.Str.partsBetween (S x) (Builtin.Str.occurrences (S x) (S y) 0 (S x).length ((S x).length + 1)) (S y).length).length ≤ sizeLine := by
    have e1 := StrLaws.occ_length_le (S x) (S y) 0 (S x).length ((S x).length + 1)
    have e2 : (S x).length = x.length := by simp [Str.length]
    rw [length_partsBetween, sizeLine_eq]; omega
  have hx : (S x).length ≤ sizeLine := by rw [sizeLine_eq]; simp [Str.length]; omega
  have hy0 : ((S y).length == 0) = false := by cases y <;> simp_all [Str.length]
  have key : ∀ (l : List (Str × Tok)) (tk : Nat), l.map (·.1) = Txt.split (S x) (S y) → (Ext s { s with heap := s.heap.push { cls := .type "list", data := .seq (strValues l).toArray }, toks := tk } ∧ ∃ a us, Value.ref s.heap.objs.size = .ref a ∧ s.heap.get? a = none ∧
      (s.heap.push { cls := .type "list", data := .seq (strValues l).toArray }).PlainList a (List.toArray us) ∧ RdL (s.heap.push { cls := .type "list", data := .seq (strValues l).toArray }) V ((Txt.split (S x) (S y)).map fun p => .str p.cps.toList) us ∧
      RdL (s.heap.push { cls := .type "list", data := .seq (strValues l).toArray }) [a] ((Txt.split (S x) (S y)).map fun p => .str p.cps.toList) us) := fun l tk e =>
    ⟨.push s _ _, s.heap.objs.size, strValues l, rfl, get_size _, ⟨0, Heap.get?_push_size _ rfl⟩, e ▸ RdL.of_strs (strsAre_of_values l), e ▸ RdL.of_strs (strsAre_of_values l)⟩
  cases h1 : (decide ((S x).length < (S y).length) || decide (Builtin.Str.strKind (S x) < Builtin.Str.strKind (S y)))
  · cases hf : (Builtin.Str.occurrences (S x) (S y) 0 (S x).length ((S x).length + 1)).isEmpty
    · refine call_meets F.slot_str_split (typeIs_str _ _ _) F.entry_str_split (F.args_str_split_2 _ _) (meets_str_split_sep (S x) (S y) t u h1 hy0 hf hx hn) ?_
      show wants _ _ _ { s with toks := _, heap := s.heap.push { cls := .type "list", data := .seq (strsFrom s.toks (Builtin.Str.partsBetween (S x) (Builtin.Str.occurrences (S x) (S y) 0 (S x).length ((S x).length + 1)) (S y).length)).toArray } }
      rw [strsFrom_eq]
      exact key (numbered s.toks _) _ ((numbered_texts _ _).trans ((if_neg (ne_true_of_eq_false h1)).trans (if_neg (ne_true_of_eq_false hf))).symm)
    · exact call_meets F.slot_str_split (typeIs_str _ _ _) F.entry_str_split (F.args_str_split_2 _ _) (meets_str_split_not_found (S x) (S y) t u h1 hy0 hf)
        (key [(S x, t)] s.toks ((if_neg (ne_true_of_eq_false h1)).trans (if_pos hf)).symm)
  · exact call_meets F.slot_str_split (typeIs_str _ _ _) F.entry_str_split (F.args_str_split_2 _ _) (meets_str_split_cannot_occur (S x) (S y) t u h1)
      (key [(S x, t)] s.toks (if_pos h1).symm)

/-! ### lists -/
theorem opN_cat {a b : List D} (hz : a.length + b.length ≤ 1000000) : OpN prog w A K (f2 (binaryOp .Add)) [.lst a, .lst b] (a ++ b) := OpN.mk2 fun V s _ _ L _ ⟨p, vs, e, _, ⟨n, hp⟩, hl⟩ ⟨p', vs', e', _, ⟨n', hp'⟩, hl'⟩ => by
  subst e; subst e'
  have h1 := hl.length
  have h2 := hl'.length
  have hno : ∀ o, isSeqO o → s.heap.get? s.heap.objs.size ≠ some o := fun o _ e => by rw [get_size] at e; cases e
  refine P.add_list hp hp' ⟨.push s _, s.heap.objs.size, vs ++ vs', rfl, get_size _, ⟨0, ?_⟩, (hl.append hl').keeps (.push s _), (RdL.sub (fun a ha => by simp at ha; simp [ha]) (RdL.own hno (hl.append hl'))).keeps (.push s _)⟩ (by rw [sizeLine_eq]; simp; omega)
  have := Heap.get?_push_size s.heap (o := { cls := .type "list", data := .seq (vs.toArray ++ vs'.toArray) }) rfl
  rw [this]; simp
theorem foldl_app (items : Array Value) : ∀ (k : Nat) (acc : Array Value), (List.replicate k items).foldl (fun x1 x2 => x1 ++ x2) acc = acc ++ (List.replicate k items.toList).flatten.toArray
  | 0, acc => by simp
  | k + 1, acc => by rw [List.replicate_succ, List.foldl_cons, foldl_app items k, List.replicate_succ, List.flatten_cons]; apply Array.ext'; simp
theorem RdL.flatten {h : Heap} {V : List Addr} {l : List D} {vs : List Value} (r : RdL h V l vs) : ∀ k, RdL h V (List.replicate k l).flatten (List.replicate k vs).flatten
  | 0 => rfl
  | k + 1 => by rw [List.replicate_succ, List.flatten_cons, List.replicate_succ, List.flatten_cons]; exact r.append (RdL.flatten r k)
theorem opN_mulL {a : List D} {n : Int} (h0 : 0 ≤ n) (hn : n ≤ 1000) (ha : a ≠ []) (hz : a.length ≤ 1000) : OpN prog w A K (f2 (binaryOp .Mult)) [.lst a, .int n] (List.replicate n.toNat a).flatten := OpN.mk2 fun V s _ _ L _ ⟨p, vs, e, _, ⟨c, hp⟩, hl⟩ ⟨u, e'⟩ => by
  subst e; subst e'
  have hlen := hl.length
  have hno : ∀ o, isSeqO o → s.heap.get? s.heap.objs.size ≠ some o := fun o _ e => by rw [get_size] at e; cases e
  have hmul : vs.toArray.size * n.toNat ≤ 1000 * 1000 := Nat.mul_le_mul (by simp; omega) (by omega)
  have hne : vs.toArray.isEmpty = false := by cases vs <;> cases a <;> simp_all
  refine wpAny_binaryOp_repeat_ref (T := "list") (U := "int") (by decide) ⟨_, hp, rfl⟩ (fun s' => typeIs_int s' n u) noFill_list_mul F.fills_int_mul F.slot_int_rmul repeat_list F.slot_int_index.lookup
    (call_meets F.slot_int_rmul (typeIs_int s n u) F.entry_int_rmul (F.args_int_rmul_2 _ _) (int___rmul___int_list n u p vs.toArray c)
      ⟨hp, rfl, ⟨_, hp, rfl⟩, call_meets F.slot_list_mul ⟨_, hp, rfl⟩ F.entry_list_mul (F.args_list_mul_2 _ _)
        (AutoListH.list___mul___list_int_3 p vs.toArray c n u (by simp [Builtin.List.listFitsIndex]; omega) (by omega) (by simp only [Builtin.List.listTooLong, decide_eq_true_eq]; rw [sizeLine_eq]; omega))
        ⟨hp, ⟨.push s _, s.heap.objs.size, (List.replicate n.toNat vs).flatten, rfl, get_size _, ⟨0, ?_⟩, (hl.flatten _).keeps (.push s _), (RdL.sub (fun a ha => by simp at ha; simp [ha]) (RdL.own hno (hl.flatten _))).keeps (.push s _)⟩⟩⟩)
  rw [hne]
  simp only [Bool.false_eq_true, if_false]
  rw [foldl_app]
  have := Heap.get?_push_size s.heap (o := { cls := .type "list", data := .seq (#[] ++ (List.replicate n.toNat vs.toArray.toList).flatten.toArray) }) rfl
  rw [this]; simp
theorem op_rep {x : List Nat} {n : Int} (h0 : 0 ≤ n) (hn : n ≤ 1000) (hz : x.length ≤ 1000) : Op prog w A K (f2 (binaryOp .Mult)) [.str x, .int n] (.str (Txt.mul (S x) n).cps.toList) := Op.mk2 fun V s _ _ _ _ ⟨t, e⟩ ⟨u, e'⟩ => by
  subst e; subst e'
  have hl : (⟨x.toArray⟩ : Str).length = x.length := by simp [Str.length]
  refine PySem.SB.mul ⟨by simp; omega, fun h1 _ => ?_, fun h1 _ => ?_⟩ fun t' k => ⟨.toks s _, _, rfl⟩
  · have : (1000 : Int) ≤ (2 ^ 63 - 1 : Int) / n := Int.le_ediv_of_mul_le (by omega) (by omega)
    rw [hl]; omega
  · unfold Builtin.Str.tooLong sizeLine
    have : x.length * n.toNat ≤ 1000 * 1000 := Nat.mul_le_mul (by omega) (by omega)
    rw [hl]; simp; omega
end
end Mine

namespace Mine

/-! ### going into a part and coming back -/
def Cx.here (c : Cx) (s : Shared) (env : Env) (W : List Addr) : Cx := ⟨c.s₀, fun b o => s.heap.get? b = some o ∧ b ∉ FP env W⟩

section
variable {K : Frag} {env : Env} {c : Cx} {W W' : List Addr} {ρ ρ' : Rho} {s s' : Shared}
theorem Core.kp (C : Core K env c W ρ s) {b : Addr} {o : Obj} (h : c.Kp b o) : (c.here s env W).Kp b o := ⟨C.keep b o h, fun q => C.new b q o h⟩
theorem Core.enter (C : Core K env c W ρ s) : Core K env (c.here s env W) W ρ s :=
  { C with gl := fun h k => C.gl h fun b o e => k b o (C.kp e), keep := fun _ _ e => e.1, new := fun _ q _ e => e.2 q }
theorem Core.leave (C : Core K env c W ρ s) (C' : Core K env (c.here s env W) W' ρ' s') : Core K env c W' ρ' s' :=
  { C' with gl := C.gl, keep := fun b o e => C'.keep b o (C.kp e), new := fun a q o e => C'.new a q o (C.kp e) }

theorem Core.notSeq (C : Core K env c W ρ s) {b : Addr} {o : Obj} (ho : isSeqO o) (e : s.heap.get? b = some o) (hb : b ∉ W) : b ∉ FP env W := fun q => by
  rcases List.mem_cons.mp q with q | q
  · obtain ⟨m, ⟨o', es, ep, h1, h2, _⟩, _⟩ := C.vars
    rw [q, h1] at e; cases e
    obtain ⟨_, _, _, rfl⟩ := ho
    cases h2
  · rcases List.mem_append.mp q with q | q
    · obtain ⟨v, o', h1, h2⟩ := C.cells b q
      rw [h1] at e; cases e
      obtain ⟨_, _, _, rfl⟩ := ho
      cases h2
    · exact hb q

mutual
theorem Rd.avoid {h : Heap} {W W' : List Addr} (hs : ∀ a ∈ W', a ∈ W ∨ ∀ o, isSeqO o → h.get? a ≠ some o) : ∀ {d : D} {v : Value}, Rd h W d v → Rd h W' d v
  | .none, _, x => x
  | .bool _, _, x => x
  | .int _, _, x => x
  | .str _, _, x => x
  | .bytes _, _, x => x
  | .tup _, _, ⟨a, vs, e, ha, ⟨n, hg⟩, hl⟩ => ⟨a, vs, e, fun q => (hs _ q).elim ha fun k => k _ ⟨_, _, _, rfl⟩ hg, ⟨n, hg⟩, RdL.avoid hs hl⟩
  | .lst _, _, ⟨a, vs, e, ha, ⟨n, hg⟩, hl⟩ => ⟨a, vs, e, fun q => (hs _ q).elim ha fun k => k _ ⟨_, _, _, rfl⟩ hg, ⟨n, hg⟩, RdL.avoid hs hl⟩
theorem RdL.avoid {h : Heap} {W W' : List Addr} (hs : ∀ a ∈ W', a ∈ W ∨ ∀ o, isSeqO o → h.get? a ≠ some o) : ∀ {ds : List D} {vs : List Value}, RdL h W ds vs → RdL h W' ds vs
  | [], _, x => x
  | _ :: _, _, ⟨v, vs', e, x, y⟩ => ⟨v, vs', e, Rd.avoid hs x, RdL.avoid hs y⟩
end

/-- what was readable beside W is readable beside W' behind a part -/
theorem Core.overV (V : List Addr) (C : Core K env c W ρ s) (C' : Core K env (c.here s env W) W' ρ' s') {d : D} {v : Value} (r : Rd s.heap (V ++ W) d v) : Rd s'.heap (V ++ W') d v := by
  have r2 : Rd s.heap ((V ++ W) ++ W') d v := by
    refine r.avoid fun a ha => (List.mem_append.mp ha).elim .inl fun ha => ?_
    by_cases hW : a ∈ W
    · exact .inl (List.mem_append_right _ hW)
    · exact .inr fun o ho e => C'.new a (List.mem_cons_of_mem _ (List.mem_append_right _ ha)) o ⟨e, C.notSeq ho e hW⟩
  refine Rd.sub (fun a ha => ?_) (r2.keep (h' := s'.heap) fun b o hb ho e => C'.keep b o ⟨e, C.notSeq ho e fun q => hb (List.mem_append_left _ (List.mem_append_right _ q))⟩)
  rcases List.mem_append.mp ha with q | q
  · exact List.mem_append_left _ (List.mem_append_left _ q)
  · exact List.mem_append_right _ q
/-- an object that is none of ours is changed -/
theorem Core.other (C : Core K env c W ρ s) {a : Addr} {h' : Heap} {tk : Nat} (hs : ∀ b o, b ≠ a → s.heap.get? b = some o → h'.get? b = some o) (ha : a ∉ FP env W) (hk : ∀ o, ¬ c.Kp a o) (hn : ∀ o, isSeqO o → s.heap.get? a ≠ some o) :
    Core K env c W ρ { s with heap := h', toks := tk } := by
  have seqk : ∀ V, SeqKeep V s.heap h' := fun V b o _ ho e => hs b o (fun q => hn o ho (q ▸ e)) e
  have plk : ∀ b vs, s.heap.PlainList b vs → h'.PlainList b vs := fun b vs ⟨n, e⟩ => ⟨n, seqk [] b _ (by simp) ⟨_, _, _, rfl⟩ e⟩
  have ck : ∀ b u, b ∈ env.cells.map (·.2) → s.heap.IsCell b u → h'.IsCell b u := fun b u hb ⟨o, e, d⟩ => ⟨o, hs b o (fun q => ha (q ▸ List.mem_cons_of_mem _ (List.mem_append_left _ hb))) e, d⟩
  obtain ⟨m, hn', hv, hal⟩ := C.vars
  have hn'' : h'.Ns env.locals m := by
    obtain ⟨o, es, ep, e, r⟩ := hn'
    exact ⟨o, es, ep, hs _ o (fun q => ha (q ▸ List.mem_cons_self)) e, r⟩
  have vk : ∀ y u, Var env m s.heap y u → Var env m h' y u := fun y u q => q.imp id fun ⟨k, c, hc, e⟩ => ⟨k, c, hc, ck c _ (mem_map_of_lookup hc) e⟩
  refine { same := ?_, gl := C.gl, keep := fun b o e => hs b o (fun q => hk o (q ▸ e)) (C.keep b o e), new := C.new, nodup := C.nodup, live := fun b hb => (C.live b hb).imp fun vs y => plk b vs y, kind := C.kind, globals := C.globals, builtins := C.builtins,
           cells := fun b hb => (C.cells b hb).imp fun u y => ck b u hb y, vars := ⟨m, hn'', fun y b e => ?_, fun y z l₁ l₂ b h1 h2 q q' => ?_⟩ }
  · obtain ⟨h, t, e⟩ := C.same; exact ⟨h', tk, by rw [e]⟩
  · obtain ⟨u, p, r⟩ := hv y b e
    exact ⟨u, vk y u p, r.keep (seqk _) fun a _ vs y => plk a vs y⟩
  · obtain ⟨u, pu, _⟩ := hv y _ h1
    obtain ⟨u', pu', _⟩ := hv z _ h2
    have e1 := (vk _ _ pu).inj q
    have e2 := (vk _ _ pu').inj q'
    subst e1; subst e2
    exact hal y z l₁ l₂ b h1 h2 pu pu'
end

/-- the iterators that no tuple of an owner's is taken from -/
def quietT (n : String) : Bool := !(["enumerate", "zip", "dict_itemiterator", "dict_reverseitemiterator", "odict_iterator", "itertools.zip_longest", "itertools.pairwise"].contains n)
theorem owned_quiet {prog : Program} {w : World} {A : Around} {E : Value → Shared → Prop} {s : Shared} {I : Addr} {o : Obj} {n : String} {target : Expr} {v : Value} {Q : Unit → Shared → Prop} (ho : s.heap.get? I = some o) (hc : o.cls = .type n) (hn : quietT n = true) (h : Q () s) :
    wpAny (model prog w) A (letOwnedTupleGo target (.ref I) v) Q E s := by
  have hn' : (["enumerate", "zip", "dict_itemiterator", "dict_reverseitemiterator", "odict_iterator", "itertools.zip_longest", "itertools.pairwise"].contains n) = false := by
    unfold quietT at hn
    cases q : (["enumerate", "zip", "dict_itemiterator", "dict_reverseitemiterator", "odict_iterator", "itertools.zip_longest", "itertools.pairwise"].contains n) with
    | false => rfl
    | true => rw [q] at hn; cases hn
  have key : ∀ (a : Addr), wpAny (model prog w) A (do
      let o ← load I
      match o.cls, o.data with
      | .type n, .fields vs =>
        if ["enumerate", "zip", "dict_itemiterator", "dict_reverseitemiterator", "odict_iterator", "itertools.zip_longest", "itertools.pairwise"].contains n && vs[0]? == some (rawInt a) then
          rule "for.unpacks-the-owned-tuple"
          updateField I 0 .none
      | _, _ => pure ()) Q E s := fun a => by
    refine wpAny_bind (wpAny_load ho ?_)
    rw [hc]
    cases o.data with
    | fields vs =>
      dsimp only
      rw [hn', Bool.false_and, if_neg Bool.false_ne_true]
      exact wpAny_pure h
    | _ => exact wpAny_pure h
  cases target with
  | Tuple elts k pos =>
    cases v with
    | ref a => exact key a
    | _ => exact wpAny_pure h
  | List elts pos =>
    cases v with
    | ref a => exact key a
    | _ => exact wpAny_pure h
  | _ => exact wpAny_pure h

/-! ### statements -/
inductive Out where
  | nxt (ρ : Rho)
  | ret (d : D)
def Post (K : Frag) (env : Env) (c : Cx) : Out → Flow → Shared → Prop
  | .nxt ρ', f, s' => f = .next ∧ 1 ≤ s'.toks ∧ ∃ W', Core K env c W' ρ' s'
  | .ret d, f, s' => ∃ v, f = .ret v ∧ (∃ h tk, s' = { c.s₀ with heap := h, toks := tk }) ∧ (∀ b o, c.Kp b o → s'.heap.get? b = some o) ∧ ∀ V, (∀ a ∈ V, ∃ o, c.Kp a o) → Rd s'.heap V d v
section
variable (prog : Program) (w : World) (A : Around) (K : Frag) (env : Env)
def X (ρ : Rho) (st : Stmt) (out : Out) : Prop := ∀ c W s, 1 ≤ s.toks → Core K env c W ρ s → wpAny (model prog w) A (exec st env) (Post K env c out) noE s
def Xs (ρ : Rho) (ss : List Stmt) (out : Out) : Prop := ∀ c W s, 1 ≤ s.toks → Core K env c W ρ s → wpAny (model prog w) A (execs ss env) (Post K env c out) noE s
/-- a value goes to a target; only the addresses ch are changed -/
def Bd (ρ : Rho) (target : Expr) (d : D) (ρ' : Rho) : Prop := ∀ c W s v, Core K env c W ρ s → Rd s.heap W d v → wpAny (model prog w) A (assign target env v) (fun _ s' => Core K env c W ρ' s' ∧ ∀ b o, b ∉ env.locals :: env.cells.map (·.2) → s.heap.get? b = some o → s'.heap.get? b = some o) noE s
/-- .. to local names alone -/
def BdL (ρ : Rho) (target : Expr) (d : D) (ρ' : Rho) : Prop := ∀ c W s v, Core K env c W ρ s → Rd s.heap W d v → wpAny (model prog w) A (assign target env v) (fun _ s' => Core K env c W ρ' s' ∧ ∀ b o, b ≠ env.locals → s.heap.get? b = some o → s'.heap.get? b = some o) noE s
/-- what is walked by for: beside s₁ (ahead of the iterator) -/
def IterAt (V : List Addr) (it : Value) (ds : List D) (s₁ s₂ : Shared) : Prop := ∃ I fp P St, it = .ref I ∧ Walks prog w A I fp [I] ds.length P St ∧ St 0 s₂.heap ∧ s₁.heap.get? I = none ∧ (∀ i h, St i h → ∃ o, h.get? I = some o ∧ ¬ isSeqO o ∧ ∃ n, o.cls = .type n ∧ quietT n = true) ∧
  (∀ b ∈ fp, b = I ∨ (b ∉ V ∧ ∃ o, s₁.heap.get? b = some o ∧ isSeqO o)) ∧ ∀ (i : Nat) v d, P i v → ds[i]? = some d → Rd s₁.heap V d v
def EvI (ρ : Rho) (q : Bool) (e : Expr) (ds : List D) : Prop := ∀ c W s, Core K env c W ρ s → wpAny (model prog w) A (eval e env) (fun v s₁ => Ext s s₁ ∧ wpAny (model prog w) A (pyIter v) (fun it s₂ => Ext s₁ s₂ ∧ IterAt prog w A (sel q W) it ds s₁ s₂) noE s₁) noE s
end

/-- names in ρ₂ are told by ρ₁ -/
inductive Sub : Rho → Rho → Prop
  | nil {ρ : Rho} : Sub ρ []
  | cons {ρ ρ' : Rho} {x : Str} {b : B} : ρ.lookup x = some b → Sub ρ ρ' → Sub ρ ((x, b) :: ρ')
theorem Sub.all {ρ ρ' : Rho} (h : Sub ρ ρ') : ∀ x b, ρ'.lookup x = some b → ρ.lookup x = some b := by
  induction h with
  | nil => intro x b e; cases e
  | @cons ρ' y b' h1 _ ih =>
    intro x b e
    by_cases hx : x = y
    · subst hx; rw [lookup_cons_self] at e; cases e; exact h1
    · rw [lookup_cons_ne hx] at e; exact ih x b e

section
variable {prog : Program} {w : World} {A : Around} {K : Frag} {env : Env} {ρ ρ' ρ₁ ρ₂ : Rho}

theorem X.mk {st : Stmt} {out : Out} (h : ∀ c W s, 1 ≤ s.toks → Core K env c W ρ s → wpAny (model prog w) A (exec st env) (fun f s' => match out with | .nxt ρ' => f = .next ∧ ∃ W', Core K env c W' ρ' s' | .ret d => Post K env c (.ret d) f s') noE s) : X prog w A K env ρ st out := fun c W s ht C =>
  wpAny_mono (wpAny_toks_of ht (h c W s ht C)) (fun f s' ⟨a, b⟩ => by cases out with | nxt ρ' => exact ⟨b.1, a, b.2⟩ | ret d => exact b) fun _ _ x => x.2

theorem xs_nil : Xs prog w A K env ρ [] (.nxt ρ) := fun c W s ht C => wpAny_execs_nil ⟨rfl, ht, W, C⟩
theorem xs_cons {st : Stmt} {rest : List Stmt} {out : Out} (h₁ : X prog w A K env ρ st (.nxt ρ₁)) (h₂ : Xs prog w A K env ρ₁ rest out) : Xs prog w A K env ρ (st :: rest) out := fun c W s ht C =>
  wpAny_execs_cons (wpAny_mono (h₁ c W s ht C) (fun f s' ⟨e, ht', W', C'⟩ => by subst e; exact h₂ c W' s' ht' C') fun _ _ x => x)
theorem xs_ret {st : Stmt} {rest : List Stmt} {d : D} (h₁ : X prog w A K env ρ st (.ret d)) : Xs prog w A K env ρ (st :: rest) (.ret d) := fun c W s ht C =>
  wpAny_execs_cons (wpAny_mono (h₁ c W s ht C) (fun f s' h => by obtain ⟨v, e, r⟩ := h; subst e; exact ⟨v, rfl, r⟩) fun _ _ x => x)

theorem Xs.sub {ss : List Stmt} (h : Xs prog w A K env ρ ss (.nxt ρ₁)) (hs : Sub ρ₁ ρ₂) : Xs prog w A K env ρ ss (.nxt ρ₂) := fun c W s ht C =>
  wpAny_mono (h c W s ht C) (fun _ _ ⟨a, b, W', C'⟩ => ⟨a, b, W', C'.weaken hs.all⟩) fun _ _ x => x
theorem Xs.pre {ss : List Stmt} {out : Out} (hs : Sub ρ ρ₁) (h : Xs prog w A K env ρ₁ ss out) : Xs prog w A K env ρ ss out := fun c W s ht C => h c W s ht (C.weaken hs.all)
/-- an own list is given up -/
theorem Xs.give {ss : List Stmt} {out : Out} {x : Str} {l : List D} (hx : ρ.lookup x = some (.own l)) (h : Xs prog w A K env ((x, .d (.lst l)) :: ρ) ss out) : Xs prog w A K env ρ ss out := fun c W s ht C => by
  obtain ⟨W', C'⟩ := C.give hx
  exact h c W' s ht C'

/-! ### stores -/
def Kd (env : Env) (x : Str) : Prop := env.kindOf x = some .local ∨ (env.kindOf x = some .cell ∧ (env.cells.lookup x).isSome)
theorem x_assign {x : Str} {xp pos : Pos} {e : Expr} {d d' : D} (h : Ev prog w A K env ρ true e d') (hd : d' = d) (hk : Kd env x) (hs : swapsWith e (some (.Name x xp)) pos.line env = pure false := by rfl) : X prog w A K env ρ (.Assign [.Name x xp] e pos) (.nxt ((x, .d d) :: ρ)) := X.mk fun c W s _ C => by
  subst hd
  exact wpAny_Assign_Name (wpAny_mono (h c W s C) (fun v s₁ ⟨k, r⟩ => (C.heap_mono k).store r hk fun s' C' => ⟨rfl, W, C'⟩) fun _ _ x => x) hs
theorem x_assignOwn {x : Str} {xp pos : Pos} {e : Expr} {l l' : List D} (h : EvN prog w A K env ρ e l') (hd : l' = l) (hk : Kd env x) (hs : swapsWith e (some (.Name x xp)) pos.line env = pure false := by rfl) : X prog w A K env ρ (.Assign [.Name x xp] e pos) (.nxt ((x, .own l) :: ρ)) := X.mk fun c W s _ C => by
  subst hd
  exact wpAny_Assign_Name (wpAny_mono (h c W s C) (fun v s₁ ⟨k, a, vs, e, hn, hp, hl, hla⟩ => by subst e; exact C.storeOwn k hn hp hl hla hk fun s' C' => ⟨rfl, _, C'⟩) fun _ _ x => x) hs

theorem storeL {x : Str} {d : D} (hk : env.kindOf x = some .local) {c : Cx} {W : List Addr} {s : Shared} {v : Value} (C : Core K env c W ρ s) (r : Rd s.heap W d v) : wpAny (model prog w) A (storeName env x v) (fun _ s' => Core K env c W ((x, .d d) :: ρ) s' ∧ ∀ b o, b ≠ env.locals → s.heap.get? b = some o → s'.heap.get? b = some o) noE s := by
  obtain ⟨m, hn, _⟩ := C.vars
  have h2 : wpAny (model prog w) A (storeName env x v) (fun _ s' => Core K env c W ((x, .d d) :: ρ) s' ∧ ∀ b o, b ≠ env.locals → s.heap.get? b = some o → s'.heap.get? b = some o) noE s := by
    have hmap : ∀ h', h'.Ns env.locals (fun z => if z = x then some v else m z) → Heap.SameBut env.locals s.heap h' → Core K env c W ((x, .d d) :: ρ) { s with heap := h', toks := s.toks + 1 } := fun h' hn' hs' => by
      -- the same state, reckoned by hand
      have ndc := List.nodup_cons.mp C.nodup
      have hLc : ∀ a ∈ env.cells.map (·.2), a ≠ env.locals := fun a ha e => ndc.1 (e ▸ List.mem_append_left _ ha)
      have seqk : ∀ V, SeqKeep V s.heap h' := fun V b o _ ho e => by
        refine hs'.extBut b o (fun q => ?_) e
        obtain ⟨o', es, ep, h1, h2, _⟩ := hn
        rw [q, h1] at e; cases e
        obtain ⟨_, _, _, rfl⟩ := ho
        cases h2
      have plk : ∀ a vs, s.heap.PlainList a vs → h'.PlainList a vs := fun a vs ⟨n, e⟩ => ⟨n, seqk [] a _ (by simp) ⟨_, _, _, rfl⟩ e⟩
      have ck : ∀ a u, a ∈ env.cells.map (·.2) → s.heap.IsCell a u → h'.IsCell a u := fun a u ha y => y.sameBut hs' (hLc a ha)
      obtain ⟨m', hm', hv, hal⟩ := C.vars
      have em := ns_inj hn hm'; subst em
      have vk : ∀ y u, y ≠ x → Var env m s.heap y u → Var env (fun z => if z = x then some v else m z) h' y u := fun y u hy p =>
        p.imp (fun ⟨k, e⟩ => ⟨k, by simp [hy, e]⟩) fun ⟨k, a, ha, e⟩ => ⟨k, a, ha, ck a _ (mem_map_of_lookup ha) e⟩
      refine { same := ?_, gl := C.gl, keep := fun b o e => hs'.extBut b o (fun q => C.new env.locals List.mem_cons_self o (q ▸ e)) (C.keep b o e), new := C.new, nodup := C.nodup, live := fun a ha => (C.live a ha).imp fun vs y => plk a vs y, kind := C.kind, globals := C.globals, builtins := C.builtins,
               cells := fun a ha => (C.cells a ha).imp fun u y => ck a u ha y, vars := ⟨_, hn', fun y b' e => ?_, fun y z l l' a h1 h2 p q => ?_⟩ }
      · obtain ⟨h, t, e⟩ := C.same; exact ⟨h', s.toks + 1, by rw [e]⟩
      · by_cases hy : y = x
        · subst hy
          rw [lookup_cons_self] at e; cases e
          exact ⟨v, .inl ⟨hk, by simp⟩, r.keep (seqk _)⟩
        · rw [lookup_cons_ne hy] at e
          obtain ⟨u, p, r⟩ := hv y b' e
          exact ⟨u, vk y u hy p, r.keep (seqk _) fun a _ vs y => plk a vs y⟩
      · by_cases hy : y = x
        · subst hy; rw [lookup_cons_self] at h1; cases h1
        · by_cases hz : z = x
          · subst hz; rw [lookup_cons_self] at h2; cases h2
          · rw [lookup_cons_ne hy] at h1
            rw [lookup_cons_ne hz] at h2
            obtain ⟨u, p', _⟩ := hv y _ h1
            obtain ⟨u', q', _⟩ := hv z _ h2
            have e1 := (vk y u hy p').inj p
            have e2 := (vk z u' hz q').inj q
            subst e1; subst e2
            exact hal y z l l' a h1 h2 p' q'
    exact wpAny_storeName_local hk hn (fun h' hn' hs' => ⟨hmap h' hn' hs', fun b o hb e => hs'.extBut b o hb e⟩) (by rw [C.kind]; rfl)
  exact h2
theorem bdL_name {x : Str} {pos : Pos} {d : D} (hk : env.kindOf x = some .local) : BdL prog w A K env ρ (.Name x pos) d ((x, .d d) :: ρ) := fun c W s v C r => wpAny_assign_Name (storeL hk C r)

theorem storeA {x : Str} {d : D} (hk : Kd env x) {c : Cx} {W : List Addr} {s : Shared} {v : Value} (C : Core K env c W ρ s) (r : Rd s.heap W d v) : wpAny (model prog w) A (storeName env x v) (fun _ s' => Core K env c W ((x, .d d) :: ρ) s' ∧ ∀ b o, b ∉ env.locals :: env.cells.map (·.2) → s.heap.get? b = some o → s'.heap.get? b = some o) noE s := by
  rcases hk with hk | ⟨hk, hc⟩
  · exact wpAny_mono (storeL hk C r) (fun _ _ ⟨a, b⟩ => ⟨a, fun x o hx => b x o fun q => hx (q ▸ List.mem_cons_self)⟩) fun _ _ x => x
  · obtain ⟨cx, hcx⟩ := Option.isSome_iff_exists.mp hc
    have hcm := mem_map_of_lookup hcx
    obtain ⟨v₀, hc₀⟩ := C.cells cx hcm
    have key : ∀ h', h'.IsCell cx (some v) → Heap.SameBut cx s.heap h' → Core K env c W ((x, .d d) :: ρ) { s with heap := h' } := fun h' hc' hs' => by
      have ndc := List.nodup_cons.mp C.nodup
      have ndc2 := (List.nodup_append.mp ndc.2).1
      have seqk : ∀ V, SeqKeep V s.heap h' := fun V b o _ ho e => by
        refine hs'.extBut b o (fun q => ?_) e
        obtain ⟨o', h1, h2⟩ := hc₀
        rw [q, h1] at e; cases e
        obtain ⟨_, _, _, rfl⟩ := ho
        cases h2
      have plk : ∀ a vs, s.heap.PlainList a vs → h'.PlainList a vs := fun a vs ⟨n, e⟩ => ⟨n, seqk [] a _ (by simp) ⟨_, _, _, rfl⟩ e⟩
      obtain ⟨m, hn, hv, hal⟩ := C.vars
      have vk : ∀ y u, y ≠ x → Var env m s.heap y u → Var env m h' y u := fun y u hy p =>
        p.imp id fun ⟨k, a, ha, e⟩ => ⟨k, a, ha, e.sameBut hs' fun q => hy (cell_apart ndc2 (q ▸ ha) hcx)⟩
      have vx : Var env m h' x v := .inr ⟨.inl hk, cx, hcx, hc'⟩
      refine { same := ?_, gl := C.gl, keep := fun b o e => hs'.extBut b o (fun q => C.new cx (List.mem_cons_of_mem _ (List.mem_append_left _ hcm)) o (q ▸ e)) (C.keep b o e), new := C.new, nodup := C.nodup, live := fun a ha => (C.live a ha).imp fun vs y => plk a vs y, kind := C.kind, globals := C.globals, builtins := C.builtins,
               cells := fun a ha => ?_, vars := ⟨m, hn.sameBut hs' (fun q => ndc.1 (q ▸ List.mem_append_left _ hcm)), fun y b' e => ?_, fun y z l l' a h1 h2 p q => ?_⟩ }
      · obtain ⟨h, t, e⟩ := C.same; exact ⟨h', s.toks, by rw [e]⟩
      · by_cases q : a = cx
        · exact ⟨_, q ▸ hc'⟩
        · exact (C.cells a ha).imp fun u y => y.sameBut hs' q
      · by_cases hy : y = x
        · subst hy
          rw [lookup_cons_self] at e; cases e
          exact ⟨v, vx, r.keep (seqk _)⟩
        · rw [lookup_cons_ne hy] at e
          obtain ⟨u, p, r⟩ := hv y b' e
          exact ⟨u, vk y u hy p, r.keep (seqk _) fun a _ vs y => plk a vs y⟩
      · by_cases hy : y = x
        · subst hy; rw [lookup_cons_self] at h1; cases h1
        · by_cases hz : z = x
          · subst hz; rw [lookup_cons_self] at h2; cases h2
          · rw [lookup_cons_ne hy] at h1
            rw [lookup_cons_ne hz] at h2
            obtain ⟨u, p', _⟩ := hv y _ h1
            obtain ⟨u', q', _⟩ := hv z _ h2
            have e1 := (vk y u hy p').inj p
            have e2 := (vk z u' hz q').inj q
            subst e1; subst e2
            exact hal y z l l' a h1 h2 p' q'
    exact wpAny_storeName_cell C.kind hk hcx hc₀ fun h' hc' hs' => ⟨key h' hc' hs', fun b o hb e => hs'.extBut b o (fun q => hb (q ▸ List.mem_cons_of_mem _ hcm)) e⟩

theorem bd_name {x : Str} {pos : Pos} {d : D} (hk : Kd env x) : Bd prog w A K env ρ (.Name x pos) d ((x, .d d) :: ρ) := fun c W s v C r => wpAny_assign_Name (storeA hk C r)

/-- names one by one -/
def namesOf : List Expr → List Str
  | [] => []
  | .Name x _ :: r => x :: namesOf r
  | _ :: r => namesOf r
def allNames : List Expr → Bool
  | [] => true
  | .Name _ _ :: r => allNames r
  | _ => false
def putAll : List Expr → List D → Rho → Rho
  | .Name x _ :: r, d :: ds, ρ => putAll r ds ((x, .d d) :: ρ)
  | _, _, ρ => ρ
theorem inOrder {es : List Expr} {ds : List D} (hb : ∀ x ∈ namesOf es, Kd env x) (ha : allNames es = true) (hl : es.length = ds.length) :
    ∀ {ρ : Rho} {c W s} {vs : List Value}, Core K env c W ρ s → RdL s.heap W ds vs → wpAny (model prog w) A (assignInOrder ((assignEach es env).map (·.2)) vs) (fun _ s' => Core K env c W (putAll es ds ρ) s' ∧ ∀ b o, b ∉ env.locals :: env.cells.map (·.2) → s.heap.get? b = some o → s'.heap.get? b = some o) noE s := by
  induction es generalizing ds with
  | nil =>
    intro ρ c W s vs C r
    cases ds with
    | nil => cases r; exact wpAny_pure ⟨C, fun _ _ _ e => e⟩
    | cons _ _ => simp at hl
  | cons e es ih =>
    intro ρ c W s vs C r
    cases e with
    | Name x pos =>
      cases ds with
      | nil => simp at hl
      | cons d ds =>
        obtain ⟨v, vs', e, r1, r2⟩ := r
        subst e
        show wpAny _ _ (do holding vs' (assign (.Name x pos) env v); assignInOrder ((assignEach es env).map (·.2)) vs') _ _ _
        refine wpAny_bind (wpAny_holding (wpAny_mono (bd_name (hb x (by simp [namesOf])) c W s v C r1) (fun _ s₁ ⟨C₁, k₁⟩ => ?_) fun _ _ x => x))
        have r2' : RdL s₁.heap W ds vs' := r2.keep fun b o hbW ho e => k₁ b o (fun q => C.notSeq ho e hbW (by
          rcases List.mem_cons.mp q with q | q
          · exact q ▸ List.mem_cons_self
          · exact List.mem_cons_of_mem _ (List.mem_append_left _ q))) e
        exact wpAny_mono (ih (fun x hx => hb x (by simp [namesOf, hx])) (ds := ds) ha (by simpa using hl) C₁ r2') (fun _ s₂ ⟨C₂, k₂⟩ => ⟨C₂, fun b o hb e => k₂ b o hb (k₁ b o hb e)⟩) fun _ _ x => x
    | _ => cases ha
theorem assignEach_plain {es : List Expr} (ha : allNames es = true) : (assignEach es env).length = es.length ∧ (assignEach es env).findIdx? (·.1) = none := by
  induction es with
  | nil => exact ⟨rfl, rfl⟩
  | cons e es ih =>
    cases e with
    | Name x pos =>
      obtain ⟨h1, h2⟩ := ih ha
      refine ⟨?_, ?_⟩
      · show ((false, assign (.Name x pos) env) :: assignEach es env).length = _
        simp [h1]
      · show ((false, assign (.Name x pos) env) :: assignEach es env).findIdx? _ = none
        simp [List.findIdx?_cons, h2]
    | _ => cases ha
theorem extBut_new {s : Shared} {h' : Heap} (x : Heap.ExtBut s.heap.objs.size s.heap h') (tk : Nat := s.toks) : Ext s { s with heap := h', toks := tk } := .heap tk fun b o e => x b o (Nat.ne_of_lt (Heap.lt_size e)) e

theorem bd_tuple {n : Nat} {es : List Expr} {k : Nat} {pos : Pos} {ds : List D} (hA : Aok A n) (hb : ∀ x ∈ namesOf es, Kd env x) (ha : allNames es = true) (hl : es.length = ds.length) : Bd prog w A K env ρ (.Tuple es k pos) (.tup ds) (putAll es ds ρ) := fun c W s v C ⟨a, vs, e, _, ht, hr⟩ => by
  subst e
  have hlen := hr.length
  obtain ⟨p1, p2⟩ := assignEach_plain (env := env) ha
  show wpAny _ _ (do standAt pos; unpack (.ref a) (assignEach es env)) _ _ _
  refine wpAny_bind (wpAny_standAt (wpAny_unpack_tuple hA.h ht.isTuple (by rw [p1]; simp; omega) p2 fun h' hx => ?_))
  have k := extBut_new hx
  exact wpAny_mono (inOrder hb ha hl (C.heap_mono k) (by simpa using hr.keeps k)) (fun _ s' ⟨C', k'⟩ => ⟨C', fun b o hb e => k' b o hb (k.get e)⟩) fun _ _ x => x
/-- a, b = e -/
theorem x_unpack {n : Nat} {es : List Expr} {k : Nat} {tp pos : Pos} {e : Expr} {ds ds' : List D} (hA : Aok A n) (h : Ev prog w A K env ρ true e (.tup ds')) (hd : ds' = ds) (hb : ∀ x ∈ namesOf es, Kd env x) (ha : allNames es = true) (hl : es.length = ds.length)
    (hs : swapsWithSole [.Tuple es k tp] e pos.line env = pure false := by rfl) (hw : swappedStores [.Tuple es k tp] e env = pure none := by rfl) : X prog w A K env ρ (.Assign [.Tuple es k tp] e pos) (.nxt (putAll es ds ρ)) := X.mk fun c W s _ C => by
  subst hd
  exact Assign_Tuple (wpAny_mono (h c W s C) (fun v s₁ ⟨k₁, r⟩ => wpAny_mono (bd_tuple hA hb ha hl c W s₁ v (C.heap_mono k₁) r) (fun _ s' ⟨C', _⟩ => ⟨rfl, W, C'⟩) fun _ _ x => x) fun _ _ x => x) hs hw
/-- two or three names from a display: the last is stored first -/
theorem x_swap2 {n : Nat} {x y : Str} {es : List Expr} {k : Nat} {tp pos : Pos} {e : Expr} {d₁ d₂ d₁' d₂' : D} (hA : Aok A n) (h : Ev prog w A K env ρ true e (.tup [d₁', d₂'])) (h1 : d₁' = d₁) (h2 : d₂' = d₂) (hx : Kd env x) (hy : Kd env y)
    (hs : swapsWithSole [.Tuple es k tp] e pos.line env = pure false := by rfl) (hw : swappedStores [.Tuple es k tp] e env = pure (some [x, y]) := by rfl) : X prog w A K env ρ (.Assign [.Tuple es k tp] e pos) (.nxt ((x, .d d₁) :: (y, .d d₂) :: ρ)) := X.mk fun c W s _ C => by
  subst h1; subst h2
  refine Assign_Tuple_swapped (wpAny_mono (h c W s C) (fun v s₁ ⟨k₁, a, vs, e, _, ht, hr⟩ => ?_) fun _ _ x => x) hs hw
  subst e
  have C₁ := C.heap_mono k₁
  obtain ⟨v₁, _, rfl, r₁, v₂, _, rfl, r₂, rfl⟩ := hr
  have hu := wpAny_unpackItems_tuple (prog := prog) (w := w) (A := A) (E := noE) hA.h ht.isTuple (Q := fun items s₂ => Ext s₁ s₂ ∧ items = (List.toArray _).toList) fun h' hx' => ⟨extBut_new hx', rfl⟩
  refine wpAny_mono hu (fun items s₂ ⟨k₂, ei⟩ => ?_) fun _ _ x => x
  subst ei
  have keep : ∀ {s s' : Shared} {V : List Addr} {d : D} {v : Value} {ρ : Rho}, Core K env c W ρ s → (∀ b o, b ∉ env.locals :: env.cells.map (·.2) → s.heap.get? b = some o → s'.heap.get? b = some o) → Rd s.heap W d v → Rd s'.heap W d v := fun C k r =>
    r.keep fun b o hbW ho e => k b o (fun q => C.notSeq ho e hbW (by
      rcases List.mem_cons.mp q with q | q
      · exact q ▸ List.mem_cons_self
      · exact List.mem_cons_of_mem _ (List.mem_append_left _ q))) e
  have C₂ := C₁.heap_mono k₂
  have st1 := storeA (prog := prog) (w := w) (A := A) hy C₂ (r₂.keeps k₂)
  show wpAny _ _ (do holding [v₁] (bindName env y v₂); (do holding [] (bindName env x v₁); pure ())) _ _ _
  refine wpAny_bind (wpAny_holding (wpAny_bindName (wpAny_mono st1 (fun _ s₃ ⟨C₃, k₃⟩ => ?_) fun _ _ x => x)))
  have st2 := storeA (prog := prog) (w := w) (A := A) hx C₃ (keep (V := W) C₂ k₃ (r₁.keeps k₂))
  exact wpAny_bind (wpAny_holding (wpAny_bindName (wpAny_mono st2 (fun _ s₄ ⟨C₄, _⟩ => wpAny_pure ⟨rfl, W, C₄⟩) fun _ _ x => x)))
theorem x_swap3 {n : Nat} {x y z : Str} {es : List Expr} {k : Nat} {tp pos : Pos} {e : Expr} {d₁ d₂ d₃ d₁' d₂' d₃' : D} (hA : Aok A n) (h : Ev prog w A K env ρ true e (.tup [d₁', d₂', d₃'])) (h1 : d₁' = d₁) (h2 : d₂' = d₂) (h3 : d₃' = d₃) (hx : Kd env x) (hy : Kd env y) (hz : Kd env z)
    (hs : swapsWithSole [.Tuple es k tp] e pos.line env = pure false := by rfl) (hw : swappedStores [.Tuple es k tp] e env = pure (some [x, y, z]) := by rfl) : X prog w A K env ρ (.Assign [.Tuple es k tp] e pos) (.nxt ((x, .d d₁) :: (y, .d d₂) :: (z, .d d₃) :: ρ)) := X.mk fun c W s _ C => by
  subst h1; subst h2; subst h3
  refine Assign_Tuple_swapped (wpAny_mono (h c W s C) (fun v s₁ ⟨k₁, a, vs, e, _, ht, hr⟩ => ?_) fun _ _ x => x) hs hw
  subst e
  have C₁ := C.heap_mono k₁
  obtain ⟨v₁, _, rfl, r₁, v₂, _, rfl, r₂, v₃, _, rfl, r₃, rfl⟩ := hr
  have hu := wpAny_unpackItems_tuple (prog := prog) (w := w) (A := A) (E := noE) hA.h ht.isTuple (Q := fun items s₂ => Ext s₁ s₂ ∧ items = (List.toArray _).toList) fun h' hx' => ⟨extBut_new hx', rfl⟩
  refine wpAny_mono hu (fun items s₂ ⟨k₂, ei⟩ => ?_) fun _ _ x => x
  subst ei
  have keep : ∀ {s s' : Shared} {V : List Addr} {d : D} {v : Value} {ρ : Rho}, Core K env c W ρ s → (∀ b o, b ∉ env.locals :: env.cells.map (·.2) → s.heap.get? b = some o → s'.heap.get? b = some o) → Rd s.heap W d v → Rd s'.heap W d v := fun C k r =>
    r.keep fun b o hbW ho e => k b o (fun q => C.notSeq ho e hbW (by
      rcases List.mem_cons.mp q with q | q
      · exact q ▸ List.mem_cons_self
      · exact List.mem_cons_of_mem _ (List.mem_append_left _ q))) e
  have C₂ := C₁.heap_mono k₂
  have st1 := storeA (prog := prog) (w := w) (A := A) hz C₂ (r₃.keeps k₂)
  show wpAny _ _ (do holding [v₂, v₁] (bindName env z v₃); (do holding [v₁] (bindName env y v₂); (do holding [] (bindName env x v₁); pure ()))) _ _ _
  refine wpAny_bind (wpAny_holding (wpAny_bindName (wpAny_mono st1 (fun _ s₃ ⟨C₃, k₃⟩ => ?_) fun _ _ x => x)))
  have st2 := storeA (prog := prog) (w := w) (A := A) hy C₃ (keep (V := W) C₂ k₃ (r₂.keeps k₂))
  refine wpAny_bind (wpAny_holding (wpAny_bindName (wpAny_mono st2 (fun _ s₄ ⟨C₄, k₄⟩ => ?_) fun _ _ x => x)))
  have st3 := storeA (prog := prog) (w := w) (A := A) hx C₄ (keep (V := W) C₃ k₄ (keep (V := W) C₂ k₃ (r₁.keeps k₂)))
  exact wpAny_bind (wpAny_holding (wpAny_bindName (wpAny_mono st3 (fun _ s₅ ⟨C₅, _⟩ => wpAny_pure ⟨rfl, W, C₅⟩) fun _ _ x => x)))
end
end Mine

namespace Mine
section
variable {prog : Program} {w : World} {A : Around} {K : Frag} {env : Env} {ρ ρ' ρ₁ ρ₂ : Rho}

/-! ### plain statements -/
theorem x_aug {x : Str} {xp pos : Pos} {op : Operator} {e : Expr} {d₁ d₂ d d' : D} (hx : ρ.lookup x = some (.d d₁)) (h : Ev prog w A K env ρ true e d₂) (hop : Op prog w A K (f2 (inplaceOp op)) [d₁, d₂] d') (hd : d' = d) (hk : Kd env x)
    (hdb : (x == ("__classdict__" : Str)) = false := by decide) : X prog w A K env ρ (.AugAssign (.Name x xp) op e pos) (.nxt ((x, .d d) :: ρ)) := X.mk fun c W s _ C => by
  subst hd
  obtain ⟨m, hn, hv, _⟩ := C.vars
  obtain ⟨v, p, r⟩ := hv x _ hx
  have go : wpAny (model prog w) A (eval e env) (fun v' s₂ => wpAny (model prog w) A (inplaceOp op v v') (fun r s₃ => wpAny (model prog w) A (storeName env x r) (fun _ s' => Flow.next = .next ∧ ∃ W', Core K env c W' ((x, .d d') :: ρ) s') noE s₃) noE s₂) noE s :=
    wpAny_mono (h c W s C) (fun v' s₁ ⟨k₁, r₁⟩ => by
      have C₁ := C.heap_mono k₁
      exact wpAny_mono (hop W s₁ [v, v'] C₁.alive C₁.top ⟨v, [v'], rfl, r.keeps k₁, v', [], rfl, r₁, rfl⟩) (fun v₂ s₂ ⟨k₂, r₂⟩ => (C₁.heap_mono k₂).store r₂ hk fun s' C' => ⟨rfl, W, C'⟩) fun _ _ x => x) fun _ _ x => x
  refine wpAny_AugAssign_Name ?_
  rcases p with ⟨k, e⟩ | ⟨k | k, a, ha, e⟩
  · exact wpAny_loadName_local C.kind k hn e go
  · exact wpAny_loadName_cell C.kind k ha e go
  · exact wpAny_loadName_free C.kind k ha e go hdb
theorem op_iadd {a b : Int} : Op prog w A K (f2 (inplaceOp .Add)) [.int a, .int b] (.int (a + b)) := Op.mk2 fun _ s _ _ _ _ ⟨t, e⟩ ⟨u, e'⟩ => by
  subst e; subst e'; exact PySem.AutoIntOps.iadd_0 ⟨.toks s _, _, rfl⟩
theorem op_isub {a b : Int} : Op prog w A K (f2 (inplaceOp .Sub)) [.int a, .int b] (.int (a - b)) := Op.mk2 fun _ s _ _ _ _ ⟨t, e⟩ ⟨u, e'⟩ => by
  subst e; subst e'; exact PySem.AutoIntOps.isub_0 ⟨.toks s _, _, rfl⟩

theorem x_if {test : Expr} {body orelse : List Stmt} {pos : Pos} {b : Bool} {out : Out} (h : EvC prog w A K env ρ test b) (h₁ : b = true → Xs prog w A K env ρ body out) (h₂ : b = false → Xs prog w A K env ρ orelse out) : X prog w A K env ρ (.If test body orelse pos) out := fun c W s ht C =>
  wpAny_If (wpAny_mono (wpAny_toks_of ht (h c W s C)) (fun b' s₁ ⟨ht', k, e⟩ => by
    subst e
    cases b' with
    | true => exact h₁ rfl c W s₁ ht' (C.heap_mono k)
    | false => exact h₂ rfl c W s₁ ht' (C.heap_mono k)) fun _ _ x => x.2.elim)
theorem x_assert {test : Expr} {msg : Option Expr} {pos : Pos} (h : EvC prog w A K env ρ test true) : X prog w A K env ρ (.Assert test msg pos) (.nxt ρ) := X.mk fun c W s _ C =>
  wpAny_Assert_holds (wpAny_mono (h c W s C) (fun b s₁ ⟨k, e⟩ => ⟨e, rfl, W, C.heap_mono k⟩) fun _ _ x => x)

/-! ### return -/
theorem ret_of {c : Cx} {W : List Addr} {s s' : Shared} {d : D} {v : Value} (C : Core K env c W ρ s) (k : Ext s s') (r : ∀ V, (∀ a ∈ V, ∃ o, c.Kp a o) → Rd s'.heap V d v) : Post K env c (.ret d) (.ret v) s' := by
  refine ⟨v, rfl, ?_, fun b o e => k.get (C.keep b o e), r⟩
  obtain ⟨h, t, e⟩ := C.same
  obtain ⟨h', t', e', _⟩ := k
  exact ⟨h', t', by rw [e', e]⟩
theorem x_retFlat {e : Expr} {pos : Pos} {d d' : D} (h : Ev prog w A K env ρ false e d') (hd : d' = d) (hf : d.flat = true) : X prog w A K env ρ (.Return (some e) pos) (.ret d) := X.mk fun c W s _ C => by
  subst hd
  exact wpAny_Return_some (wpAny_mono (h c W s C) (fun v s' ⟨k, r⟩ => ret_of C k fun V _ => r.flat hf) fun _ _ x => x)
def allFlat : List D → Bool
  | [] => true
  | d :: ds => d.flat && allFlat ds
theorem RdL.allFlat {h h' : Heap} {V V' : List Addr} : ∀ {ds : List D} {vs : List Value}, Mine.allFlat ds = true → RdL h V ds vs → RdL h' V' ds vs
  | [], _, _, x => x
  | _ :: _, _, hf, ⟨v, vs', e, x, y⟩ => ⟨v, vs', e, x.flat (Bool.and_eq_true_iff.mp hf).1, RdL.allFlat (Bool.and_eq_true_iff.mp hf).2 y⟩
theorem x_retN {e : Expr} {pos : Pos} {l l' : List D} (h : EvN prog w A K env ρ e l') (hd : l' = l) (hf : allFlat l = true) : X prog w A K env ρ (.Return (some e) pos) (.ret (.lst l)) := X.mk fun c W s _ C => by
  subst hd
  exact wpAny_Return_some (wpAny_mono (h c W s C) (fun v s' ⟨k, a, vs, e, hn, hp, hl, _⟩ => ret_of C k fun V hV => ⟨a, vs, e, (fun q => by have q' := hV a q; have := C.keep a q'.choose q'.choose_spec; rw [hn] at this; cases this), hp, hl.allFlat hf⟩) fun _ _ x => x)
/-! ### lists that are changed -/
theorem owned {x : Str} {l : List D} {c : Cx} {W : List Addr} {s : Shared} (C : Core K env c W ρ s) (hx : ρ.lookup x = some (.own l)) : ∃ m a vs, s.heap.Ns env.locals m ∧ Var env m s.heap x (.ref a) ∧ a ∈ W ∧ s.heap.PlainList a vs.toArray ∧ RdL s.heap W l vs := by
  obtain ⟨m, hn, hv, _⟩ := C.vars
  obtain ⟨v, p, a, vs, e, ha, hp, hl⟩ := hv x _ hx
  subst e
  exact ⟨m, a, vs, hn, p, ha, hp, hl⟩
theorem Var.keeps {m : Str → Option Value} {s s' : Shared} {x : Str} {v : Value} (p : Var env m s.heap x v) (k : Ext s s') : Var env m s'.heap x v := p.imp id fun ⟨k1, c, hc, e⟩ => ⟨k1, c, hc, isCell_keeps e k⟩

/-- x.append(e) -/
theorem x_append {x : Str} {xp apos cpos pos : Pos} {e : Expr} {l l' : List D} {d : D} (hx : ρ.lookup x = some (.own l)) (h : Ev prog w A K env ρ true e d) (hl' : l ++ [d] = l') (hz : l.length ≤ 1000000)
    (hi : interactive env = false := by rfl) (hs : swapsWith (.Call (.Attribute (.Name x xp) (Str.ofString "append") apos) [e] [] cpos) none pos.line env = pure false := by rfl)
    (hdb : (x == ("__debug__" : Str)) = false := by decide) (hcd : (x == ("__classdict__" : Str)) = false := by decide)
    (hbase : attributeBase (.Name x xp) (Str.ofString "append") env (eval (.Name x xp) env) = eval (.Name x xp) env := by rfl)
    (hfew : ((backTo cpos (starEach [e] env)).all (fun x => !x.1) && (backToKw cpos (keywordEach [] env)).all (fun x => x.1.isSome) && decide ([e].length + ([] : List Keyword).length + (if ([] : List Keyword).isEmpty then 0 else 1) < 30)) = true := by rfl)
    (hline : (apos.endLine == cpos.line) = true := by rfl)
    (hss : ((backTo cpos (starEach [e] env)).any (·.1)) = false := by rfl) (hse : starEach [e] env = [(false, eval e env)] := by rfl) :
    X prog w A K env ρ (.Expr (.Call (.Attribute (.Name x xp) (Str.ofString "append") apos) [e] [] cpos) pos) (.nxt ((x, .own l') :: ρ)) := X.mk fun c W s _ C => by
  subst hl'
  obtain ⟨m, a, vs, hn, p, ha, hp, hl⟩ := owned C hx
  refine wpAny_Expr_any ?_ hi hs
  refine wpAny_Call_method hbase hfew hline F.plainAttrs_list slot_list_append F.type_list_append (var_load C.kind hn p ⟨hp.isList.typeIs, fun b q => by cases q; obtain ⟨n, e⟩ := hp; exact ⟨_, e, rfl⟩, ?_⟩ hdb hcd)
  refine Calls.callWith_builtin hss (evalArgs_any hss ?_)
  rw [hse]
  show wpAny _ _ (spliced [(false, eval e env)]) _ _ _
  refine Calls.spliced_cons (wpAny_mono (h c W s C) (fun v s₁ ⟨k₁, r₁⟩ => Calls.spliced_nil ?_) fun _ _ x => x)
  have C₁ := C.heap_mono k₁
  have hlen := hl.length
  refine wpAny_list_append_plain (plainList_keeps hp k₁) (fun h' hp' hs' => ⟨rfl, W, ?_⟩) (by rw [sizeLine_eq]; simp; omega)
  refine C₁.mutate (vs := vs ++ [v]) hx (hn.keeps k₁.keeps) (p.keeps k₁) (fun b o hb e => hs'.extBut b o hb e) (by simpa using hp') ?_
  exact ((hl.keeps k₁).append (RdL.single r₁)).keep fun b o hb _ e => hs'.extBut b o (fun q => hb (q ▸ ha)) e

/-- del x[i] -/
theorem x_del {x : Str} {xp sp pos : Pos} {e : Expr} {l l' : List D} {i : Int} {k : Nat} (hx : ρ.lookup x = some (.own l)) (h : Ev prog w A K env ρ true e (.int i)) (hk : seqIndex? i l.length = some k) (hl' : l.eraseIdx k = l') (hz : l.length ≤ 1000000) (hi : -1000000 ≤ i) (hi2 : i ≤ 1000000)
    (hdb : (x == ("__debug__" : Str)) = false := by decide) (hcd : (x == ("__classdict__" : Str)) = false := by decide) :
    X prog w A K env ρ (.Delete [.Subscript (.Name x xp) e sp] pos) (.nxt ((x, .own l') :: ρ)) := X.mk fun c W s _ C => by
  subst hl'
  obtain ⟨m, a, vs, hn, p, ha, hp, hl⟩ := owned C hx
  have hlen := hl.length
  refine wpAny_Delete ?_
  show wpAny _ _ (do delete (.Subscript (.Name x xp) e sp) env; pure ()) _ _ _
  refine wpAny_bind (wpAny_delete_Subscript (var_load C.kind hn p (wpAny_mono (h c W s C) (fun v s₁ ⟨k₁, t, e⟩ => ?_) fun _ _ x => x) hdb hcd))
  subst e
  have C₁ := C.heap_mono k₁
  refine wpAny_delItem_plain (plainList_keeps hp k₁) (k := k) (by simp [Builtin.List.listFitsIndex]; omega) (by simpa [hlen] using hk) (fun h' hp' hs' => wpAny_pure ⟨rfl, W, ?_⟩) (by rw [sizeLine_eq]; simp; omega)
  have he : vs.toArray.eraseIdxIfInBounds k = (vs.eraseIdx k).toArray := by
    apply Array.ext'
    simp [Array.toList_eraseIdxIfInBounds]
  rw [he] at hp'
  refine C₁.mutate (vs := vs.eraseIdx k) hx (hn.keeps k₁.keeps) (p.keeps k₁) (fun b o hb e => hs'.extBut b o hb e) hp' ?_
  have hl1 : RdL s₁.heap W (l.eraseIdx k) (vs.eraseIdx k) := by
    rw [List.eraseIdx_eq_take_drop_succ, List.eraseIdx_eq_take_drop_succ]
    exact ((hl.keeps k₁).take k).append ((hl.keeps k₁).drop (k + 1))
  exact hl1.keep fun b o hb _ e => hs'.extBut b o (fun q => hb (q ▸ ha)) e

/-- x[i] = e -/
theorem x_setItem {x : Str} {xp sp pos : Pos} {i e : Expr} {l l' : List D} {k : Int} {d : D} (hx : ρ.lookup x = some (.own l)) (he : Ev prog w A K env ρ true e d) (hi : Ev prog w A K env ρ true i (.int k)) (h0 : 0 ≤ k) (h1 : k < l.length) (hl' : l.set k.toNat d = l') (hz : l.length ≤ 1000000)
    (hs : swapsWith e (some (.Subscript (.Name x xp) i sp)) pos.line env = pure false := by rfl)
    (hdb : (x == ("__debug__" : Str)) = false := by decide) (hcd : (x == ("__classdict__" : Str)) = false := by decide) :
    X prog w A K env ρ (.Assign [.Subscript (.Name x xp) i sp] e pos) (.nxt ((x, .own l') :: ρ)) := X.mk fun c W s _ C => by
  subst hl'
  refine wpAny_Assign_Subscript (wpAny_mono (he c W s C) (fun v s₁ ⟨k₁, r₁⟩ => ?_) fun _ _ x => x) hs
  have C₁ := C.heap_mono k₁
  obtain ⟨m, a, vs, hn, p, ha, hp, hl⟩ := owned C₁ hx
  have hlen := hl.length
  refine var_load C₁.kind hn p (wpAny_mono (hi c W s₁ C₁) (fun iv s₂ ⟨k₂, t, e⟩ => ?_) fun _ _ x => x) hdb hcd
  subst e
  have C₂ := C₁.heap_mono k₂
  obtain ⟨n, ho⟩ := plainList_keeps hp k₂
  refine ki_setAt (items := vs.toArray) (n := n) ho h0 (by omega) (by simp; omega) ⟨rfl, W, ?_⟩
  have hsb := Heap.SameBut.update s₂.heap a (Obj.mapSeq (·.setIfInBounds k.toNat v))
  refine C₂.mutate (vs := vs.set k.toNat v) hx (hn.keeps k₂.keeps) (p.keeps k₂) (fun b o hb e => hsb.extBut b o hb e) ⟨n, ?_⟩ ?_
  · have q := PySem.IsL.update ho (·.setIfInBounds k.toNat v)
    have hsz : (vs.toArray.setIfInBounds k.toNat v).size = vs.toArray.size := by simp
    rw [if_pos (by simpa using hsz)] at q
    rw [q]; simp
  · have hset : RdL s₂.heap W (l.set k.toNat d) (vs.set k.toNat v) := by
      refine RdL.of_get (by simp [hlen]) fun j d' v' e1 e2 => ?_
      rw [List.getElem?_set] at e1 e2
      by_cases hj : k.toNat = j
      · rw [if_pos hj] at e1 e2
        split at e1
        · cases e1
          split at e2
          · cases e2; exact r₁.keeps k₂
          · cases e2
        · cases e1
      · rw [if_neg hj] at e1 e2
        obtain ⟨u, q1, q2⟩ := (hl.keeps k₂).get e1
        rw [q1] at e2; cases e2; exact q2
    exact hset.keep fun b o hb _ e => hsb.extBut b o (fun q => hb (q ▸ ha)) e

/-! ### what for walks -/
theorem evI_list {q : Bool} {n : Nat} {e : Expr} {ds : List D} (hA : Aok A n) (h : Ev prog w A K env ρ q e (.lst ds)) : EvI prog w A K env ρ q e ds := fun c W s C =>
  wpAny_mono (h c W s C) (fun v s₁ ⟨k, a, vs, e, ha, hp, hl⟩ => by
    subst e
    have hlen := hl.length
    refine ⟨k, wpAny_pyIter_list hp.isList ⟨.push _ _, s₁.heap.objs.size, [s₁.heap.objs.size, a], fun i v => vs.toArray[i]? = some v, fun i h => h.IsListIter s₁.heap.objs.size a i ∧ h.IsList a vs.toArray, rfl, ?_, ⟨⟨_, Heap.get?_push_size _ rfl, rfl, rfl⟩, hp.isList.push _⟩, get_size _, ?_, ?_, ?_⟩⟩
    · have := Walks.list (prog := prog) (w := w) (A := A) hA.h s₁.heap.objs.size a (Nat.ne_of_lt (Heap.lt_size hp.choose_spec)) vs.toArray
      rwa [show vs.toArray.size = ds.length by simp [hlen]] at this
    · rintro i h ⟨⟨o, ho, hc, hd⟩, _⟩
      exact ⟨o, ho, (fun ⟨_, _, _, q⟩ => by subst q; cases hd), _, hc, by decide⟩
    · intro b hb
      simp at hb
      rcases hb with rfl | rfl
      · exact .inl rfl
      · obtain ⟨k, e⟩ := hp
        exact .inr ⟨ha, _, e, _, _, _, rfl⟩
    · intro i v d hv hd
      obtain ⟨u, q1, q2⟩ := hl.get hd
      have : vs[i]? = some v := (List.getElem?_toArray ..).symm.trans hv
      rw [q1] at this; cases this; exact q2) fun _ _ x => x
theorem evI_str {q : Bool} {n : Nat} {e : Expr} {x : List Nat} (hA : Aok A n) (h : Ev prog w A K env ρ q e (.str x)) : EvI prog w A K env ρ q e (x.map fun c => .str [c]) := fun c W s C =>
  wpAny_mono (h c W s C) (fun v s₁ ⟨k, t, e⟩ => by
    subst e
    refine ⟨k, wpAny_pyIter_strU ?_⟩
    have hnew := Heap.get?_push_size s₁.heap (o := { cls := .type (strIterType (S x)), data := .fields #[.str (S x) t, .int 0 0] }) rfl
    have hw : ∃ St, Walks prog w A s₁.heap.objs.size [s₁.heap.objs.size] [s₁.heap.objs.size] (S x).cps.size (SignAt (S x)) St ∧ (∀ (i : Nat) h, St i h → ∃ o, h.get? s₁.heap.objs.size = some o ∧ ¬ isSeqO o ∧ ∃ n, o.cls = .type n ∧ quietT n = true) ∧ St 0 (s₁.heap.push { cls := .type (strIterType (S x)), data := .fields #[.str (S x) t, .int 0 0] }) := by
      cases ha : (S x).cps.all (· < 128)
      · exact ⟨_, Walks.strWide hA.h _ (S x) t, (fun i h ⟨o, ho, hc, hd⟩ => ⟨o, ho, (fun ⟨_, _, _, q⟩ => by subst q; cases hd), _, hc, by decide⟩), ⟨_, hnew, by unfold strIterType; rw [ha]; rfl, rfl⟩⟩
      · exact ⟨_, Walks.strAscii hA.h _ (S x) t, (fun i h ⟨o, ho, hc, hd⟩ => ⟨o, ho, (fun ⟨_, _, _, q⟩ => by subst q; cases hd), _, hc, by decide⟩), ⟨_, hnew, by unfold strIterType; rw [ha]; rfl, rfl⟩⟩
    obtain ⟨St, W₁, hns, st⟩ := hw
    refine ⟨.push _ _, s₁.heap.objs.size, [s₁.heap.objs.size], SignAt (S x), St, rfl, by simpa using W₁, st, get_size _, hns, fun b hb => .inl (by simpa using hb), ?_⟩
    · intro i v d ⟨c', u, hc, hv⟩ hd
      subst hv
      have hc' : x[i]? = some c' := by simpa using hc
      rw [List.getElem?_map, hc'] at hd
      cases hd
      exact ⟨u, rfl⟩) fun _ _ x => x
def rng (n : Nat) : List D := (List.range n).map fun (i : Nat) => D.int (i : Int)
theorem evI_range {q : Bool} {m : Nat} {x : Str} {np pos : Pos} {e : Expr} {n : Int} (hA : Aok A m) (hf : EvF prog w A K env ρ (.Name x np) (.type "range")) (h : Ev prog w A K env ρ q e (.int n)) (hn : n < 1000000) (hn0 : -1000000 < n)
    (hs : ((backTo pos (starEach [e] env)).any (·.1)) = false := by rfl) (hse : starEach [e] env = [(false, eval e env)] := by rfl) : EvI prog w A K env ρ q (.Call (.Name x np) [e] [] pos) (rng n.toNat) := fun c W s C => by
  refine wpAny_Call_ofName (wpAny_mono (hf c W s C) (fun v s' ⟨e1, e2⟩ => ?_) fun _ _ x => x)
  subst e1; subst e2
  refine PyProof.Rows.callWith_type hs (evalArgs_any hs ?_)
  rw [hse]
  show wpAny _ _ (spliced [(false, eval e env)]) _ _ _
  refine Calls.spliced_cons (wpAny_mono (h c W s' C) (fun v s₁ ⟨k₁, t, e⟩ => Calls.spliced_nil ?_) fun _ _ x => x)
  subst e
  refine call_range_1 ?_
  have hr : IsRange (s₁.heap.push { cls := .type "range", data := .fields #[.int 0 s₁.toks, .int n t, .int 1 (s₁.toks + 1)] }) s₁.heap.objs.size 0 n 1 s₁.toks t (s₁.toks + 1) := IsRange.new ..
  refine ⟨k₁.trans (.push _ _ _), wpAny_pyIter_range hr (small_one (by omega) (by omega) (by omega) (by omega)) ?_⟩
  generalize hH : s₁.heap.push { cls := .type "range", data := .fields #[.int 0 s₁.toks, .int n t, .int 1 (s₁.toks + 1)] } = H at hr
  have hsz : Builtin.Range.rangeSize 0 n 1 = ((n.toNat : Nat) : Int) := by rw [rangeSize_one]; split <;> omega
  dsimp only
  rw [hsz]
  have hnew := Heap.get?_push_size H (o := { cls := .type "range_iterator", data := .fields #[rawInt 0, rawInt (n.toNat : Int), rawInt 1] }) rfl
  have hW := LCg.range_walks (prog := prog) (w := w) (I := H.objs.size) hA.h 0 n.toNat
  rw [show n.toNat = (rng n.toNat).length by simp [rng]] at hW
  refine ⟨.push _ _, H.objs.size, [H.objs.size], _, _, rfl, hW, ?_, get_size _, ?_, fun b hb => .inl (by simpa using hb), ?_⟩
  · show _ = _
    rw [hnew]
    simp [rng]
  · intro i h e
    exact ⟨_, e, (fun ⟨_, _, _, q⟩ => by cases q), _, rfl, by decide⟩
  · intro i v d ⟨t', hv⟩ hd
    subst hv
    simp only [rng, List.getElem?_map] at hd
    rcases Nat.lt_or_ge i n.toNat with q | q
    · rw [List.getElem?_range q] at hd; cases hd
      exact ⟨t', by simp⟩
    · rw [List.getElem?_eq_none (by simpa using q)] at hd; cases hd
end
end Mine

namespace Mine
section
variable {prog : Program} {w : World} {A : Around} {K : Frag} {env : Env} {ρ ρ' ρ₁ ρ₂ : Rho}

theorem Post.leave {c : Cx} {W : List Addr} {ρ : Rho} {s : Shared} {d : D} {f : Flow} {s' : Shared} (C : Core K env c W ρ s) (h : Post K env (c.here s env W) (.ret d) f s') : Post K env c (.ret d) f s' := by
  obtain ⟨v, e, h1, h2, h3⟩ := h
  exact ⟨v, e, h1, fun b o q => h2 b o (C.kp q), fun V hV => h3 V fun a ha => (hV a ha).imp fun o q => C.kp q⟩

/-- a for that goes N turns and ends there, or leaves with r in the next turn -/
theorem x_forG {target iter : Expr} {body : List Stmt} {pos : Pos} {ds : List D} {ρs : Nat → Rho} {out : Out} (N : Nat) (hI : EvI prog w A K env (ρs 0) true iter ds)
    (step : ∀ (i : Nat) (d : D), i < N → ds[i]? = some d → ∃ ρb, Bd prog w A K env (ρs i) target d ρb ∧ Xs prog w A K env ρb body (.nxt (ρs (i + 1))))
    (fin : (N = ds.length ∧ out = .nxt (ρs N)) ∨ ∃ d ρb r, ds[N]? = some d ∧ Bd prog w A K env (ρs N) target d ρb ∧ out = .ret r ∧ Xs prog w A K env ρb body (.ret r))
    (hs : ∀ x, foldedSetIterable iter env x = pure x := by intro _; rfl) : X prog w A K env (ρs 0) (.For target iter body [] pos) out := by
  intro c W s hto C
  refine wpAny_For (wpAny_mono (wpAny_toks_of hto (hI c W s C)) (fun x s₁ ⟨ht₁, k₁, h₁⟩ => wpAny_mono (wpAny_toks_of ht₁ h₁) (fun it s₂ ⟨ht₂, k₂, I, fp, P, St, e, Wk, st, hnone, hobj, hfp, hitem⟩ => ?_) fun _ _ x => x.2.elim) fun _ _ x => x.2.elim) hs
  subst e
  have C₁ := C.heap_mono k₁
  have C₂ := C₁.heap_mono k₂
  obtain ⟨hIF, hIk⟩ := C₁.fresh hnone
  simp only [sel, cond_true] at hfp hitem
  have hN : N ≤ ds.length := by
    rcases fin with ⟨e, _⟩ | ⟨d, _, _, e, _⟩
    · omega
    · exact Nat.le_of_lt (List.getElem?_eq_some_iff.mp e).1
  refine codeAny_mono (R := fun r s' => ∃ f, r = .ok f ∧ Post K env c out f s') ?_ (fun r s' ⟨f, e, h⟩ => by subst e; exact h)
  refine codeAny_forLoop_any
    (fun k s' => ∃ i W', k = N + 1 - i ∧ i ≤ N ∧ 1 ≤ s'.toks ∧ Core K env c W' (ρs i) s' ∧ St i s'.heap ∧ I ∉ FP env W' ∧ (∀ b ∈ fp, b = I ∨ (b ∉ FP env W' ∧ ∃ o, s'.heap.get? b = some o)) ∧
      (∀ (j : Nat) v d, P j v → ds[j]? = some d → Rd s'.heap ([I] ++ W') d v))
    ?_ (N + 1) ⟨0, W, rfl, Nat.zero_le _, ht₂, C₂, st, hIF, ?_, ?_⟩
  · rintro k s' ⟨i, W', rfl, hi, ht', C', st', hIF', hfp', hitem'⟩
    obtain ⟨oI, hoI, hnI⟩ := hobj i s'.heap st'
    have hother : ∀ h' tk, (∀ b o, b ∉ [I] → s'.heap.get? b = some o → h'.get? b = some o) → Core K env c W' (ρs i) { s' with heap := h', toks := tk } := fun h' tk hk =>
      C'.other (a := I) (fun b o hb e => hk b o (by simpa using hb) e) hIF' hIk fun o ho e => by rw [hoI] at e; cases e; exact hnI.1 ho
    -- the item and the turn's body
    have turn : ∀ (d : D) (ρb : Rho) (o' : Out), i < ds.length → ds[i]? = some d → Bd prog w A K env (ρs i) target d ρb → Xs prog w A K env ρb body o' →
        wpAny (model prog w) A (pyNext (.ref I)) (fun r s₁ => ∃ v, r = some v ∧ (∃ o n, s₁.heap.get? I = some o ∧ o.cls = .type n ∧ quietT n = true) ∧ wpAny (model prog w) A (assign target env v) (fun _ s₂ => wpAny (model prog w) A (execs body env) (fun f s₃ =>
          Core K env c W' ρb s₂ ∧ Post K env (c.here s₂ env W') o' f s₃ ∧ (∀ W3 ρ3, Core K env (c.here s₂ env W') W3 ρ3 s₃ → St (i + 1) s₃.heap ∧ I ∉ FP env W3 ∧ (∀ b ∈ fp, b = I ∨ (b ∉ FP env W3 ∧ ∃ o, s₃.heap.get? b = some o)) ∧
            (∀ (j : Nat) v d, P j v → ds[j]? = some d → Rd s₃.heap ([I] ++ W3) d v))) noE s₂) noE s₁) noE s' := by
      intro d ρb o' hlt hd hbd hxs
      refine wpAny_mono (wpAny_toks_of ht' (Wk.item i s' (fun r s₁ => ∃ v, r = some v ∧ P i v ∧ St (i + 1) s₁.heap ∧ ∃ h' tk, s₁ = { s' with heap := h', toks := tk } ∧ ∀ b o, b ∉ [I] → s'.heap.get? b = some o → h'.get? b = some o) noE hlt st' fun v h' tk hPv hst hk => ⟨v, rfl, hPv, hst, h', tk, rfl, hk⟩))
        (fun r s₁ ⟨ht₁, v, e, hPv, hst, h', tk, es, hk⟩ => ?_) fun _ _ x => x.2.elim
      subst es
      have C₁ := hother h' tk hk
      have rv : Rd h' ([I] ++ W') d v := (hitem' i v d hPv hd).keep fun b o hb _ e => hk b o (fun q => hb (List.mem_append_left _ q)) e
      refine ⟨v, e, (by obtain ⟨o, q1, _, n, q2, q3⟩ := hobj _ _ hst; exact ⟨o, n, q1, q2, q3⟩), wpAny_mono (wpAny_toks_of ht₁ (hbd c W' _ v C₁ (Rd.sub (fun a ha => List.mem_append_right _ ha) rv))) (fun _ s₂ ⟨ht₂, C₂, k₂⟩ => ?_) fun _ _ x => x.2.elim⟩
      have nfp : ∀ b, b ∉ FP env W' → b ∉ env.locals :: env.cells.map (·.2) := fun b hb q => hb (by
        rcases List.mem_cons.mp q with q | q
        · exact q ▸ List.mem_cons_self
        · exact List.mem_cons_of_mem _ (List.mem_append_left _ q))
      have hfp₁ : ∀ b ∈ fp, b = I ∨ (b ∉ FP env W' ∧ ∃ o, h'.get? b = some o) := fun b hb => (hfp' b hb).imp id fun ⟨q, o, e⟩ => by
        by_cases hbI : b = I
        · exact ⟨hbI ▸ hIF', by obtain ⟨o, e, _⟩ := hobj _ _ hst; exact ⟨o, hbI ▸ e⟩⟩
        · exact ⟨q, o, hk b o (by simpa using hbI) e⟩
      have st₂ : St (i + 1) s₂.heap := Wk.frame _ _ _ hst fun b hb o e => by
        rcases hfp₁ b hb with q | ⟨q, _⟩
        · exact k₂ b o (nfp b (q ▸ hIF')) e
        · exact k₂ b o (nfp b q) e
      have rest : ∀ (j : Nat) v d, P j v → ds[j]? = some d → Rd s₂.heap ([I] ++ W') d v := fun j v d hv hd => by
        have r1 : Rd h' ([I] ++ W') d v := (hitem' j v d hv hd).keep fun b o hb _ e => hk b o (fun q => hb (List.mem_append_left _ q)) e
        exact r1.keep fun b o hb ho e => k₂ b o (nfp b (C₁.notSeq ho e fun q => hb (List.mem_append_right _ q))) e
      refine wpAny_mono (hxs (c.here s₂ env W') W' s₂ ht₂ C₂.enter) (fun f s₃ hp => ⟨C₂, hp, fun W3 ρ3 C₃ => ?_⟩) fun _ _ x => x
      have keep3 : ∀ b o, b ∉ FP env W' → s₂.heap.get? b = some o → s₃.heap.get? b = some o := fun b o hb e => C₃.keep b o ⟨e, hb⟩
      have notin : ∀ b, b ∉ FP env W' → (∃ o, s₂.heap.get? b = some o) → b ∉ FP env W3 := fun b hb ⟨o, e⟩ q => C₃.new b q o ⟨e, hb⟩
      obtain ⟨oI₂, hoI₂, _⟩ := hobj _ _ st₂
      have hfp₂ : ∀ b ∈ fp, b = I ∨ (b ∉ FP env W' ∧ ∃ o, s₂.heap.get? b = some o) := fun b hb => (hfp₁ b hb).imp id fun ⟨q, o, e⟩ => ⟨q, o, k₂ b o (nfp b q) e⟩
      refine ⟨Wk.frame _ _ _ st₂ fun b hb o e => ?_, notin I hIF' ⟨_, hoI₂⟩, fun b hb => (hfp₂ b hb).imp id fun ⟨q, o, e⟩ => ⟨notin b q ⟨o, e⟩, o, keep3 b o q e⟩, fun j v d hv hd => C₂.overV [I] C₃ (rest j v d hv hd)⟩
      rcases hfp₂ b hb with q | ⟨q, _⟩
      · exact keep3 b o (q ▸ hIF') e
      · exact keep3 b o q e
    by_cases hlt : i < N
    · have hlt' : i < ds.length := by omega
      obtain ⟨ρb, hbd, hxs⟩ := step i ds[i] hlt (List.getElem?_eq_getElem hlt')
      refine wpAny_mono (turn _ ρb _ hlt' (List.getElem?_eq_getElem hlt') hbd hxs) (fun r s₁ ⟨v, e, ⟨oq, nq, q1, q2, q3⟩, h₁⟩ => ?_) fun _ _ x => x.elim
      subst e
      refine owned_quiet q1 q2 q3 (wpAny_mono h₁ (fun _ s₂ h₂ => wpAny_mono h₂ (fun f s₃ ⟨C₂, ⟨ef, ht₃, W3, C₃⟩, h₃⟩ => ?_) fun _ _ x => x.elim) fun _ _ x => x.elim)
      subst ef
      obtain ⟨a1, a2, a3, a4⟩ := h₃ W3 _ C₃
      exact ⟨N + 1 - (i + 1), by omega, i + 1, W3, rfl, hlt, ht₃, C₂.leave C₃, a1, a2, a3, a4⟩
    · have hiN : i = N := by omega
      subst hiN
      rcases fin with ⟨e, eo⟩ | ⟨d, ρb, r, hd, hbd, eo, hxs⟩
      · refine wpAny_mono (wpAny_toks_of ht' (Wk.done s' (fun r s₁ => r = none ∧ ∃ h' tk, s₁ = { s' with heap := h', toks := tk } ∧ ∀ b o, b ∉ [I] → s'.heap.get? b = some o → h'.get? b = some o) noE (e ▸ st') fun h' tk hk => ⟨rfl, h', tk, rfl, hk⟩)) (fun r s₁ ⟨ht₁, er, h', tk, es, hk⟩ => ?_) fun _ _ x => x.2.elim
        subst er; subst es
        refine wpAny_execs_nil ⟨_, rfl, ?_⟩
        rw [eo]
        exact ⟨rfl, ht₁, W', hother h' tk hk⟩
      · have hlt' : i < ds.length := (List.getElem?_eq_some_iff.mp hd).1
        refine wpAny_mono (turn d ρb _ hlt' hd hbd hxs) (fun r' s₁ ⟨v, e, ⟨oq, nq, q1, q2, q3⟩, h₁⟩ => ?_) fun _ _ x => x.elim
        subst e
        refine owned_quiet q1 q2 q3 (wpAny_mono h₁ (fun _ s₂ h₂ => wpAny_mono h₂ (fun f s₃ ⟨C₂, hp, _⟩ => ?_) fun _ _ x => x.elim) fun _ _ x => x.elim)
        obtain ⟨v', ef, hp'⟩ := id hp
        subst ef
        refine ⟨_, rfl, ?_⟩
        rw [eo]
        exact Post.leave C₂ hp
  · intro b hb
    rcases hfp b hb with q | ⟨q, o, e, ho⟩
    · exact .inl q
    · exact .inr ⟨C₁.notSeq ho e q, o, k₂.get e⟩
  · intro j v d hv hd
    have := hitem j v d hv hd
    exact (Rd.own (n := I) (fun o _ e => by rw [hnone] at e; cases e) this).keeps k₂
/-- to its end -/
theorem x_for {target iter : Expr} {body : List Stmt} {pos : Pos} {ds : List D} (ρs : Nat → Rho) (hI : EvI prog w A K env (ρs 0) true iter ds)
    (step : ∀ (i : Nat) (d : D), ds[i]? = some d → ∃ ρb, Bd prog w A K env (ρs i) target d ρb ∧ Xs prog w A K env ρb body (.nxt (ρs (i + 1))))
    (hs : ∀ x, foldedSetIterable iter env x = pure x := by intro _; rfl) : X prog w A K env (ρs 0) (.For target iter body [] pos) (.nxt (ρs ds.length)) :=
  x_forG ds.length hI (fun i d _ hd => step i d hd) (.inl ⟨rfl, rfl⟩) hs

/-- a while that goes n turns -/
theorem x_while {test : Expr} {body : List Stmt} {pos : Pos} (n : Nat) (ρs : Nat → Rho) (ht : ∀ i, i < n → EvC prog w A K env (ρs i) test true) (hb : ∀ i, i < n → Xs prog w A K env (ρs i) body (.nxt (ρs (i + 1)))) (hf : EvC prog w A K env (ρs n) test false) :
    X prog w A K env (ρs 0) (.While test body [] pos) (.nxt (ρs n)) := by
  intro c W s hto C
  refine wpAny_While (codeAny_mono (R := fun r s' => ∃ f, r = .ok f ∧ Post K env c (.nxt (ρs n)) f s') ?_ fun r s' ⟨f, e, h⟩ => by subst e; exact h)
  refine codeAny_whileLoop (fun k s' => ∃ i W', k = n - i ∧ i ≤ n ∧ 1 ≤ s'.toks ∧ Core K env c W' (ρs i) s') ?_ n ⟨0, W, rfl, Nat.zero_le _, hto, C⟩
  rintro k s' ⟨i, W', rfl, hi, ht', C'⟩
  by_cases hlt : i < n
  · refine wpAny_mono (wpAny_toks_of ht' (ht i hlt c W' s' C')) (fun b s₁ ⟨ht₁, k₁, e⟩ => ?_) fun _ _ x => x.2.elim
    subst e
    simp only [if_true]
    refine wpAny_mono (hb i hlt c W' s₁ ht₁ (C'.heap_mono k₁)) (fun f s₂ ⟨ef, ht₂, W2, C₂⟩ => ?_) fun _ _ x => x.elim
    subst ef
    exact ⟨n - (i + 1), by omega, i + 1, W2, rfl, hlt, ht₂, C₂⟩
  · have hin : i = n := by omega
    subst hin
    refine wpAny_mono (wpAny_toks_of ht' (hf c W' s' C')) (fun b s₁ ⟨ht₁, k₁, e⟩ => ?_) fun _ _ x => x.2.elim
    subst e
    simp only [Bool.false_eq_true, if_false]
    exact wpAny_execs_nil ⟨_, rfl, rfl, ht₁, W', C'.heap_mono k₁⟩
end
end Mine

namespace Mine
section
variable {prog : Program} {w : World} {A : Around} {K : Frag} {env : Env} {ρ ρ' ρ₁ ρ₂ : Rho}

/-- what a comprehension takes along -/
def Capt (env : Env) (scope : Scope) (cl : List (Str × Addr)) (ρ ρc : Rho) : Prop := ∀ y b, ρc.lookup y = some b → ρ.lookup y = some b ∧ (env.kindOf y = some .cell ∨ env.kindOf y = some .free) ∧ (∃ a, cl.lookup y = some a ∧ env.cells.lookup y = some a) ∧
  ∀ C, (compEnvC scope cl C env).kindOf y = some .cell ∨ (compEnvC scope cl C env).kindOf y = some .free

theorem compCore {scope : Scope} {cl : List (Str × Addr)} {c : Cx} {W : List Addr} {ρc : Rho} {s₁ s' : Shared} {D C : Addr} {ys : Array Value} {m : Str → Option Value} (C₁ : Core K env c W ρ s₁) (hkind : scope.kind = .function)
    (hcl : ∀ p ∈ cl, env.cells.lookup p.1 = some p.2) (hnd : (cl.map (·.1)).Nodup) (hcap : Capt env scope cl ρ ρc)
    (hD : s₁.heap.get? D = none) (hC : s₁.heap.get? C = none) (hDC : D ≠ C) (keep : ∀ b o, s₁.heap.get? b = some o → s'.heap.get? b = some o) (hp : s'.heap.PlainList D ys) (hn : s'.heap.Ns C m) :
    ∃ c', Core K (compEnvC scope cl C env) c' (D :: W) ρc s' := by
  have hcm : ∀ a ∈ cl.map (·.2), a ∈ env.cells.map (·.2) := fun a ha => by
    obtain ⟨p, hp, rfl⟩ := List.mem_map.mp ha
    exact mem_map_of_lookup (hcl p hp)
  have ndc := List.nodup_cons.mp C₁.nodup
  have ndc2 := List.nodup_append.mp ndc.2
  have fD := (C₁.fresh hD).1
  have fC := (C₁.fresh hC).1
  have inFP : ∀ b, b ∈ env.cells.map (·.2) ∨ b ∈ W → b ∈ FP env W := fun b hb => List.mem_cons_of_mem _ (List.mem_append.mpr hb)
  have hsub : ∀ b ∈ FP (compEnvC scope cl C env) (D :: W), b = C ∨ b = D ∨ b ∈ FP env W := fun b hb => by
    rcases List.mem_cons.mp hb with q | q
    · exact .inl q
    · rcases List.mem_append.mp q with q | q
      · exact .inr (.inr (inFP b (.inl (hcm b q))))
      · rcases List.mem_cons.mp q with q | q
        · exact .inr (.inl q)
        · exact .inr (.inr (inFP b (.inr q)))
  have clnd : (cl.map (·.2)).Nodup := by
    clear hcap hcm hsub
    induction cl with
    | nil => exact List.nodup_nil
    | cons p r ih =>
      rw [List.map_cons, List.nodup_cons] at hnd ⊢
      refine ⟨fun q => ?_, ih (fun p hp => hcl p (List.mem_cons_of_mem _ hp)) hnd.2⟩
      obtain ⟨p', hp', e⟩ := List.mem_map.mp q
      have e1 := hcl p List.mem_cons_self
      have e2 := hcl p' (List.mem_cons_of_mem _ hp')
      rw [e] at e2
      have := cell_apart ndc2.1 e1 e2
      exact hnd.1 (this ▸ List.mem_map.mpr ⟨p', hp', rfl⟩)
  obtain ⟨m₀, hn₀, hv, hal⟩ := C₁.vars
  have vk : ∀ y u, (∃ b, ρc.lookup y = some b) → Var env m₀ s₁.heap y u → Var (compEnvC scope cl C env) m s'.heap y u := fun y u ⟨b, hb⟩ p => by
    obtain ⟨_, k1, ⟨a, ha1, ha2⟩, k2⟩ := hcap y b hb
    rcases p with ⟨k, _⟩ | ⟨_, a', ha', e⟩
    · rw [k] at k1; rcases k1 with k1 | k1 <;> cases k1
    · rw [ha2] at ha'; cases ha'
      exact .inr ⟨k2 C, a, ha1, let ⟨o, e, d⟩ := e; ⟨o, keep _ _ e, d⟩⟩
  have rk : ∀ {d : Mine.D} {v : Value}, Rd s₁.heap W d v → Rd s'.heap (D :: W) d v := fun r => (Rd.own (n := D) (fun o _ e => by rw [hD] at e; cases e) r).keep fun b o _ _ e => keep b o e
  refine ⟨⟨s', fun b o => s'.heap.get? b = some o ∧ b ∉ FP (compEnvC scope cl C env) (D :: W)⟩, { same := ⟨s'.heap, s'.toks, rfl⟩, gl := fun h k => C₁.gl h fun b o e => k b o ⟨keep b o (C₁.keep b o e), fun q => ?_⟩, keep := fun b o e => e.1, new := fun a q o e => e.2 q, nodup := ?_, live := fun a ha => ?_, kind := by simp [compEnvC, relabel, hkind], globals := C₁.globals, builtins := C₁.builtins, cells := fun a ha => ?_, vars := ⟨m, hn, fun y b e => ?_, fun y z l l' a h1 h2 p q => ?_⟩ }⟩
  · rcases hsub b q with q | q | q
    · have := C₁.keep b o e; rw [q, hC] at this; cases this
    · have := C₁.keep b o e; rw [q, hD] at this; cases this
    · exact C₁.new b q o e
  · show (C :: (cl.map (·.2) ++ D :: W)).Nodup
    refine List.nodup_cons.mpr ⟨fun q => ?_, List.nodup_append.mpr ⟨clnd, List.nodup_cons.mpr ⟨fun q => fD (inFP D (.inr q)), ndc2.2.1⟩, fun a ha b hb e => ?_⟩⟩
    · rcases List.mem_append.mp q with q | q
      · exact fC (inFP C (.inl (hcm C q)))
      · rcases List.mem_cons.mp q with q | q
        · exact hDC q.symm
        · exact fC (inFP C (.inr q))
    · subst e
      rcases List.mem_cons.mp hb with q | q
      · exact fD (q ▸ inFP a (.inl (hcm a ha)))
      · exact ndc2.2.2 a (hcm a ha) a q rfl
  · rcases List.mem_cons.mp ha with q | q
    · exact ⟨ys, q ▸ hp⟩
    · obtain ⟨vs, n, e⟩ := C₁.live a q; exact ⟨vs, n, keep _ _ e⟩
  · obtain ⟨v, o, e, d⟩ := C₁.cells a (hcm a ha); exact ⟨v, o, keep _ _ e, d⟩
  · obtain ⟨h1, _⟩ := hcap y b e
    obtain ⟨u, p, r⟩ := hv y b h1
    refine ⟨u, vk y u ⟨b, e⟩ p, ?_⟩
    cases b with
    | d d => exact rk r
    | own l =>
      obtain ⟨a, us, e', ha, ⟨n, hpa⟩, hl⟩ := r
      exact ⟨a, us, e', List.mem_cons_of_mem _ ha, ⟨n, keep _ _ hpa⟩, (RdL.own (n := D) (fun o _ e => by rw [hD] at e; cases e) hl).keep fun b o _ _ e => keep b o e⟩
  · obtain ⟨g1, _⟩ := hcap y _ h1
    obtain ⟨g2, _⟩ := hcap z _ h2
    obtain ⟨u, pu, _⟩ := hv y _ g1
    obtain ⟨u', pu', _⟩ := hv z _ g2
    have e1 := (vk y u ⟨_, h1⟩ pu).inj p
    have e2 := (vk z u' ⟨_, h2⟩ pu').inj q
    subst e1; subst e2
    exact hal y z l l' a g1 g2 pu pu'

/-- the tests of a comprehension -/
def Tests (prog : Program) (w : World) (A : Around) (K : Frag) (env : Env) (ρ : Rho) : List Expr → Bool → Prop
  | [], b => b = true
  | [t], b => EvC prog w A K env ρ t b
  | _, _ => False

structure CompOk (prog : Program) (w : World) (A : Around) (K : Frag) (env : Env) (ρ : Rho) (elt target iter : Expr) (ifs : List Expr) (scope : Scope) (ds : List D) (p : D → Bool) (F : D → D) : Prop where
  go : ∃ cl ρc, ∃ ρx : D → Rho, closureFor scope env = pure cl ∧ (∀ p ∈ cl, env.cells.lookup p.1 = some p.2) ∧ (cl.map (·.1)).Nodup ∧ (∀ y ∈ scope.names, y.2 ≠ .cell) ∧ scope.kind = .function ∧ (∀ x ∈ scope.names, x.2 = .local → scope.names.lookup x.1 = some .local) ∧
    Capt env scope cl ρ ρc ∧ EvI prog w A K env ρ true iter ds ∧ ∀ C, ∀ d ∈ ds, BdL prog w A K (compEnvC scope cl C env) ρc target d (ρx d) ∧ Tests prog w A K (compEnvC scope cl C env) (ρx d) ifs (p d) ∧ (p d = true → Ev prog w A K (compEnvC scope cl C env) (ρx d) true elt (F d))

theorem compLoop_own {R : Result → Shared → Prop} {s : Shared} {elt target iter : Expr} {ifs : List Expr} {scope : Scope} {pos : Pos} {it acc : Value} {env : Env} (I : Nat → Shared → Prop)
    (turn : ∀ n s, I n s → wpAny (model prog w) A (pyNext it) (fun r s₁ => match r with
      | none => R (.ok .next) s₁
      | some v => wpAny (model prog w) A (letOwnedTupleGo target it v) (fun _ s₁ => wpAny (model prog w) A (assign target env v) (fun _ s₂ =>
          wpAny (model prog w) A (forIn ifs true fun c r => if r = true then do let ok ← isTrue c env (eval c env); pure (ForInStep.yield ok) else pure (ForInStep.yield r)) (fun ok s₃ =>
            if ok = true then wpAny (model prog w) A (eval elt env) (fun x s₄ =>
              wpAny (model prog w) A (call (.builtin "list.append") [acc, x]) (fun _ s₅ => ∃ m, m < n ∧ I m s₅) (notedBy (model prog w) A env fun e s' => R (.error e) s') s₄) (notedBy (model prog w) A env fun e s' => R (.error e) s') s₃
            else ∃ m, m < n ∧ I m s₃) (notedBy (model prog w) A env fun e s' => R (.error e) s') s₂) (notedBy (model prog w) A env fun e s' => R (.error e) s') s₁) (notedBy (model prog w) A env fun e s' => R (.error e) s') s₁) (notedBy (model prog w) A env fun e s' => R (.error e) s') s)
    (n : Nat) (h : I n s) :
    codeAny (model prog w) A (.compLoop (.ListComp elt [⟨target, iter, ifs, 0⟩] scope pos) 0 it acc env) R s := by
  refine codeAny_loop rfl I (fun n s hI => ?_) n h
  show wpAny _ A ((compTurn (.ListComp elt [⟨target, iter, ifs, 0⟩] scope pos) 0 it acc env).onRaise (fun x => do noteFrame x env; theTreesLotGoes x)) _ _ s
  refine wpAny_noted ?_
  rw [compTurn_list]
  refine wpAny_bind (wpAny_standAt (wpAny_bind (wpAny_mono (turn n s hI) (fun r s₁ h₁ => ?_) fun _ _ h' => h')))
  cases r with
  | none => exact wpAny_pure h₁
  | some v =>
    refine wpAny_bind (wpAny_mono h₁ (fun _ s₁ h₁ => ?_) fun _ _ h' => h')
    refine wpAny_bind (wpAny_mono h₁ (fun _ s₂ h₂ => wpAny_bind (wpAny_mono h₂ (fun ok s₃ h₃ => ?_) fun _ _ h' => h')) fun _ _ h' => h')
    cases ok with
    | false => exact wpAny_pure ⟨rfl, h₃⟩
    | true =>
      exact wpAny_bind (wpAny_bind (wpAny_mono h₃ (fun x s₄ h₄ => wpAny_bind (wpAny_mono h₄ (fun _ s₅ h₅ => wpAny_pure (wpAny_pure ⟨rfl, h₅⟩)) fun _ _ h' => h')) fun _ _ h' => h'))

theorem comp_main {elt target iter : Expr} {ifs : List Expr} {scope : Scope} {ds : List D} {p : D → Bool} {F : D → D} (H : CompOk prog w A K env ρ elt target iter ifs scope ds p F) (hz : ds.length ≤ 1000000)
    {pos pos' : Pos} {use : Option (Value → Sem Unit)} {Q : Value → Shared → Prop} {c : Cx} {W : List Addr} {s : Shared} (C₀ : Core K env c W ρ s)
    (hQ : ∀ D C vs s' m, Ext s s' → s.heap.get? D = none → s.heap.get? C = none → D ≠ C → s'.heap.PlainList D vs.toArray → s'.heap.Ns C m → RdL s'.heap W ((ds.filter p).map F) vs → RdL s'.heap [D] ((ds.filter p).map F) vs → compPost (model prog w) A noE use Q (.ref D) C (.ok .next) s')
    (hs : ∀ x, foldedSetIterable iter env x = pure x := by intro _; rfl) :
    wpAny (model prog w) A (comprehension (.ListComp elt [⟨target, iter, ifs, 0⟩] scope pos) scope env pos' (newList []) false (eval iter env) use) Q noE s := by
  obtain ⟨cl, ρc, ρx, hclos, hcl, hnd, hcell, hkind, hnames, hcap, hI, hel⟩ := H.go
  refine wpAny_comprehension_free rfl hs hclos hkind hnames (wpAny_mono (hI c W s C₀) (fun x s₁ ⟨k₁, h₁⟩ => wpAny_mono h₁ (fun it s₂ ⟨k₂, I, fp, P, St, e, Wk, st, hnone, hobj, hfp, hitem⟩ => ?_) fun _ _ x => x) fun _ _ x => x)
  subst e
  simp only [sel, cond_true] at hfp hitem
  have C₁ := C₀.heap_mono k₁
  refine wpAny_newObj_type (wpAny_newFunctionEnv hcell (by intro y hy; simp at hy) (fun h₁ hns₁ hsb₁ => ?_) hkind)
  dsimp only at hns₁ hsb₁ ⊢
  generalize hH2 : s₂.heap.push { cls := .type "list", dict := none, data := .seq ([] : List Value).toArray } = H2 at hns₁ hsb₁ ⊢
  have hC : H2.objs.size = s₂.heap.objs.size + 1 := by rw [← hH2, Heap.size_push]
  have hDC : s₂.heap.objs.size ≠ H2.objs.size := by rw [hC]; exact Nat.ne_of_lt (Nat.lt_succ_self _)
  have old : ∀ b o, s₂.heap.get? b = some o → h₁.get? b = some o := fun b o e => hsb₁.extBut b o (by rw [hC]; exact Nat.ne_of_lt (Nat.lt_succ_of_lt (Heap.lt_size e))) (Heap.get?_push_of_some _ (hH2 ▸ Heap.get?_push_of_some _ e))
  have hacc : h₁.PlainList s₂.heap.objs.size #[] := ⟨_, hsb₁.extBut _ _ hDC (Heap.get?_push_of_some _ (hH2 ▸ Heap.get?_push_size _ rfl))⟩
  have hst₁ : St 0 h₁ := Wk.frame _ _ _ st fun b _ o e => old b o e
  have fD2 : s₂.heap.get? s₂.heap.objs.size = none := get_size _
  have fC2 : s₂.heap.get? H2.objs.size = none := Heap.get?_none_of_le (by rw [hC]; exact Nat.le_succ _)
  have fD : s₁.heap.get? s₂.heap.objs.size = none := k₂.none fD2
  have fC : s₁.heap.get? H2.objs.size = none := k₂.none fC2
  generalize hD : s₂.heap.objs.size = D at *
  generalize hCC : H2.objs.size = C at *
  obtain ⟨oI, hoI, _⟩ := hobj 0 _ st
  have hID : I ≠ D := fun q => by rw [q, fD2] at hoI; cases hoI
  have hIC : I ≠ C := fun q => by rw [q, fC2] at hoI; cases hoI
  have hfp' : ∀ b ∈ fp, b ≠ D ∧ b ≠ C := fun b hb => by
    rcases hfp b hb with q | ⟨_, o, e, _⟩
    · exact q ▸ ⟨hID, hIC⟩
    · exact ⟨(fun q => by rw [q, fD] at e; cases e), (fun q => by rw [q, fC] at e; cases e)⟩
  have hes : ∃ h tk, ({ s₂ with heap := h₁, toks := s₂.toks + ([] : List (Str × Value)).length } : Shared) = { s₁ with heap := h, toks := tk } := by obtain ⟨h', t', e, _⟩ := k₂; exact ⟨h₁, s₂.toks + 0, by rw [e]; rfl⟩
  have base : ∀ b o, s₁.heap.get? b = some o → h₁.get? b = some o := fun b o e => old b o (k₂.get e)
  have loop : codeAny (model prog w) A (.compLoop (.ListComp elt [⟨target, iter, ifs, 0⟩] scope pos) 0 (.ref I) (.ref D) (compEnvC scope cl C env)) (compPost (model prog w) A noE use Q (.ref D) C) { s₂ with heap := h₁, toks := s₂.toks + ([] : List (Str × Value)).length } := by
    refine compLoop_own
      (fun k s' => ∃ i ys m, k = ds.length + 1 - i ∧ i ≤ ds.length ∧ (∃ h tk, s' = { s₁ with heap := h, toks := tk }) ∧ St i s'.heap ∧ s'.heap.PlainList D (List.toArray ys) ∧ s'.heap.Ns C m ∧ RdL s'.heap (D :: W) (((ds.take i).filter p).map F) ys ∧
        ∀ b o, s₁.heap.get? b = some o → s'.heap.get? b = some o)
      ?_ (ds.length + 1) ⟨0, [], _, rfl, Nat.zero_le _, hes, hst₁, hacc, hns₁, rfl, base⟩
    rintro k s' ⟨i, ys, m, rfl, hi, hsame, hst, hpl, hns, hrd, hkeep⟩
    have hCI : ∀ b o, b ∉ [I] → s'.heap.get? b = some o → True := fun _ _ _ _ => trivial
    by_cases hlt : i < ds.length
    · have hd : ds[i]? = some ds[i] := List.getElem?_eq_getElem hlt
      have hmem : ds[i] ∈ ds := List.getElem_mem hlt
      refine Wk.item i s' _ _ hlt hst fun v h' tk hPv hst' hk => ?_
      dsimp only
      obtain ⟨oq, q1, _, nq, q2, q3⟩ := hobj _ _ hst'
      refine owned_quiet (s := { s' with heap := h', toks := tk }) q1 q2 q3 ?_
      have keep₁ : ∀ b o, s₁.heap.get? b = some o → h'.get? b = some o := fun b o e => hk b o (by simp; exact fun q => by rw [q, hnone] at e; cases e) (hkeep b o e)
      have hpl₁ : h'.PlainList D (List.toArray ys) := hpl.at fun o e => hk D o (by simpa using Ne.symm hID) e
      have hns₁' : h'.Ns C m := hns.at' fun o e => hk C o (by simpa using Ne.symm hIC) e
      obtain ⟨c', Cc⟩ := compCore (s' := { s' with heap := h', toks := tk }) C₁ hkind hcl hnd hcap fD fC hDC keep₁ hpl₁ hns₁'
      have rv : Rd h' (D :: W) ds[i] v := (Rd.own (n := D) (fun o _ e => by rw [fD] at e; cases e) (hitem i v _ hPv hd)).keep fun b o _ _ e => keep₁ b o e
      obtain ⟨hbd, htest, helt⟩ := hel C ds[i] hmem
      have hrd₁ : RdL h' (D :: W) (((ds.take i).filter p).map F) ys := by
        refine RdL.keep (h := s'.heap) (fun b o hb ho e => hk b o (fun q => ?_) e) hrd
        obtain ⟨o', e', hn'⟩ := hobj i _ hst
        have : b = I := by simpa using q
        rw [this, e'] at e; cases e; exact hn'.1 ho
      have hsame₁ : ∃ h tk', ({ s' with heap := h', toks := tk } : Shared) = { s₁ with heap := h, toks := tk' } := by obtain ⟨h, t, e⟩ := hsame; exact ⟨h', tk, by rw [e]⟩
      refine wpAny_mono (hbd c' (D :: W) _ v Cc rv) (fun _ s₃ ⟨C₃, k₃⟩ => ?_) fun _ _ x => x.elim
      have hsame₃ : ∃ h tk', s₃ = { s₁ with heap := h, toks := tk' } := by
        obtain ⟨h, t, e⟩ := C₃.same
        obtain ⟨h2, t2, e2⟩ := Cc.same
        obtain ⟨h3, t3, e3⟩ := hsame₁
        obtain ⟨a1, b1, e1⟩ : ∃ a b, c'.s₀ = { s₁ with heap := a, toks := b } := by
          rw [e3] at e2
          refine ⟨c'.s₀.heap, c'.s₀.toks, ?_⟩
          cases hc : c'.s₀ with
          | mk ha hb hc1 hd he =>
            rw [hc] at e2
            injection e2 with q1 q2 q3 q4 q5
            cases s₁ with
            | mk x1 x2 x3 x4 x5 => simp at q2 q3 q5; simp [q2, q3, q5]
        exact ⟨h, t, by rw [e, e1]⟩
      have hlc : (compEnvC scope cl C env).locals = C := rfl
      rw [hlc] at k₃
      have st₃ : St (i + 1) s₃.heap := Wk.frame _ _ _ hst' fun b hb o e => k₃ b o (hfp' b hb).2 e
      have pl₃ : s₃.heap.PlainList D (List.toArray ys) := hpl₁.at fun o e => k₃ D o hDC e
      have rd₃ : RdL s₃.heap (D :: W) (((ds.take i).filter p).map F) ys := RdL.keep (h := h') (fun b o hb ho e => k₃ b o (fun q => by
        obtain ⟨o', es, ep, e1, e2, _⟩ := hns₁'
        rw [q, e1] at e; cases e
        obtain ⟨_, _, _, rfl⟩ := ho; cases e2) e) hrd₁
      have keep₃ : ∀ b o, s₁.heap.get? b = some o → s₃.heap.get? b = some o := fun b o e => k₃ b o (fun q => by rw [q, fC] at e; cases e) (keep₁ b o e)
      have htest' : wpAny (model prog w) A (forIn ifs true fun c r => if r = true then do let ok ← isTrue c (compEnvC scope cl C env) (eval c (compEnvC scope cl C env)); pure (ForInStep.yield ok) else pure (ForInStep.yield r)) (fun ok s₄ => Ext s₃ s₄ ∧ ok = p ds[i]) noE s₃ := by
        match ifs, htest with
        | [], q => exact wpAny_tests_nil ⟨.refl _, by rw [show p ds[i] = true from q]⟩
        | [t], q => exact wpAny_tests_one (wpAny_mono (q c' (D :: W) s₃ C₃) (fun b s₄ ⟨k, e⟩ => ⟨k, e⟩) fun _ _ x => x)
      refine wpAny_mono htest' (fun ok s₄ ⟨k₄, eok⟩ => ?_) fun _ _ x => x.elim
      subst eok
      have hsame₄ : ∃ h tk', s₄ = { s₁ with heap := h, toks := tk' } := by obtain ⟨h, t, e⟩ := hsame₃; obtain ⟨h', t', e', _⟩ := k₄; exact ⟨h', t', by rw [e', e]⟩
      obtain ⟨m₃, hns₃, _⟩ := C₃.vars
      rw [hlc] at hns₃
      have htake : (ds.take (i + 1)).filter p = (ds.take i).filter p ++ (if p ds[i] then [ds[i]] else []) := take_succ_filter p ds i ds[i] hd
      cases hp : p ds[i] with
      | false =>
        simp only [Bool.false_eq_true, if_false]
        refine ⟨ds.length + 1 - (i + 1), by omega, i + 1, ys, m₃, rfl, hlt, hsame₄, Wk.frame _ _ _ st₃ fun b _ o e => k₄.get e, plainList_keeps pl₃ k₄, hns₃.keeps k₄.keeps, ?_, fun b o e => k₄.get (keep₃ b o e)⟩
        rw [htake, hp]
        simpa using rd₃.keeps k₄
      | true =>
        simp only [if_true]
        refine wpAny_mono (helt hp c' (D :: W) s₄ (C₃.heap_mono k₄)) (fun y s₅ ⟨k₅, ry⟩ => ?_) fun _ _ x => x.elim
        simp only [sel, cond_true] at ry
        have k₄₅ := k₄.trans k₅
        have hlen := rd₃.length
        have hlen2 : (((ds.take i).filter p).map F).length ≤ ds.length := by
          rw [List.length_map]
          exact Nat.le_trans (List.length_filter_le _ _) (by rw [List.length_take]; omega)
        refine wpAny_list_append_plain (plainList_keeps pl₃ k₄₅) (fun h₆ hl₆ hs₆ => ?_) (by rw [sizeLine_eq]; simp; omega)
        obtain ⟨h5, t5, e5⟩ := hsame₄
        obtain ⟨h5', t5', e5', _⟩ := k₅
        refine ⟨ds.length + 1 - (i + 1), by omega, i + 1, ys ++ [y], m₃, rfl, hlt, ⟨h₆, t5', by rw [e5', e5]⟩, ?_, by simpa using hl₆, (hns₃.keeps k₄₅.keeps).sameBut hs₆ (Ne.symm hDC), ?_, fun b o e => ?_⟩
        · exact Wk.frame _ _ _ st₃ fun b hb o e => hs₆.extBut b o (hfp' b hb).1 (k₄₅.get e)
        · rw [htake, hp]
          simp only [if_true, List.map_append, List.map_cons, List.map_nil]
          exact ((rd₃.keeps k₄₅).append (RdL.single ry)).keep fun b o hb _ e => hs₆.extBut b o (fun q => hb (q ▸ List.mem_cons_self)) e
        · exact hs₆.extBut b o (fun q => by rw [q, fD] at e; cases e) (k₄₅.get (keep₃ b o e))
    · have hin : i = ds.length := by omega
      subst hin
      refine Wk.done s' _ _ hst fun h' tk hk => ?_
      dsimp only
      have keep₁ : ∀ b o, s₁.heap.get? b = some o → h'.get? b = some o := fun b o e => hk b o (by simp; exact fun q => by rw [q, hnone] at e; cases e) (hkeep b o e)
      have hrd₁ : RdL h' (D :: W) ((ds.filter p).map F) ys := by
        rw [List.take_of_length_le (Nat.le_refl _)] at hrd
        refine RdL.keep (h := s'.heap) (fun b o hb ho e => hk b o (fun q => ?_) e) hrd
        obtain ⟨o', e', hn'⟩ := hobj _ _ hst
        have : b = I := by simpa using q
        rw [this, e'] at e; cases e; exact hn'.1 ho
      obtain ⟨h, t, e⟩ := hsame
      refine hQ D C ys _ m (k₁.trans ⟨h', tk, by rw [e], keep₁⟩) (k₁.none fD) (k₁.none fC) hDC (hpl.at fun o e => hk D o (by simpa using Ne.symm hID) e) (hns.at' fun o e => hk C o (by simpa using Ne.symm hIC) e) (hrd₁.sub fun a ha => List.mem_cons_of_mem _ ha) (hrd₁.sub fun a ha => by simp at ha; simp [ha])
  exact codeAny_compStart_list loop (Wk.self 0 _ _ _ hst₁ loop)

theorem evN_comp {elt target iter : Expr} {ifs : List Expr} {scope : Scope} {pos : Pos} {ds : List D} {p : D → Bool} {F : D → D} (H : CompOk prog w A K env ρ elt target iter ifs scope ds p F) (hz : ds.length ≤ 1000000)
    (hs : ∀ x, foldedSetIterable iter env x = pure x := by intro _; rfl) :
    EvN prog w A K env ρ (.ListComp elt [⟨target, iter, ifs, 0⟩] scope pos) ((ds.filter p).map F) := fun c W s C => by
  rw [eval_ListComp]
  refine comp_main H hz C (fun D C' vs s' m k hD hC hDC hp hn hl hl' => ?_) hs
  refine ⟨m, hn, fun h' hs' => ?_⟩
  have keep : ∀ b o, b ≠ C' → s'.heap.get? b = some o → h'.get? b = some o := fun b o hb e => hs'.extBut b o hb e
  have notC : ∀ {o}, isSeqO o → s'.heap.get? C' ≠ some o := fun {o} ho e => by
    obtain ⟨o', es, ep, e1, e2, _⟩ := hn
    rw [e1] at e; cases e
    obtain ⟨_, _, _, rfl⟩ := ho; cases e2
  have sk : ∀ V, SeqKeep V s'.heap h' := fun V b o _ ho e => keep b o (fun q => notC ho (q ▸ e)) e
  obtain ⟨h, t, e, k'⟩ := k
  exact ⟨⟨h', t, by rw [e], fun b o e2 => keep b o (fun q => by rw [q, hC] at e2; cases e2) (by rw [e]; exact k' b o e2)⟩, D, vs, rfl, hD, hp.at fun o e => keep D o hDC e, hl.keep (sk _), hl'.keep (sk _)⟩

/-- x = [.. for ..] for a local x: the store is made within -/
theorem x_assignComp {x : Str} {xp spos : Pos} {elt target iter : Expr} {ifs : List Expr} {scope : Scope} {pos : Pos} {ds l : List D} {p : D → Bool} {F : D → D} (H : CompOk prog w A K env ρ elt target iter ifs scope ds p F) (hz : ds.length ≤ 1000000) (hl : (ds.filter p).map F = l) (hk : env.kindOf x = some .local)
    (hsw : swapsWith (.ListComp elt [⟨target, iter, ifs, 0⟩] scope pos) (some (.Name x xp)) spos.line env = pure true := by rfl)
    (hs : ∀ x, foldedSetIterable iter env x = pure x := by intro _; rfl) :
    X prog w A K env ρ (.Assign [.Name x xp] (.ListComp elt [⟨target, iter, ifs, 0⟩] scope pos) spos) (.nxt ((x, .d (.lst l)) :: ρ)) := X.mk fun c W s _ C => by
  subst hl
  rw [exec_Assign_Name_used _ _ _ _ hsw]
  refine wpAny_bind (wpAny_standAt (wpAny_bind ?_))
  show wpAny _ A (do let _ ← comprehension (.ListComp elt [⟨target, iter, ifs, 0⟩] scope pos) scope env _ (newList []) false (eval iter env) (some (assign (.Name x xp) env))) _ _ s
  refine wpAny_bind (wpAny_mono (comp_main (use := some (assign (.Name x xp) env)) (Q := fun _ s' => ∃ W', Core K env c W' ((x, .d (.lst ((ds.filter p).map F))) :: ρ) s') H hz C (fun D C' vs s' m k hD hC hDC hp hn hl hl' => ?_) hs) (fun _ s' hq => wpAny_pure (wpAny_pure ⟨rfl, hq⟩)) fun _ _ x => x)
  have C₁ := C.heap_mono k
  obtain ⟨fC1, fC2⟩ := C.fresh hC
  have rv : Rd s'.heap W (.lst ((ds.filter p).map F)) (.ref D) := ⟨D, vs, rfl, C.notin hD, hp, hl⟩
  refine wpAny_mono (bdL_name hk c W s' (.ref D) C₁ rv) (fun _ s₂ ⟨C₂, k₂⟩ => ?_) fun _ _ x => x
  have hCl : C' ≠ env.locals := fun q => fC1 (q ▸ List.mem_cons_self)
  have hn₂ : s₂.heap.Ns C' m := hn.at' fun o e => k₂ C' o hCl e
  refine ⟨m, hn₂, fun h' hs' => ⟨W, C₂.other (a := C') (tk := s₂.toks) (fun b o hb e => hs'.extBut b o hb e) fC1 fC2 fun o ho e => ?_⟩⟩
  obtain ⟨o', es, ep, e1, e2, _⟩ := hn₂
  rw [e1] at e; cases e
  obtain ⟨_, _, _, rfl⟩ := ho; cases e2
end
end Mine

namespace Mine

/-! ### going into a def -/
def rhoOf : List Str → List D → Rho
  | x :: xs, d :: ds => (x, .d d) :: rhoOf xs ds
  | _, _ => []
theorem bindL_other {kindOf : Str → Option NameKind} {x : Str} : ∀ {binds : List (Str × Value)} {m : Str → Option Value}, x ∉ binds.map (·.1) → bindL kindOf binds m x = m x
  | [], _, _ => rfl
  | (n, v) :: r, m, h => by
    simp at h
    unfold bindL
    rw [bindL_other (by simpa using h.2)]
    split
    · simp [h.1]
    · rfl
theorem bindC_other {kindOf : Str → Option NameKind} {x : Str} : ∀ {binds : List (Str × Value)} {m : Str → Option Value}, x ∉ binds.map (·.1) → bindC kindOf binds m x = m x
  | [], _, _ => rfl
  | (n, v) :: r, m, h => by
    simp at h
    unfold bindC
    rw [bindC_other (by simpa using h.2)]
    split
    · rfl
    · simp [h.1]
theorem zip_names : ∀ {ps : List Str} {vs : List Value}, vs.length = ps.length → (ps.zip vs).map (·.1) = ps
  | [], _, _ => by simp
  | p :: ps, [], h => by simp at h
  | p :: ps, v :: vs, h => by simp [zip_names (ps := ps) (vs := vs) (by simpa using h)]

theorem vars_in {env : Env} {h : Heap} : ∀ {ps : List Str} {ds : List D} {vs : List Value} {m cm : Str → Option Value}, ps.Nodup → ds.length = ps.length → RdL h [] ds vs →
    (∀ x ∈ ps, env.kindOf x = some .local ∨ (env.kindOf x = some .cell ∧ (env.cells.lookup x).isSome = true)) →
    (∀ n c, env.cells.lookup n = some c → h.IsCell c (bindC env.kindOf (ps.zip vs) cm n)) →
    ∀ x b, (rhoOf ps ds).lookup x = some b → ∃ v, Var env (bindL env.kindOf (ps.zip vs) m) h x v ∧ RdB h [] b v
  | [], ds, vs, m, cm, _, _, _, _, _, x, b, e => by cases ds <;> cases e
  | p :: ps, [], vs, m, cm, _, hl, _, _, _, x, b, e => by simp at hl
  | p :: ps, d :: ds, _, m, cm, nd, hl, ⟨v, vs, rfl, r, rs⟩, hk, hc, x, b, e => by
    obtain ⟨n1, n2⟩ := List.nodup_cons.mp nd
    have hlen : vs.length = ps.length := by have := rs.length; simp at hl; omega
    by_cases hx : x = p
    · subst hx
      rw [show rhoOf (x :: ps) (d :: ds) = (x, .d d) :: rhoOf ps ds from rfl, lookup_cons_self] at e
      cases e
      refine ⟨v, ?_, r⟩
      rcases hk x List.mem_cons_self with q | ⟨q, q'⟩
      · refine .inl ⟨q, ?_⟩
        show bindL env.kindOf ((x, v) :: ps.zip vs) m x = _
        unfold bindL
        rw [bindL_other (by rw [zip_names hlen]; exact n1), if_pos q]
        simp
      · obtain ⟨c, hc'⟩ := Option.isSome_iff_exists.mp q'
        refine .inr ⟨.inl q, c, hc', ?_⟩
        have := hc x c hc'
        rw [show (x :: ps).zip (v :: vs) = (x, v) :: ps.zip vs from rfl] at this
        unfold bindC at this
        rw [bindC_other (by rw [zip_names hlen]; exact n1), if_neg (by rw [q]; decide)] at this
        simpa using this
    · rw [show rhoOf (p :: ps) (d :: ds) = (p, .d d) :: rhoOf ps ds from rfl, lookup_cons_ne hx] at e
      have := vars_in (m := if env.kindOf p = some .local then fun y => if y = p then some v else m y else m) (cm := if env.kindOf p = some .local then cm else fun y => if y = p then some v else cm y) n2 (by simpa using hl) rs (fun y hy => hk y (List.mem_cons_of_mem _ hy)) (fun n c e => by
        have := hc n c e
        rw [show (p :: ps).zip (v :: vs) = (p, v) :: ps.zip vs from rfl] at this
        unfold bindC at this
        exact this) x b e
      rw [show (p :: ps).zip (v :: vs) = (p, v) :: ps.zip vs from rfl]
      unfold bindL
      exact this

theorem rhoOf_plain : ∀ {ps : List Str} {ds : List D} {x : Str} {l : List D}, (rhoOf ps ds).lookup x ≠ some (.own l)
  | [], ds, x, l, e => by cases ds <;> cases e
  | _ :: _, [], x, l, e => by cases e
  | p :: ps, d :: ds, x, l, e => by
    rw [show rhoOf (p :: ps) (d :: ds) = (p, .d d) :: rhoOf ps ds from rfl] at e
    by_cases hx : x = p
    · subst hx; rw [lookup_cons_self] at e; cases e
    · rw [lookup_cons_ne hx] at e; exact rhoOf_plain e

section
variable {M : Model} {A : Around} {E : Value → Shared → Prop} {s₀ s : Shared} {m cm : Str → Option Value} {env : Env}
theorem bindParams_tok (f : Str × Value → PUnit → Sem (ForInStep PUnit)) (hf : ∀ n v u, f (n, v) u = (do storeName env n v; pure (.yield ⟨⟩))) (hk : env.scope.kind = .function) :
    ∀ (binds : List (Str × Value)) (m cm : Str → Option Value) (s : Shared) (Q : PUnit → Shared → Prop), InCallC s₀ env.locals m env.cells cm s →
      (∀ x ∈ binds, env.kindOf x.1 = some .local ∨ (env.kindOf x.1 = some .cell ∧ (env.cells.lookup x.1).isSome = true)) →
      (1 ≤ s.toks ∨ ∃ x ∈ binds, env.kindOf x.1 = some .local) →
      (∀ s', 1 ≤ s'.toks → InCallC s₀ env.locals (bindL env.kindOf binds m) env.cells (bindC env.kindOf binds cm) s' → Q ⟨⟩ s') → wpAny M A (forIn binds ⟨⟩ f) Q E s
  | [], m, cm, s, Q, x, _, ht, h => by
    rw [List.forIn_nil]; exact wpAny_pure (h s (ht.elim id fun ⟨_, q, _⟩ => nomatch q) x)
  | (n, v) :: r, m, cm, s, Q, x, hkind, ht, h => by
    rw [List.forIn_cons, hf]
    have hr : ∀ y ∈ r, env.kindOf y.1 = some .local ∨ (env.kindOf y.1 = some .cell ∧ (env.cells.lookup y.1).isSome = true) := fun y hy => hkind y (List.mem_cons_of_mem _ hy)
    rcases hkind (n, v) List.mem_cons_self with hl | ⟨hl, hc⟩
    · refine wpAny_bind (wpAny_bind ?_)
      refine wpAny_storeName_local hl x.toInCall.ns (fun h' hn' hs' => wpAny_pure (bindParams_tok f hf hk r (fun y => if y = n then some v else m y) cm _ Q ⟨⟨?_, hn', fun b o e => ?_, x.toInCall.fresh⟩, fun k c hc => ?_, x.apart, x.above⟩ hr (.inl (by show 1 ≤ s.toks + 1; omega)) fun s'' ht x'' => h s'' ht ?_)) (by rw [hk]; rfl)
      · obtain ⟨h₁, tk, rfl⟩ := x.toInCall.same
        exact ⟨h', _, rfl⟩
      · exact hs'.extBut b o (Nat.ne_of_lt (Nat.lt_of_lt_of_le (Heap.lt_size e) x.toInCall.fresh)) (x.toInCall.keep b o e)
      · exact (x.cell k c hc).sameBut hs' (Nat.ne_of_gt (x.above k c (mem_of_lookup hc)))
      · unfold bindL bindC; rw [if_pos hl, if_pos hl]; exact x''
    · obtain ⟨c, hc⟩ := Option.isSome_iff_exists.mp hc
      have hnl : ¬ env.kindOf n = some .local := by rw [hl]; decide
      have hLc := x.above n c (mem_of_lookup hc)
      refine wpAny_bind (wpAny_bind ?_)
      refine wpAny_storeName_cell hk hl hc (x.cell n c hc) fun h' hc' hs' => wpAny_pure (bindParams_tok f hf hk r m (fun y => if y = n then some v else cm y) _ Q ⟨⟨?_, x.toInCall.ns.sameBut hs' (Nat.ne_of_lt hLc), fun b o e => ?_, x.toInCall.fresh⟩, fun k c' hk' => ?_, x.apart, x.above⟩ hr (ht.imp id fun ⟨y, hy, q⟩ => ?_) fun s'' ht x'' => h s'' ht ?_)
      · obtain ⟨h₁, tk, rfl⟩ := x.toInCall.same
        exact ⟨h', _, rfl⟩
      · exact hs'.extBut b o (Nat.ne_of_lt (Nat.lt_trans (Nat.lt_of_lt_of_le (Heap.lt_size e) x.toInCall.fresh) hLc)) (x.toInCall.keep b o e)
      · by_cases hkn : k = n
        · subst hkn
          rw [hc] at hk'; cases hk'
          simpa using hc'
        · rw [if_neg hkn]
          exact (x.cell k c' hk').sameBut hs' fun e => hkn (name_of_addr x.apart (mem_of_lookup hk') (e ▸ mem_of_lookup hc))
      · unfold bindL bindC; rw [if_neg hnl, if_neg hnl]; exact x''
      · rcases List.mem_cons.mp hy with e | e
        · subst e; exact absurd q hnl
        · exact ⟨y, e, q⟩

theorem newFunctionEnv_tok {scope : Scope} {globals : Addr} {binds : List (Str × Value)} {qual : Str} {func : Option Addr} {code : Value} {builtins : Addr} {Q : Env → Shared → Prop}
    (hk : scope.kind = .function)
    (hkind : ∀ x ∈ binds, scope.names.lookup x.1 = some .local ∨ (scope.names.lookup x.1 = some .cell ∧ ((cellsFrom (s.heap.objs.size + 1) scope.names []).lookup x.1).isSome = true))
    (hloc : ∃ x ∈ binds, scope.names.lookup x.1 = some .local)
    (hQ : ∀ env, env = newEnv scope s.heap.objs.size globals (cellsFrom (s.heap.objs.size + 1) scope.names []) qual func code none builtins →
      ∀ s', 1 ≤ s'.toks → InCallC s env.locals (bindL env.kindOf binds fun _ => none) env.cells (bindC env.kindOf binds fun _ => none) s' → Q env s') :
    wpAny M A (newFunctionEnv scope globals [] binds qual func code none builtins) Q E s := by
  simp only [newFunctionEnv, Option.isSome_none, Bool.false_eq_true, if_false]
  refine wpAny_bind (wpAny_alloc ?_)
  refine wpAny_bind (wpAny_layCells _ (fun name kind cells => by cases kind == NameKind.cell <;> simp) _ _ _ _ ?_)
  have ok := cellsFrom_ok scope.names (s.heap.push { cls := .type "frame", data := .dict #[] }) (s.heap.objs.size + 1) [] ⟨fun _ _ hm => (nomatch hm), List.Pairwise.nil⟩ (by rw [Heap.size_push]; exact Nat.le_refl _)
  rw [Heap.size_push] at ok
  rw [show ({ s with heap := s.heap.push { cls := .type "frame", data := .dict #[] } } : Shared).heap.objs.size = s.heap.objs.size + 1 from Heap.size_push ..]
  refine wpAny_bind (bindParams_tok (s₀ := s) (env := newEnv scope s.heap.objs.size globals (cellsFrom (s.heap.objs.size + 1) scope.names []) qual func code none builtins)
    _ (fun _ _ _ => rfl) hk binds (fun _ => none) (fun _ => none) _ _
    ⟨⟨⟨_, _, rfl⟩, (Heap.Ns.new s.heap (.type "frame")).keeps (pushCells_keeps _ _), fun b o e => pushCells_keeps _ _ b o (Heap.get?_push_of_some _ e), Nat.le_refl _⟩,
      fun n c hc => (ok.empty n c (mem_of_lookup hc)).1, ok.apart, fun n c hm => (ok.empty n c hm).2⟩
    hkind (.inr hloc) fun s' ht x => wpAny_pure (hQ _ rfl s' ht x))
end

section
variable {prog : Program} {w : World} {A : Around} {K : Frag} {s : Shared}
theorem enter_at {k : Nat} {a : Addr} {o : Obj} {fd : FuncData} {body : List Stmt} {ps : List Str} {ds : List D} {d : D} {vals : List Value}
    (hA : Aok A (k + 1)) (G : GL K s.heap) (ho : s.heap.get? a = some o) (hdata : o.data = .func fd) (hcd : s.heap.CodeRec fd.code fd.qualname)
    (hr : RdL s.heap [] ds vals) (hl : ds.length = ps.length)
    (hbody : fd.body = .stmts body) (hbind : ∀ vs : List Value, vs.length = ps.length → bindArgs fd ⟨vs, []⟩ = pure (ps.zip vs)) (hclo : fd.closure = [])
    (hglob : fd.globals = mainGlobals) (hblt : fd.builtins = builtinsNs)
    (hkind : ∀ n, ∀ x ∈ ps, fd.scope.names.lookup x = some .local ∨ (fd.scope.names.lookup x = some .cell ∧ ((cellsFrom n fd.scope.names []).lookup x).isSome = true))
    (hnd : ((cellsFrom 0 fd.scope.names []).map (·.1)).Nodup) (hps : ps.Nodup)
    (hloc : ∃ x ∈ ps, fd.scope.names.lookup x = some .local)
    (h : ∀ L A', Aok A' k → Xs prog w A' K (callEnvC fd L a) (rhoOf ps ds) body (.ret d))
    (hco : fd.scope.isCoroutine = false := by rfl) (hgen : fd.scope.isGenerator = false := by rfl) (hk : fd.scope.kind = .function := by rfl) :
    codeAny (model prog w) A (.call (.ref a) ⟨vals, []⟩) (fun r s' => ∃ v, r = .ok (.ret v) ∧ Ext s s' ∧ ∀ V, Live V s.heap → Rd s'.heap V d v) s := by
  have hlen : vals.length = ps.length := by have := hr.length; omega
  have hz := zip_names hlen
  refine codeAny_call_function (by have := hA.d; omega) ho hdata hco hgen hbody hcd ?_
  rw [hbind vals hlen, hclo]
  refine wpAny_pure (newFunctionEnv_tok hk (fun x hx => ?_) (?_) fun env he s₁ ht Y => ?_)
  · have := List.mem_map_of_mem (f := (·.1)) hx
    exact hkind _ _ (by rwa [hz] at this)
  · obtain ⟨x, hx, q⟩ := hloc
    rw [← hz] at hx
    obtain ⟨y, hy, rfl⟩ := List.mem_map.mp hx
    exact ⟨y, hy, q⟩
  · have he' : env = callEnvC fd s.heap.objs.size a := he
    subst he'
    refine ⟨G.nolimit.keeps Y.toInCall.keep, codeAny_func ?_⟩
    clear he
    obtain ⟨h₁, tk, e, kp⟩ := Y.done
    have kx : Ext s s₁ := ⟨h₁, tk, e, kp⟩
    have mem : ∀ c ∈ (callEnvC fd s.heap.objs.size a).cells.map (·.2), ∃ n, (callEnvC fd s.heap.objs.size a).cells.lookup n = some c ∧ s.heap.objs.size < c := fun c hc => by
      obtain ⟨⟨n, c'⟩, hm, rfl⟩ := List.mem_map.mp hc
      refine ⟨n, lookup_of_mem_nodup ?_ hm, Y.above n c' hm⟩
      exact cellsFrom_names fd.scope.names 0 (s.heap.objs.size + 1) [] [] rfl ▸ hnd
    have fresh : ∀ b ∈ FP (callEnvC fd s.heap.objs.size a) [], s.heap.get? b = none := fun b hb => by
      have hge : s.heap.objs.size ≤ b := by
        rcases List.mem_cons.mp hb with q | q
        · exact Nat.le_of_eq q.symm
        · rw [List.append_nil] at q
          obtain ⟨n, _, hlt⟩ := mem b q
          exact Nat.le_of_lt hlt
      cases q : s.heap.get? b with
      | none => rfl
      | some o => exact absurd (Heap.lt_size q) (Nat.not_lt.mpr hge)
    have C : Core K (callEnvC fd s.heap.objs.size a) ⟨s, fun b o => s.heap.get? b = some o⟩ [] (rhoOf ps ds) s₁ := {
      same := ⟨h₁, tk, e⟩
      gl := fun h k => G.keeps k
      keep := fun b o e' => kx.get e'
      new := fun b hb o e' => by
        have e' : s.heap.get? b = some o := e'
        rw [fresh b hb] at e'; cases e'
      nodup := by
        refine List.nodup_cons.mpr ⟨fun q => ?_, ?_⟩
        · rw [List.append_nil] at q
          obtain ⟨n, _, hlt⟩ := mem _ q
          exact Nat.lt_irrefl _ hlt
        · rw [List.append_nil]
          exact (List.pairwise_map.mpr Y.apart)
      live := fun _ q => nomatch q
      kind := hk
      globals := hglob
      builtins := hblt
      cells := fun c hc => let ⟨n, e, _⟩ := mem c hc; ⟨_, Y.cell n c e⟩
      vars := ⟨_, Y.toInCall.ns, vars_in hps hl (hr.keeps kx) (hkind _) Y.cell, fun x y l l' _ h1 => absurd h1 rhoOf_plain⟩ }
    refine wpAny_mono (h s.heap.objs.size _ hA.deeper _ [] s₁ ht C) (fun f s' ⟨v, e, ⟨h', tk', e'⟩, kp', x⟩ => ?_) fun _ _ x => False.elim x
    subst e
    exact ⟨v, rfl, ⟨h', tk', e', by subst e'; exact kp'⟩, fun V L => x V L⟩
theorem fn_enter {k : Nat} {a : Addr} {o : Obj} {fd : FuncData} {body : List Stmt} {ps : List Str} {ds : List D} {d : D}
    (ho : K.lookup a = some o) (hdata : o.data = .func fd) (hcd : codeIn K fd.code fd.qualname = true) (hl : ds.length = ps.length)
    (hbody : fd.body = .stmts body) (hbind : ∀ vs : List Value, vs.length = ps.length → bindArgs fd ⟨vs, []⟩ = pure (ps.zip vs)) (hclo : fd.closure = [])
    (hglob : fd.globals = mainGlobals) (hblt : fd.builtins = builtinsNs)
    (hkind : ∀ n, ∀ x ∈ ps, fd.scope.names.lookup x = some .local ∨ (fd.scope.names.lookup x = some .cell ∧ ((cellsFrom n fd.scope.names []).lookup x).isSome = true))
    (hnd : ((cellsFrom 0 fd.scope.names []).map (·.1)).Nodup) (hps : ps.Nodup)
    (hloc : ∃ x ∈ ps, fd.scope.names.lookup x = some .local)
    (h : ∀ L A', Aok A' k → Xs prog w A' K (callEnvC fd L a) (rhoOf ps ds) body (.ret d))
    (hco : fd.scope.isCoroutine = false := by rfl) (hgen : fd.scope.isGenerator = false := by rfl) (hk : fd.scope.kind = .function := by rfl) : Fn prog w K (k + 1) a ds d := fun _ _ _ hA G r =>
  enter_at hA G (G.k _ _ ho) hdata (codeRec_of G.k hcd) r hl hbody hbind hclo hglob hblt hkind hnd hps hloc h hco hgen hk

def envOf (names : List (Str × NameKind)) (more : List (Str × Const)) (L a : Addr) (qual : Str) (code : Value) : Env :=
  newEnv { kind := .function, names := names, isGenerator := false, isCoroutine := false, more := more } L mainGlobals (cellsFrom (L + 1) names []) qual (some a) code none builtinsNs
/-- what a def of the top is -/
structure DefAt (K : Frag) (a : Addr) (names : List (Str × NameKind)) (more : List (Str × Const)) (ps : List Str) (body : List Stmt) : Prop where
  go : ∃ o fd, K.lookup a = some o ∧ o.data = .func fd ∧ codeIn K fd.code fd.qualname = true ∧ fd.body = .stmts body ∧ (∀ vs : List Value, vs.length = ps.length → bindArgs fd ⟨vs, []⟩ = pure (ps.zip vs)) ∧ fd.closure = [] ∧ fd.globals = mainGlobals ∧ fd.builtins = builtinsNs ∧
    fd.scope = { kind := .function, names := names, isGenerator := false, isCoroutine := false, more := more }
theorem DefAt.enter {k : Nat} {a : Addr} {names : List (Str × NameKind)} {more : List (Str × Const)} {body : List Stmt} {ps : List Str} {ds : List D} {d : D} (F : DefAt K a names more ps body) (hl : ds.length = ps.length)
    (hkind : ∀ n, ∀ x ∈ ps, names.lookup x = some .local ∨ (names.lookup x = some .cell ∧ ((cellsFrom n names []).lookup x).isSome = true))
    (hnd : ((cellsFrom 0 names []).map (·.1)).Nodup) (hps : ps.Nodup)
    (hloc : ∃ x ∈ ps, names.lookup x = some .local)
    (h : ∀ L qual code A', Aok A' k → Xs prog w A' K (envOf names more L a qual code) (rhoOf ps ds) body (.ret d)) : Fn prog w K (k + 1) a ds d := by
  obtain ⟨o, fd, h1, h2, h3, h4, h5, h6, h7, h8, h9⟩ := F.go
  have e : ∀ L, callEnvC fd L a = envOf names more L a (fd.qualname ++ ".<locals>.") fd.code := fun L => by
    unfold callEnvC envOf
    rw [h9, h7, h8]
  refine fn_enter h1 h2 h3 hl h4 h5 h6 h7 h8 (by rw [h9]; exact hkind) (by rw [h9]; exact hnd) hps (by rw [h9]; exact hloc) (fun L A' hA => ?_) (by rw [h9]) (by rw [h9]) (by rw [h9])
  rw [e]
  exact h L _ _ A' hA
/-- a name of the top or a built-in one -/
def Glob (K : Frag) (x : Str) (v : Value) : Prop := ∀ (prog : Program) (w : World) (A : Around) (env : Env) (ρ : Rho) (pos : Pos), env.kindOf x = some .globalImplicit → EvF prog w A K env ρ (.Name x pos) v
theorem Glob.use {x : Str} {v : Value} {env : Env} {ρ : Rho} {pos : Pos} (g : Glob K x v) (hk : env.kindOf x = some .globalImplicit) : EvF prog w A K env ρ (.Name x pos) v := g prog w A env ρ pos hk
theorem Glob.top {x : Str} {v : Value} (e : nsIn K mainGlobals x = some (some v)) (hd : (x == ("__debug__" : Str)) = false := by decide) : Glob K x v := fun _ _ _ _ _ _ hk => ev_global e hk hd
theorem Glob.blt {x : Str} {v : Value} (e : nsIn K mainGlobals x = some none) (hv : bootBuiltins x = some v) (hn : x ≠ "__name__" := by decide) (hd : (x == ("__debug__" : Str)) = false := by decide) : Glob K x v := fun _ _ _ _ _ _ hk => ev_builtin e hv hk hn hd

def FnAt (K : Frag) (a : Addr) : Prop := ∃ o fd, K.lookup a = some o ∧ o.data = .func fd
/-- plain data under a name of the top -/
def GlobD (K : Frag) (x : Str) (d : D) : Prop := ∃ v, Glob K x v ∧ ∀ hh W, Rd hh W d v
theorem ev_globD {q : Bool} {A : Around} {env : Env} {ρ : Rho} {x : Str} {pos : Pos} {d : D} (g : GlobD K x d) (hk : env.kindOf x = some .globalImplicit) : Ev prog w A K env ρ q (.Name x pos) d :=
  let ⟨_, h, r⟩ := g; EvF.ev (h.use hk) r
theorem EvC.cast {A : Around} {env : Env} {ρ : Rho} {e : Expr} {b b' : Bool} (h : EvC prog w A K env ρ e b) (x : b = b') : EvC prog w A K env ρ e b' := x ▸ h
/-- an if whose test fails, without else -/
theorem x_skip {A : Around} {env : Env} {ρ : Rho} {test : Expr} {body : List Stmt} {pos : Pos} {b : Bool} (h : EvC prog w A K env ρ test b) (hb : b = false) : X prog w A K env ρ (.If test body [] pos) (.nxt ρ) := by
  subst hb; exact x_if h (fun e => nomatch e) fun _ => xs_nil
theorem x_then {A : Around} {env : Env} {ρ : Rho} {test : Expr} {body orelse : List Stmt} {pos : Pos} {b : Bool} {out : Out} (h : EvC prog w A K env ρ test b) (hb : b = true) (h₁ : Xs prog w A K env ρ body out) : X prog w A K env ρ (.If test body orelse pos) out := by
  subst hb; exact x_if h (fun _ => h₁) fun e => nomatch e
theorem x_else {A : Around} {env : Env} {ρ : Rho} {test : Expr} {body orelse : List Stmt} {pos : Pos} {b : Bool} {out : Out} (h : EvC prog w A K env ρ test b) (hb : b = false) (h₁ : Xs prog w A K env ρ orelse out) : X prog w A K env ρ (.If test body orelse pos) out := by
  subst hb; exact x_if h (fun e => nomatch e) fun _ => h₁
theorem ev_callFn {q : Bool} {A : Around} {env : Env} {ρ : Rho} {k : Nat} {a : Addr} {x : Str} {np pos : Pos} {es : List Expr} {ds : List D} {d : D} (hf : EvF prog w A K env ρ (.Name x np) (.ref a)) (ha : EvL prog w A K env ρ false es ds)
    (F : FnAt K a) (hc : Fn prog w K k a ds d) (hA : Aok A k)
    (hs : ((backTo pos (starEach es env)).any (·.1)) = false := by rfl) : Ev prog w A K env ρ q (.Call (.Name x np) es [] pos) d := by
  obtain ⟨o, fd, h1, h2⟩ := F
  exact ev_callDef hf ha h1 h2 hc hA hs
end
end Mine

namespace Mine

/-! ### more methods -/
namespace Ops
open Builtin
theorem forIn_run {σ : Type} (f : Nat → σ → Sem (ForInStep σ)) (st : Nat → σ) (N : Nat) (h : ∀ i, i < N → ∀ k, f k (st i) = pure (.yield (st (i + 1)))) : ∀ (n i k : Nat), i + n = N → forIn (List.range' k n) (st i) f = (pure (st N) : Sem σ)
  | 0, i, k, e => by
    have : i = N := by omega
    subst this; rfl
  | n + 1, i, k, e => by
    rw [List.range'_succ, List.forIn_cons, h i (by omega)]
    show forIn (List.range' (k + 1) n) (st (i + 1)) f = _
    exact forIn_run f st N h n (i + 1) (k + 1) (by omega)
theorem utf8_low {b : Array UInt8} {i : Nat} (h : (b.getD i 0).toNat < 128) : _codecs.utf8Decoder.find true b i = .text [(b.getD i 0).toNat] (i + 1) := by
  show (match Bytes.utf8At b i with
    | (.char c, nx) => _codecs.Found.char c nx
    | (.bad _ stop reason, _) => _) = _
  have : Bytes.utf8At b i = (.char (b.getD i 0).toNat, i + 1) := by
    unfold Bytes.utf8At
    simp only
    rw [if_pos h]
  rw [this]
  rfl
theorem dec_run (id : String) (b : Array UInt8) (hz : b.size ≤ 16777216) (h : ∀ x ∈ b.toList, x.toNat < 128) : _codecs.runDecoder id _codecs.utf8Decoder none true b 0 [] = pure ((b.toList.map (·.toNat)).toArray, b.size) := by
  unfold _codecs.runDecoder
  simp only [Std.Legacy.Range.forIn_eq_forIn_range', Std.Legacy.Range.size]
  have hn : (b.size - 0 + 1 - 1) / 1 = b.size := by simp
  rw [hn]
  refine Eq.trans (congrArg (fun x => x >>= _) (forIn_run _ (fun i => (((i, ((b.toList.map (·.toNat)).take i).toArray, { held := [] }) : Nat × Array Nat × _codecs.Faults))) b.size ?_ b.size 0 0 (by omega))) ?_
  · intro i hi k
    have hs : ¬ ((b.toList.map (·.toNat)).take i).toArray.size > sizeLine := by
      rw [sizeLine_eq]; simp; omega
    have hb : b.getD i 0 = b[i] := by simp [hi]
    have hlow : (b.getD i 0).toNat < 128 := by rw [hb]; exact h _ (by simp)
    simp only [if_neg hs, if_neg (show ¬ i ≥ b.size by omega), utf8_low hlow]
    congr 4
    rw [hb]
    apply Array.ext'
    simp [List.take_add_one, hi]
  · rw [pure_bind]
    show pure ((List.take b.size _).toArray, b.size) = _
    rw [List.take_of_length_le (by simp)]
theorem dec_empty (t : Tok) : «bytes.decode» ⟨[.bytes ([] : List UInt8).toArray t], []⟩ = (rule "bytes.decode.empty" >>= fun _ => retStr Str.empty) := by kernel_rfl
section
variable {prog : Program} {w : World} {A : Around} {K : Frag}
theorem op_decode {b : List UInt8} (hz : b.length ≤ 1000000) (h : ∀ x ∈ b, x.toNat < 128) : Op prog w A K (cb "bytes.decode") [.bytes b] (.str (b.map (·.toNat))) := Op.call1 fun V s _ _ _ ⟨t, e⟩ => by
  subst e
  cases b with
  | nil =>
    refine call_meets FB.slot_bytes_decode (typeIs_bytes _ _ _) FB.entry_bytes_decode (FB.args_bytes_decode_1 _) (S := fun _ R s => ∀ t' k, R (.ok (.ret (.str Str.empty t'))) { s with toks := k }) (.of_wp fun prog w A R s hS => ?_) fun t' k => ⟨.toks s k, t', rfl⟩
    rw [dec_empty]
    refine wpAny_bind (wpAny_rule ?_)
    exact wpAny_bind (wpAny_mkStr (wpAny_pure ⟨_, rfl, hS _ _⟩) (by decide))
  | cons c cs =>
    refine KBd.decode (x := S ((c :: cs).map (·.toNat))) (n := (c :: cs).length) (fun id => ?_) (by show (List.map _ (c :: cs)).toArray.size ≤ _; simp at hz ⊢; omega) fun t' k => ⟨.toks s k, t', rfl⟩
    rw [dec_run id _ (by simp at hz ⊢; omega) (by simpa using h)]
    simp
end

theorem occ_head (x y : Str) (lo hi : Nat) :
    (Str.occurrences x y lo hi 1 = [] ∧ ∀ i, lo ≤ i → ¬ StrLaws.At x y hi i) ∨
    ∃ i r, Str.occurrences x y lo hi 1 = i :: r ∧ lo ≤ i ∧ StrLaws.At x y hi i ∧ ∀ k, lo ≤ k → k < i → ¬ StrLaws.At x y hi k := by
  rw [StrLaws.occ_eq]
  rcases StrLaws.occ_first x y hi 1 (Nat.le_refl _) (List.range' lo (hi + 1 - lo)) lo (fun i hi => by have := List.mem_range'_1.mp hi; omega) with ⟨h0, hn⟩ | ⟨pre, a, post, e, h0, ha, hn⟩
  · refine .inl ⟨by rw [h0], fun i hlo hi => ?_⟩
    exact hn i (by have := hi.1; rw [List.mem_range'_1]; omega) hi
  · have hs := StrLaws.range'_split_from e
    refine .inr ⟨a, ((forIn (List.range' lo (hi + 1 - lo)) ((#[] : Array Nat), lo) (StrLaws.occBody x y hi 1)).run.fst.toList).tail, ?_, hs.1, ha, fun k hk0 hk => hn k (hs.2 k hk0 hk)⟩
    generalize (forIn (List.range' lo (hi + 1 - lo)) ((#[] : Array Nat), lo) (StrLaws.occBody x y hi 1)).run.fst = arr at h0
    have h1 : arr.toList[0]? = some a := by simpa using h0
    cases hL : arr.toList with
    | nil => rw [hL] at h1; cases h1
    | cons b t => rw [hL] at h1; simp at h1; rw [h1]; rfl
end Ops

/-- the first place of y in x from lo up to hi -/
def ffind (y x : List Nat) (lo hi : Nat) : Option Nat := (List.range' lo (hi + 1 - lo)).find? fun i => decide (i + y.length ≤ hi) && ((x.drop i).take y.length == y)
theorem At_iff (x y : List Nat) (hi i : Nat) : StrLaws.At (S x) (S y) hi i ↔ (decide (i + y.length ≤ hi) && ((x.drop i).take y.length == y)) = true := by
  unfold StrLaws.At
  rw [StrLaws.subAt_eq]
  simp [Str.length]
theorem ffind_eq (x y : List Nat) (lo hi : Nat) : (match Builtin.Str.occurrences (S x) (S y) lo hi 1 with | k :: _ => (k : Int) | [] => -1) = (match ffind y x lo hi with | some k => (k : Int) | none => -1) := by
  rcases Ops.occ_head (S x) (S y) lo hi with ⟨e, h⟩ | ⟨i, r, e, h1, h2, h3⟩
  · have : ffind y x lo hi = none := by
      unfold ffind
      rw [List.find?_eq_none]
      intro k hk hA
      exact h k (List.mem_range'_1.mp hk).1 ((At_iff _ _ _ _).mpr hA)
    rw [e, this]
  · have : ffind y x lo hi = some i := by
      unfold ffind
      rw [List.find?_eq_some_iff_append]
      refine ⟨(At_iff _ _ _ _).mp h2, List.range' lo (i - lo), List.range' (i + 1) (hi - i), ?_, fun k hk => ?_⟩
      · have hle : i ≤ hi := by have := h2.1; omega
        have e1 : hi + 1 - lo = (i - lo) + ((hi - i) + 1) := by omega
        rw [e1, ← List.range'_append_1, show lo + (i - lo) = i by omega, List.range'_succ]
      · have hk := List.mem_range'_1.mp hk
        have := mt (At_iff x y hi k).mpr (h3 k hk.1 (by omega))
        rw [Bool.not_eq_true] at this
        rw [this]; rfl
    rw [e, this]

section
variable {prog : Program} {w : World} {A : Around} {K : Frag}
theorem gives_find4 (x y : Str) (i j : Int) (t u v z : Tok) : Gives (Builtin.«str.find» ⟨[.str x t, .str y u, .int i v, .int j z], []⟩) (.int (match Builtin.Str.occurrences x y (fromIndex x.length i) (min (fromIndex x.length j) x.length) 1 with | k :: _ => (k : Int) | [] => -1)) := by
  show Gives (match Builtin.Str.occurrences x y (fromIndex x.length i) (min (fromIndex x.length j) x.length) 1 with | k :: _ => retInt k | [] => (do rule "str.find.not-found"; retInt (-1))) _
  cases Builtin.Str.occurrences x y (fromIndex x.length i) (min (fromIndex x.length j) x.length) 1 with
  | nil => exact .rule (.of_eq rfl)
  | cons k _ => exact .of_eq rfl
theorem op_find4 {x y : List Nat} {i j : Int} (h0 : 0 ≤ i) (h1 : 0 ≤ j) (h2 : j ≤ x.length) : Op prog w A K (cb "str.find") [.str x, .str y, .int i, .int j] (.int (match ffind y x i.toNat j.toNat with | some k => (k : Int) | none => -1)) := Op.call4 fun V s _ _ _ _ _ _ ⟨t, e⟩ ⟨u, e'⟩ ⟨v, e2⟩ ⟨z, e3⟩ => by
  subst e; subst e'; subst e2; subst e3
  refine call_gives F.slot_str_find (typeIs_str _ _ _) F.entry_str_find (F.args_str_find_4 _ _ _ _) (gives_find4 (S x) (S y) i j t u v z) ?_
  have e1 : fromIndex (S x).length i = i.toNat := by unfold fromIndex; rw [if_neg (by omega)]; omega
  have e2 : min (fromIndex (S x).length j) (S x).length = j.toNat := by
    have : fromIndex (S x).length j = j.toNat := by unfold fromIndex; rw [if_neg (by omega)]; omega
    rw [this]
    have : (S x).length = x.length := by simp [Str.length]
    omega
  rw [e1, e2, ffind_eq]
  exact ⟨.toks s _, _, rfl⟩

theorem cut_str1 {x : List Nat} (hz : x.length ≤ 1000000) : Cut prog w A none (some 1) none (.str x) (.str (x.take 1)) := by
  intro V s o sl vl vu vst L ⟨t, e⟩ hs pl pu pst
  subst e
  cases pl; cases pst
  obtain ⟨uj, e1⟩ : ∃ uj, vu = .int 1 uj := by cases pu; exact ⟨_, rfl⟩
  subst e1
  refine wpAny_getItem_str_slice (l := none) (u := some (1, uj)) (st := none) hs rfl ?_
  have e : slicePicked (S x) none (some (1, uj)) none = if x = [] then [] else [0] := by
    unfold slicePicked
    show Builtin.Str.strSliceIndices none (some 1) 1 _ = _
    rcases x with _ | ⟨a, _ | ⟨b, r⟩⟩
    · rfl
    · rfl
    · have := StrLaws.strSliceIndices_plain (a := 0) (b := 1) (len := (S (a :: b :: r)).length) (by omega) (by simp [Str.length])
      exact this
  unfold sliceMade
  rw [e]
  rcases x with _ | ⟨a, _ | ⟨b, r⟩⟩
  · exact ⟨.refl s, t, rfl⟩
  · exact ⟨.refl s, t, rfl⟩
  · have : ((((none : Option (Int × Tok)).map (·.1)).getD 1 == 1) && (([0] : List Nat).length == (S (a :: b :: r)).length)) = false := by simp [Str.length]
    simp only [if_neg (show ¬ (a :: b :: r) = [] by simp), this]
    exact ⟨by show (1 : Nat) ≤ sizeLine; decide, .toks s _, _, rfl⟩
end
theorem op_dots {prog : Program} {w : World} {A : Around} {K : Frag} {x : List Nat} {n : Int} (hx : x = [46]) (h0 : 0 ≤ n) (h : n ≤ 1000) : Op prog w A K (f2 (binaryOp .Mult)) [.str x, .int n] (.str (List.replicate n.toNat 46)) := by
  subst hx
  refine (op_rep (x := [46]) h0 h (by simp)).cast ?_
  rw [show S [46] = ⟨#[46]⟩ from rfl, mul_one_list]
end Mine

namespace Mine
section
variable {prog : Program} {w : World} {A : Around} {K : Frag} {env : Env} {ρ ρ' ρ₁ ρ₂ ρc : Rho} {scope : Scope} {cl : List (Str × Addr)}

theorem capt_nil : Capt env scope cl ρ [] := fun y b e => by cases e
theorem capt_cons {y : Str} {b : B} (h : ρ.lookup y = some b) (hk : env.kindOf y = some .cell ∨ env.kindOf y = some .free) (hs : (env.cells.lookup y).isSome = true) (hc : cl.lookup y = env.cells.lookup y)
    (hf : ∀ C, (compEnvC scope cl C env).kindOf y = some .cell ∨ (compEnvC scope cl C env).kindOf y = some .free) (r : Capt env scope cl ρ ρc) : Capt env scope cl ρ ((y, b) :: ρc) := fun z b' e => by
  by_cases hz : z = y
  · subst hz
    rw [lookup_cons_self] at e; cases e
    obtain ⟨a, ha⟩ := Option.isSome_iff_exists.mp hs
    exact ⟨h, hk, ⟨a, hc.trans ha, ha⟩, hf⟩
  · rw [lookup_cons_ne hz] at e; exact r z b' e

/-- a comprehension over one name -/
theorem comp1 {elt iter : Expr} {x : Str} {xp : Pos} {ifs : List Expr} {ds : List D} {p : D → Bool} {F : D → D} (hcl : closureFor scope env = pure cl) (h1 : ∀ q ∈ cl, env.cells.lookup q.1 = some q.2) (h2 : (cl.map (·.1)).Nodup) (h3 : ∀ y ∈ scope.names, y.2 ≠ .cell)
    (h4 : scope.kind = .function) (h5 : ∀ x ∈ scope.names, x.2 = .local → scope.names.lookup x.1 = some .local) (hcap : Capt env scope cl ρ ρc) (hI : EvI prog w A K env ρ true iter ds) (hx : ∀ C, (compEnvC scope cl C env).kindOf x = some .local)
    (ht : ∀ C, ∀ d ∈ ds, Tests prog w A K (compEnvC scope cl C env) ((x, .d d) :: ρc) ifs (p d)) (he : ∀ C, ∀ d ∈ ds, p d = true → Ev prog w A K (compEnvC scope cl C env) ((x, .d d) :: ρc) true elt (F d)) :
    CompOk prog w A K env ρ elt (.Name x xp) iter ifs scope ds p F :=
  ⟨⟨cl, ρc, fun d => (x, .d d) :: ρc, hcl, h1, h2, h3, h4, h5, hcap, hI, fun C d hd => ⟨bdL_name (hx C), ht C d hd, he C d hd⟩⟩⟩
/-! ### expressions once a token is out -/
end
end Mine

namespace Mine
section
variable {prog : Program} {w : World} {A : Around} {K : Frag} {env : Env} {ρ ρ' ρ₁ ρ₂ ρc : Rho} {scope : Scope} {cl : List (Str × Addr)}
theorem comp_fun {α : Type} (g : α → D) (hg : ∀ a b, g a = g b → a = b) (f : α → D) (p : α → Bool) : ∃ (F : D → D) (p' : D → Bool), (∀ a, F (g a) = f a) ∧ ∀ a, p' (g a) = p a := by
  classical
  refine ⟨fun d => if h : ∃ a, g a = d then f h.choose else d, fun d => if h : ∃ a, g a = d then p h.choose else false, fun a => ?_, fun a => ?_⟩
  · have h : ∃ b, g b = g a := ⟨a, rfl⟩
    simp only [dif_pos h]
    rw [hg _ _ h.choose_spec]
  · have h : ∃ b, g b = g a := ⟨a, rfl⟩
    simp only [dif_pos h]
    rw [hg _ _ h.choose_spec]
theorem comp_list {α : Type} {g : α → D} {f : α → D} {p : α → Bool} {F : D → D} {p' : D → Bool} (hF : ∀ a, F (g a) = f a) (hp : ∀ a, p' (g a) = p a) (l : List α) : ((l.map g).filter p').map F = (l.filter p).map f := by
  rw [List.filter_map, List.map_map]
  have e1 : p' ∘ g = p := funext hp
  have e2 : F ∘ g = f := funext hF
  rw [e1, e2]
theorem evN_comp1 {α : Type} (g : α → D) (l : List α) (p : α → Bool) (f : α → D) {elt iter : Expr} {x : Str} {xp pos : Pos} {ifs : List Expr} (hg : ∀ a b, g a = g b → a = b)
    (hcl : closureFor scope env = pure cl) (h1 : ∀ q ∈ cl, env.cells.lookup q.1 = some q.2) (h2 : (cl.map (·.1)).Nodup) (h3 : ∀ y ∈ scope.names, y.2 ≠ .cell)
    (h4 : scope.kind = .function) (h5 : ∀ x ∈ scope.names, x.2 = .local → scope.names.lookup x.1 = some .local) (hcap : Capt env scope cl ρ ρc) (hI : EvI prog w A K env ρ true iter (l.map g)) (hx : ∀ C, (compEnvC scope cl C env).kindOf x = some .local)
    (ht : ∀ C, ∀ a ∈ l, Tests prog w A K (compEnvC scope cl C env) ((x, .d (g a)) :: ρc) ifs (p a)) (he : ∀ C, ∀ a ∈ l, p a = true → Ev prog w A K (compEnvC scope cl C env) ((x, .d (g a)) :: ρc) true elt (f a)) (hz : l.length ≤ 1000000)
    (hs : ∀ x, foldedSetIterable iter env x = pure x) :
    EvN prog w A K env ρ (.ListComp elt [⟨.Name x xp, iter, ifs, 0⟩] scope pos) ((l.filter p).map f) := by
  obtain ⟨F, p', hF, hp⟩ := comp_fun g hg f p
  have H : CompOk prog w A K env ρ elt (.Name x xp) iter ifs scope (l.map g) p' F := comp1 hcl h1 h2 h3 h4 h5 hcap hI hx
    (fun C d hd => by obtain ⟨a, ha, rfl⟩ := List.mem_map.mp hd; rw [hp]; exact ht C a ha) (fun C d hd hpd => by obtain ⟨a, ha, rfl⟩ := List.mem_map.mp hd; rw [hF]; rw [hp] at hpd; exact he C a ha hpd)
  have := evN_comp (pos := pos) H (by simpa using hz) hs
  rw [comp_list hF hp] at this
  exact this
theorem x_assignComp1 {α : Type} (g : α → D) (l : List α) (p : α → Bool) (f : α → D) {v : Str} {vp spos : Pos} {l' : List D} {elt iter : Expr} {x : Str} {xp pos : Pos} {ifs : List Expr} (hg : ∀ a b, g a = g b → a = b)
    (hcl : closureFor scope env = pure cl) (h1 : ∀ q ∈ cl, env.cells.lookup q.1 = some q.2) (h2 : (cl.map (·.1)).Nodup) (h3 : ∀ y ∈ scope.names, y.2 ≠ .cell)
    (h4 : scope.kind = .function) (h5 : ∀ x ∈ scope.names, x.2 = .local → scope.names.lookup x.1 = some .local) (hcap : Capt env scope cl ρ ρc) (hI : EvI prog w A K env ρ true iter (l.map g)) (hx : ∀ C, (compEnvC scope cl C env).kindOf x = some .local)
    (ht : ∀ C, ∀ a ∈ l, Tests prog w A K (compEnvC scope cl C env) ((x, .d (g a)) :: ρc) ifs (p a)) (he : ∀ C, ∀ a ∈ l, p a = true → Ev prog w A K (compEnvC scope cl C env) ((x, .d (g a)) :: ρc) true elt (f a)) (hz : l.length ≤ 1000000)
    (hl : (l.filter p).map f = l') (hk : env.kindOf v = some .local)
    (hsw : swapsWith (.ListComp elt [⟨.Name x xp, iter, ifs, 0⟩] scope pos) (some (.Name v vp)) spos.line env = pure true)
    (hs : ∀ x, foldedSetIterable iter env x = pure x) :
    X prog w A K env ρ (.Assign [.Name v vp] (.ListComp elt [⟨.Name x xp, iter, ifs, 0⟩] scope pos) spos) (.nxt ((v, .d (.lst l')) :: ρ)) := by
  obtain ⟨F, p', hF, hp⟩ := comp_fun g hg f p
  have H : CompOk prog w A K env ρ elt (.Name x xp) iter ifs scope (l.map g) p' F := comp1 hcl h1 h2 h3 h4 h5 hcap hI hx
    (fun C d hd => by obtain ⟨a, ha, rfl⟩ := List.mem_map.mp hd; rw [hp]; exact ht C a ha) (fun C d hd hpd => by obtain ⟨a, ha, rfl⟩ := List.mem_map.mp hd; rw [hF]; rw [hp] at hpd; exact he C a ha hpd)
  exact x_assignComp H (by simpa using hz) (by rw [comp_list hF hp]; exact hl) hk hsw hs
theorem filt_true {α : Type} (l : List α) : l.filter (fun _ => true) = l := List.filter_eq_self.mpr fun _ _ => rfl
theorem EvN.cast {e : Expr} {l l' : List D} (h : EvN prog w A K env ρ e l) (x : l = l') : EvN prog w A K env ρ e l' := x ▸ h
theorem evI_cast {q : Bool} {e : Expr} {l l' : List D} (h : EvI prog w A K env ρ q e l) (x : l = l') : EvI prog w A K env ρ q e l' := x ▸ h
end
end Mine

namespace Mine
section
variable {prog : Program} {w : World} {A : Around} {K : Frag} {env : Env} {ρ ρ' ρ₁ ρ₂ : Rho}
/-- y.pop() of an own list -/
theorem pop_own {y : Str} {yp apos pos : Pos} {l : List D} {d : D} {c : Cx} {W : List Addr} {s : Shared} (C : Core K env c W ρ s) (hy : ρ.lookup y = some (.own (l ++ [d]))) (hz : l.length ≤ 1000000) {Q : Value → Shared → Prop}
    (hQ : ∀ v s', Core K env c W ((y, .own l) :: ρ) s' → Rd s'.heap W d v → (∀ m z u, s.heap.Ns env.locals m → Var env m s.heap z u → s'.heap.Ns env.locals m ∧ Var env m s'.heap z u) → Q v s')
    (hdb : (y == ("__debug__" : Str)) = false := by decide) (hcd : (y == ("__classdict__" : Str)) = false := by decide)
    (hbase : attributeBase (.Name y yp) (Str.ofString "pop") env (eval (.Name y yp) env) = eval (.Name y yp) env := by rfl)
    (hfew : ((backTo pos (starEach [] env)).all (fun x => !x.1) && (backToKw pos (keywordEach [] env)).all (fun x => x.1.isSome) && decide (([] : List Expr).length + ([] : List Keyword).length + (if ([] : List Keyword).isEmpty then 0 else 1) < 30)) = true := by rfl)
    (hline : (apos.endLine == pos.line) = true := by rfl)
    (hss : ((backTo pos (starEach [] env)).any (·.1)) = false := by rfl) (hse : backTo pos (starEach [] env) = [] := by rfl) :
    wpAny (model prog w) A (eval (.Call (.Attribute (.Name y yp) (Str.ofString "pop") apos) [] [] pos) env) Q noE s := by
  obtain ⟨m, a, vs, hn, p, ha, hp, hl⟩ := owned C hy
  obtain ⟨us, ws, e, hl1, hl2⟩ := RdL.split hl
  obtain ⟨v, _, rfl, rv, rfl⟩ := hl2
  subst e
  have hlen := hl1.length
  refine wpAny_Call_method hbase hfew hline F.plainAttrs_list F.slot_list_pop F.type_list_pop (var_load C.kind hn p ⟨hp.isList.typeIs, fun b q => by cases q; obtain ⟨n, e⟩ := hp; exact ⟨_, e, rfl⟩, ?_⟩ hdb hcd)
  refine Calls.callWith_builtin hss (evalArgs_any hss ?_)
  rw [hse]
  refine Calls.spliced_nil ?_
  obtain ⟨n, hg⟩ := hp
  have hlast : ((us ++ [v]).toArray)[((us ++ [v]).toArray).size - 1]? = some v := by simp
  refine call_meets F.slot_list_pop ⟨_, hg, rfl⟩ F.entry_list_pop (F.args_list_pop_1 _) (MeetsSeq.list_pop_last a ((us ++ [v]).toArray) n v hlast (by rw [sizeLine_eq]; simp; omega)) ⟨hg, ?_⟩
  have hoth : ∀ b o, b ≠ a → s.heap.get? b = some o → (s.heap.update a (Obj.mapSeq fun xs => xs.eraseIdxIfInBounds (((us ++ [v]).toArray).size - 1))).get? b = some o := fun b o hb e => (Heap.get?_update_other _ _ (Ne.symm hb)).trans e
  have he : ((us ++ [v]).toArray).eraseIdxIfInBounds (((us ++ [v]).toArray).size - 1) = us.toArray := by
    apply Array.ext'
    simp [Array.toList_eraseIdxIfInBounds, List.eraseIdx_append_of_length_le]
  have hpl : (s.heap.update a (Obj.mapSeq fun xs => xs.eraseIdxIfInBounds (((us ++ [v]).toArray).size - 1))).PlainList a us.toArray := by
    have := IsL.update (n := n) hg (fun xs => xs.eraseIdxIfInBounds (((us ++ [v]).toArray).size - 1))
    rw [he] at this
    exact ⟨_, this⟩
  have ndc := List.nodup_cons.mp C.nodup
  have haL : a ≠ env.locals := fun q => ndc.1 (q ▸ List.mem_append_right _ ha)
  have haC : a ∉ env.cells.map (·.2) := fun q => (List.nodup_append.mp ndc.2).2.2 a q a ha rfl
  have seqk : SeqKeep W s.heap (s.heap.update a (Obj.mapSeq fun xs => xs.eraseIdxIfInBounds (((us ++ [v]).toArray).size - 1))) := fun b o hb _ e => hoth b o (fun q => hb (q ▸ ha)) e
  refine hQ v _ (C.mutate (vs := us) (tk := s.toks) hy hn p hoth hpl (hl1.keep seqk)) (rv.keep seqk) fun m' z u hn' p' => ⟨?_, ?_⟩
  · obtain ⟨o, es, ep, e, r⟩ := hn'
    exact ⟨o, es, ep, hoth _ o (Ne.symm haL) e, r⟩
  · exact p'.imp id fun ⟨k, cc, hc, e⟩ => ⟨k, cc, hc, by
      obtain ⟨o, e1, e2⟩ := e
      exact ⟨o, hoth cc o (fun q => haC (q ▸ mem_map_of_lookup hc)) e1, e2⟩⟩
/-- x.append(y.pop()) -/
theorem x_appendPop {x y : Str} {xp yp apos cpos pos ypos yapos : Pos} {l l' : List D} {d : D} (hx : ρ.lookup x = some (.own l)) (hy : ρ.lookup y = some (.own (l' ++ [d]))) (hxy : x ≠ y) (hz : l.length ≤ 1000000) (hz' : l'.length ≤ 1000000)
    (hi : interactive env = false) (hs : swapsWith (.Call (.Attribute (.Name x xp) (Str.ofString "append") apos) [.Call (.Attribute (.Name y yp) (Str.ofString "pop") yapos) [] [] ypos] [] cpos) none pos.line env = pure false)
    (hdb : (x == ("__debug__" : Str)) = false) (hcd : (x == ("__classdict__" : Str)) = false) (hdb' : (y == ("__debug__" : Str)) = false) (hcd' : (y == ("__classdict__" : Str)) = false)
    (hbase : attributeBase (.Name x xp) (Str.ofString "append") env (eval (.Name x xp) env) = eval (.Name x xp) env)
    (hfew : ((backTo cpos (starEach [.Call (.Attribute (.Name y yp) (Str.ofString "pop") yapos) [] [] ypos] env)).all (fun x => !x.1) && (backToKw cpos (keywordEach [] env)).all (fun x => x.1.isSome) && decide ([Expr.Call (.Attribute (.Name y yp) (Str.ofString "pop") yapos) [] [] ypos].length + ([] : List Keyword).length + (if ([] : List Keyword).isEmpty then 0 else 1) < 30)) = true)
    (hline : (apos.endLine == cpos.line) = true)
    (hss : ((backTo cpos (starEach [.Call (.Attribute (.Name y yp) (Str.ofString "pop") yapos) [] [] ypos] env)).any (·.1)) = false) (hse : starEach [.Call (.Attribute (.Name y yp) (Str.ofString "pop") yapos) [] [] ypos] env = [(false, eval (.Call (.Attribute (.Name y yp) (Str.ofString "pop") yapos) [] [] ypos) env)])
    (hbase' : attributeBase (.Name y yp) (Str.ofString "pop") env (eval (.Name y yp) env) = eval (.Name y yp) env)
    (hfew' : ((backTo ypos (starEach [] env)).all (fun x => !x.1) && (backToKw ypos (keywordEach [] env)).all (fun x => x.1.isSome) && decide (([] : List Expr).length + ([] : List Keyword).length + (if ([] : List Keyword).isEmpty then 0 else 1) < 30)) = true)
    (hline' : (yapos.endLine == ypos.line) = true)
    (hss' : ((backTo ypos (starEach [] env)).any (·.1)) = false) (hse' : backTo ypos (starEach [] env) = []) :
    X prog w A K env ρ (.Expr (.Call (.Attribute (.Name x xp) (Str.ofString "append") apos) [.Call (.Attribute (.Name y yp) (Str.ofString "pop") yapos) [] [] ypos] [] cpos) pos) (.nxt ((x, .own (l ++ [d])) :: (y, .own l') :: ρ)) := X.mk fun c W s _ C => by
  obtain ⟨m, a, vs, hn, p, ha, hp, hl⟩ := owned C hx
  refine wpAny_Expr_any ?_ hi hs
  refine wpAny_Call_method hbase hfew hline F.plainAttrs_list slot_list_append F.type_list_append (var_load C.kind hn p ⟨hp.isList.typeIs, fun b q => by cases q; obtain ⟨n, e⟩ := hp; exact ⟨_, e, rfl⟩, ?_⟩ hdb hcd)
  refine Calls.callWith_builtin hss (evalArgs_any hss ?_)
  rw [hse]
  show wpAny _ _ (spliced [(false, eval (.Call (.Attribute (.Name y yp) (Str.ofString "pop") yapos) [] [] ypos) env)]) _ _ _
  refine Calls.spliced_cons (pop_own C hy hz' (fun v s₁ C₁ rv hk => Calls.spliced_nil ?_) hdb' hcd' hbase' hfew' hline' hss' hse')
  obtain ⟨m₁, a₁, vs₁, hn₁, p₁, ha₁, hp₁, hl₁⟩ := owned C₁ (show List.lookup x ((y, B.own l') :: ρ) = some (.own l) by rw [lookup_cons_ne hxy]; exact hx)
  obtain ⟨hn₂, p₂⟩ := hk m x _ hn p
  have em := ns_inj hn₁ hn₂
  subst em
  have ea := p₁.inj p₂
  cases ea
  have hlen := hl₁.length
  refine wpAny_list_append_plain hp₁ (fun h' hp' hs' => ⟨rfl, W, ?_⟩) (by rw [sizeLine_eq]; simp; omega)
  refine C₁.mutate (vs := vs₁ ++ [v]) (show List.lookup x ((y, B.own l') :: ρ) = some (.own l) by rw [lookup_cons_ne hxy]; exact hx) hn₁ p₁ (fun b o hb e => hs'.extBut b o hb e) (by simpa using hp') ?_
  exact (hl₁.append (RdL.single rv)).keep fun b o hb _ e => hs'.extBut b o (fun q => hb (q ▸ ha₁)) e
end
end Mine

namespace Mine
section
variable {prog : Program} {w : World} {A : Around} {K : Frag}
theorem op_index {ns : List Int} {k : Int} (hm : k ∈ ns) (hz : ns.length ≤ 1000000) : Op prog w A K (cb "list.index") [dI ns, .int k] (.int (ns.idxOf k : Nat)) := Op.call2 fun V s _ _ _ _ ⟨a, vs, e, _, ⟨n, hp⟩, hl⟩ ⟨t, e'⟩ => by
  subst e; subst e'
  have hlen := hl.length
  rw [List.length_map] at hlen
  have hI := hl.toInts
  have hj : ns.idxOf k < ns.length := List.idxOf_lt_length_iff.mpr hm
  refine call_meets F.slot_list_index ⟨_, hp, rfl⟩ F.entry_list_index (F.args_list_index_2 _ _)
    (SeqAt.list_indexAt a vs.toArray n none #[] (.int k t) (isInt k) (ns.idxOf k) (by simpa [hlen] using hj) (by omega) ?_ ?_) ⟨hp, fun y hy => (eq_isInt k t hI y (by simpa using hy)).at _ _, .toks s _, _, rfl⟩
  · show isInt k vs[ns.idxOf k] = true
    rw [isInt_at k hI _ (by omega) hj]
    simpa using List.getElem_idxOf hj
  · intro j hjs hlt
    show isInt k vs[j] = false
    rw [isInt_at k hI j (by simpa using hjs) (by omega)]
    exact ne_of_lt_idxOf hlt _
end
end Mine

namespace Mine
section
variable {prog : Program} {w : World} {A : Around} {K : Frag} {env : Env} {ρ : Rho}
/-- list(range(a, b)) -/
theorem evN_listRange {m : Nat} {x y : Str} {np np' pos pos' : Pos} {e₁ e₂ : Expr} {a b : Int} (hA : Aok A m) (hf : EvF prog w A K env ρ (.Name x np) (.type "list")) (hf' : EvF prog w A K env ρ (.Name y np') (.type "range"))
    (h₁ : Ev prog w A K env ρ true e₁ (.int a)) (h₂ : Ev prog w A K env ρ true e₂ (.int b)) (hsm : Builtin.Range.small a b 1 = true) (hab : a ≤ b) (hn : b - a ≤ 1000)
    (hs : ((backTo pos (starEach [.Call (.Name y np') [e₁, e₂] [] pos'] env)).any (·.1)) = false := by rfl) (hse : starEach [.Call (.Name y np') [e₁, e₂] [] pos'] env = [(false, eval (.Call (.Name y np') [e₁, e₂] [] pos') env)] := by rfl)
    (hs' : ((backTo pos' (starEach [e₁, e₂] env)).any (·.1)) = false := by rfl) (hse1 : starEach [e₁, e₂] env = (false, eval e₁ env) :: starEach [e₂] env := by rfl) (hse2 : starEach [e₂] env = (false, eval e₂ env) :: starEach [] env := by rfl) :
    EvN prog w A K env ρ (.Call (.Name x np) [.Call (.Name y np') [e₁, e₂] [] pos'] [] pos) ((List.range (b - a).toNat).map fun i => .int (a + (i : Nat))) := fun c W s C => by
  refine wpAny_Call_ofName (wpAny_mono (hf c W s C) (fun v s' ⟨e1, e2⟩ => ?_) fun _ _ x => x)
  subst e1; subst e2
  refine PyProof.Rows.callWith_type hs (evalArgs_any hs ?_)
  rw [hse]
  show wpAny _ _ (spliced [(false, eval (.Call (.Name y np') [e₁, e₂] [] pos') env)]) _ _ _
  refine Calls.spliced_cons ?_
  refine wpAny_Call_ofName (wpAny_mono (hf' c W s' C) (fun v s'' ⟨e1, e2⟩ => ?_) fun _ _ x => x)
  subst e1; subst e2
  have hargs := evL_cons h₁ (evL_cons h₂ (evL_nil (q := true)) hse2) hse1
  refine PyProof.Rows.callWith_type hs' (evalArgs_any hs' (wpAny_mono (hargs pos' c W s'' C) (fun vs s₁ ⟨k₁, r₁⟩ => ?_) fun _ _ x => x))
  obtain ⟨_, _, rfl, ⟨t, rfl⟩, _, _, rfl, ⟨u, rfl⟩, rfl⟩ := r₁
  refine call_range_2 (Calls.spliced_nil ?_)
  have hr : IsRange (s₁.heap.push { cls := .type "range", data := .fields #[.int a t, .int b u, .int 1 s₁.toks] }) s₁.heap.objs.size a b 1 t u s₁.toks := IsRange.new ..
  have k₂ := Ext.push s₁ { cls := .type "range", data := .fields #[.int a t, .int b u, .int 1 s₁.toks] } (s₁.toks + 1)
  have hsz : Builtin.Range.rangeSize a b 1 = (((b - a).toNat : Nat) : Int) := by rw [rangeSize_one]; split <;> omega
  refine call_list_range (A := A) hA.h hr hsm hsz (by omega) fun h' tk acc' c' hk hS' hacc => ?_
  obtain ⟨hsz', hit⟩ := hacc
  have kk : Ext s'' { s₁ with heap := h', toks := tk } := k₁.trans (k₂.trans ⟨h', tk, rfl, hk⟩)
  have hrd : ∀ (hh : Heap) (V : List Addr), RdL hh V ((List.range (b - a).toNat).map fun i => .int (a + (i : Nat))) acc'.toList := fun hh V =>
    RdL.of_get (by simp [hsz']) fun i d v hd hv => by
      have hv' : acc'[i]? = some v := by simpa using hv
      obtain ⟨t', e⟩ := hit i v hv'
      subst e
      rw [List.getElem?_map] at hd
      rcases Nat.lt_or_ge i (b - a).toNat with q | q
      · rw [List.getElem?_range q] at hd
        cases hd
        exact ⟨t', by simp⟩
      · rw [List.getElem?_eq_none (by simpa using q)] at hd; cases hd
  refine ⟨kk, _, acc'.toList, rfl, k₁.none (k₂.none (get_size _)), ⟨c', by simpa using hS'⟩, hrd _ _, hrd _ _⟩
end
end Mine

namespace Mine
section
variable {prog : Program} {w : World} {A : Around} {K : Frag} {env : Env} {ρ : Rho}
theorem evC_and3 {x y z : Expr} {pos : Pos} {a b d : Bool} (h₁ : EvC prog w A K env ρ x a) (h₂ : a = true → EvC prog w A K env ρ y b) (h₃ : a = true → b = true → EvC prog w A K env ρ z d) : EvC prog w A K env ρ (.BoolOp .And [x, y, z] pos) (a && (b && d)) := fun c W s C => by
  refine wpAny_isTrue_BoolOp ?_
  show wpAny _ _ (do
    match BoolOp.And, ← isTrue x env (eval x env) with
    | .And, false => pure false
    | .Or, true => pure true
    | _, _ => allTrue .And [y, z] env) _ _ _
  refine wpAny_bind (wpAny_mono (h₁ c W s C) (fun b' s₁ ⟨k, e⟩ => ?_) fun _ _ x => x)
  subst e
  cases b' with
  | false => exact wpAny_pure ⟨k, rfl⟩
  | true =>
    show wpAny _ _ (do
      match BoolOp.And, ← isTrue y env (eval y env) with
      | .And, false => pure false
      | .Or, true => pure true
      | _, _ => allTrue .And [z] env) _ _ _
    refine wpAny_bind (wpAny_mono (h₂ rfl c W s₁ (C.heap_mono k)) (fun b'' s₂ ⟨k', e⟩ => ?_) fun _ _ x => x)
    subst e
    cases b'' with
    | false => exact wpAny_pure ⟨k.trans k', rfl⟩
    | true =>
      show wpAny _ _ (do
        match BoolOp.And, ← isTrue z env (eval z env) with
        | .And, false => pure false
        | .Or, true => pure true
        | _, _ => pure true) _ _ _
      refine wpAny_bind (wpAny_mono (h₃ rfl rfl c W s₂ ((C.heap_mono k).heap_mono k')) (fun b3 s₃ ⟨k3, e⟩ => ?_) fun _ _ x => x)
      subst e
      cases b3 <;> exact wpAny_pure ⟨k.trans (k'.trans k3), rfl⟩

/-! ### sorted of a text -/
def sortN (x : List Nat) : List Nat := x.mergeSort (fun a b => decide (a ≤ b))
theorem sortN_eq {ns ms : List Nat} (hp : ms.Perm ns) (hs : ms.Pairwise (· ≤ ·)) : ms = sortN ns := by
  refine (hp.trans (List.mergeSort_perm ns _).symm).eq_of_pairwise ?_ hs ?_
  · intro a b _ _ h1 h2; exact Nat.le_antisymm h1 h2
  · have := List.pairwise_mergeSort (le := fun a b : Nat => decide (a ≤ b)) (fun a b c h1 h2 => by simp only [decide_eq_true_eq] at *; omega) (fun a b => by simp only [Bool.or_eq_true, decide_eq_true_eq]; omega) ns
    exact this.imp fun h => by simpa using h
theorem sortN_perm (x : List Nat) : (sortN x).Perm x := List.mergeSort_perm _ _
theorem sortN_up {x : List Nat} (hnd : x.Nodup) : (sortN x).Pairwise (· < ·) := by
  have h1 : (sortN x).Pairwise (· ≤ ·) := by
    have := List.pairwise_mergeSort (le := fun a b : Nat => decide (a ≤ b)) (fun a b c h1 h2 => by simp only [decide_eq_true_eq] at *; omega) (fun a b => by simp only [Bool.or_eq_true, decide_eq_true_eq]; omega) x
    exact this.imp fun h => by simpa using h
  have h2 : (sortN x).Nodup := (sortN_perm x).nodup_iff.mpr hnd
  exact (h1.and h2).imp fun ⟨a, b⟩ => Nat.lt_of_le_of_ne a b
theorem rising_up : ∀ (p : Nat) (y : List Nat), risingS (S [p]) (y.map fun c => S [c]) = true → (p :: y).Pairwise (· ≤ ·)
  | p, [], _ => by simp
  | p, a :: y, h => by
    have h' : (!PySem.Spec.ltCps (S [a]).cps.toList (S [p]).cps.toList && risingS (S [a]) (y.map fun c => S [c])) = true := h
    obtain ⟨h1, h2⟩ := Bool.and_eq_true_iff.mp h'
    have ih := rising_up a y h2
    rw [ltCps_eq] at h1
    have hpa : p ≤ a := by
      have h3 : ¬ ([a] < [p] : Prop) := by simpa using h1
      rcases Nat.lt_or_ge a p with q | q
      · exact absurd (List.Lex.rel q) h3
      · exact q
    refine List.pairwise_cons.mpr ⟨fun b hb => ?_, ih⟩
    rcases List.mem_cons.mp hb with q | q
    · subst q; exact hpa
    · exact Nat.le_trans hpa ((List.pairwise_cons.mp ih).1 b q)
theorem sorted_up : ∀ (y : List Nat), sortedS (y.map fun c => S [c]) = true → y.Pairwise (· ≤ ·)
  | [], _ => List.Pairwise.nil
  | a :: y, h => rising_up a y h
theorem sortedHeap_keeps {h : Heap} {a : Addr} {vs : List Value} {out : Array Value} {b : Addr} {o : Obj} (hba : b ≠ a) (e : h.get? b = some o) : (sortedHeap h a vs out).get? b = some o := by
  unfold sortedHeap
  have h4 := (Heap.get?_update_other h (Obj.mapSeq fun _ => #[]) (a := a) (b := b) (Ne.symm hba)).trans e
  have h5 := Heap.get?_push_of_some (seqObj "list" #[] 0) (Heap.get?_push_of_some (seqObj "tuple" vs.toArray 0) h4)
  exact (Heap.get?_update_other _ (Obj.mapSeq fun _ => out) (a := a) (b := b) (Ne.symm hba)).trans h5
theorem sortedHeap_get {h : Heap} {a : Addr} {vs : List Value} {out xs : Array Value} {n : Nat} (h1 : h.get? a = some (seqObj "list" xs n)) : (sortedHeap h a vs out).PlainList a out := by
  unfold sortedHeap
  obtain ⟨e1, h2⟩ : ∃ e1, (h.update a (Obj.mapSeq fun _ => #[])).get? a = some (seqObj "list" #[] e1) := ⟨_, get?_update_seq h1 (fun _ => #[])⟩
  have h3 := Heap.get?_push_of_some (seqObj "list" #[] 0) (Heap.get?_push_of_some (seqObj "tuple" vs.toArray 0) h2)
  exact ⟨_, get?_update_seq h3 fun _ => out⟩
theorem strs_single {vs : List Value} {ss : List Str} (h : StrsAre vs ss) : ∀ {y : List Nat}, ss = y.map (fun c => S [c]) → ∀ (hh : Heap) (V : List Addr), RdL hh V (y.map fun c => D.str [c]) vs := by
  induction h with
  | nil => intro y e hh V; cases y with | nil => exact rfl | cons _ _ => cases e
  | cons x t _ ih =>
    intro y e hh V
    cases y with
    | nil => cases e
    | cons c y =>
      rw [List.map_cons] at e
      injection e with e1 e2
      subst e1
      exact ⟨_, _, rfl, ⟨t, rfl⟩, ih e2 hh V⟩
theorem op_sortedS {m : Nat} {x : List Nat} (hA : Aok A m) (hz : x.length < 64) : Op prog w A K (cb "sorted") [.str x] (.lst ((sortN x).map fun c => .str [c])) := Op.call1 fun V s _ L _ ⟨t, e⟩ => by
  subst e
  refine Calls.call_function_entry kind_sorted plain_sorted entry_sorted (args_sorted1 _) ?_
  unfold Builtin.«sorted»
  refine wpAny_bind (m := checkCount "sorted" 1 1 _) (wpAny_pure ?_)
  refine wpAny_bind (wpAny_collect_str (A := A.in1) (show A.in1.handled = none from hA.h) (S x) t (fun s' acc hk hg hd ho hacc => ?_) (by rw [sizeLine_eq]; simp; omega))
  obtain ⟨hsz, hit⟩ := hacc
  have hszx : acc.size = x.length := by rw [hsz]; simp
  refine wpAny_bind (wpAny_newList ?_ (by rw [sizeLine_eq, Array.length_toList]; omega))
  have hS : StrsAre acc.toList (x.map fun c => S [c]) := by
    have key : ∀ (vs : List Value) (y : List Nat), vs.length = y.length → (∀ (i : Nat) (v : Value), vs[i]? = some v → ∃ c u, y[i]? = some c ∧ v = .str (S [c]) u) → StrsAre vs (y.map fun c => S [c]) := fun vs => by
      induction vs with
      | nil => intro y hl _; cases y with | nil => exact .nil | cons _ _ => cases hl
      | cons v vs ih =>
        intro y hl hh
        cases y with
        | nil => cases hl
        | cons c y =>
          obtain ⟨c', u, e1, e2⟩ := hh 0 v rfl
          have e1 : c = c' := by simpa using e1
          subst e1; subst e2
          exact .cons _ _ (ih y (by simpa using hl) fun i v' hv => hh (i + 1) v' (by simpa using hv))
    refine key acc.toList x (by simpa using hszx) fun i v hv => ?_
    obtain ⟨c, u, e1, e2⟩ := hit i v (by simpa using hv)
    exact ⟨c, u, by simpa using e1, e2⟩
  have hoL : (s'.heap.push (seqObj "list" acc.toList.toArray 0)).get? s'.heap.objs.size = some (seqObj "list" acc.toList.toArray 0) := Heap.get?_push_size _ rfl
  refine wpAny_bind (wpAny_holding (wpAny_call_entry slot_list_sort ⟨_, hoL, rfl⟩ entry_list_sort (list_sort_treeK strKind_oneLt hoL hS.keysOf (fun v₁ v₂ rest e => keyKind_strs (by rw [← e]; exact hS)) (by simpa [hszx] using hz) fun st' a1 a2 => ⟨_, rfl, ?_⟩) (args_list_sort _)))
  obtain ⟨ss', h1, h2, h3⟩ := sorted_out_str hS a1 a2
  obtain ⟨y, hy1, hy2⟩ : ∃ y : List Nat, ss' = y.map (fun c => S [c]) ∧ y.Perm x := by
    refine ⟨ss'.map fun z => z.cps.toList.headD 0, ?_, ?_⟩
    · rw [List.map_map]
      conv => lhs; rw [← List.map_id ss']
      refine List.map_congr_left fun z hz => ?_
      obtain ⟨c, _, rfl⟩ := List.mem_map.mp (h2.mem_iff.mp hz)
      rfl
    · have := h2.map fun z : Str => z.cps.toList.headD 0
      rw [List.map_map] at this
      have e : (x.map ((fun z : Str => z.cps.toList.headD 0) ∘ fun c => S [c])) = x := by
        conv => rhs; rw [← List.map_id x]
        exact List.map_congr_left fun c _ => rfl
      rwa [e] at this
  rw [hy1] at h3
  have ey : y = sortN x := sortN_eq hy2 (sorted_up y h3)
  have hnone : s.heap.get? s'.heap.objs.size = none := by
    cases q : s.heap.get? s'.heap.objs.size with
    | none => rfl
    | some o => exact absurd (Heap.lt_size (hk _ _ q)) (Nat.lt_irrefl _)
  have hrd := strs_single h1 hy1
  rw [ey] at hrd
  have hget := sortedHeap_get (vs := acc.toList) (out := (arrOf st').map (·.2)) hoL
  generalize hout : (arrOf st').map (·.2) = out at hrd hget ⊢
  have hkeep : ∀ b o, s.heap.get? b = some o → (sortedHeap (s'.heap.push (seqObj "list" acc.toList.toArray 0)) s'.heap.objs.size acc.toList out).get? b = some o := fun b o e =>
    sortedHeap_keeps (Nat.ne_of_lt (Heap.lt_size (hk b o e))) (Heap.get?_push_of_some _ (hk b o e))
  have hput : ∀ H : Heap, Ext s { s' with heap := H } ∨ ¬ ∀ b o, s.heap.get? b = some o → H.get? b = some o := fun H => by
    by_cases q : ∀ b o, s.heap.get? b = some o → H.get? b = some o
    · refine .inl ⟨H, s'.toks, ?_, q⟩
      cases s; cases s'
      simp only at hg hd ho
      subst hg; subst hd; subst ho
      rfl
    · exact .inr q
  generalize sortedHeap (s'.heap.push (seqObj "list" acc.toList.toArray 0)) s'.heap.objs.size acc.toList out = H at hget hkeep ⊢
  have hx := (hput H).resolve_right fun q => q hkeep
  have hp : H.PlainList s'.heap.objs.size out.toList.toArray := by rw [Array.toArray_toList]; exact hget
  exact wpAny_pure ⟨.ref s'.heap.objs.size, rfl, hx, s'.heap.objs.size, out.toList, rfl, L.notin hnone, hp, hrd _ _⟩
end
end Mine

namespace Mine
/-! ### what is popped out of a bag -/
def popAt (bag : List Int) (n : Int) : Nat := (n % (bag.length : Int)).toNat
def pops : List Int → List Int → List Int
  | [], _ => []
  | n :: ns, bag => bag.getD (popAt bag n) 0 :: pops ns (bag.eraseIdx (popAt bag n))
def left : List Int → List Int → List Int
  | [], bag => bag
  | n :: ns, bag => left ns (bag.eraseIdx (popAt bag n))
theorem pops_snoc (n : Int) : ∀ (l bag : List Int), pops (l ++ [n]) bag = pops l bag ++ [(left l bag).getD (popAt (left l bag) n) 0] ∧ left (l ++ [n]) bag = (left l bag).eraseIdx (popAt (left l bag) n)
  | [], bag => ⟨rfl, rfl⟩
  | a :: l, bag => by
    obtain ⟨h1, h2⟩ := pops_snoc n l (bag.eraseIdx (popAt bag a))
    exact ⟨by show _ :: pops (l ++ [n]) _ = _ :: (pops l _ ++ _); rw [h1]; rfl, h2⟩
theorem popAt_lt {bag : List Int} (h : bag ≠ []) (n : Int) : popAt bag n < bag.length := by
  have hpos : 0 < (bag.length : Int) := by have := List.length_pos_iff.mpr h; omega
  have h1 := Int.emod_nonneg n (by omega : (bag.length : Int) ≠ 0)
  have h2 := Int.emod_lt_of_pos n hpos
  unfold popAt; omega
theorem pops_perm : ∀ (l bag : List Int), l.length ≤ bag.length → (pops l bag ++ left l bag).Perm bag ∧ (left l bag).length = bag.length - l.length ∧ (pops l bag).length = l.length
  | [], bag, _ => ⟨List.Perm.refl _, by simp [left], rfl⟩
  | n :: l, bag, h => by
    have hne : bag ≠ [] := fun e => by subst e; simp at h
    have hlt := popAt_lt hne n
    have hl : (bag.eraseIdx (popAt bag n)).length = bag.length - 1 := by rw [List.length_eraseIdx, if_pos hlt]
    obtain ⟨h1, h2, h3⟩ := pops_perm l (bag.eraseIdx (popAt bag n)) (by rw [hl]; simp at h; omega)
    refine ⟨?_, by show (left l _).length = _; rw [h2, hl]; simp; omega, by show (pops l _).length + 1 = _; rw [h3]; rfl⟩
    show (bag.getD (popAt bag n) 0 :: (pops l _ ++ left l _)).Perm bag
    refine (h1.cons _).trans ?_
    have e : bag.getD (popAt bag n) 0 = bag[popAt bag n] := by simp [List.getD, hlt]
    rw [e]
    have e2 : bag = bag.take (popAt bag n) ++ bag[popAt bag n] :: bag.drop (popAt bag n + 1) := by
      conv => lhs; rw [← List.take_append_drop (popAt bag n) bag, List.drop_eq_getElem_cons hlt]
    rw [List.eraseIdx_eq_take_drop_succ]
    conv => rhs; rw [e2]
    exact List.perm_middle.symm

def flatB : B → Bool
  | .d d => d.flat
  | .own l => allFlat l
section
variable {prog : Program} {w : World} {A : Around} {K : Frag} {env : Env} {c : Cx} {W : List Addr} {ρ ρc : Rho} {s : Shared} {scope : Scope} {cl : List (Str × Addr)}
/-- an object that is none of ours is changed; what we know holds no address -/
theorem Core.otherFlat (C : Core K env c W ρ s) (hfl : ∀ x b, ρ.lookup x = some b → flatB b = true) {a : Addr} {h' : Heap} {tk : Nat} (hs : ∀ b o, b ≠ a → s.heap.get? b = some o → h'.get? b = some o) (ha : a ∉ FP env W) (hk : ∀ o, ¬ c.Kp a o) :
    Core K env c W ρ { s with heap := h', toks := tk } := by
  have haW : a ∉ W := fun q => ha (List.mem_cons_of_mem _ (List.mem_append_right _ q))
  have plk : ∀ b vs, b ≠ a → s.heap.PlainList b vs → h'.PlainList b vs := fun b vs hb ⟨n, e⟩ => ⟨n, hs b _ hb e⟩
  have ck : ∀ b u, b ∈ env.cells.map (·.2) → s.heap.IsCell b u → h'.IsCell b u := fun b u hb ⟨o, e, d⟩ => ⟨o, hs b o (fun q => ha (q ▸ List.mem_cons_of_mem _ (List.mem_append_left _ hb))) e, d⟩
  obtain ⟨m, hn', hv, hal⟩ := C.vars
  have hn'' : h'.Ns env.locals m := by
    obtain ⟨o, es, ep, e, r⟩ := hn'
    exact ⟨o, es, ep, hs _ o (fun q => ha (q ▸ List.mem_cons_self)) e, r⟩
  have vk : ∀ y u, Var env m s.heap y u → Var env m h' y u := fun y u q => q.imp id fun ⟨k, c, hc, e⟩ => ⟨k, c, hc, ck c _ (mem_map_of_lookup hc) e⟩
  refine { same := ?_, gl := C.gl, keep := fun b o e => hs b o (fun q => hk o (q ▸ e)) (C.keep b o e), new := C.new, nodup := C.nodup, live := fun b hb => (C.live b hb).imp fun vs y => plk b vs (fun q => haW (q ▸ hb)) y, kind := C.kind, globals := C.globals, builtins := C.builtins,
           cells := fun b hb => (C.cells b hb).imp fun u y => ck b u hb y, vars := ⟨m, hn'', fun y b e => ?_, fun y z l₁ l₂ b h1 h2 q q' => ?_⟩ }
  · obtain ⟨h, t, e⟩ := C.same; exact ⟨h', tk, by rw [e]⟩
  · obtain ⟨u, p, r⟩ := hv y b e
    refine ⟨u, vk y u p, ?_⟩
    have hf := hfl y b e
    cases b with
    | d d => exact Rd.flat hf r
    | own l =>
      obtain ⟨b, us, e', hb, hpb, hlb⟩ := r
      exact ⟨b, us, e', hb, plk b _ (fun q => haW (q ▸ hb)) hpb, RdL.allFlat hf hlb⟩
  · obtain ⟨u, pu, _⟩ := hv y _ h1
    obtain ⟨u', pu', _⟩ := hv z _ h2
    have e1 := (vk _ _ pu).inj q
    have e2 := (vk _ _ pu').inj q'
    subst e1; subst e2
    exact hal y z l₁ l₂ b h1 h2 pu pu'
/-- within a comprehension, the same own lists -/
theorem compCore2 {C : Addr} {m : Str → Option Value} (C₁ : Core K env c W ρ s) (hkind : scope.kind = .function) (hcl : ∀ p ∈ cl, env.cells.lookup p.1 = some p.2) (hnd : (cl.map (·.1)).Nodup) (hcap : Capt env scope cl ρ ρc)
    (hC : C ∉ FP env W) (hCk : ∀ o, ¬ c.Kp C o) (hn : s.heap.Ns C m) : Core K (compEnvC scope cl C env) ⟨s, fun b o => s.heap.get? b = some o ∧ b ∉ FP (compEnvC scope cl C env) W⟩ W ρc s := by
  have hcm : ∀ a ∈ cl.map (·.2), a ∈ env.cells.map (·.2) := fun a ha => by
    obtain ⟨p, hp, rfl⟩ := List.mem_map.mp ha
    exact mem_map_of_lookup (hcl p hp)
  have ndc := List.nodup_cons.mp C₁.nodup
  have ndc2 := List.nodup_append.mp ndc.2
  have inFP : ∀ b, b ∈ env.cells.map (·.2) ∨ b ∈ W → b ∈ FP env W := fun b hb => List.mem_cons_of_mem _ (List.mem_append.mpr hb)
  have hsub : ∀ b ∈ FP (compEnvC scope cl C env) W, b = C ∨ b ∈ FP env W := fun b hb => by
    rcases List.mem_cons.mp hb with q | q
    · exact .inl q
    · rcases List.mem_append.mp q with q | q
      · exact .inr (inFP b (.inl (hcm b q)))
      · exact .inr (inFP b (.inr q))
  have clnd : (cl.map (·.2)).Nodup := by
    clear hcap hcm hsub
    induction cl with
    | nil => exact List.nodup_nil
    | cons p r ih =>
      rw [List.map_cons, List.nodup_cons] at hnd ⊢
      refine ⟨fun q => ?_, ih (fun p hp => hcl p (List.mem_cons_of_mem _ hp)) hnd.2⟩
      obtain ⟨p', hp', e⟩ := List.mem_map.mp q
      have e1 := hcl p List.mem_cons_self
      have e2 := hcl p' (List.mem_cons_of_mem _ hp')
      rw [e] at e2
      have := cell_apart ndc2.1 e1 e2
      exact hnd.1 (this ▸ List.mem_map.mpr ⟨p', hp', rfl⟩)
  obtain ⟨m₀, hn₀, hv, hal⟩ := C₁.vars
  have vk : ∀ y u, (∃ b, ρc.lookup y = some b) → Var env m₀ s.heap y u → Var (compEnvC scope cl C env) m s.heap y u := fun y u ⟨b, hb⟩ p => by
    obtain ⟨_, k1, ⟨a, ha1, ha2⟩, k2⟩ := hcap y b hb
    rcases p with ⟨k, _⟩ | ⟨_, a', ha', e⟩
    · rw [k] at k1; rcases k1 with k1 | k1 <;> cases k1
    · rw [ha2] at ha'; cases ha'
      exact .inr ⟨k2 C, a, ha1, e⟩
  refine { same := ⟨s.heap, s.toks, rfl⟩, gl := fun h k => C₁.gl h fun b o e => k b o ⟨C₁.keep b o e, fun q => ?_⟩, keep := fun b o e => e.1, new := fun a q o e => e.2 q, nodup := ?_, live := C₁.live, kind := by simp [compEnvC, relabel, hkind], globals := C₁.globals, builtins := C₁.builtins, cells := fun a ha => C₁.cells a (hcm a ha), vars := ⟨m, hn, fun y b e => ?_, fun y z l l' a h1 h2 p q => ?_⟩ }
  · rcases hsub b q with q | q
    · exact hCk o (q ▸ e)
    · exact C₁.new b q o e
  · show (C :: (cl.map (·.2) ++ W)).Nodup
    refine List.nodup_cons.mpr ⟨fun q => ?_, List.nodup_append.mpr ⟨clnd, ndc2.2.1, fun a ha b hb e => ndc2.2.2 a (hcm a ha) b hb e⟩⟩
    rcases List.mem_append.mp q with q | q
    · exact hC (inFP C (.inl (hcm C q)))
    · exact hC (inFP C (.inr q))
  · obtain ⟨h1, _⟩ := hcap y b e
    obtain ⟨u, p, r⟩ := hv y b h1
    exact ⟨u, vk y u ⟨b, e⟩ p, r⟩
  · obtain ⟨g1, _⟩ := hcap y _ h1
    obtain ⟨g2, _⟩ := hcap z _ h2
    obtain ⟨u, pu, _⟩ := hv y _ g1
    obtain ⟨u', pu', _⟩ := hv z _ g2
    have e1 := (vk y u ⟨_, h1⟩ pu).inj p
    have e2 := (vk z u' ⟨_, h2⟩ pu').inj q
    subst e1; subst e2
    exact hal y z l l' a g1 g2 pu pu'
theorem allFlat_ints : ∀ ns : List Int, allFlat (ns.map .int) = true
  | [] => rfl
  | _ :: ns => by show (true && allFlat (ns.map .int)) = true; rw [allFlat_ints ns]; rfl
theorem RdL.ints_any {h h' : Heap} {V V' : List Addr} {ns : List Int} {vs : List Value} (x : RdL h V (ns.map .int) vs) : RdL h' V' (ns.map .int) vs := RdL.allFlat (allFlat_ints ns) x
theorem erase_list {vs : List Value} {k : Nat} : (vs.toArray.eraseIdxIfInBounds k) = (vs.eraseIdx k).toArray := by
  apply Array.ext'
  simp
theorem RdL.eraseIdx {h : Heap} {V : List Addr} : ∀ {ds : List D} {vs : List Value} (k : Nat), RdL h V ds vs → RdL h V (ds.eraseIdx k) (vs.eraseIdx k)
  | [], _, _, x => by cases x; exact rfl
  | _ :: _, _, 0, ⟨_, _, e, _, y⟩ => by subst e; exact y
  | _ :: _, _, k + 1, ⟨v, _, e, x, y⟩ => by subst e; exact ⟨v, _, rfl, x, RdL.eraseIdx k y⟩
theorem map_erase {α β : Type} (g : α → β) : ∀ (l : List α) (k : Nat), (l.map g).eraseIdx k = (l.eraseIdx k).map g
  | [], _ => rfl
  | _ :: _, 0 => rfl
  | a :: l, k + 1 => by show g a :: (l.map g).eraseIdx k = g a :: (l.eraseIdx k).map g; rw [map_erase g l k]
theorem x_assignPopComp {f bag x : Str} {fp bp ap cpos xp pos spos : Pos} {e iter : Expr} {ns l : List Int} (hb : ρ.lookup bag = some (.own (l.map .int))) (hlen : ns.length ≤ l.length) (hz : l.length ≤ 1000)
    (hclos : closureFor scope env = pure cl) (hcl : ∀ p ∈ cl, env.cells.lookup p.1 = some p.2) (hnd : (cl.map (·.1)).Nodup) (hcell : ∀ y ∈ scope.names, y.2 ≠ .cell) (hkind : scope.kind = .function) (hnames : ∀ x ∈ scope.names, x.2 = .local → scope.names.lookup x.1 = some .local)
    (hkc : env.kindOf bag = some .cell) (hclb : cl.lookup bag = env.cells.lookup bag) (hkf : ∀ C, (compEnvC scope cl C env).kindOf bag = some .cell ∨ (compEnvC scope cl C env).kindOf bag = some .free)
    (hcap : ∀ l' : List Int, Capt env scope cl [(bag, .own (l'.map .int))] [(bag, .own (l'.map .int))])
    (hI : EvI prog w A K env ρ true iter (ns.map .int)) (hx : ∀ C, (compEnvC scope cl C env).kindOf x = some .local)
    (he : ∀ C (l' : List Int) (k : Int), 1 ≤ l'.length → l'.length ≤ 1000 → Ev prog w A K (compEnvC scope cl C env) [(x, .d (.int k)), (bag, .own (l'.map .int))] true e (.int (k % (l'.length : Int))))
    (hxb : bag ≠ x) (hk : env.kindOf f = some .local)
    (hsw : swapsWith (.ListComp (.Call (.Attribute (.Name bag bp) (Str.ofString "pop") ap) [e] [] cpos) [⟨.Name x xp, iter, [], 0⟩] scope pos) (some (.Name f fp)) spos.line env = pure true)
    (hs : ∀ x, foldedSetIterable iter env x = pure x)
    (hdb : (bag == ("__debug__" : Str)) = false) (hcd : (bag == ("__classdict__" : Str)) = false)
    (hbase : ∀ C, attributeBase (.Name bag bp) (Str.ofString "pop") (compEnvC scope cl C env) (eval (.Name bag bp) (compEnvC scope cl C env)) = eval (.Name bag bp) (compEnvC scope cl C env))
    (hfew : ∀ C, ((backTo cpos (starEach [e] (compEnvC scope cl C env))).all (fun x => !x.1) && (backToKw cpos (keywordEach [] (compEnvC scope cl C env))).all (fun x => x.1.isSome) && decide (([e] : List Expr).length + ([] : List Keyword).length + (if ([] : List Keyword).isEmpty then 0 else 1) < 30)) = true)
    (hline : (ap.endLine == cpos.line) = true)
    (hss : ∀ C, ((backTo cpos (starEach [e] (compEnvC scope cl C env))).any (·.1)) = false) (hse : ∀ C, starEach [e] (compEnvC scope cl C env) = [(false, eval e (compEnvC scope cl C env))]) :
    X prog w A K env ρ (.Assign [.Name f fp] (.ListComp (.Call (.Attribute (.Name bag bp) (Str.ofString "pop") ap) [e] [] cpos) [⟨.Name x xp, iter, [], 0⟩] scope pos) spos) (.nxt [(f, .d (dI (pops ns l)))]) := X.mk fun c W s _ C₀ => by
  rw [exec_Assign_Name_used _ _ _ _ hsw]
  refine wpAny_bind (wpAny_standAt (wpAny_bind ?_))
  show wpAny _ A (do let _ ← comprehension (.ListComp (.Call (.Attribute (.Name bag bp) (Str.ofString "pop") ap) [e] [] cpos) [⟨.Name x xp, iter, [], 0⟩] scope pos) scope env _ (newList []) false (eval iter env) (some (assign (.Name f fp) env))) _ _ s
  refine wpAny_bind (wpAny_mono (Q := fun _ s' => ∃ W', Core K env c W' [(f, .d (dI (pops ns l)))] s') ?_ (fun _ s' hq => wpAny_pure (wpAny_pure ⟨rfl, hq⟩)) fun _ _ x => x)
  refine wpAny_comprehension_free rfl hs hclos hkind hnames (wpAny_mono (hI c W s C₀) (fun iv s₁ ⟨k₁, h₁⟩ => wpAny_mono h₁ (fun it s₂ ⟨k₂, I, fpr, P, St, e', Wk, st, hnone, hobj, hfp, hitem⟩ => ?_) fun _ _ x => x) fun _ _ x => x)
  subst e'
  simp only [sel, cond_true] at hfp hitem
  have hint : ∀ (i : Nat) v n, P i v → ns[i]? = some n → ∃ t, v = .int n t := fun i v n hP hn => hitem i v (.int n) hP (by simp [hn])
  have C₁ := C₀.heap_mono k₁
  have C₂ : Core K env c W [(bag, .own (l.map .int))] s₂ := (C₁.heap_mono k₂).weaken fun y b e => by
    by_cases hy : y = bag
    · subst hy; rw [lookup_cons_self] at e; cases e; exact hb
    · rw [lookup_cons_ne hy] at e; cases e
  obtain ⟨fI, kI⟩ := C₁.fresh hnone
  refine wpAny_newObj_type (wpAny_newFunctionEnv hcell (by intro y hy; simp at hy) (fun h₁ hns₁ hsb₁ => ?_) hkind)
  dsimp only at hns₁ hsb₁ ⊢
  generalize hH2 : s₂.heap.push { cls := .type "list", dict := none, data := .seq ([] : List Value).toArray } = H2 at hns₁ hsb₁ ⊢
  have hC : H2.objs.size = s₂.heap.objs.size + 1 := by rw [← hH2, Heap.size_push]
  have hDC : s₂.heap.objs.size ≠ H2.objs.size := by rw [hC]; exact Nat.ne_of_lt (Nat.lt_succ_self _)
  have old : ∀ b o, s₂.heap.get? b = some o → h₁.get? b = some o := fun b o e => hsb₁.extBut b o (by rw [hC]; exact Nat.ne_of_lt (Nat.lt_succ_of_lt (Heap.lt_size e))) (Heap.get?_push_of_some _ (hH2 ▸ Heap.get?_push_of_some _ e))
  have hacc : h₁.PlainList s₂.heap.objs.size #[] := ⟨_, hsb₁.extBut _ _ hDC (Heap.get?_push_of_some _ (hH2 ▸ Heap.get?_push_size _ rfl))⟩
  have hst₁ : St 0 h₁ := Wk.frame _ _ _ st fun b _ o e => old b o e
  have fD2 : s₂.heap.get? s₂.heap.objs.size = none := get_size _
  have fC2 : s₂.heap.get? H2.objs.size = none := Heap.get?_none_of_le (by rw [hC]; exact Nat.le_succ _)
  generalize hD : s₂.heap.objs.size = D at *
  generalize hCC : H2.objs.size = C at *
  obtain ⟨oI, hoI, _⟩ := hobj 0 _ st
  have hID : I ≠ D := fun q => by rw [q, fD2] at hoI; cases hoI
  have hIC : I ≠ C := fun q => by rw [q, fC2] at hoI; cases hoI
  obtain ⟨fD, kD⟩ := C₂.fresh fD2
  obtain ⟨fC, kC⟩ := C₂.fresh fC2
  have fDW : D ∉ W := fun q => fD (List.mem_cons_of_mem _ (List.mem_append_right _ q))
  have hfp' : ∀ b ∈ fpr, b ≠ D ∧ b ≠ C := fun b hb => by
    rcases hfp b hb with q | ⟨_, o, e, _⟩
    · exact q ▸ ⟨hID, hIC⟩
    · exact ⟨(fun q => by rw [q, k₂.none fD2] at e; cases e), (fun q => by rw [q, k₂.none fC2] at e; cases e)⟩
  have hfpF : ∀ b ∈ fpr, b ∉ FP env W := fun b hb => by
    rcases hfp b hb with q | ⟨q, o, e, ho⟩
    · exact q ▸ fI
    · exact C₁.notSeq ho e q
  have C₃ : Core K env c W [(bag, .own (l.map .int))] { s₂ with heap := h₁, toks := s₂.toks + ([] : List (Str × Value)).length } := C₂.heap_mono ⟨h₁, s₂.toks + 0, rfl, old⟩
  have hflat : ∀ (l' : List Int) x b, List.lookup x [(bag, B.own (l'.map .int))] = some b → flatB b = true := fun l' y b e => by
    by_cases hy : y = bag
    · subst hy; rw [lookup_cons_self] at e; cases e; exact allFlat_ints l'
    · rw [lookup_cons_ne hy] at e; cases e
  have hpl := fun i => pops_perm (ns.take i) l (by rw [List.length_take]; omega)
  have loop : codeAny (model prog w) A (.compLoop (.ListComp (.Call (.Attribute (.Name bag bp) (Str.ofString "pop") ap) [e] [] cpos) [⟨.Name x xp, iter, [], 0⟩] scope pos) 0 (.ref I) (.ref D) (compEnvC scope cl C env)) (compPost (model prog w) A noE (some (assign (.Name f fp) env)) (fun _ s' => ∃ W', Core K env c W' [(f, .d (dI (pops ns l)))] s') (.ref D) C) { s₂ with heap := h₁, toks := s₂.toks + ([] : List (Str × Value)).length } := by
    refine compLoop_own
      (fun k s' => ∃ i ys m, k = ns.length + 1 - i ∧ i ≤ ns.length ∧ Core K env c W [(bag, .own ((left (ns.take i) l).map .int))] s' ∧ St i s'.heap ∧ s'.heap.PlainList D (List.toArray ys) ∧ s'.heap.Ns C m ∧ RdL s'.heap [] ((pops (ns.take i) l).map .int) ys)
      ?_ (ns.length + 1) ⟨0, [], _, rfl, Nat.zero_le _, C₃, hst₁, hacc, hns₁, rfl⟩
    rintro k s' ⟨i, ys, m, rfl, hi, Cs, hst, hpl', hns, hrd⟩
    obtain ⟨oI', hoI', hnI⟩ := hobj i _ hst
    have hotherI : ∀ h' tk, (∀ b o, b ∉ [I] → s'.heap.get? b = some o → h'.get? b = some o) → Core K env c W [(bag, .own ((left (ns.take i) l).map .int))] { s' with heap := h', toks := tk } := fun h' tk hk' =>
      Cs.other (a := I) (fun b o hb e => hk' b o (by simpa using hb) e) fI kI fun o ho e => by rw [hoI'] at e; cases e; exact hnI.1 ho
    obtain ⟨_, hleft, hpops⟩ := hpl i
    have htk : (ns.take i).length = i := by rw [List.length_take]; omega
    rw [htk] at hleft hpops
    by_cases hlt : i < ns.length
    · have hnsi : ns[i]? = some ns[i] := List.getElem?_eq_getElem hlt
      generalize hni : ns[i] = n at hnsi
      obtain ⟨sn1, sn2⟩ := pops_snoc n (ns.take i) l
      rw [← show ns.take (i + 1) = ns.take i ++ [n] by rw [List.take_add_one, hnsi]; rfl] at sn1 sn2
      generalize hL : left (ns.take i) l = L at Cs hotherI hleft sn1 sn2
      have hLne : L ≠ [] := fun q => by subst q; simp at hleft; omega
      have hpop := popAt_lt hLne n
      refine Wk.item i s' _ _ (by simpa using hlt) hst fun v h' tk hPv hst' hk' => ?_
      dsimp only
      obtain ⟨oq, q1, _, nq, q2, q3⟩ := hobj _ _ hst'
      refine owned_quiet (s := { s' with heap := h', toks := tk }) q1 q2 q3 ?_
      have hpl₁ : h'.PlainList D (List.toArray ys) := hpl'.at fun o e => hk' D o (by simpa using Ne.symm hID) e
      have hns₁' : h'.Ns C m := hns.at' fun o e => hk' C o (by simpa using Ne.symm hIC) e
      have CO₁ := hotherI h' tk hk'
      have Cc := compCore2 (s := { s' with heap := h', toks := tk }) CO₁ hkind hcl hnd (hcap L) fC kC hns₁'
      obtain ⟨t, ev⟩ := hint i v n hPv hnsi
      subst ev
      refine wpAny_mono (bdL_name (d := .int n) (hx C) _ W _ _ Cc ⟨t, rfl⟩) (fun _ s₃ ⟨C₄, k₃⟩ => ?_) fun _ _ x => x.elim
      have hlc : (compEnvC scope cl C env).locals = C := rfl
      rw [hlc] at k₃
      obtain ⟨h3, t3, e3⟩ := C₄.same
      have CO₃ : Core K env c W [(bag, .own (L.map .int))] s₃ := by
        rw [e3]
        refine CO₁.otherFlat (hflat L) (a := C) (fun b o hb e => ?_) fC kC
        have := k₃ b o hb e
        rw [e3] at this; exact this
      have st₃ : St (i + 1) s₃.heap := Wk.frame _ _ _ hst' fun b hb o e => k₃ b o (hfp' b hb).2 e
      have pl₃ : s₃.heap.PlainList D (List.toArray ys) := hpl₁.at fun o e => k₃ D o hDC e
      refine wpAny_mono (wpAny_tests_nil (Q := fun ok s₄ => ok = true ∧ s₄ = s₃) ⟨rfl, rfl⟩) (fun ok s₄ ⟨e1, e2⟩ => ?_) fun _ _ x => x
      subst e1; subst e2
      simp only [if_true]
      have hlookb : List.lookup bag ((x, B.d (Mine.D.int n)) :: [(bag, B.own (L.map .int))]) = some (.own (L.map .int)) := by rw [lookup_cons_ne hxb, lookup_cons_self]
      obtain ⟨mi, a, vs, hni', pI, ha, hp, hl⟩ := owned C₄ hlookb
      refine wpAny_Call_method (hbase C) (hfew C) hline F.plainAttrs_list F.slot_list_pop F.type_list_pop (var_load C₄.kind hni' pI ⟨hp.isList.typeIs, fun b q => by cases q; obtain ⟨n, e⟩ := hp; exact ⟨_, e, rfl⟩, ?_⟩ hdb hcd)
      refine Calls.callWith_builtin (hss C) (evalArgs_any (hss C) ?_)
      rw [hse C]
      refine Calls.spliced_cons (wpAny_mono (he C L n (by omega) (by omega) _ W s₄ C₄) (fun vi s₅ ⟨k₅, ri⟩ => Calls.spliced_nil ?_) fun _ _ x => x.elim)
      obtain ⟨ti, rfl⟩ := ri
      have CO₅ := CO₃.heap_mono k₅
      have hp₅ := plainList_keeps hp k₅
      obtain ⟨nP, hg⟩ := hp₅
      have hlen5 := hl.length
      rw [List.length_map] at hlen5
      -- the outer name holds the same list
      obtain ⟨mo, ao, vso, hno, pO, hao, hpo, hlo⟩ := owned CO₅ (x := bag) lookup_cons_self
      have eao : ao = a := by
        rcases pI with ⟨q, _⟩ | ⟨_, c0, hc0, ec0⟩
        · rcases hkf C with h | h <;> rw [h] at q <;> cases q
        · rcases pO with ⟨q, _⟩ | ⟨_, c1, hc1, ec1⟩
          · rw [hkc] at q; cases q
          · have e1 : c0 = c1 := by
              have h1 : cl.lookup bag = some c0 := hc0
              rw [hclb, hc1] at h1
              exact (Option.some.inj h1).symm
            subst e1
            have := isCell_inj (isCell_keeps ec0 k₅) ec1
            cases this; rfl
      subst eao
      have evs : vso = vs := by
        obtain ⟨n', e'⟩ := hpo
        rw [hg] at e'
        injection e' with e'
        injection e' with _ _ e' _
        injection e' with e' _
        simpa using e'.symm
      subst evs
      have hpa : (n % (L.length : Int)).toNat = popAt L n := rfl
      have hidx : seqIndex? (n % (L.length : Int)) vso.toArray.size = some (popAt L n) := by
        have h1 : 0 ≤ n % (L.length : Int) := Int.emod_nonneg _ (by omega)
        have h2 : n % (L.length : Int) < (vso.toArray.size : Nat) := by
          have h2 : n % (L.length : Int) < L.length := Int.emod_lt_of_pos _ (by omega)
          have h3 : (vso.toArray.size : Int) = L.length := by simp [hlen5]
          omega
        exact seqIndex_of h1 h2
      have hLk : (L.map Mine.D.int)[popAt L n]? = some (.int (L.getD (popAt L n) 0)) := by simp [List.getD, hpop]
      obtain ⟨vk, hvk, rvk⟩ := hlo.get hLk
      refine call_meets F.slot_list_pop ⟨_, hg, rfl⟩ F.entry_list_pop (F.args_list_pop_2 _ _) (MeetsSeq.list_pop_at ao vso.toArray nP (n % (L.length : Int)) ti (popAt L n) vk (by
        have h1 : 0 ≤ n % (L.length : Int) := Int.emod_nonneg _ (by omega)
        have h2 : n % (L.length : Int) < L.length := Int.emod_lt_of_pos _ (by omega)
        unfold Builtin.List.listFitsIndex
        simp
        omega) hidx (by simpa using hvk) (by rw [sizeLine_eq]; simp; omega)) ⟨hg, ?_⟩
      have hoth : ∀ b o, b ≠ ao → s₅.heap.get? b = some o → (s₅.heap.update ao (Obj.mapSeq fun xs => xs.eraseIdxIfInBounds (popAt L n))).get? b = some o := fun b o hb e => (Heap.get?_update_other _ _ (Ne.symm hb)).trans e
      have hpl₆ : (s₅.heap.update ao (Obj.mapSeq fun xs => xs.eraseIdxIfInBounds (popAt L n))).PlainList ao (vso.eraseIdx (popAt L n)).toArray := by
        have := IsL.update (n := nP) hg (fun xs => xs.eraseIdxIfInBounds (popAt L n))
        rw [erase_list] at this
        exact ⟨_, this⟩
      have CO₆ := CO₅.mutate (vs := vso.eraseIdx (popAt L n)) (l' := (L.eraseIdx (popAt L n)).map .int) (tk := s₅.toks) lookup_cons_self hno pO hoth hpl₆ (by
        have := RdL.eraseIdx (popAt L n) hlo
        rw [map_erase] at this
        exact RdL.ints_any this)
      have CO₆ := CO₆.weaken (ρ' := [(bag, .own ((L.eraseIdx (popAt L n)).map .int))]) fun y b e => by
        by_cases hy : y = bag
        · subst hy; rw [lookup_cons_self] at e ⊢; exact e
        · rw [lookup_cons_ne hy] at e; cases e
      have haD : D ≠ ao := fun q => fDW (q ▸ hao)
      have haC : C ≠ ao := fun q => fC (List.mem_cons_of_mem _ (List.mem_append_right _ (q ▸ hao)))
      have pl₆ : (s₅.heap.update ao (Obj.mapSeq fun xs => xs.eraseIdxIfInBounds (popAt L n))).PlainList D (List.toArray ys) := (plainList_keeps pl₃ k₅).at fun o e => hoth D o haD e
      have st₆ : St (i + 1) (s₅.heap.update ao (Obj.mapSeq fun xs => xs.eraseIdxIfInBounds (popAt L n))) := Wk.frame _ _ _ st₃ fun b hb o e => hoth b o (fun q => hfpF b hb (q ▸ List.mem_cons_of_mem _ (List.mem_append_right _ hao))) (k₅.get e)
      have ns₆ : (s₅.heap.update ao (Obj.mapSeq fun xs => xs.eraseIdxIfInBounds (popAt L n))).Ns C mi := (hni'.keeps k₅.keeps).at' fun o e => hoth C o haC e
      have hylen := hrd.length
      rw [List.length_map] at hylen
      refine wpAny_list_append_plain pl₆ (fun h₇ hl₇ hs₇ => ?_) (by rw [sizeLine_eq]; simp; omega)
      refine ⟨ns.length + 1 - (i + 1), by omega, i + 1, ys ++ [vk], mi, rfl, hlt, ?_, ?_, by simpa using hl₇, ns₆.sameBut hs₇ (Ne.symm hDC), ?_⟩
      · rw [sn2]
        exact CO₆.otherFlat (hflat _) (a := D) (fun b o hb e => hs₇.extBut b o hb e) fD kD
      · exact Wk.frame _ _ _ st₆ fun b hb o e => hs₇.extBut b o (hfp' b hb).1 e
      · rw [sn1, List.map_append]
        exact (RdL.ints_any hrd).append (RdL.single (d := .int _) (by obtain ⟨tv, e⟩ := rvk; exact ⟨tv, e⟩))
    · have hin : i = ns.length := by omega
      subst hin
      refine Wk.done s' _ _ (by simpa using hst) fun h' tk hk' => ?_
      dsimp only
      have CO := hotherI h' tk hk'
      have hpD : h'.PlainList D (List.toArray ys) := hpl'.at fun o e => hk' D o (by simpa using Ne.symm hID) e
      have hnC : h'.Ns C m := hns.at' fun o e => hk' C o (by simpa using Ne.symm hIC) e
      rw [List.take_length] at hrd
      have rv : Rd h' W (.lst ((pops ns l).map .int)) (.ref D) := ⟨D, ys, rfl, fDW, hpD, RdL.ints_any hrd⟩
      show wpAny (model prog w) A (assign (.Name f fp) env (.ref D)) _ noE { s' with heap := h', toks := tk }
      refine wpAny_mono (bdL_name (d := .lst ((pops ns l).map .int)) hk c W _ (.ref D) CO rv) (fun _ s₂ ⟨C₄, k₄⟩ => ?_) fun _ _ x => x
      have hCl : C ≠ env.locals := fun q => fC (q ▸ List.mem_cons_self)
      have hn₂ : s₂.heap.Ns C m := hnC.at' fun o e => k₄ C o hCl e
      refine ⟨m, hn₂, fun h' hs' => ⟨W, (C₄.weaken (ρ' := [(f, .d (dI (pops ns l)))]) fun y b e => ?_).other (a := C) (tk := s₂.toks) (fun b o hb e => hs'.extBut b o hb e) fC kC fun o ho e => ?_⟩⟩
      · by_cases hy : y = f
        · subst hy; rw [lookup_cons_self] at e ⊢; exact e
        · rw [lookup_cons_ne hy] at e; cases e
      · obtain ⟨o', es, ep, e1, e2, _⟩ := hn₂
        rw [e1] at e; cases e
        obtain ⟨_, _, _, rfl⟩ := ho; cases e2
  exact codeAny_compStart_list loop (Wk.self 0 _ _ _ hst₁ loop)
end
end Mine

namespace Mine
namespace Re
open PySem.Sre

/-! ### the machine of the two patterns -/
theorem runFor_done {m : M} (h : m.outcome.isSome = true) : ∀ n, m.runFor n = m
  | 0 => rfl
  | n + 1 => by unfold M.runFor; rw [if_pos h]
theorem runFor_succ {m : M} (h : m.outcome = none) (n : Nat) : m.runFor (n + 1) = m.step.runFor n := by
  show (if m.outcome.isSome = true then m else M.runFor n m.step) = _
  rw [if_neg (by rw [h]; decide)]
theorem runFor_add (m : M) : ∀ (a b : Nat), m.runFor (a + b) = (m.runFor a).runFor b
  | 0, b => by rw [Nat.zero_add]; rfl
  | a + 1, b => by
    cases h : m.outcome with
    | none => rw [show a + 1 + b = (a + b) + 1 by omega, runFor_succ h, runFor_succ h, runFor_add m.step a b]
    | some o =>
      have h' : m.outcome.isSome = true := by rw [h]; rfl
      rw [runFor_done h' (a + 1), runFor_done h', runFor_done h']

section
variable (code text : Array Nat) (lim start last : Nat)
def mk (pc pos hd : Nat) (om : Bool) (fs : List Sre.Frame) (wt : Nat) (ans : Option Bool) (seen : Sre.Seen) : M :=
  { code, text, lim, start, lastStart := last, pc, pos, handed := hd, outermost := om, marks := #[], frames := fs, weight := wt, answer := ans, seen }
/-- the machine ends here with the answer b, and e is the end -/
def Says (m : M) (fs : List Sre.Frame) (wt k : Nat) (b : Bool) (e : Nat) : Prop := ∃ pc' pos' om' seen' hd', M.runFor k m = mk code text lim start last pc' pos' hd' om' fs wt (some b) seen' ∧ (b = true → hd' = e)
/-- from pc and pos the machine answers b, with the end e -/
def R (n : Nat) (pc pos : Nat) (om : Bool) (k : Nat) (b : Bool) (e : Nat) : Prop :=
  ∀ fs wt seen hd, wt + n ≤ 16777216 → Says code text lim start last (mk code text lim start last pc pos hd om fs wt none seen) fs wt k b e
/-- from the alternatives at j on -/
def Alt (n : Nat) (j pos : Nat) (om : Bool) (k : Nat) (b : Bool) (e : Nat) : Prop :=
  ∀ fs wt seen hd pc, wt + n ≤ 16777216 → Says code text lim start last (M.alternative (mk code text lim start last pc pos hd om fs wt none seen) j {}) fs wt k b e
end
section
variable {code text : Array Nat} {lim start last : Nat} {n pc pos k k2 j : Nat} {om b : Bool} {e e2 : Nat}

theorem Says.step {m : M} {fs : List Sre.Frame} {wt : Nat} (ho : m.outcome = none) (h : Says code text lim start last m.step fs wt k b e) : Says code text lim start last m fs wt (k + 1) b e := by
  obtain ⟨a1, a2, a3, a4, a5, h1, h2⟩ := h
  exact ⟨a1, a2, a3, a4, a5, by rw [runFor_succ ho]; exact h1, h2⟩
theorem Says.here {pc pos hd wt : Nat} {om b : Bool} {fs : List Sre.Frame} {seen : Sre.Seen} : Says code text lim start last (mk code text lim start last pc pos hd om fs wt (some b) seen) fs wt 0 b hd := ⟨_, _, _, _, _, rfl, fun _ => rfl⟩
theorem Says.no {pc pos hd wt : Nat} {om : Bool} {fs : List Sre.Frame} {seen : Sre.Seen} : Says code text lim start last (mk code text lim start last pc pos hd om fs wt (some false) seen) fs wt 0 false e := ⟨_, _, _, _, _, rfl, fun q => nomatch q⟩

theorem step_run (hpc : pc < code.size) {hd wt : Nat} {fs : List Sre.Frame} {seen : Sre.Seen} : M.step (mk code text lim start last pc pos hd om fs wt none seen) = M.exec (mk code text lim start last pc pos hd om fs wt none seen) := by
  show (if pc < code.size then _ else _) = _
  rw [if_pos hpc]
/-- the machine's step, told by the word that it reads -/
noncomputable def execP (m : M) (w : Nat) : { x : M // M.word m 0 = w → M.exec m = x } := by
  apply Subtype.mk
  intro h
  unfold M.exec
  rw [h]
theorem exec_at {hd wt w : Nat} {fs : List Sre.Frame} {seen : Sre.Seen} (h : code.getD pc 0 = w) : M.exec (mk code text lim start last pc pos hd om fs wt none seen) = (execP (mk code text lim start last pc pos hd om fs wt none seen) w).1 := (execP _ w).2 h
theorem accepts_lit {c : Nat} {sn : Sre.Seen} (hw : code.getD pc 0 = 16) : accepts code pc c sn = .ok (c == code.getD (pc + 1) 0, sn) := by
  unfold accepts
  rw [hw]
  rfl
theorem R.lit_ok (h : R code text lim start last n (pc + 2) (pos + 1) om k b e) (hpc : pc < code.size) (hw : code.getD pc 0 = 16) (hl : pos < lim) (hc : text.getD pos 0 = code.getD (pc + 1) 0) :
    R code text lim start last n pc pos om (k + 1) b e := fun fs wt seen hd hwt => by
  refine Says.step rfl ?_
  rw [step_run hpc]
  rw [exec_at (w := 16) hw]
  show Says _ _ _ _ _ (if pos ≥ lim then _ else (match accepts code pc (text.getD pos 0) _ with | .error why => _ | .ok (false, seen) => _ | .ok (true, seen) => _)) _ _ _ _ _
  rw [if_neg (by omega), accepts_lit hw, hc, beq_self_eq_true]
  have e4 : itemWidth code pc = 2 := by unfold itemWidth; rw [hw]; rfl
  show Says _ _ _ _ _ (mk code text lim start last (pc + itemWidth code pc) (pos + 1) hd om fs wt none _) _ _ _ _ _
  rw [e4]
  exact h fs wt _ hd hwt
theorem R.lit_no (hpc : pc < code.size) (hw : code.getD pc 0 = 16) (hc : lim ≤ pos ∨ text.getD pos 0 ≠ code.getD (pc + 1) 0) :
    R code text lim start last n pc pos om 1 false e := fun fs wt seen hd hwt => by
  refine Says.step rfl ?_
  rw [step_run hpc]
  rw [exec_at (w := 16) hw]
  show Says _ _ _ _ _ (if pos ≥ lim then _ else (match accepts code pc (text.getD pos 0) _ with | .error why => _ | .ok (false, seen) => _ | .ok (true, seen) => _)) _ _ _ _ _
  by_cases hl : pos ≥ lim
  · rw [if_pos hl]
    exact Says.no
  · rw [if_neg hl, accepts_lit hw, show (text.getD pos 0 == code.getD (pc + 1) 0) = false from beq_eq_false_iff_ne.mpr (hc.resolve_left (by omega))]
    exact Says.no
theorem R.success (hpc : pc < code.size) (hw : code.getD pc 0 = 1) : R code text lim start last n pc pos om 1 true pos := fun fs wt seen hd hwt => by
  refine Says.step rfl ?_
  rw [step_run hpc]
  rw [exec_at (w := 1) hw]
  show Says _ _ _ _ _ (if (om && ((false && pos != lim) || (false && pos == start))) = true then _ else _) _ _ _ _ _
  rw [if_neg (by simp)]
  exact Says.here
theorem R.jump (h : R code text lim start last n (pc + 1 + code.getD (pc + 1) 0) pos om k b e) (hpc : pc < code.size) (hw : code.getD pc 0 = 15) : R code text lim start last n pc pos om (k + 1) b e := fun fs wt seen hd hwt => by
  refine Says.step rfl ?_
  rw [step_run hpc]
  rw [exec_at (w := 15) hw]
  exact h fs wt _ hd hwt
theorem R.at (h : R code text lim start last n (pc + 2) pos om k b e) (hpc : pc < code.size) (hw : code.getD pc 0 = 6) (hw1 : code.getD (pc + 1) 0 = 1) (hc : (pos == 0 || text.getD (pos - 1) 0 == 10) = true) : R code text lim start last n pc pos om (k + 1) b e := fun fs wt seen hd hwt => by
  refine Says.step rfl ?_
  rw [step_run hpc]
  rw [exec_at (w := 6) hw]
  show Says _ _ _ _ _ (match M.isAt { mk code text lim start last pc pos hd om fs wt none seen with seen := _ } (code.getD (pc + 1) 0) with | .error why => _ | .ok yes => _) _ _ _ _ _
  rw [hw1]
  show Says _ _ _ _ _ (if (pos == 0 || text.getD (pos - 1) 0 == 10) = true then _ else _) _ _ _ _ _
  rw [if_pos hc]
  exact h fs wt _ hd hwt
theorem R.at_no (hpc : pc < code.size) (hw : code.getD pc 0 = 6) (hw1 : code.getD (pc + 1) 0 = 1) (hc : (pos == 0 || text.getD (pos - 1) 0 == 10) = false) : R code text lim start last n pc pos om 1 false e := fun fs wt seen hd hwt => by
  refine Says.step rfl ?_
  rw [step_run hpc]
  rw [exec_at (w := 6) hw]
  show Says _ _ _ _ _ (match M.isAt { mk code text lim start last pc pos hd om fs wt none seen with seen := _ } (code.getD (pc + 1) 0) with | .error why => _ | .ok yes => _) _ _ _ _ _
  rw [hw1]
  show Says _ _ _ _ _ (if (pos == 0 || text.getD (pos - 1) 0 == 10) = true then _ else _) _ _ _ _ _
  rw [if_neg (by rw [hc]; decide)]
  exact Says.no
theorem R.branch (h : Alt code text lim start last n (pc + 1) pos om k b e) (hpc : pc < code.size) (hw : code.getD pc 0 = 7) : R code text lim start last n pc pos om (k + 1) b e := fun fs wt seen hd hwt => by
  refine Says.step rfl ?_
  rw [step_run hpc]
  rw [exec_at (w := 7) hw]
  exact h fs wt _ hd pc hwt

theorem Says.then {m : M} {fs gs : List Sre.Frame} {wt wt2 : Nat} {b2 : Bool} (h : Says code text lim start last m gs wt2 k b e)
    (g : ∀ pc pos om seen hd, (b = true → hd = e) → Says code text lim start last (mk code text lim start last pc pos hd om gs wt2 (some b) seen) fs wt k2 b2 e2) : Says code text lim start last m fs wt (k + k2) b2 e2 := by
  obtain ⟨a1, a2, a3, a4, a5, h1, h2⟩ := h
  obtain ⟨c1, c2, c3, c4, c5, g1, g2⟩ := g a1 a2 a3 a4 a5 h2
  exact ⟨c1, c2, c3, c4, c5, by rw [runFor_add, h1]; exact g1, g2⟩
theorem attempt_eq {hd wt t p : Nat} {fs : List Sre.Frame} {seen : Sre.Seen} {f : Sre.Frame} (hk : f.kept.marks.size = 0) (hwt : wt + 1 ≤ 16777216) {o : Bool} :
    M.attempt (mk code text lim start last pc pos hd om fs wt none seen) f t p o = mk code text lim start last t p p o (f :: fs) (wt + 1) none seen := by
  unfold M.attempt
  show (if wt + 1 + f.kept.marks.size > 16777216 then _ else _) = _
  rw [hk, if_neg (by omega)]
  rfl
theorem Alt.hit (h : R code text lim start last n (j + 1) pos om k true e) (hw : code.getD j 0 ≠ 0) : Alt code text lim start last (n + 1) j pos om (k + 1) true e := fun fs wt seen hd pc hwt => by
  unfold M.alternative
  show Says _ _ _ _ _ (if (code.getD j 0 == 0) = true then _ else _) _ _ _ _ _
  rw [if_neg (by simpa using hw), attempt_eq rfl (by omega)]
  refine Says.then (h _ (wt + 1) seen _ (by omega)) fun pc' pos' om' seen' hd' hh => ?_
  rw [hh rfl]
  refine Says.step rfl ?_
  exact Says.here
theorem Alt.miss (h : R code text lim start last n (j + 1) pos om k false e2) (hw : code.getD j 0 ≠ 0) (h2 : Alt code text lim start last (n + 1) (j + code.getD j 0) pos om k2 b e) : Alt code text lim start last (n + 1) j pos om (k + (k2 + 1)) b e := fun fs wt seen hd pc hwt => by
  unfold M.alternative
  show Says _ _ _ _ _ (if (code.getD j 0 == 0) = true then _ else _) _ _ _ _ _
  rw [if_neg (by simpa using hw), attempt_eq rfl (by omega)]
  refine Says.then (h _ (wt + 1) seen _ (by omega)) fun pc' pos' om' seen' hd' hh => ?_
  refine Says.step rfl ?_
  exact h2 fs wt seen' hd' j hwt
theorem R.lookNot (h : R code text lim start last n (pc + 3) pos false k false e2) (h2 : R code text lim start last (n + 1) (pc + 1 + code.getD (pc + 1) 0) pos om k2 b e) (hpc : pc < code.size) (hw : code.getD pc 0 = 5) (hw2 : code.getD (pc + 2) 0 = 0) :
    R code text lim start last (n + 1) pc pos om (k + (k2 + 1) + 1) b e := fun fs wt seen hd hwt => by
  refine Says.step rfl ?_
  rw [step_run hpc]
  rw [exec_at (w := 5) hw]
  show Says _ _ _ _ _ (if pos < code.getD (pc + 2) 0 then _ else M.attempt (mk code text lim start last pc pos hd om fs wt none _) _ (pc + 3) (pos - code.getD (pc + 2) 0) false) _ _ _ _ _
  rw [hw2, if_neg (by omega), attempt_eq rfl (by omega)]
  refine Says.then (h _ (wt + 1) _ _ (by omega)) fun pc' pos' om' seen' hd' hh => ?_
  refine Says.step rfl ?_
  exact h2 fs wt seen' hd' hwt
/-! ### the two codes -/
theorem Says.found {m : M} (h : Says code text lim start last m [] 0 k true e) : ∃ m', m.runFor (k + 1) = m' ∧ m'.outcome = some .matched ∧ m'.start = start ∧ m'.handed = e := by
  obtain ⟨a1, a2, a3, a4, a5, h1, h2⟩ := h
  refine ⟨_, rfl, ?_⟩
  rw [runFor_add, h1, runFor_succ rfl]
  exact ⟨rfl, rfl, h2 rfl⟩
theorem Says.lost {m : M} (h : Says code text lim start last m [] 0 k false e) : ∃ m', m.runFor (k + 1) = m' ∧ m'.outcome = some .failed := by
  obtain ⟨a1, a2, a3, a4, a5, h1, h2⟩ := h
  refine ⟨_, rfl, ?_⟩
  rw [runFor_add, h1, runFor_succ rfl]
  rfl
def Fin (m : M) (k : Nat) (r : Option (Nat × Nat)) : Prop := ∃ m', m.runFor k = m' ∧ match r with
  | some (s, e) => m'.outcome = some .matched ∧ m'.start = s ∧ m'.handed = e
  | none => m'.outcome = some .failed
theorem Fin.le {m : M} {r : Option (Nat × Nat)} {k k' : Nat} (h : Fin m k r) (hk : k ≤ k') : Fin m k' r := by
  obtain ⟨m', h1, h2⟩ := h
  refine ⟨m', ?_, h2⟩
  have hs : m'.outcome.isSome = true := by
    cases r with
    | none => rw [h2]; rfl
    | some p => rw [h2.1]; rfl
  rw [show k' = k + (k' - k) by omega, runFor_add, h1, runFor_done hs]

def code2 : Array Nat := #[14, 9, 4, 1, 2, 16, 10, 16, 13, 0, 7, 7, 16, 13, 16, 10, 15, 18, 5, 16, 10, 15, 13, 11, 16, 13, 5, 5, 0, 16, 10, 1, 15, 2, 0, 1]
def code1 : Array Nat := #[14, 4, 0, 1, 1, 6, 1, 16, 46, 1]

/-- a match of the second code -/
theorem two_10 (hl : pos < lim) (hc : text.getD pos 0 = 10) : ∃ k, k ≤ 20 ∧ R code2 text lim start last 5 10 pos om k true (pos + 1) := by
  refine ⟨_, ?_, R.branch (Alt.miss (R.lit_no (e := 0) (by decide) rfl (.inr ?_)) (by decide) (Alt.hit (R.lit_ok (R.jump (R.success (by decide) rfl) (by decide) rfl) (by decide) rfl hl ?_) (by decide))) (by decide) rfl⟩
  · decide
  · rw [hc]; decide
  · rw [hc]; rfl
theorem two_13_10 (hl : pos + 1 < lim) (hc : text.getD pos 0 = 13) (hc2 : text.getD (pos + 1) 0 = 10) : ∃ k, k ≤ 20 ∧ R code2 text lim start last 5 10 pos om k true (pos + 2) := by
  refine ⟨_, ?_, R.branch (Alt.hit (R.lit_ok (R.lit_ok (R.jump (R.success (by decide) rfl) (by decide) rfl) (by decide) rfl hl ?_) (by decide) rfl (by omega) ?_) (by decide)) (by decide) rfl⟩
  · decide
  · rw [hc2]; rfl
  · rw [hc]; rfl
theorem two_13 (hl : pos < lim) (hc : text.getD pos 0 = 13) (hc2 : lim ≤ pos + 1 ∨ text.getD (pos + 1) 0 ≠ 10) : ∃ k, k ≤ 20 ∧ R code2 text lim start last 5 10 pos om k true (pos + 1) := by
  refine ⟨_, ?_, R.branch (Alt.miss (R.lit_ok (R.lit_no (e := 0) (by decide) rfl ?_) (by decide) rfl hl ?_) (by decide) (Alt.miss (R.lit_no (e := 0) (by decide) rfl (.inr ?_)) (by decide)
    (Alt.hit (R.lit_ok (R.lookNot (R.lit_no (e := 0) (by decide) rfl ?_) (R.jump (R.success (by decide) rfl) (by decide) rfl) (by decide) rfl rfl) (by decide) rfl hl ?_) (by decide)))) (by decide) rfl⟩
  · decide
  · exact hc2
  · rw [hc]; rfl
  · rw [hc]; decide
  · exact hc2
  · rw [hc]; rfl
end
end Re
end Mine

namespace Mine
namespace Re
open PySem.Sre
section
variable {text : Array Nat} {lim : Nat}
theorem Fin.after {m m₁ : M} {a k : Nat} {r : Option (Nat × Nat)} (e : m.runFor a = m₁) (h : Fin m₁ k r) : Fin m (a + k) r := by
  obtain ⟨m', h1, h2⟩ := h
  exact ⟨m', by rw [runFor_add, e, h1], h2⟩

theorem set2 (c : Nat) (seen : Sre.Seen) : ∃ seen', inSet code2 c code2.size 5 true seen = .ok (c == 10 || c == 13, seen') := by
  show ∃ seen', (if (c == 10) = true then Except.ok (true, _) else if (c == 13) = true then Except.ok (true, _) else Except.ok (false, _)) = _
  by_cases h : c = 10
  · subst h; exact ⟨_, rfl⟩
  · by_cases h2 : c = 13
    · subst h2; exact ⟨_, rfl⟩
    · have e1 : (c == 10) = false := beq_eq_false_iff_ne.mpr h
      have e2 : (c == 13) = false := beq_eq_false_iff_ne.mpr h2
      rw [e1, e2]; exact ⟨_, rfl⟩
def isBr (c : Nat) : Bool := c == 10 || c == 13
theorem admitted_no (m : M) (hc : m.code = code2) (hm : m.lim = lim) (ht : m.text = text) : ∀ (fuel s : Nat) (seen : Sre.Seen), (∀ i, s ≤ i → i < lim → isBr (text.getD i 0) = false) → ∃ seen', M.admitted m fuel s seen = .ok (none, seen')
  | 0, s, seen, _ => ⟨seen, rfl⟩
  | fuel + 1, s, seen, h => by
    unfold M.admitted
    by_cases hs : s ≥ m.lim
    · rw [if_pos hs]; exact ⟨_, rfl⟩
    · rw [if_neg hs, hc, ht]
      obtain ⟨sn, e⟩ := set2 (text.getD s 0) seen
      rw [e, show (text.getD s 0 == 10 || text.getD s 0 == 13) = false from h s (Nat.le_refl _) (by omega)]
      exact admitted_no m hc hm ht fuel (s + 1) sn fun i hi => h i (by omega)
theorem admitted_yes (m : M) (hc : m.code = code2) (hm : m.lim = lim) (ht : m.text = text) {t : Nat} (htl : t < lim) (hb : isBr (text.getD t 0) = true) : ∀ (fuel s : Nat) (seen : Sre.Seen), t < s + fuel → s ≤ t → (∀ i, s ≤ i → i < t → isBr (text.getD i 0) = false) → ∃ seen', M.admitted m fuel s seen = .ok (some t, seen')
  | 0, s, seen, h1, h2, _ => by omega
  | fuel + 1, s, seen, h1, h2, h => by
    unfold M.admitted
    rw [if_neg (by omega), hc, ht]
    obtain ⟨sn, e⟩ := set2 (text.getD s 0) seen
    rw [e]
    by_cases hst : s = t
    · subst hst
      rw [show (text.getD s 0 == 10 || text.getD s 0 == 13) = true from hb]
      exact ⟨_, rfl⟩
    · rw [show (text.getD s 0 == 10 || text.getD s 0 == 13) = false from h s (Nat.le_refl _) (by omega)]
      exact admitted_yes m hc hm ht htl hb fuel (s + 1) sn (by omega) (by omega) fun i hi => h i (by omega)

def sn0 : Sre.Seen := ({} : Sre.Seen).add 14
theorem start2 {s : Nat} : forSearch code2 text 0 s lim false = if (decide (s > lim) || decide (lim - s < 1)) = true then (mk code2 text lim s 0 10 s s true [] 0 none sn0).say false else M.attemptFrom (mk code2 text lim s lim 10 s s true [] 0 none sn0) s true := by
  unfold forSearch
  simp only [Bool.or_eq_true, decide_eq_true_eq]
  rfl
theorem from2 {s : Nat} {m : M} (hm : m.code = code2) (b : Bool) : M.attemptFrom m s b = match M.admitted m (m.lim + 1 - s) s m.seen with
  | .ok (some s, seen) => { m with mustAdvance := false, seen }.attemptAt s b
  | .ok (none, seen) => { m with seen }.say false
  | .error why => m.stick why := by
  unfold M.attemptFrom
  have : M.hasFirstSet m = true := by unfold M.hasFirstSet; rw [hm]; rfl
  rw [this]; rfl
theorem search2_no {s : Nat} (hs : s ≤ lim) (h : ∀ i, s ≤ i → i < lim → isBr (text.getD i 0) = false) : Fin (forSearch code2 text 0 s lim false) 40 none := by
  rw [start2]
  by_cases hz : lim - s < 1
  · rw [if_pos (by simp; omega)]
    exact Fin.le (k := 1) ⟨_, rfl, rfl⟩ (by omega)
  · rw [if_neg (by simp; omega), from2 rfl]
    obtain ⟨sn, e⟩ := admitted_no (text := text) (lim := lim) (mk code2 text lim s lim 10 s s true [] 0 none sn0) rfl rfl rfl (lim + 1 - s) s sn0 h
    show Fin (match M.admitted (mk code2 text lim s lim 10 s s true [] 0 none sn0) (lim + 1 - s) s sn0 with | .ok (some s, seen) => _ | .ok (none, seen) => _ | .error why => _) _ _
    rw [e]
    exact Fin.le (k := 1) ⟨_, rfl, rfl⟩ (by omega)
theorem search2_yes {s t e k : Nat} (hst : s ≤ t) (htl : t < lim) (hb : isBr (text.getD t 0) = true) (h : ∀ i, s ≤ i → i < t → isBr (text.getD i 0) = false) (hk : k ≤ 20) (hR : R code2 text lim t lim 5 10 t true k true e) : Fin (forSearch code2 text 0 s lim false) 40 (some (t, e)) := by
  rw [start2, if_neg (by simp; omega), from2 rfl]
  obtain ⟨sn, eA⟩ := admitted_yes (text := text) (lim := lim) (mk code2 text lim s lim 10 s s true [] 0 none sn0) rfl rfl rfl htl hb (lim + 1 - s) s sn0 (by omega) hst h
  show Fin (match M.admitted (mk code2 text lim s lim 10 s s true [] 0 none sn0) (lim + 1 - s) s sn0 with | .ok (some s, seen) => _ | .ok (none, seen) => _ | .error why => _) _ _
  rw [eA]
  show Fin (M.attempt (mk code2 text lim t lim 10 t s true [] 0 none sn) _ 10 t true) _ _
  rw [attempt_eq rfl (by omega)]
  have h1 := Says.then (k2 := 1) (e2 := e) (b2 := true) (fs := []) (wt := 0) (hR [{ wait := .nextStart, pc := 10, pos := t, outermost := true }] 1 sn t (by omega)) fun pc' pos' om' seen' hd' hh => by
    rw [hh rfl]
    exact Says.step rfl Says.here
  obtain ⟨m', e1, e2⟩ := Says.found h1
  exact Fin.le (k := k + 1 + 1) ⟨m', e1, e2⟩ (by omega)

/-- the first code: a dot at a line's head -/
def isHead (text : Array Nat) (s : Nat) : Bool := (s == 0 || text.getD (s - 1) 0 == 10) && text.getD s 0 == 46
theorem one_yes {s start last n : Nat} {om : Bool} (hl : s < lim) (h : isHead text s = true) : R code1 text lim start last n 5 s om 3 true (s + 1) := by
  unfold isHead at h
  rw [Bool.and_eq_true] at h
  exact R.at (R.lit_ok (R.success (by decide) rfl) (by decide) rfl hl (eq_of_beq h.2)) (by decide) rfl rfl h.1
theorem one_no {s start last n : Nat} {om : Bool} (h : lim ≤ s ∨ isHead text s = false) : ∃ k, k ≤ 2 ∧ R code1 text lim start last n 5 s om k false 0 := by
  cases hb : (s == 0 || text.getD (s - 1) 0 == 10) with
  | false => exact ⟨_, by decide, R.at_no (by decide) rfl rfl hb⟩
  | true =>
    refine ⟨_, by decide, R.at (R.lit_no (by decide) rfl ?_) (by decide) rfl rfl hb⟩
    refine h.imp id fun h e => ?_
    unfold isHead at h
    rw [hb, e] at h
    cases h
theorem start1 {s : Nat} : forSearch code1 text 0 s lim false = if (decide (s > lim) || decide (lim - s < 1)) = true then (mk code1 text lim s 0 5 s s true [] 0 none sn0).say false else M.attemptAt (mk code1 text lim s lim 5 s s true [] 0 none sn0) s true := by
  unfold forSearch
  simp only [Bool.or_eq_true, decide_eq_true_eq]
  rfl
theorem at1 {s s' hd p pc' : Nat} {om b : Bool} {seen : Sre.Seen} : M.attemptAt (mk code1 text lim s' lim pc' p hd om [] 0 none seen) s b = mk code1 text lim s lim pc' s s b [{ wait := .nextStart, pc := pc', pos := s, outermost := b }] 1 none seen := by
  show M.attempt (mk code1 text lim s lim pc' s hd om [] 0 none seen) _ pc' s b = _
  rw [attempt_eq rfl (by omega)]
  rfl
theorem run1_no : ∀ (d s : Nat), lim - s = d → s ≤ lim → (∀ i, s ≤ i → i < lim → isHead text i = false) → ∀ om seen, Fin (mk code1 text lim s lim 5 s s om [{ wait := .nextStart, pc := 5, pos := s, outermost := om }] 1 none seen) (10 * d + 10) none
  | d, s, hd, hs, h, om, seen => by
    obtain ⟨k, hk, hR⟩ := one_no (text := text) (lim := lim) (s := s) (start := s) (last := lim) (n := 5) (om := om) (if q : lim ≤ s then .inl q else .inr (h s (Nat.le_refl _) (by omega)))
    obtain ⟨a1, a2, a3, a4, a5, h1, h2⟩ := hR [{ wait := .nextStart, pc := 5, pos := s, outermost := om }] 1 seen s (by omega)
    by_cases q : lim ≤ s
    · have : s = lim := by omega
      subst this
      have h3 := Says.then (k2 := 1) (e2 := 0) (b2 := false) (fs := []) (wt := 0) ⟨a1, a2, a3, a4, a5, h1, h2⟩ fun pc' pos' om' seen' hd' hh => Says.step rfl (by
        show Says _ _ _ _ _ (if s < s then _ else _) _ _ _ _ _
        rw [if_neg (by omega)]
        exact Says.no)
      obtain ⟨m', e1, e2⟩ := Says.lost h3
      exact Fin.le (k := k + 1 + 1) ⟨m', e1, e2⟩ (by omega)
    · have e3 : M.step (mk code1 text lim s lim a1 a2 a5 a3 [{ wait := .nextStart, pc := 5, pos := s, outermost := om }] 1 (some false) a4) = mk code1 text lim (s + 1) lim 5 (s + 1) (s + 1) false [{ wait := .nextStart, pc := 5, pos := s + 1, outermost := false }] 1 none a4 := by
        show (if s < lim then M.attemptFrom (mk code1 text lim s lim 5 s a5 om [] 0 none a4) (s + 1) false else _) = _
        rw [if_pos (by omega)]
        exact at1
      have h4 := run1_no (d - 1) (s + 1) (by omega) (by omega) (fun i hi => h i (by omega)) false a4
      refine Fin.le (k := k + (1 + (10 * (d - 1) + 10))) (Fin.after h1 (Fin.after ?_ h4)) (by omega)
      rw [runFor_succ rfl, e3]; rfl
theorem run1_yes {t : Nat} (ht : t < lim) (hh : isHead text t = true) : ∀ (d s : Nat), t - s = d → s ≤ t → (∀ i, s ≤ i → i < t → isHead text i = false) → ∀ om seen, Fin (mk code1 text lim s lim 5 s s om [{ wait := .nextStart, pc := 5, pos := s, outermost := om }] 1 none seen) (10 * d + 10) (some (t, t + 1))
  | d, s, hd, hs, h, om, seen => by
    by_cases q : t ≤ s
    · have : s = t := by omega
      subst this
      have hR := one_yes (text := text) (lim := lim) (s := s) (start := s) (last := lim) (n := 5) (om := om) ht hh
      have h3 := Says.then (k2 := 1) (e2 := s + 1) (b2 := true) (fs := []) (wt := 0) (hR [{ wait := .nextStart, pc := 5, pos := s, outermost := om }] 1 seen s (by omega)) fun pc' pos' om' seen' hd' hh => by
        rw [hh rfl]
        exact Says.step rfl Says.here
      obtain ⟨m', e1, e2⟩ := Says.found h3
      exact Fin.le (k := 3 + 1 + 1) ⟨m', e1, e2⟩ (by omega)
    · obtain ⟨k, hk, hR⟩ := one_no (text := text) (lim := lim) (s := s) (start := s) (last := lim) (n := 5) (om := om) (.inr (h s (Nat.le_refl _) (by omega)))
      obtain ⟨a1, a2, a3, a4, a5, h1, h2⟩ := hR [{ wait := .nextStart, pc := 5, pos := s, outermost := om }] 1 seen s (by omega)
      have e3 : M.step (mk code1 text lim s lim a1 a2 a5 a3 [{ wait := .nextStart, pc := 5, pos := s, outermost := om }] 1 (some false) a4) = mk code1 text lim (s + 1) lim 5 (s + 1) (s + 1) false [{ wait := .nextStart, pc := 5, pos := s + 1, outermost := false }] 1 none a4 := by
        show (if s < lim then M.attemptFrom (mk code1 text lim s lim 5 s a5 om [] 0 none a4) (s + 1) false else _) = _
        rw [if_pos (by omega)]
        exact at1
      have h4 := run1_yes ht hh (d - 1) (s + 1) (by omega) (by omega) (fun i hi => h i (by omega)) false a4
      refine Fin.le (k := k + (1 + (10 * (d - 1) + 10))) (Fin.after h1 (Fin.after ?_ h4)) (by omega)
      rw [runFor_succ rfl, e3]; rfl
theorem search1_no {s : Nat} (hs : s ≤ lim) (h : ∀ i, s ≤ i → i < lim → isHead text i = false) : Fin (forSearch code1 text 0 s lim false) (10 * lim + 10) none := by
  rw [start1]
  by_cases hz : lim - s < 1
  · rw [if_pos (by simp; omega)]
    exact Fin.le (k := 1) ⟨_, rfl, rfl⟩ (by omega)
  · rw [if_neg (by simp; omega), at1]
    exact Fin.le (run1_no _ s rfl hs h true _) (by omega)
theorem search1_yes {s t : Nat} (hst : s ≤ t) (htl : t < lim) (hb : isHead text t = true) (h : ∀ i, s ≤ i → i < t → isHead text i = false) : Fin (forSearch code1 text 0 s lim false) (10 * lim + 10) (some (t, t + 1)) := by
  rw [start1, if_neg (by simp; omega), at1]
  exact Fin.le (run1_yes htl hb _ s rfl hst h true _) (by omega)
end
end Re
end Mine

namespace Mine
namespace Re
open Builtin.Re
theorem plainAttrs_pat : PlainAttrs "re.Pattern" :=
  ⟨⟨"object.__getattribute__", by rw [typeLookup_type, builtinLookup_eq_fast]; kernel_rfl, by decide +kernel⟩, by rw [typeLookup_type, builtinLookup_eq_fast]; kernel_rfl⟩
theorem slot_sub : Slot "re.Pattern" "sub" "re.Pattern.sub" :=
  .of (owner := "re.Pattern") (n := "sub") (by rw [typeLookup_type, builtinLookup_eq_fast]; kernel_rfl) (by decide +kernel) (by decide +kernel) (by decide +kernel)
    (by first | exact .inl (by decide +kernel) | exact .inr (by decide +kernel)) (by rw [isSubtype_type]; kernel_rfl)
theorem type_sub : typeOf (.builtin "re.Pattern.sub") = pure (.type "method_descriptor") := by show builtinType _ = _; rw [builtinType_eq_fast]; kernel_rfl
theorem entry_sub : entryFor table "re.Pattern.sub" = some Builtin.«re.Pattern.sub» := entryFor_of_tree (by kernel_rfl)
theorem entry_loop : entryFor table "re.Pattern.sub.loop" = some Builtin.«re.Pattern.sub.loop» := entryFor_of_tree (by kernel_rfl)
theorem args_sub (a b c : Value) : argsOk "re.Pattern.sub" ⟨[a, b, c], []⟩ := by unfold argsOk; kernel_rfl
theorem plain_loop : plainId "re.Pattern.sub.loop" = true := by decide +kernel
theorem str_call : typeLookup (.type "str") "__call__" = pure none := by rw [typeLookup_type, builtinLookup_eq_fast]; kernel_rfl
theorem named (a b : Value) : reNamed "re.Pattern.sub" "sub" ["repl", "string", "count"] 2 [a, b] [] = pure [some a, some b, none] := by kernel_rfl
theorem rules_any {M : Model} {A : Around} {E : Value → Shared → Prop} {s : Shared} {Q : PUnit → Shared → Prop} (seen : Sre.Seen) (f : Nat → PUnit → Sem (ForInStep PUnit)) (hf : ∀ i u, f i u = (if seen.has i = true then (do rule (Sre.names.getD i ""); pure (.yield ⟨⟩)) else pure (.yield ⟨⟩))) : ∀ (l : List Nat), Q ⟨⟩ s → wpAny M A (forIn l ⟨⟩ f) Q E s
  | [], h => by rw [List.forIn_nil]; exact wpAny_pure h
  | i :: l, h => by
    rw [List.forIn_cons, hf]
    refine wpAny_bind ?_
    split
    · exact wpAny_bind (wpAny_rule (wpAny_pure (rules_any seen f hf l h)))
    · exact wpAny_pure (rules_any seen f hf l h)
def Res (r : Option (Nat × Nat)) (m : Sre.M) : Prop := match r with
  | some (a, e) => m.outcome = some .matched ∧ m.start = a ∧ m.handed = e
  | none => m.outcome = some .failed
theorem drive_any {M : Model} {A : Around} {E : Value → Shared → Prop} {s : Shared} {Q : Sre.M → Shared → Prop} {r : Option (Nat × Nat)} (hQ : ∀ m', Res r m' → Q m' s) : ∀ (n : Nat) (m : Sre.M) (k : Nat), 1 ≤ n → Fin m k r → k ≤ 4 * n → wpAny M A (reDrive n m) Q E s
  | 0, m, k, h, _, _ => by omega
  | n + 1, m, k, _, h, hk => by
    have hres : ∀ {m' : Sre.M} {k : Nat}, Fin m' k r → m'.outcome.isSome = true → Res r m' := fun {m'} {k} ⟨m₂, e, h⟩ hs => by
      rw [Re.runFor_done hs] at e; subst e; exact h
    unfold reDrive
    show wpAny _ _ (if (Sre.M.runFor 4 m).outcome.isSome = true then pure (Sre.M.runFor 4 m) else do rule "sre.turn"; reDrive n (Sre.M.runFor 4 m)) _ _ _
    have hrest : ∀ j, 4 + j = k → Fin (Sre.M.runFor 4 m) j r := fun j hj => by
      obtain ⟨m₂, e, h⟩ := h
      exact ⟨m₂, by rw [← runFor_add, hj]; exact e, h⟩
    by_cases hs : (Sre.M.runFor 4 m).outcome.isSome = true
    · rw [if_pos hs]
      refine wpAny_pure (hQ _ ?_)
      by_cases h4 : k ≤ 4
      · obtain ⟨m₂, e, h'⟩ := Fin.le h h4
        rw [e]; exact h'
      · exact hres (hrest (k - 4) (by omega)) hs
    · rw [if_neg hs]
      have h4 : 4 < k := by
        rcases Nat.lt_or_ge 4 k with q | q
        · exact q
        · obtain ⟨m₂, e, h'⟩ := Fin.le h q
          exfalso; apply hs
          rw [e]
          cases r with
          | none => rw [h']; rfl
          | some p => rw [h'.1]; rfl
      exact wpAny_bind (wpAny_rule (drive_any hQ n _ (k - 4) (by omega) (hrest _ (by omega)) (by omega)))
theorem found_any {M : Model} {A : Around} {E : Value → Shared → Prop} {s : Shared} {Q : Option Sre.M → Shared → Prop} {r : Option (Nat × Nat)} {m : Sre.M} {k : Nat} (h : Fin m k r) (hk : k ≤ 2 ^ 60)
    (hQ : match r with | some (a, e) => ∀ m' : Sre.M, m'.start = a → m'.handed = e → Q (some m') s | none => Q none s) : wpAny M A (reRunToEnd m) Q E s := by
  unfold reRunToEnd
  refine wpAny_bind (drive_any (r := r) (fun m' hr => ?_) (2 ^ 64) m k (by decide) h (by omega))
  refine wpAny_bind (rules_any m'.seen _ (fun i u => ?_) _ ?_)
  · split <;> rfl
  · cases r with
    | none =>
      have : m'.outcome = some .failed := hr
      simp only [this]
      exact wpAny_pure hQ
    | some p =>
      obtain ⟨a, e⟩ := p
      obtain ⟨h1, h2, h3⟩ := hr
      simp only [h1]
      exact wpAny_pure (hQ m' h2 h3)

/-! ### sub -/
/-- a pattern object with a code -/
def IsPat (h : Heap) (pa : Addr) (code : Array Nat) : Prop := ∃ o fs ca items n co, h.get? pa = some o ∧ o.cls = .type "re.Pattern" ∧ o.dict = none ∧ o.data = .fields fs ∧ fs[6]? = some (.int 0 0) ∧ fs[5]? = some (.ref ca) ∧ fs[2]? = some (.int 0 0) ∧ h.get? ca = some co ∧ co.cls = .type "tuple" ∧ co.data = .seq items n ∧ (items.map reRawOf).map (·.toNat) = code
theorem IsPat.keeps {h h' : Heap} {pa : Addr} {code : Array Nat} (x : IsPat h pa code) (k : ∀ b o, h.get? b = some o → h'.get? b = some o) : IsPat h' pa code :=
  let ⟨o, fs, ca, items, n, co, h1, h2, h3, h4, h5, h6, h7, h8, h9⟩ := x
  ⟨o, fs, ca, items, n, co, k _ _ h1, h2, h3, h4, h5, h6, h7, k _ _ h8, h9⟩
theorem IsPat.but {h h' : Heap} {pa P : Addr} {code : Array Nat} {vs : Array Value} (x : IsPat h pa code) (hp : h.PlainList P vs) (k : ∀ b o, b ≠ P → h.get? b = some o → h'.get? b = some o) : IsPat h' pa code := by
  obtain ⟨o, fs, ca, items, n, co, h1, h2, h3, h4, h5, h6, h7, h8, hct, h9⟩ := x
  obtain ⟨c, hg⟩ := hp
  refine ⟨o, fs, ca, items, n, co, k _ _ (fun e => ?_) h1, h2, h3, h4, h5, h6, h7, k _ _ (fun e => ?_) h8, hct, h9⟩
  · rw [e, hg] at h1; cases h1; cases h4
  · rw [e, hg] at h8; cases h8; exact absurd (show ("list" : String) = "tuple" from Value.type.inj hct) (by decide)
theorem push_any {M : Model} {A : Around} {E : Value → Shared → Prop} {s : Shared} {P : Addr} {vs : List Value} {v : Value} {Q : Unit → Shared → Prop} (hp : s.heap.PlainList P vs.toArray) (hz : vs.length ≤ 10000000)
    (h : ∀ h', h'.PlainList P (vs ++ [v]).toArray → (∀ b o, b ≠ P → s.heap.get? b = some o → h'.get? b = some o) → Q () { s with heap := h' }) : wpAny M A (updateSeq P (·.push v)) Q E s := by
  obtain ⟨n, ho⟩ := hp
  refine wpAny_updateSeq ho rfl (h _ ⟨n + 1, ?_⟩ fun b o hb e => (Heap.get?_update_other _ _ (Ne.symm hb)).trans e) (by rw [sizeLine_eq]; simp; omega) (by rw [sizeLine_eq]; simp; omega)
  rw [Heap.get?_update_self _ ho (by rw [Obj.mapSeq_push_plain]; rfl), Obj.mapSeq_push_plain]
  simp
theorem whole_any {M : Model} {A : Around} {E : Value → Shared → Prop} {s : Shared} {Q : ReTarget → Shared → Prop} {pa : Addr} {code : Array Nat} {x : Str} {t : Tok} (hp : IsPat s.heap pa code)
    (hQ : Q { pattern := .ref pa, string := .str x t, code := code, text := x.cps, kind := 0, groups := 0, pos := 0, lim := x.cps.size } s) : wpAny M A (reWholeTarget (.ref pa) (.str x t)) Q E s := by
  obtain ⟨o, fs, ca, items, n, co, h1, h2, h3, h4, h5, h6, h7, h8, hct, h9, h10⟩ := hp
  unfold reWholeTarget
  refine wpAny_bind (wpAny_fieldsOf h1 h4 ?_)
  have d6 : fs.getD 6 .none = .int 0 0 := by rw [Array.getD_eq_getD_getElem?, h5]; rfl
  have d5 : fs.getD 5 .none = .ref ca := by rw [Array.getD_eq_getD_getElem?, h6]; rfl
  have d2 : fs.getD 2 .none = .int 0 0 := by rw [Array.getD_eq_getD_getElem?, h7]; rfl
  rw [d6, d5, d2]
  show wpAny M A (do
    let p ← (pure (x.cps, 0) : Sem (Array Nat × Nat))
    _) Q E s
  refine wpAny_bind (wpAny_pure ?_)
  show wpAny M A (do
    reNoCollectionInside (.str x t) 0
    _) Q E s
  refine wpAny_bind (wpAny_pure ?_)
  refine wpAny_bind ?_
  unfold reRawItems
  refine wpAny_bind (wpAny_seqItems h8 h9 (wpAny_pure ?_))
  refine wpAny_pure ?_
  show Q { pattern := .ref pa, string := .str x t, code := (items.map reRawOf).map (·.toNat), text := x.cps, kind := 0, groups := 0, pos := 0, lim := x.cps.size } s
  rw [h10]; exact hQ

/-- what sub makes, by the searches -/
def subF (srch : Nat → Option (Nat × Nat)) (x r : List Nat) : Nat → Nat → List Nat
  | 0, _ => []
  | fuel + 1, at_ => match srch at_ with
    | none => x.drop at_
    | some (a, e) => (x.drop at_).take (a - at_) ++ r ++ subF srch x r fuel e
structure Srch (code : Array Nat) (x : List Nat) (srch : Nat → Option (Nat × Nat)) : Prop where
  fin : ∀ st, st ≤ x.length → ∃ k, k ≤ 2 ^ 60 ∧ Fin (Sre.forSearch code x.toArray 0 st x.length false) k (srch st)
  ok : ∀ st a e, st ≤ x.length → srch st = some (a, e) → st ≤ a ∧ a < e ∧ e ≤ x.length

theorem join_nil : ∀ qs : List (List Nat), Txt.join (S []) (qs.map S) = S qs.flatten := fun qs => by
  show Builtin.Str.glued (S []) (qs.map S) = _
  rw [StrLaws.glued_eq_join]
  induction qs with
  | nil => rfl
  | cons q qs ih =>
    cases qs with
    | nil => simp [Str.join]
    | cons q' qs =>
      show S q ++ S [] ++ Str.join (S []) ((q' :: qs).map S) = _
      rw [ih, str_app, str_app]
      simp
def loopArgs (pa P : Addr) (x r : List Nat) (t u : Tok) (n done : Int) : Args := ⟨[.ref pa, .str (S x) t, .str (S r) u, rawInt 0, rawInt 0, rawInt n, rawInt done, rawInt done, .bool false, .ref P, .bool false], []⟩

section
variable {prog : Program} {w : World} {A : Around} {R' : Result → Shared → Prop} {pa P : Addr} {code : Array Nat} {x r : List Nat} {t u : Tok} {srch : Nat → Option (Nat × Nat)}
theorem slice_any {M : Model} {A : Around} {E : Value → Shared → Prop} {s : Shared} {Q : Value → Shared → Prop} {x : List Nat} {b e : Nat} (hz : x.length ≤ 1000000) (hQ : Q (.str (S ((x.drop b).take (e - b))) s.toks) { s with toks := s.toks + 1 }) : wpAny M A (reSlice x.toArray 0 b e) Q E s := by
  have e1 : x.toArray.extract b e = ((x.drop b).take (e - b)).toArray := by simp [List.extract_eq_take_drop]
  show wpAny M A (mkStr ⟨x.toArray.extract b e⟩) Q E s
  rw [e1]
  exact wpAny_mkStr hQ (by rw [sizeLine_eq]; simp [Str.length]; omega)

theorem loop_any (H : Srch code x srch) (hx : x.length ≤ 10000) (hr : r.length ≤ 100) : ∀ (fuel st : Nat) (n : Int) (ps : List (List Nat)) (vs : List Value) (s : Shared), x.length - st < fuel → st ≤ x.length → IsPat s.heap pa code → s.heap.PlainList P vs.toArray →
    RdL s.heap [P] (ps.map .str) vs → ps.length ≤ 2 * st → (ps.map (·.length)).sum ≤ 200 * st →
    (∀ s' v, (∃ h tk, s' = { s with heap := h, toks := tk }) → (∀ b o, b ≠ P → s.heap.get? b = some o → s'.heap.get? b = some o) → (∃ t', v = .str (S (ps.flatten ++ subF srch x r fuel st)) t') → R' (.ok (.ret v)) s') →
    codeAny (model prog w) A (.builtin "re.Pattern.sub.loop" (loopArgs pa P x r t u n st)) R' s
  | 0, st, n, ps, vs, s, h0, _, _, _, _, _, _, _ => by omega
  | fuel + 1, st, n, ps, vs, s, h0, hst, hpat, hpl, hrd, hl1, hl2, hR => by
    obtain ⟨k, hk, hfin⟩ := H.fin st hst
    refine codeAny_builtin entry_loop ?_
    rw [Around.under_plainId plain_loop]
    show wpAny _ _ (reWholeTarget (.ref pa) (.str (S x) t) >>= fun t' => _) _ _ s
    refine wpAny_bind (whole_any hpat ?_)
    show wpAny _ _ (do
      let m? ← reRunToEnd (Sre.forSearch code x.toArray 0 st x.length false)
      match m? with
      | some m => (if st < m.start then (do let v ← reSlice x.toArray 0 st m.start; updateSeq P (·.push v); updateSeq P (·.push (.str (S r) u)); again (.builtin "re.Pattern.sub.loop" ⟨[.ref pa, .str (S x) t, .str (S r) u, rawInt 0, rawInt 0, rawInt (n + 1), rawInt m.handed, rawInt m.handed, .bool (m.handed == m.start), .ref P, .bool false], []⟩))
          else (do updateSeq P (·.push (.str (S r) u)); again (.builtin "re.Pattern.sub.loop" ⟨[.ref pa, .str (S x) t, .str (S r) u, rawInt 0, rawInt 0, rawInt (n + 1), rawInt m.handed, rawInt m.handed, .bool (m.handed == m.start), .ref P, .bool false], []⟩)))
      | none => (if st < x.length then (do
            let v ← reSlice x.toArray 0 st x.length; updateSeq P (·.push v)
            let joiner ← reSlice x.toArray 0 0 0
            let its ← seqItems? (.ref P)
            if (its.getD #[]).isEmpty = true then ret joiner else (do let text ← call (.builtin "str.join") [joiner, .ref P]; ret text))
          else (do
            let joiner ← reSlice x.toArray 0 0 0
            let its ← seqItems? (.ref P)
            if (its.getD #[]).isEmpty = true then ret joiner else (do let text ← call (.builtin "str.join") [joiner, .ref P]; ret text)))) _ _ s
    refine wpAny_bind (found_any hfin hk ?_)
    have hvl : vs.length = ps.length := by simpa using hrd.length
    have hxa : (S x).cps = x.toArray := rfl
    -- the end
    have fin : ∀ (s₁ : Shared) (us : List Value) (qs : List (List Nat)), (∃ h tk, s₁ = { s with heap := h, toks := tk }) → (∀ b o, b ≠ P → s.heap.get? b = some o → s₁.heap.get? b = some o) → s₁.heap.PlainList P us.toArray → RdL s₁.heap [P] (qs.map .str) us → qs.length ≤ 400000 → (qs.map (·.length)).sum ≤ 10000000 →
        qs.flatten = ps.flatten ++ subF srch x r (fuel + 1) st →
        wpAny (model prog w) A.in1 (do
            let joiner ← reSlice x.toArray 0 0 0
            let its ← seqItems? (.ref P)
            if (its.getD #[]).isEmpty = true then ret joiner else (do let text ← call (.builtin "str.join") [joiner, .ref P]; ret text))
          (fun fin s' => match fin with | .done f => R' (.ok f) s' | .again c' => c'.quiet = true ∧ codeAny (model prog w) A c' R' s') (fun e s' => R' (.error e) s') s₁ := fun s₁ us qs hs₁ hk₁ hpl₁ hrd₁ hq1 hq2 hq3 => by
      refine wpAny_bind (slice_any (by omega) ?_)
      obtain ⟨c, hg⟩ := hpl₁
      refine wpAny_bind (wpAny_seqItems hg rfl ?_)
      obtain ⟨h₁, tk₁, rfl⟩ := hs₁
      have hul : us.length = qs.length := by simpa using hrd₁.length
      show wpAny _ _ (if us.toArray.isEmpty = true then _ else _) _ _ _
      by_cases hem : us.toArray.isEmpty = true
      · rw [if_pos hem]
        refine wpAny_pure (hR _ _ ⟨_, _, rfl⟩ hk₁ ⟨tk₁, ?_⟩)
        have : us = [] := by simpa using hem
        subst this
        cases qs with
        | nil => rw [← hq3]; simp
        | cons _ _ => simp at hul
      · rw [if_neg hem]
        refine wpAny_bind (join_list (x := S ((x.drop 0).take (0 - 0))) (ys := qs.map S) ⟨_, hg, rfl, _, rfl⟩ (by simpa using hrd₁.toStrs) ?_ fun t' k => wpAny_pure (hR _ _ ⟨_, _, rfl⟩ hk₁ ⟨t', ?_⟩))
        · simpa [Str.length, Function.comp_def] using (show (qs.map (·.length)).sum ≤ 16777216 by omega)
        · rw [show S ((x.drop 0).take (0 - 0)) = S [] by simp, join_nil, hq3]
    cases hsr : srch st with
    | none =>
      have hsub : subF srch x r (fuel + 1) st = x.drop st := by unfold subF; rw [hsr]
      by_cases hlt : st < x.length
      · show wpAny _ _ (if st < x.length then _ else _) _ _ _
        rw [if_pos hlt]
        refine wpAny_bind (slice_any (by omega) ?_)
        refine wpAny_bind (push_any hpl (by omega) fun h' hp' hk' => ?_)
        refine fin _ _ (ps ++ [(x.drop st).take (x.length - st)]) ⟨_, _, rfl⟩ hk' hp' ?_ (by simp; omega) ?_ ?_
        · rw [List.map_append]
          exact RdL.append (hrd.keep fun b o hb _ e => hk' b o (by simpa using hb) e) (RdL.single ⟨_, rfl⟩)
        · simp; omega
        · rw [hsub]; simp [List.take_of_length_le]
      · show wpAny _ _ (if st < x.length then _ else _) _ _ _
        rw [if_neg hlt]
        refine fin _ _ ps ⟨_, _, rfl⟩ (fun b o _ e => e) hpl hrd (by omega) (by omega) ?_
        rw [hsub, List.drop_of_length_le (by omega)]; simp
    | some p =>
      obtain ⟨a, e⟩ := p
      obtain ⟨h1, h2, h3⟩ := H.ok st a e hst hsr
      have hsub : subF srch x r (fuel + 1) st = (x.drop st).take (a - st) ++ r ++ subF srch x r fuel e := by rw [subF, hsr]
      intro m' hm1 hm2
      subst hm1; subst hm2
      have hbe : (m'.handed == m'.start) = false := beq_eq_false_iff_ne.mpr (by omega)
      have go : ∀ (s₁ : Shared) (us : List Value) (qs : List (List Nat)), (∃ h tk, s₁ = { s with heap := h, toks := tk }) → (∀ b o, b ≠ P → s.heap.get? b = some o → s₁.heap.get? b = some o) → s₁.heap.PlainList P us.toArray → RdL s₁.heap [P] (qs.map .str) us → qs.length ≤ 2 * st + 1 → (qs.map (·.length)).sum ≤ 200 * st + (m'.start - st) →
          qs.flatten = ps.flatten ++ (x.drop st).take (m'.start - st) →
          wpAny (model prog w) A.in1 (do updateSeq P (·.push (.str (S r) u)); again (.builtin "re.Pattern.sub.loop" ⟨[.ref pa, .str (S x) t, .str (S r) u, rawInt 0, rawInt 0, rawInt (n + 1), rawInt m'.handed, rawInt m'.handed, .bool (m'.handed == m'.start), .ref P, .bool false], []⟩))
            (fun fin s' => match fin with | .done f => R' (.ok f) s' | .again c' => c'.quiet = true ∧ codeAny (model prog w) A c' R' s') (fun e s' => R' (.error e) s') s₁ := fun s₁ us qs hs₁ hk₁ hpl₁ hrd₁ hq1 hq2 hq3 => by
        have hul : us.length = qs.length := by simpa using hrd₁.length
        refine wpAny_bind (push_any hpl₁ (by omega) fun h' hp' hk' => ?_)
        refine wpAny_pure ⟨plainId_quiet plain_loop _, ?_⟩
        rw [hbe]
        obtain ⟨h₁, tk₁, rfl⟩ := hs₁
        have hall : ∀ b o, b ≠ P → s.heap.get? b = some o → h'.get? b = some o := fun b o hb e => hk' b o hb (hk₁ b o hb e)
        refine loop_any H hx hr fuel m'.handed (n + 1) (qs ++ [r]) (us ++ [.str (S r) u]) _ (by omega) h3 (hpat.but hpl hall) hp' ?_ (by simp; omega) (by simp; omega) fun s' v hs' hkp hv => ?_
        · rw [List.map_append]
          exact RdL.append (hrd₁.keep fun b o hb _ e => hk' b o (by simpa using hb) e) (RdL.single ⟨_, rfl⟩)
        · obtain ⟨h₂, tk₂, e₂⟩ := hs'
          refine hR s' v ⟨h₂, tk₂, e₂⟩ (fun b o hb e => hkp b o hb (hall b o hb e)) ?_
          obtain ⟨t', ev⟩ := hv
          exact ⟨t', by rw [ev, hsub]; simp [hq3]⟩
      by_cases hlt : st < m'.start
      · show wpAny _ _ (if st < m'.start then _ else _) _ _ _
        rw [if_pos hlt]
        refine wpAny_bind (slice_any (by omega) ?_)
        refine wpAny_bind (push_any hpl (by omega) fun h' hp' hk' => ?_)
        refine go _ _ (ps ++ [(x.drop st).take (m'.start - st)]) ⟨_, _, rfl⟩ hk' hp' ?_ (by simp; omega) ?_ ?_
        · rw [List.map_append]
          exact RdL.append (hrd.keep fun b o hb _ e => hk' b o (by simpa using hb) e) (RdL.single ⟨_, rfl⟩)
        · simp; omega
        · simp
      · show wpAny _ _ (if st < m'.start then _ else _) _ _ _
        rw [if_neg hlt]
        refine go _ _ ps ⟨_, _, rfl⟩ (fun b o _ e => e) hpl hrd (by omega) (by omega) ?_
        rw [show m'.start - st = 0 by omega]; simp
theorem meets_sub (H : Srch code x srch) (hx : x.length ≤ 10000) (hr : r.length ≤ 100) (hlit : (S r).cps.contains 92 = false) :
    Meets (Builtin.«re.Pattern.sub» ⟨[.ref pa, .str (S r) u, .str (S x) t], []⟩) (fun _ R' s => IsPat s.heap pa code ∧ ∀ s' v, Ext s s' → (∃ t', v = .str (S (subF srch x r (x.length + 1) 0)) t') → R' (.ok (.ret v)) s') := fun prog w A R' s ⟨hpat, hR⟩ => by
  show wpAny _ _ (do
    let named ← reNamed "re.Pattern.sub" "sub" ["repl", "string", "count"] 2 [.str (S r) u, .str (S x) t] []
    _) _ _ s
  rw [named]
  refine wpAny_bind (wpAny_pure ?_)
  show wpAny _ _ (do
    let c? ← specialOf (.str (S r) u) "__call__"
    _) _ _ s
  refine wpAny_bind (wpAny_specialOf (typeIs_str _ _ _) str_call ?_)
  show wpAny _ _ (if (!(S r).cps.contains 92) = true then (do
      let _ ← holding [.str (S r) u] (reWholeTarget (.ref pa) (.str (S x) t))
      let l ← newList []
      again (.builtin "re.Pattern.sub.loop" ⟨[.ref pa, .str (S x) t, .str (S r) u, rawInt 0, rawInt 0, rawInt 0, rawInt 0, rawInt 0, .bool false, l, .bool false], []⟩)) else _) _ _ s
  rw [hlit, if_pos (by decide)]
  refine wpAny_bind (wpAny_holding (whole_any hpat ?_))
  refine wpAny_bind (wpAny_newList ?_)
  refine wpAny_pure ⟨plainId_quiet plain_loop _, ?_⟩
  have hk := (Ext.push s { cls := .type "list", data := .seq #[] }).keeps
  refine loop_any (t := t) (u := u) (code := code) (srch := srch) H hx hr (x.length + 1) 0 0 [] [] _ (by omega) (Nat.zero_le _) (hpat.keeps hk) ⟨0, Heap.get?_push_size _ rfl⟩ rfl (Nat.zero_le _) (Nat.zero_le _) fun s' v hs' hkp hv => ?_
  obtain ⟨h₂, tk₂, e₂⟩ := hs'
  refine hR s' v ⟨h₂, tk₂, e₂, fun b o e => ?_⟩ (by simpa using hv)
  have := hkp b o (fun q => by rw [q, get_size] at e; cases e) (hk b o e)
  rw [e₂] at this; exact this
end
end Re

/-- a pattern of the text's top -/
def Pat (K : Frag) (pa : Addr) (code : Array Nat) : Prop := ∀ h, K.In h → Re.IsPat h pa code
theorem ev_sub {prog : Program} {w : World} {A : Around} {K : Frag} {env : Env} {ρ : Rho} {q : Bool} {nm : Str} {np apos pos : Pos} {e₁ e₂ : Expr} {pa : Addr} {code : Array Nat} {x r : List Nat} {srch : Nat → Option (Nat × Nat)}
    (hf : EvF prog w A K env ρ (.Name nm np) (.ref pa)) (hP : Pat K pa code) (H : Re.Srch code x srch) (hx : x.length ≤ 10000) (hr : r.length ≤ 100) (hlit : (S r).cps.contains 92 = false)
    (h₁ : Ev prog w A K env ρ q e₁ (.str r)) (h₂ : Ev prog w A K env ρ q e₂ (.str x))
    (hbase : attributeBase (.Name nm np) (Str.ofString "sub") env (eval (.Name nm np) env) = eval (.Name nm np) env := by rfl)
    (hfew : ((backTo pos (starEach [e₁, e₂] env)).all (fun x => !x.1) && (backToKw pos (keywordEach [] env)).all (fun x => x.1.isSome) && decide ([e₁, e₂].length + ([] : List Keyword).length + (if ([] : List Keyword).isEmpty then 0 else 1) < 30)) = true := by rfl)
    (hline : (apos.endLine == pos.line) = true := by rfl)
    (hs : ((backTo pos (starEach [e₁, e₂] env)).any (·.1)) = false := by rfl)
    (hs1 : starEach [e₁, e₂] env = (false, eval e₁ env) :: starEach [e₂] env := by rfl) (hs2 : starEach [e₂] env = (false, eval e₂ env) :: starEach [] env := by rfl) :
    Ev prog w A K env ρ q (.Call (.Attribute (.Name nm np) (Str.ofString "sub") apos) [e₁, e₂] [] pos) (.str (Re.subF srch x r (x.length + 1) 0)) := fun c W s C => by
  have ha := evL_cons h₁ (evL_cons h₂ (evL_nil (q := q)) hs2) hs1
  refine wpAny_Call_method hbase hfew hline Re.plainAttrs_pat Re.slot_sub Re.type_sub (wpAny_mono (hf c W s C) (fun v s₁ ⟨e1, e2⟩ => ?_) fun _ _ x => x)
  subst e1; subst e2
  have hp := hP _ C.top.k
  have hp' := hp
  obtain ⟨o, fs, ca, items, n, co, g1, g2, g3, _⟩ := hp'
  refine ⟨⟨o, g1, g2⟩, fun a e => by cases e; exact ⟨o, g1, g3⟩, ?_⟩
  refine Calls.callWith_builtin hs (evalArgs_any hs (wpAny_mono (ha pos c W s₁ C) (fun vs s₂ ⟨k₂, r₂⟩ => ?_) fun _ _ x => x))
  obtain ⟨_, _, rfl, ⟨u, rfl⟩, _, _, rfl, ⟨t, rfl⟩, rfl⟩ := r₂
  have C₂ := C.heap_mono k₂
  have hp₂ := hP _ C₂.top.k
  obtain ⟨o₂, fs₂, ca₂, items₂, n₂, co₂, g1₂, g2₂, _⟩ := hP _ C₂.top.k
  refine call_meets Re.slot_sub ⟨o₂, g1₂, g2₂⟩ Re.entry_sub (Re.args_sub _ _ _) (Re.meets_sub H hx hr hlit) ⟨hp₂, fun s' v k hv => ?_⟩
  obtain ⟨t', rfl⟩ := hv
  exact ⟨k₂.trans k, t', rfl⟩
end Mine

namespace Mine
namespace Re
/-! ### what the two patterns do, on lists -/
def find2 : List Nat → Option (Nat × Nat)
  | [] => none
  | c :: r => if isBr c then (if c = 13 ∧ r.head? = some 10 then some (0, 2) else some (0, 1)) else (find2 r).map fun p => (p.1 + 1, p.2 + 1)
def norm : List Nat → List Nat
  | [] => []
  | [c] => if isBr c then [13, 10] else [c]
  | c :: d :: r => if c = 13 ∧ d = 10 then 13 :: 10 :: norm r else if isBr c then 13 :: 10 :: norm (d :: r) else c :: norm (d :: r)
def find1 : Bool → List Nat → Option Nat
  | _, [] => none
  | b, c :: r => if b && c == 46 then some 0 else (find1 (c == 10) r).map (· + 1)
def stuff : Bool → List Nat → List Nat
  | _, [] => []
  | b, c :: r => if b && c == 46 then 46 :: 46 :: stuff (c == 10) r else c :: stuff (c == 10) r

theorem norm_cons (c : Nat) (r : List Nat) : norm (c :: r) = if c = 13 ∧ r.head? = some 10 then 13 :: 10 :: norm r.tail else if isBr c then 13 :: 10 :: norm r else c :: norm r := by
  cases r with
  | nil => simp [norm]
  | cons d r => simp [norm]
def Spec2 (y : List Nat) : Option (Nat × Nat) → Prop
  | none => ∀ i, i < y.length → isBr (y.getD i 0) = false
  | some (a, e) => a < y.length ∧ isBr (y.getD a 0) = true ∧ (∀ i, i < a → isBr (y.getD i 0) = false) ∧ e ≤ y.length ∧ a < e ∧
    ((y.getD a 0 = 10 ∧ e = a + 1) ∨ (y.getD a 0 = 13 ∧ y.getD (a + 1) 0 = 10 ∧ a + 1 < y.length ∧ e = a + 2) ∨ (y.getD a 0 = 13 ∧ (y.length ≤ a + 1 ∨ y.getD (a + 1) 0 ≠ 10) ∧ e = a + 1))
theorem spec2 : ∀ y, Spec2 y (find2 y)
  | [] => fun i h => by simp at h
  | c :: r => by
    unfold find2
    by_cases hb : isBr c = true
    · rw [if_pos hb]
      by_cases h : c = 13 ∧ r.head? = some 10
      · rw [if_pos h]
        obtain ⟨h1, h2⟩ := h
        cases r with
        | nil => simp at h2
        | cons d r =>
          simp at h2
          subst h1; subst h2
          exact ⟨by simp, rfl, fun i h => by omega, by simp, by omega, .inr (.inl ⟨rfl, rfl, by simp, rfl⟩)⟩
      · rw [if_neg h]
        refine ⟨by simp, hb, fun i h => by omega, by simp, by omega, ?_⟩
        unfold isBr at hb
        rw [Bool.or_eq_true, beq_iff_eq, beq_iff_eq] at hb
        rcases hb with hb | hb
        · exact .inl ⟨hb, rfl⟩
        · refine .inr (.inr ⟨hb, ?_, rfl⟩)
          cases r with
          | nil => exact .inl (by simp)
          | cons d r => exact .inr fun e => h ⟨hb, by simpa using e⟩
    · rw [if_neg hb]
      have hb : isBr c = false := by simpa using hb
      have ih := spec2 r
      cases hf : find2 r with
      | none =>
        rw [hf] at ih
        intro i h
        cases i with
        | zero => exact hb
        | succ i => exact ih i (by simpa using h)
      | some p =>
        obtain ⟨a, e⟩ := p
        rw [hf] at ih
        obtain ⟨h1, h2, h3, h4, h5, h6⟩ := ih
        refine ⟨by simpa using h1, h2, fun i h => ?_, by simpa using h4, by simp; omega, ?_⟩
        · cases i with
          | zero => exact hb
          | succ i => exact h3 i (by simp at h; omega)
        · simpa using h6
theorem norm_find : ∀ y, norm y = match find2 y with | none => y | some (a, e) => y.take a ++ [13, 10] ++ norm (y.drop e)
  | [] => rfl
  | c :: r => by
    rw [norm_cons]
    unfold find2
    by_cases h : c = 13 ∧ r.head? = some 10
    · rw [if_pos h, if_pos (by rw [h.1]; rfl), if_pos h]
      simp
    · rw [if_neg h]
      by_cases hb : isBr c = true
      · rw [if_pos hb, if_pos hb, if_neg h]; simp
      · rw [if_neg hb, if_neg hb]
        have ih := norm_find r
        cases hf : find2 r with
        | none => rw [hf] at ih; simp [ih]
        | some p => rw [hf] at ih; simp [ih]
def srch2 (x : List Nat) (st : Nat) : Option (Nat × Nat) := (find2 (x.drop st)).map fun p => (st + p.1, st + p.2)
theorem getD_drop (x : List Nat) (st i : Nat) : (x.drop st).getD i 0 = x.getD (st + i) 0 := by simp [List.getD]
theorem arr_getD (x : List Nat) (i : Nat) : x.toArray.getD i 0 = x.getD i 0 := by simp [Array.getD_eq_getD_getElem?, List.getD]
theorem srch2_ok (x : List Nat) : Srch code2 x (srch2 x) where
  fin := fun st hst => by
    refine ⟨40, by omega, ?_⟩
    have h := spec2 (x.drop st)
    unfold srch2
    cases hf : find2 (x.drop st) with
    | none =>
      rw [hf] at h
      refine search2_no hst fun i h1 h2 => ?_
      have := h (i - st) (by simp; omega)
      rw [getD_drop, show st + (i - st) = i by omega] at this
      rw [arr_getD]; exact this
    | some p =>
      obtain ⟨a, e⟩ := p
      rw [hf] at h
      obtain ⟨h1, h2, h3, h4, h5, h6⟩ := h
      simp only [List.length_drop, getD_drop] at h1 h2 h3 h4 h6
      have hlt : st + a < x.length := by omega
      have hpre : ∀ i, st ≤ i → i < st + a → isBr (x.toArray.getD i 0) = false := fun i q1 q2 => by
        have := h3 (i - st) (by omega)
        rw [show st + (i - st) = i by omega] at this
        rw [arr_getD]; exact this
      show Fin _ _ (some (st + a, st + e))
      rcases h6 with ⟨q1, q2⟩ | ⟨q1, q2, q3, q4⟩ | ⟨q1, q2, q3⟩
      · obtain ⟨k, hk, hR⟩ := two_10 (text := x.toArray) (lim := x.length) (start := st + a) (last := x.length) (pos := st + a) (om := true) hlt (by rw [arr_getD]; exact q1)
        subst q2
        exact search2_yes (by omega) hlt (by rw [arr_getD]; exact h2) hpre hk hR
      · obtain ⟨k, hk, hR⟩ := two_13_10 (text := x.toArray) (lim := x.length) (start := st + a) (last := x.length) (pos := st + a) (om := true) (by omega) (by rw [arr_getD]; exact q1) (by rw [arr_getD]; exact q2)
        subst q4
        exact search2_yes (by omega) hlt (by rw [arr_getD]; exact h2) hpre hk hR
      · obtain ⟨k, hk, hR⟩ := two_13 (text := x.toArray) (lim := x.length) (start := st + a) (last := x.length) (pos := st + a) (om := true) hlt (by rw [arr_getD]; exact q1) (q2.imp (fun q => by omega) fun q => by rw [arr_getD]; exact q)
        subst q3
        exact search2_yes (by omega) hlt (by rw [arr_getD]; exact h2) hpre hk hR
  ok := fun st a e hst h => by
    unfold srch2 at h
    have hs := spec2 (x.drop st)
    cases hf : find2 (x.drop st) with
    | none => rw [hf] at h; cases h
    | some p =>
      obtain ⟨a', e'⟩ := p
      rw [hf] at h hs
      cases h
      obtain ⟨h1, h2, h3, h4, h5, h6⟩ := hs
      simp at h4
      exact ⟨by simp, by simp; omega, by simp; omega⟩
theorem sub2 (x : List Nat) : ∀ (fuel st : Nat), x.length - st < fuel → st ≤ x.length → subF (srch2 x) x [13, 10] fuel st = norm (x.drop st)
  | 0, st, h, _ => by omega
  | fuel + 1, st, h, hst => by
    have hs := spec2 (x.drop st)
    unfold subF
    rw [norm_find]
    unfold srch2
    cases hf : find2 (x.drop st) with
    | none => rfl
    | some p =>
      obtain ⟨a, e⟩ := p
      rw [hf] at hs
      obtain ⟨h1, h2, h3, h4, h5, h6⟩ := hs
      simp at h4
      have ih := sub2 x fuel (st + e) (by omega) (by omega)
      show (x.drop st).take (st + a - st) ++ [13, 10] ++ subF (srch2 x) x [13, 10] fuel (st + e) = _
      rw [ih, show st + a - st = a by omega]
      show _ = (x.drop st).take a ++ [13, 10] ++ norm ((x.drop st).drop e)
      rw [List.drop_drop]

def bol (x : List Nat) (st : Nat) : Bool := st == 0 || x.getD (st - 1) 0 == 10
theorem bol_succ (x : List Nat) (st : Nat) : bol x (st + 1) = (x.getD st 0 == 10) := by simp [bol]
def srch1 (x : List Nat) (st : Nat) : Option (Nat × Nat) := (find1 (bol x st) (x.drop st)).map fun a => (st + a, st + a + 1)
theorem head_eq (x : List Nat) (i : Nat) : isHead x.toArray i = (bol x i && x.getD i 0 == 46) := by
  unfold isHead bol
  rw [arr_getD, arr_getD]
theorem spec1 (x : List Nat) : ∀ (n st : Nat), x.length - st = n → st ≤ x.length → match find1 (bol x st) (x.drop st) with
    | none => ∀ i, st ≤ i → i < x.length → isHead x.toArray i = false
    | some a => st + a < x.length ∧ isHead x.toArray (st + a) = true ∧ ∀ i, st ≤ i → i < st + a → isHead x.toArray i = false
  | 0, st, h, hst => by
    rw [List.drop_of_length_le (by omega)]
    show ∀ i, st ≤ i → i < x.length → isHead x.toArray i = false
    intro i h1 h2; omega
  | n + 1, st, h, hst => by
    have e : x.drop st = x.getD st 0 :: x.drop (st + 1) := by
      rw [List.drop_eq_getElem_cons (by omega)]
      simp [List.getD, show st < x.length by omega]
    rw [e]
    unfold find1
    have ih := spec1 x n (st + 1) (by omega) (by omega)
    rw [bol_succ] at ih
    by_cases hh : (bol x st && x.getD st 0 == 46) = true
    · rw [if_pos hh]
      exact ⟨by omega, by rw [head_eq]; exact hh, fun i h1 h2 => by omega⟩
    · rw [if_neg hh]
      have hh : isHead x.toArray st = false := by rw [head_eq]; simpa using hh
      cases hf : find1 (x.getD st 0 == 10) (x.drop (st + 1)) with
      | none =>
        rw [hf] at ih
        intro i h1 h2
        by_cases q : i = st
        · subst q; exact hh
        · exact ih i (by omega) h2
      | some a =>
        rw [hf] at ih
        obtain ⟨q1, q2, q3⟩ := ih
        refine ⟨by simp; omega, by rw [show st + (a + 1) = st + 1 + a by omega]; exact q2, fun i h1 h2 => ?_⟩
        by_cases q : i = st
        · subst q; exact hh
        · exact q3 i (by omega) (by have h2 : i < st + (a + 1) := h2; omega)
theorem srch1_ok (x : List Nat) (hx : x.length ≤ 1000000) : Srch code1 x (srch1 x) where
  fin := fun st hst => by
    refine ⟨10 * x.length + 10, by omega, ?_⟩
    have h := spec1 x _ st rfl hst
    unfold srch1
    cases hf : find1 (bol x st) (x.drop st) with
    | none => rw [hf] at h; exact search1_no hst h
    | some a =>
      rw [hf] at h
      obtain ⟨h1, h2, h3⟩ := h
      exact search1_yes (by omega) h1 h2 h3
  ok := fun st a e hst h => by
    unfold srch1 at h
    have hs := spec1 x _ st rfl hst
    cases hf : find1 (bol x st) (x.drop st) with
    | none => rw [hf] at h; cases h
    | some p =>
      rw [hf] at h hs
      cases h
      exact ⟨by omega, by omega, by have := hs.1; omega⟩
theorem stuff_cons (b : Bool) (c : Nat) (r : List Nat) : stuff b (c :: r) = if b && c == 46 then 46 :: 46 :: stuff (c == 10) r else c :: stuff (c == 10) r := rfl
theorem stuff_find : ∀ (y : List Nat) (b : Bool), stuff b y = match find1 b y with | none => y | some a => y.take a ++ [46, 46] ++ stuff false (y.drop (a + 1))
  | [], _ => rfl
  | c :: r, b => by
    rw [stuff_cons]
    unfold find1
    by_cases h : (b && c == 46) = true
    · rw [if_pos h, if_pos h]
      have hc : c = 46 := by simp at h; exact h.2
      subst hc
      simp
    · rw [if_neg h, if_neg h]
      have ih := stuff_find r (c == 10)
      cases hf : find1 (c == 10) r with
      | none => rw [hf] at ih; simp [ih]
      | some a => rw [hf] at ih; simp [ih]
theorem sub1 (x : List Nat) : ∀ (fuel st : Nat), x.length - st < fuel → st ≤ x.length → subF (srch1 x) x [46, 46] fuel st = stuff (bol x st) (x.drop st)
  | 0, st, h, _ => by omega
  | fuel + 1, st, h, hst => by
    have hs := spec1 x _ st rfl hst
    unfold subF
    rw [stuff_find]
    unfold srch1
    cases hf : find1 (bol x st) (x.drop st) with
    | none => rfl
    | some a =>
      rw [hf] at hs
      obtain ⟨h1, h2, h3⟩ := hs
      have ih := sub1 x fuel (st + a + 1) (by omega) (by omega)
      have hb : bol x (st + a + 1) = false := by
        rw [bol_succ]
        rw [head_eq, Bool.and_eq_true] at h2
        rw [eq_of_beq h2.2]; rfl
      rw [hb] at ih
      show (x.drop st).take (st + a - st) ++ [46, 46] ++ subF (srch1 x) x [46, 46] fuel (st + a + 1) = _
      rw [ih, show st + a - st = a by omega]
      show _ = (x.drop st).take a ++ [46, 46] ++ stuff false ((x.drop st).drop (a + 1))
      rw [List.drop_drop]
      rfl
def quote (x : List Nat) : List Nat := stuff true (norm x)
theorem norm_len : ∀ n x, x.length ≤ n → (norm x).length ≤ 2 * x.length
  | 0, x, h => by have : x = [] := List.length_eq_zero_iff.mp (by omega); subst this; simp [norm]
  | n + 1, [], _ => by simp [norm]
  | n + 1, c :: r, h => by
    rw [norm_cons]
    have h1 := norm_len n r (by simpa using h)
    split
    · rename_i hh
      cases r with
      | nil => simp at hh
      | cons d r =>
        have h2 := norm_len n r (by simp at h; omega)
        simp; omega
    · split <;> simp <;> omega
end Re
end Mine

namespace Mine
open_top hd2 for PySem.Challenge.rw_rw0017_02
end Mine

open Mine
/-! ### lines for the walk -/
local macro_rules | `(tactic| walk_at "side") => `(tactic| first | assumption | omega | ((try simp only [List.length_append, List.length_replicate, List.length_cons, List.length_nil, List.length_map, Int.toNat_natCast]); omega) | (simp; done) | (simp; omega) | decide | (simp at *; omega))
local macro_rules | `(tactic| walk_at "get") => `(tactic| first | assumption | exact rfl | (simp; done) | (simp [*]; done))
local macro_rules | `(tactic| walk_at "kd") => `(tactic| first | exact .inl rfl | exact .inr ⟨rfl, rfl⟩)
local macro_rules | `(tactic| walk_at "evf") => `(tactic| (refine' Glob.use ?g ?k; (case g => assumption); (case k => exact rfl)))
local macro_rules | `(tactic| walk_at "opx") => `(tactic| fail)
local macro_rules | `(tactic| walk_at "op") => `(tactic| first
  | with_reducible exact op_add | with_reducible exact op_sub | with_reducible exact op_iadd | with_reducible exact op_isub | with_reducible exact op_neg | with_reducible exact op_int | with_reducible exact op_abs | with_reducible exact op_lt | with_reducible exact op_gt | with_reducible exact op_ge
  | with_reducible exact op_ltS | with_reducible exact op_gtS | with_reducible exact op_eqS | with_reducible exact op_neS | with_reducible exact op_eqI | with_reducible exact op_neI
  | with_reducible exact op_is | with_reducible exact op_isnot | with_reducible exact op_notinS | with_reducible exact op_find | with_reducible exact op_startswith | with_reducible exact op_endswith
  | ((with_reducible refine' op_mul ?_); walk_at "side") | ((with_reducible refine' op_mod ?_); walk_at "side") | ((with_reducible refine' op_fdiv ?_ ?_) <;> walk_at "side") | ((with_reducible refine' op_pow ?_ ?_ ?_) <;> walk_at "side")
  | ((with_reducible refine' op_cat ?_); walk_at "side") | ((with_reducible refine' op_catB ?_); walk_at "side") | ((with_reducible refine' op_divmod ?_ ?_) <;> walk_at "side")
  | ((with_reducible refine' op_lenL ?_); walk_at "side") | ((with_reducible refine' op_lenS ?_); walk_at "side") | ((with_reducible refine' op_sum ?_); walk_at "side")
  | ((with_reducible refine' Ops.op_decode ?_ ?_) <;> walk_at "side") | ((with_reducible refine' op_find4 ?_ ?_ ?_) <;> walk_at "side") | ((with_reducible refine' op_dots ?hx ?h0 ?h1); (case hx => exact rfl); (case h0 => walk_at "side"); (case h1 => walk_at "side")) | ((with_reducible refine' op_rep ?_ ?_ ?_) <;> walk_at "side")
  | ((with_reducible refine' op_itemL ?h0 ?h1 ?h2); (case h0 => walk_at "side"); (case h1 => walk_at "side"); (case h2 => walk_at "get")) | ((with_reducible refine' op_itemT ?h0 ?h1 ?h2); (case h0 => walk_at "side"); (case h1 => walk_at "side"); (case h2 => walk_at "get")) | ((with_reducible refine' op_itemS ?h0 ?h1 ?h2); (case h0 => walk_at "side"); (case h1 => walk_at "side"); (case h2 => walk_at "get")) | ((with_reducible refine' op_itemLast ?h1 ?h2); (case h1 => walk_at "get"); (case h2 => walk_at "side"))
  | ((with_reducible refine' op_eq ?_ ?_ ?_ ?_) <;> walk_at "side") | ((with_reducible refine' op_ne ?_ ?_ ?_ ?_) <;> walk_at "side")
  | walk_at "opx")
local macro_rules | `(tactic| walk_at "evl") => `(tactic| first | with_reducible exact evL_nil | ((with_reducible refine' evL_cons ?h ?t ?s); (case h => walk_at "ev"); (case t => walk_at "evl"); (case s => exact rfl)))
local macro_rules | `(tactic| walk_at "cut") => `(tactic| first | ((with_reducible refine' cut_upto ?_ ?_) <;> walk_at "side") | ((with_reducible refine' cut_from ?_ ?_) <;> walk_at "side") | ((with_reducible refine' cut_run ?_ ?_ ?_ ?_) <;> walk_at "side") | ((with_reducible refine' cut_rev ?_); walk_at "side") | ((with_reducible refine' cut_bytes ?_ ?_ ?_) <;> walk_at "side") | ((with_reducible refine' cut_str1 ?_); walk_at "side"))
local macro_rules | `(tactic| walk_at "evp") => `(tactic| first | with_reducible exact evP_none | ((with_reducible refine' evP_some ?h); (case h => walk_at "ev")))
local macro_rules | `(tactic| walk_at "evnx") => `(tactic| fail)
local macro_rules | `(tactic| walk_at "evn") => `(tactic| first
  | ((with_reducible refine' evN_list ?h ?z); (case h => walk_at "evl"); (case z => walk_at "side"))
  | ((with_reducible refine' evN_bin ?l ?r ?o); (case l => walk_at "ev"); (case r => walk_at "ev"); (case o => first | ((with_reducible refine' opN_cat ?_); walk_at "side") | ((with_reducible refine' opN_mulL ?_ ?_ ?_ ?_) <;> walk_at "side")))
  | ((with_reducible refine' evN_method (T := "str") ?h ?a ?y F.plainAttrs_str F.slot_str_split F.type_str_split ?o ?b ?f ?l ?s); (case h => walk_at "ev"); (case a => walk_at "evl"); (case o => (with_reducible refine' opN_split ?_ ?_) <;> walk_at "side"); (case y => exact rfl); (case b => exact rfl); (case f => exact rfl); (case l => exact rfl); (case s => exact rfl))
  | walk_at "evnx")
local macro_rules | `(tactic| walk_at "evm") => `(tactic| first
  | ((with_reducible refine' ev_method (T := "str") ?h ?a ?y F.plainAttrs_str F.slot_str_find F.type_str_find ?o ?b ?f ?l ?s); (case h => walk_at "ev"); (case a => walk_at "evl"); (case o => walk_at "op"); (case y => exact rfl); (case b => exact rfl); (case f => exact rfl); (case l => exact rfl); (case s => exact rfl))
  | ((with_reducible refine' ev_method (T := "str") ?h ?a ?y F.plainAttrs_str F.slot_str_startswith F.type_str_startswith ?o ?b ?f ?l ?s); (case h => walk_at "ev"); (case a => walk_at "evl"); (case o => walk_at "op"); (case y => exact rfl); (case b => exact rfl); (case f => exact rfl); (case l => exact rfl); (case s => exact rfl))
  | ((with_reducible refine' ev_method (T := "str") ?h ?a ?y F.plainAttrs_str F.slot_str_endswith F.type_str_endswith ?o ?b ?f ?l ?s); (case h => walk_at "ev"); (case a => walk_at "evl"); (case o => walk_at "op"); (case y => exact rfl); (case b => exact rfl); (case f => exact rfl); (case l => exact rfl); (case s => exact rfl))
  | ((with_reducible refine' ev_method (T := "str") ?h ?a ?y F.plainAttrs_str F.slot_str_join F.type_str_join ?o ?b ?f ?l ?s); (case h => walk_at "ev"); (case a => walk_at "evl"); (case o => walk_at "op"); (case y => exact rfl); (case b => exact rfl); (case f => exact rfl); (case l => exact rfl); (case s => exact rfl))
  | ((with_reducible refine' ev_method (T := "bytes") ?h ?a ?y FB.plainAttrs_bytes FB.slot_bytes_decode FB.type_bytes_decode ?o ?b ?f ?l ?s); (case h => walk_at "ev"); (case a => walk_at "evl"); (case o => walk_at "op"); (case y => exact rfl); (case b => exact rfl); (case f => exact rfl); (case l => exact rfl); (case s => exact rfl)))
local macro_rules | `(tactic| walk_at "fn") => `(tactic| fail)
local macro_rules | `(tactic| walk_at "evx") => `(tactic| fail)
local macro_rules | `(tactic| walk_at "aok") => `(tactic| first | assumption | (refine' Aok.le ?h ?l; (case h => assumption); (case l => decide)))
local macro_rules | `(tactic| walk_at "ev") => `(tactic| first
  | with_reducible exact ev_int | with_reducible exact ev_str | with_reducible exact ev_bytes | with_reducible exact ev_bool | with_reducible exact ev_none
  | ((with_reducible refine' ev_name ?h ?d ?c); (case h => exact rfl); (case d => decide); (case c => decide))
  | ((with_reducible refine' ev_nameT ?h ?d ?c); (case h => exact rfl); (case d => decide); (case c => decide))
  | ((with_reducible refine' ev_globD ?g ?k); (case g => assumption); (case k => exact rfl))
  | ((with_reducible refine' ev_bin ?l ?r ?o); (case l => walk_at "ev"); (case r => walk_at "ev"); (case o => walk_at "op"))
  | ((with_reducible refine' ev_un ?l ?o); (case l => walk_at "ev"); (case o => walk_at "op"))
  | ((with_reducible refine' ev_cmp ?l ?r ?o ?m); (case l => walk_at "ev"); (case r => walk_at "ev"); (case o => walk_at "op"); (case m => intro _; exact rfl))
  | ((with_reducible refine' ev_call ?f ?k ?a ?o ?s); (case f => walk_at "evf"); (case k => first | exact .inl ⟨_, rfl⟩ | exact .inr ⟨_, rfl⟩); (case a => walk_at "evl"); (case o => walk_at "op"); (case s => exact rfl))
  | ((with_reducible refine' ev_callFn ?f ?a ?F ?c ?A ?s); (case f => walk_at "evf"); (case F => assumption); (case a => walk_at "evl"); (case c => walk_at "fn"); (case A => walk_at "aok"); (case s => exact rfl))
  | walk_at "evm"
  | ((with_reducible refine' ev_cut ?v ?l ?u ?s ?g ?c ?h); (case v => walk_at "ev"); (case l => walk_at "evp"); (case u => walk_at "evp"); (case s => walk_at "evp"); (case g => exact rfl); (case c => walk_at "cut"); (case h => intro _ _; exact ⟨_, rfl⟩))
  | ((with_reducible refine' ev_index ?v ?s ?g ?o ?h); (case v => walk_at "ev"); (case s => walk_at "ev"); (case g => exact rfl); (case o => walk_at "op"); (case h => intro _ _; exact rfl))
  | ((with_reducible refine' ev_tuple ?h ?z); (case h => walk_at "evl"); (case z => walk_at "side"))
  | walk_at "evx"
  | ((with_reducible refine' EvN.ev ?n); (case n => walk_at "evn"))
  | ((with_reducible refine' Ev.flat (q := true) (q' := false) ?h ?f); (case h => walk_at "ev"); (case f => exact rfl)))
local macro_rules | `(tactic| walk_at "evc") => `(tactic| first
  | ((with_reducible refine' evC_cmp ?l ?r ?o ?m); (case l => walk_at "ev"); (case r => walk_at "ev"); (case o => walk_at "op"); (case m => intro _; exact rfl))
  | ((with_reducible refine' evC_not ?l); (case l => walk_at "evc"))
  | ((with_reducible refine' evC_val ?l ?d ?i); (case l => walk_at "ev"); (case d => walk_at "side"); (case i => exact rfl)))
local macro_rules | `(tactic| walk_at "asg") => `(tactic| ((with_reducible refine' xs_cons (x_assign ?h rfl ?k ?s) ?_); (case h => walk_at "ev"); (case k => walk_at "kd"); (case s => exact rfl)))
local macro_rules | `(tactic| walk_at "asgn") => `(tactic| ((with_reducible refine' xs_cons (x_assignOwn ?h rfl ?k ?s) ?_); (case h => walk_at "evn"); (case k => walk_at "kd"); (case s => exact rfl)))
local macro_rules | `(tactic| walk_at "skip") => `(tactic| ((with_reducible refine' xs_cons (x_skip ?h ?e) ?_); (case h => walk_at "evc")))
local macro_rules | `(tactic| walk_at "ret") => `(tactic| ((with_reducible refine' xs_ret (x_retFlat ?h ?e ?f)); (case h => walk_at "ev"); (case f => exact rfl)))
local macro_rules | `(tactic| walk_at "evi") => `(tactic| first
  | ((with_reducible refine' evI_range ?A ?f ?n ?a ?b ?s ?t); (case A => walk_at "aok"); (case f => walk_at "evf"); (case n => walk_at "ev"); (case a => walk_at "side"); (case b => walk_at "side"); (case s => exact rfl); (case t => exact rfl))
  | ((with_reducible refine' evI_list ?A ?h); (case A => walk_at "aok"); (case h => walk_at "ev"))
  | ((with_reducible refine' evI_str ?A ?h); (case A => walk_at "aok"); (case h => walk_at "ev")))
local macro_rules | `(tactic| walk_at "capt") => `(tactic| first | with_reducible exact capt_nil | ((with_reducible refine' capt_cons ?h ?k ?s ?c ?f ?r); (case h => exact rfl); (case k => first | exact .inl rfl | exact .inr rfl); (case s => exact rfl); (case c => exact rfl); (case f => intro _; first | exact .inl rfl | exact .inr rfl); (case r => walk_at "capt")))
local macro_rules | `(tactic| walk_at "allc") => `(tactic| first | (intro _ h; cases h; done) | (refine' List.forall_mem_cons.mpr ⟨?h, ?t⟩; (case h => first | exact rfl | (intro h; first | exact rfl | cases h)); (case t => walk_at "allc")))
local macro_rules | `(tactic| walk_at "cs") => `(tactic| first | exact rfl | walk_at "evi" | (with_reducible exact capt_nil) | walk_at "capt" | (intro a b e; first | exact D.int.inj e | exact D.str.inj e | exact D.bool.inj e | exact e) | walk_at "allc" | decide | (intro _; exact rfl) | (intro _ _; exact rfl) | (intro _ _ _; exact rfl) | ((try simp only [List.map_cons, List.map_nil]); decide) | walk_at "side")
namespace Mine
def fdDef : FuncData := Calls.docDef "" { posonlyargs := [], args := [], vararg := none, kwonlyargs := [], kw_defaults := [], kwarg := none, defaults := [] } [] { kind := .function, names := [], isGenerator := false, isCoroutine := false } .none .none .none
def fdAt (K : Frag) (a : Addr) : FuncData := match K.lookup a with
  | some ⟨_, _, .func fd, _⟩ => fd
  | _ => fdDef
def obAt (K : Frag) (a : Addr) : Obj := match K.lookup a with
  | some o => o
  | _ => { cls := .none }

/-! ### Int2AP -/
def hexD (n : Nat) : List Nat := if n = 0 then [] else hexD (n / 16) ++ [n % 16]
decreasing_by omega
abbrev aps (l : List Nat) : List Nat := l.map (65 + ·)
abbrev apB (l : List Nat) : List UInt8 := l.map fun d => UInt8.ofNat (65 + d)
theorem apLetters {m : Nat} (h : m < 16) : (([65, 66, 67, 68, 69, 70, 71, 72, 73, 74, 75, 76, 77, 78, 79, 80] : List UInt8).drop m).take 1 = [UInt8.ofNat (65 + m)] := by
  have : ∀ k : Fin 16, (([65, 66, 67, 68, 69, 70, 71, 72, 73, 74, 75, 76, 77, 78, 79, 80] : List UInt8).drop k.1).take 1 = [UInt8.ofNat (65 + k.1)] := by decide
  exact this ⟨m, h⟩
theorem hexD_lt {n : Nat} : ∀ d ∈ hexD n, d < 16 := by
  induction n using hexD.induct with
  | case1 => rw [hexD]; simp
  | case2 n h ih =>
    rw [hexD, if_neg h]
    intro d hd
    rcases List.mem_append.mp hd with q | q
    · exact ih d q
    · simp at q; omega
theorem hexD_low {n i : Nat} (hi : i < (hexD n).length) : (hexD n).drop ((hexD n).length - (i + 1)) = (n / 16 ^ i % 16) :: (hexD n).drop ((hexD n).length - i) ∧ n / 16 ^ i ≠ 0 := by
  induction n using hexD.induct generalizing i with
  | case1 => rw [hexD] at hi; simp at hi
  | case2 n h ih =>
    rw [hexD, if_neg h] at hi ⊢
    cases i with
    | zero => simp [h]
    | succ i =>
      have hi' : i < (hexD (n / 16)).length := by simp at hi; omega
      obtain ⟨h1, h2⟩ := ih hi'
      have e : n / 16 ^ (i + 1) = n / 16 / 16 ^ i := by rw [Nat.pow_succ, Nat.mul_comm, Nat.div_div_eq_div_mul]
      rw [e]
      refine ⟨?_, h2⟩
      have a1 : (hexD (n / 16) ++ [n % 16]).length - (i + 1 + 1) = (hexD (n / 16)).length - (i + 1) := by simp
      have a2 : (hexD (n / 16) ++ [n % 16]).length - (i + 1) = (hexD (n / 16)).length - i := by simp
      rw [a1, a2, List.drop_append_of_le_length (by omega), h1, List.drop_append_of_le_length (by omega)]
      rfl
theorem hexD_end (n : Nat) : n / 16 ^ (hexD n).length = 0 := by
  induction n using hexD.induct with
  | case1 => rw [hexD]; simp
  | case2 n h ih =>
    rw [hexD, if_neg h]
    simp only [List.length_append, List.length_singleton]
    rw [Nat.pow_succ, Nat.mul_comm, ← Nat.div_div_eq_div_mul]
    exact ih

section
variable {prog : Program} {w : World}
theorem g_abs : Glob (hd2.heap_39 w.params) "abs" (.builtin "abs") := .blt rfl rfl
theorem g_int : Glob (hd2.heap_39 w.params) "int" (.type "int") := .blt rfl rfl
theorem g_divmod : Glob (hd2.heap_39 w.params) "divmod" (.builtin "divmod") := .blt rfl rfl
theorem fn_int2ap {n : Int} (hz : (hexD n.natAbs).length ≤ 1000000) : Fn prog w (hd2.heap_39 w.params) 2 45 [.int n] (.bytes (apB (hexD n.natAbs))) := by
  have g1 := g_abs (w := w)
  have g2 := g_int (w := w)
  have g3 := g_divmod (w := w)
  refine DefAt.enter (ps := ["num"]) ⟨obAt (hd2.heap_39 w.params) 45, fdAt (hd2.heap_39 w.params) 45, by rfl, by rfl, by rfl, by rfl, ?_, by rfl, by rfl, by rfl, by rfl⟩ rfl ?_ ?_ ?_ ?_ ?_
  · intro vs h; match vs, h with | [a], _ => rfl
  · intro n x hx; simp at hx; subst hx; exact .inl (by rfl)
  · exact List.nodup_nil
  · decide
  · exact ⟨_, List.mem_cons_self, by rfl⟩
  · intro L qual code A hA
    generalize hd2.heap_39 w.params = K at g1 g2 g3 ⊢
    walk_at "asg"
    walk_at "asg"
    refine' xs_cons (x_assign (d := .int (n.natAbs : Nat)) ?h ?e ?k) ?_
    case h => walk_at "ev"
    case k => walk_at "kd"
    case e => congr 1; split <;> omega
    generalize hm : n.natAbs = m at hz
    let ρs : Nat → Rho := fun i => [("num", .d (.int ((m / 16 ^ i : Nat) : Int))), ("val", .d (.bytes (apB ((hexD m).drop ((hexD m).length - i))))), ("AP", .d (.bytes [65, 66, 67, 68, 69, 70, 71, 72, 73, 74, 75, 76, 77, 78, 79, 80]))]
    refine Xs.pre (ρ₁ := ρs 0) (.cons (by rw [Nat.pow_zero, Nat.div_one]; rfl) (.cons (by rw [Nat.sub_zero, List.drop_length]; rfl) (.cons rfl .nil))) ?_
    refine xs_cons (x_while (hexD m).length ρs ?_ ?_ ?_) ?_
    · intro i hi
      refine (evC_val (d := .int ((m / 16 ^ i : Nat) : Int)) ?_ rfl).cast ?_
      · walk_at "ev"
      · have := (hexD_low hi).2
        show (((m / 16 ^ i : Nat) : Int) != 0) = true
        rw [bne_iff_ne]
        omega
    · intro i hi
      obtain ⟨h1, h2⟩ := hexD_low hi
      refine' xs_cons (x_unpack (ds := [.int ((m / 16 ^ (i + 1) : Nat) : Int), .int ((m / 16 ^ i % 16 : Nat) : Int)]) hA ?h ?e ?k rfl rfl) ?_
      case h => walk_at "ev"
      case k => intro x hx; simp [namesOf] at hx; rcases hx with rfl | rfl <;> walk_at "kd"
      case e => rw [Nat.pow_succ, ← Nat.div_div_eq_div_mul]; simp
      refine' xs_cons (x_assign (d := .bytes (apB ((hexD m).drop ((hexD m).length - (i + 1))))) ?h2 ?e2 ?k2) ?_
      case h2 =>
        have l1 : (((m / 16 ^ i % 16 : Nat) : Int)) < 16 := by omega
        walk_at "ev"
      case k2 => walk_at "kd"
      case e2 =>
        rw [h1, Int.toNat_natCast, apLetters (by omega)]
        rfl
      exact Xs.sub xs_nil (.cons rfl (.cons rfl (.cons rfl .nil)))
    · refine (evC_val (d := .int ((m / 16 ^ (hexD m).length : Nat) : Int)) ?_ rfl).cast ?_
      · walk_at "ev"
      · rw [hexD_end]; rfl
    · refine' xs_ret (x_retFlat ?h ?e rfl)
      case h => walk_at "ev"
      case e => simp
end
end Mine
namespace Mine
section
variable {prog : Program} {w : World}
/-! ### _ellipsis_match -/
def scan (got : List Nat) (hi : Nat) : List (List Nat) → Nat → Bool
  | [], _ => true
  | p :: ps, lo => match ffind p got lo hi with
    | some i => scan got hi ps (i + p.length)
    | none => false
abbrev dots3 : List Nat := [46, 46, 46]
abbrev pieces (want : List Nat) : List (List Nat) := (Txt.split (S want) (S dots3)).map fun p => p.cps.toList
theorem scan_trace (got : List Nat) (hi : Nat) : ∀ (ps : List (List Nat)) (lo : Nat), ∃ (N : Nat) (f : Nat → Nat), f 0 = lo ∧ (∀ i, i < N → ∃ p k, ps[i]? = some p ∧ ffind p got (f i) hi = some k ∧ f (i + 1) = k + p.length) ∧
    ((N = ps.length ∧ scan got hi ps lo = true) ∨ ∃ p, ps[N]? = some p ∧ ffind p got (f N) hi = none ∧ scan got hi ps lo = false)
  | [], lo => ⟨0, fun _ => lo, rfl, fun i h => by omega, .inl ⟨rfl, rfl⟩⟩
  | p :: ps, lo => by
    cases q : ffind p got lo hi with
    | none => exact ⟨0, fun _ => lo, rfl, fun i h => by omega, .inr ⟨p, rfl, q, by simp [scan, q]⟩⟩
    | some k =>
      obtain ⟨N, f, f0, hf, hfin⟩ := scan_trace got hi ps (k + p.length)
      refine ⟨N + 1, fun i => match i with | 0 => lo | i + 1 => f i, rfl, fun i h => ?_, ?_⟩
      · cases i with
        | zero => exact ⟨p, k, rfl, q, f0⟩
        | succ i =>
          obtain ⟨p', k', h1, h2, h3⟩ := hf i (by omega)
          exact ⟨p', k', by simpa using h1, h2, h3⟩
      · have e : scan got hi (p :: ps) lo = scan got hi ps (k + p.length) := by simp [scan, q]
        rw [e]
        rcases hfin with ⟨h1, h2⟩ | ⟨p', h1, h2, h3⟩
        · exact .inl ⟨by simp [h1], h2⟩
        · exact .inr ⟨p', by simpa using h1, h2, h3⟩
theorem g_marker : GlobD (hd2.heap_39 w.params) "ELLIPSIS_MARKER" (.str dots3) := ⟨_, .top rfl, fun _ _ => ⟨_, rfl⟩⟩
theorem g_len : Glob (hd2.heap_39 w.params) "len" (.builtin "len") := .blt rfl rfl
theorem fn_em_some {want got last : List Nat} {ws : List (List Nat)} (hc : Txt.contains (S want) (S dots3) = true) (hs : pieces want = [] :: (ws ++ [last])) (hz : want.length ≤ 1000000) (hz2 : got.length ≤ 1000000) (hzw : ws.length ≤ 1000) (hzl : last.length ≤ 1000000) (hwz : ∀ p ∈ ws, p.length ≤ 1000000) :
    Fn prog w (hd2.heap_39 w.params) 2 38 [.str want, .str got] (.bool (if last = [] then scan got got.length ([] :: (ws ++ [[]])) 0 else if Txt.endswith (S got) (S last) then scan got (got.length - last.length) ([] :: ws) 0 else false)) := by
  have g1 := g_marker (w := w)
  have g2 := g_len (w := w)
  refine DefAt.enter (ps := ["want", "got"]) ⟨obAt (hd2.heap_39 w.params) 38, fdAt (hd2.heap_39 w.params) 38, by rfl, by rfl, by rfl, by rfl, ?_, by rfl, by rfl, by rfl, by rfl⟩ rfl ?_ ?_ ?_ ?_ ?_
  · intro vs h; match vs, h with | [a, b], _ => rfl
  · intro n x hx; simp at hx; rcases hx with rfl | rfl <;> exact .inl (by rfl)
  · exact List.nodup_nil
  · decide
  · exact ⟨_, List.mem_cons_self, by rfl⟩
  · intro L qual code A hA
    generalize hd2.heap_39 w.params = K at g1 g2 ⊢
    walk_at "skip"
    case e => rw [hc]; rfl
    refine' xs_cons (x_assignOwn (l := ([] :: (ws ++ [last])).map .str) ?h ?e ?k) ?_
    case h => walk_at "evn"
    case e => rw [← hs]; simp
    case k => walk_at "kd"
    refine' xs_cons (x_assert (EvC.cast ?t ?e)) ?_
    case t => walk_at "evc"
    case e => simp; omega
    refine' xs_cons (x_swap2 (d₁ := .int 0) (d₂ := .int (got.length : Nat)) hA ?h rfl rfl ?k1 ?k2) ?_
    case h => walk_at "ev"
    case k1 => walk_at "kd"
    case k2 => walk_at "kd"
    walk_at "asg"
    walk_at "skip"
    case e => rfl
    refine' xs_cons (x_assign (d := .str last) ?h ?e ?k) ?_
    case h =>
      refine' Ev.flat (q' := false) (d := .str last) ?h rfl
      refine' ev_index (d₁ := .lst (([] :: (ws ++ [last])).map .str)) (i := -1) ?v ?s rfl ?o
      case v => walk_at "ev"
      case s => walk_at "ev"
      case o => exact op_itemLast (by rw [List.map_cons, List.map_append, ← List.cons_append]; exact List.getLast?_concat) (by simp; omega)
    case e => rfl
    case k => walk_at "kd"
    by_cases h3 : last ≠ [] ∧ Txt.endswith (S got) (S last) = false
    · have e3 : (D.bool (if last = [] then scan got got.length ([] :: (ws ++ [[]])) 0 else if Txt.endswith (S got) (S last) then scan got (got.length - last.length) ([] :: ws) 0 else false)) = .bool false := by rw [if_neg h3.1, h3.2]; rfl
      rw [e3]
      refine' xs_ret (x_then ?t ?e (xs_ret (x_else ?t2 ?e2 ?b)))
      case t => walk_at "evc"
      case e => cases last <;> simp_all [tr]
      case t2 =>
        refine' evC_val (d := .bool (Txt.endswith (S got) (S last))) ?l rfl
        case l => walk_at "ev"
      case e2 => exact h3.2
      case b => walk_at "ret"; rfl
    · have hend : last ≠ [] → Txt.endswith (S got) (S last) = true := fun h => by
        cases q : Txt.endswith (S got) (S last) with
        | true => rfl
        | false => exact absurd ⟨h, q⟩ h3
      have hle : last ≠ [] → last.length ≤ got.length := fun h => by
        have := hend h
        unfold Txt.endswith at this
        simp [Str.length] at this
        exact this.1
      generalize hhi : (if last = [] then got.length else got.length - last.length) = hi
      generalize hps : (if last = [] then [] :: (ws ++ [[]]) else [] :: ws : List (List Nat)) = ps
      have e3 : (if last = [] then scan got got.length ([] :: (ws ++ [[]])) 0 else if Txt.endswith (S got) (S last) then scan got (got.length - last.length) ([] :: ws) 0 else false) = scan got hi ps 0 := by
        by_cases hl : last = []
        · simp [hl] at hhi hps ⊢; rw [hhi, hps]
        · simp [hl, hend hl] at hhi hps ⊢; rw [hhi, hps]
      rw [e3]
      have hhi2 : hi ≤ got.length := by rw [← hhi]; split <;> omega
      have hpl : ps.length ≤ 2000 := by rw [← hps]; split <;> simp <;> omega
      refine xs_cons (ρ₁ := [("startpos", .d (.int 0)), ("endpos", .d (.int (hi : Nat))), ("ws", .own (ps.map .str)), ("got", .d (.str got))]) ?_ ?_
      · by_cases hl : last = []
        · subst hl
          rw [if_pos rfl] at hhi hps
          subst hhi; subst hps
          refine' x_else ?t ?e (Xs.sub xs_nil (.cons rfl (.cons rfl (.cons rfl (.cons rfl .nil)))))
          case t => walk_at "evc"
          case e => rfl
        · rw [if_neg hl] at hhi hps
          subst hhi; subst hps
          refine' x_then ?t ?e (xs_cons (x_then ?t2 ?e2 ?b2) xs_nil)
          case t => walk_at "evc"
          case e => cases last <;> simp_all [tr]
          case t2 =>
            refine' evC_val (d := .bool (Txt.endswith (S got) (S last))) ?l rfl
            case l => walk_at "ev"
          case e2 => exact hend hl
          case b2 =>
            have hle' := hle hl
            refine' xs_cons (x_aug (d := .int ((got.length - last.length : Nat) : Int)) rfl ?h ?o ?e ?k) ?_
            case h => walk_at "ev"
            case o => exact op_isub
            case e => congr 1; omega
            case k => walk_at "kd"
            refine' xs_cons (x_del (l := ([] :: (ws ++ [last])).map .str) (l' := ([] :: ws).map .str) (i := -1) (k := ws.length + 1) rfl ?h ?k ?l ?z (by omega) (by omega)) (Xs.sub xs_nil (.cons rfl (.cons rfl (.cons rfl (.cons rfl .nil)))))
            case h => walk_at "ev"
            case k => simp [seqIndex?]; omega
            case l =>
              rw [List.map_cons, List.map_append, ← List.cons_append, List.eraseIdx_append_of_length_le (by simp)]
              simp
            case z => simp; omega
      · walk_at "skip"
        case e => exact decide_eq_false (by omega)
        refine Xs.give (x := "ws") (l := ps.map .str) rfl ?_
        obtain ⟨N, f, f0, hf, hfin⟩ := scan_trace got hi ps 0
        refine Xs.pre (ρ₁ := [("startpos", .d (.int (f 0 : Nat))), ("endpos", .d (.int (hi : Nat))), ("ws", .d (.lst (ps.map .str))), ("got", .d (.str got))]) (.cons (by rw [f0]; rfl) (.cons rfl (.cons rfl (.cons rfl .nil)))) ?_
        let ρs : Nat → Rho := fun i => [("startpos", .d (.int (f i : Nat))), ("endpos", .d (.int (hi : Nat))), ("ws", .d (.lst (ps.map .str))), ("got", .d (.str got))]
        have hstep : ∀ (i : Nat), i ≤ N → (f i : Int) ≥ 0 := fun i _ => by omega
        have hlenps : (ps.map D.str).length = ps.length := by simp
        have hpz : ∀ p ∈ ps, p.length ≤ 1000000 := fun p hp => by
          rw [← hps] at hp
          split at hp <;> simp at hp
          · rcases hp with rfl | hp | rfl
            · simp
            · exact hwz p hp
            · simp
          · rcases hp with rfl | hp
            · simp
            · exact hwz p hp
        rcases hfin with ⟨hN, hsc⟩ | ⟨p, hp, hnone, hsc⟩
        · rw [hsc]
          refine' xs_cons (x_forG (ds := ps.map .str) (ρs := ρs) N ?I ?st (.inl ⟨by rw [hlenps]; exact hN, rfl⟩)) ?_
          case I =>
            refine' evI_list hA ?h
            case h => walk_at "ev"
          case st =>
            intro i d hi' hd
            obtain ⟨p, k, h1, h2, h3⟩ := hf i hi'
            have ed : d = .str p := by simpa [h1] using hd.symm
            subst ed
            refine ⟨_, bd_name (by walk_at "kd"), ?_⟩
            have e4 : (match ffind p got ((f i : Int)).toNat ((hi : Int)).toNat with | some k => (k : Int) | none => -1) = (k : Int) := by rw [Int.toNat_natCast, Int.toNat_natCast, h2]
            refine' xs_cons (x_assign (d := .int (k : Int)) ?h ?e ?k) ?_
            case h => walk_at "ev"
            case e => exact congrArg D.int e4
            case k => walk_at "kd"
            walk_at "skip"
            case e => exact decide_eq_false (by omega)
            have hpz : p.length ≤ 1000000 := hpz p (List.mem_of_getElem? h1)
            refine' xs_cons (x_aug (d := .int (f (i + 1) : Nat)) rfl ?h ?o ?e ?k) (Xs.sub xs_nil (.cons rfl (.cons rfl (.cons rfl (.cons rfl .nil)))))
            case h => walk_at "ev"
            case o => exact op_iadd
            case e => congr 1; omega
            case k => walk_at "kd"
          walk_at "ret"
          rfl
        · rw [hsc]
          refine' xs_ret (x_forG (ds := ps.map .str) (ρs := ρs) N ?I ?st (.inr ⟨.str p, _, _, by simp [hp], bd_name (by walk_at "kd"), rfl, ?fin⟩))
          case I =>
            refine' evI_list hA ?h
            case h => walk_at "ev"
          case st =>
            intro i d hi' hd
            obtain ⟨p, k, h1, h2, h3⟩ := hf i hi'
            have ed : d = .str p := by simpa [h1] using hd.symm
            subst ed
            refine ⟨_, bd_name (by walk_at "kd"), ?_⟩
            have e4 : (match ffind p got ((f i : Int)).toNat ((hi : Int)).toNat with | some k => (k : Int) | none => -1) = (k : Int) := by rw [Int.toNat_natCast, Int.toNat_natCast, h2]
            refine' xs_cons (x_assign (d := .int (k : Int)) ?h ?e ?k) ?_
            case h => walk_at "ev"
            case e => exact congrArg D.int e4
            case k => walk_at "kd"
            walk_at "skip"
            case e => exact decide_eq_false (by omega)
            have hpz : p.length ≤ 1000000 := hpz p (List.mem_of_getElem? h1)
            refine' xs_cons (x_aug (d := .int (f (i + 1) : Nat)) rfl ?h ?o ?e ?k) (Xs.sub xs_nil (.cons rfl (.cons rfl (.cons rfl (.cons rfl .nil)))))
            case h => walk_at "ev"
            case o => exact op_iadd
            case e => congr 1; omega
            case k => walk_at "kd"
          case fin =>
            have e4 : (match ffind p got ((f N : Int)).toNat ((hi : Int)).toNat with | some k => (k : Int) | none => -1) = -1 := by rw [Int.toNat_natCast, Int.toNat_natCast, hnone]
            refine' xs_cons (x_assign (d := .int (-1)) ?h ?e ?k) ?_
            case h => walk_at "ev"
            case e => exact congrArg D.int e4
            case k => walk_at "kd"
            refine' xs_ret (x_then ?t ?e ?b)
            case t => walk_at "evc"
            case e => rfl
            case b => walk_at "ret"; rfl
end
end Mine
namespace Mine
section
variable {prog : Program} {w : World}
theorem pat_of {K : Frag} {pa ca : Addr} {code : Array Nat} {o co : Obj} {fs items : Array Value} {n : Nat} (h1 : K.lookup pa = some o) (h2 : o.cls = .type "re.Pattern") (h3 : o.dict = none) (h4 : o.data = .fields fs) (h5 : fs[6]? = some (.int 0 0)) (h6 : fs[5]? = some (.ref ca)) (h7 : fs[2]? = some (.int 0 0))
    (h8 : K.lookup ca = some co) (h9 : co.cls = .type "tuple") (h10 : co.data = .seq items n) (h11 : (items.map Builtin.Re.reRawOf).map (·.toNat) = code) : Pat K pa code := fun _ X =>
  ⟨o, fs, ca, items, n, co, X _ _ h1, h2, h3, h4, h5, h6, h7, X _ _ h8, h9, h10, h11⟩
theorem pat1 : Pat (hd2.heap_39 w.params) 50 Re.code1 := pat_of (o := obAt (hd2.heap_39 w.params) 50) (co := obAt (hd2.heap_39 w.params) 49) (ca := 49) rfl rfl rfl rfl rfl rfl rfl rfl rfl rfl (by decide +kernel)
theorem pat2 : Pat (hd2.heap_39 w.params) 55 Re.code2 := pat_of (o := obAt (hd2.heap_39 w.params) 55) (co := obAt (hd2.heap_39 w.params) 54) (ca := 54) rfl rfl rfl rfl rfl rfl rfl rfl rfl rfl (by decide +kernel)
theorem g_re1 : Glob (hd2.heap_39 w.params) "_twin_re_1" (.ref 50) := .top rfl
theorem g_re2 : Glob (hd2.heap_39 w.params) "_twin_re_2" (.ref 55) := .top rfl
theorem g_crlf : GlobD (hd2.heap_39 w.params) "CRLF" (.str [13, 10]) := ⟨_, .top rfl, fun _ _ => ⟨_, rfl⟩⟩
theorem fn_quote {x : List Nat} (hz : x.length ≤ 4000) : Fn prog w (hd2.heap_39 w.params) 2 62 [.str x] (.str (Re.quote x)) := by
  have g1 := g_re1 (w := w)
  have g2 := g_re2 (w := w)
  have g3 := g_crlf (w := w)
  have p1 := pat1 (w := w)
  have p2 := pat2 (w := w)
  refine DefAt.enter (ps := ["data"]) ⟨obAt (hd2.heap_39 w.params) 62, fdAt (hd2.heap_39 w.params) 62, by rfl, by rfl, by rfl, by rfl, ?_, by rfl, by rfl, by rfl, by rfl⟩ rfl ?_ ?_ ?_ ?_ ?_
  · intro vs h; match vs, h with | [a], _ => rfl
  · intro n x hx; simp at hx; subst hx; exact .inl (by rfl)
  · exact List.nodup_nil
  · decide
  · exact ⟨_, List.mem_cons_self, by rfl⟩
  · intro L qual code A hA
    generalize hd2.heap_39 w.params = K at g1 g2 g3 p1 p2 ⊢
    have hn := Re.norm_len _ x (Nat.le_refl _)
    have e2 : Re.subF (Re.srch2 x) x [13, 10] (x.length + 1) 0 = Re.norm x := Re.sub2 x (x.length + 1) 0 (by omega) (by omega)
    have e1 : Re.subF (Re.srch1 (Re.norm x)) (Re.norm x) [46, 46] ((Re.norm x).length + 1) 0 = Re.quote x := Re.sub1 (Re.norm x) _ 0 (by omega) (by omega)
    refine' xs_ret (x_retFlat (d := .str (Re.quote x)) (ev_sub (x := Re.norm x) (r := [46, 46]) ?f1 p1 (Re.srch1_ok _ (by omega)) (by omega) (by decide) (by simp [S]) ?a (Ev.cast (ev_sub (x := x) (r := [13, 10]) ?f2 p2 (Re.srch2_ok _) (by omega) (by decide) (by simp [S]) ?b ?c) (by rw [e2]))) (by rw [e1]) rfl)
    case f1 => walk_at "evf"
    case f2 => walk_at "evf"
    case a => exact ev_str
    case b => walk_at "ev"
    case c => walk_at "ev"
end
end Mine
namespace Mine
/-! ### split, replace and contains, by the parts between -/
def atL (x y : List Nat) (k : Nat) : Prop := k + y.length ≤ x.length ∧ (x.drop k).take y.length = y
def TP (y : List Nat) : List Nat → List (List Nat) → Prop
  | _, [] => False
  | x, [p] => x = p ∧ ∀ k, ¬ atL x y k
  | x, p :: q :: r => ∃ x', x = p ++ y ++ x' ∧ (∀ k, k < p.length → ¬ atL x y k) ∧ TP y x' (q :: r)
def cutsOf (w : Nat) : Nat → List (List Nat) → List Nat
  | _, [] => []
  | _, [_] => []
  | a, p :: q :: r => (a + p.length) :: cutsOf w (a + p.length + w) (q :: r)
theorem At_atL {x y : List Nat} {k : Nat} : StrLaws.At (S x) (S y) (S x).length k ↔ atL x y k := by
  rw [At_iff]
  unfold atL
  simp [Str.length]
theorem atL_drop {x y : List Nat} {a k : Nat} (ha : a ≤ x.length) : atL (x.drop a) y k ↔ atL x y (a + k) := by
  unfold atL
  rw [List.drop_drop, List.length_drop]
  constructor
  · rintro ⟨h1, h2⟩; exact ⟨by omega, h2⟩
  · rintro ⟨h1, h2⟩; exact ⟨by omega, h2⟩
theorem cuts_eq {x y : List Nat} (hy : y ≠ []) : ∀ (ps : List (List Nat)) (a : Nat) (cuts : List Nat) (f : Nat), a ≤ x.length → TP y (x.drop a) ps → StrLaws.ChainG (S x) (S y) (S x).length a cuts f → (∀ k, f ≤ k → ¬ StrLaws.At (S x) (S y) (S x).length k) →
    cuts = cutsOf y.length a ps ∧ StrLaws.partsFrom (S x) y.length a cuts = ps.map S
  | [], _, _, _, _, h, _, _ => h.elim
  | [p], a, cuts, f, ha, h, hc, hf => by
    obtain ⟨h1, h2⟩ := h
    cases cuts with
    | nil =>
      refine ⟨rfl, ?_⟩
      show [Builtin.Str.strSub (S x) a (S x).length] = [S p]
      congr 1
      apply Str.ext'
      apply Array.toList_inj.mp
      rw [StrLaws.strSub_toList, ← h1]
      simp [Str.length, List.take_of_length_le]
    | cons c r =>
      obtain ⟨g1, g2, g3, g4⟩ := hc
      exact absurd ((atL_drop ha).mpr (by rw [show a + (c - a) = c by omega]; exact At_atL.mp g2)) (h2 (c - a))
  | p :: q :: r, a, cuts, f, ha, h, hc, hf => by
    obtain ⟨x', h1, h2, h3⟩ := h
    have hlen := congrArg List.length h1
    simp at hlen
    have hat : StrLaws.At (S x) (S y) (S x).length (a + p.length) := by
      rw [At_atL]
      have : atL (x.drop a) y p.length := by
        rw [h1]; unfold atL; simp
      exact (atL_drop ha).mp this
    have hno : ∀ k, a ≤ k → k < a + p.length → ¬ StrLaws.At (S x) (S y) (S x).length k := fun k q1 q2 q => by
      refine h2 (k - a) (by omega) ((atL_drop ha).mpr ?_)
      rw [show a + (k - a) = k by omega]; exact At_atL.mp q
    cases cuts with
    | nil =>
      have e : f = a := hc
      exact absurd hat (hf _ (by omega))
    | cons c rs =>
      obtain ⟨g1, g2, g3, g4⟩ := hc
      have hc' : c = a + p.length := by
        rcases Nat.lt_trichotomy c (a + p.length) with q | q | q
        · exact absurd g2 (hno c g1 q)
        · exact q
        · exact absurd hat (g3 _ (by omega) q)
      subst hc'
      have hx' : x.drop (a + p.length + y.length) = x' := by
        have := congrArg (List.drop (p.length + y.length)) h1
        rw [List.drop_drop, ← Nat.add_assoc] at this
        rw [this, ← List.length_append, List.drop_left]
      have ih := cuts_eq hy (q :: r) (a + p.length + y.length) rs f (by omega) (by rw [hx']; exact h3) (by simpa [Str.length] using g4) hf
      refine ⟨?_, ?_⟩
      · show _ = (a + p.length) :: cutsOf y.length (a + p.length + y.length) (q :: r)
        rw [← ih.1]
      · show Builtin.Str.strSub (S x) a (a + p.length) :: StrLaws.partsFrom (S x) y.length (a + p.length + y.length) rs = S p :: (q :: r).map S
        rw [ih.2]
        congr 1
        apply Str.ext'
        apply Array.toList_inj.mp
        rw [StrLaws.strSub_toList]
        show (x.drop a).take (a + p.length - a) = p
        rw [h1]; simp
theorem kind_one {y : List Nat} (h : y.all (· < 256) = true) : Builtin.Str.strKind (S y) = 1 := by
  unfold Builtin.Str.strKind
  rw [if_pos (by simpa using h)]
theorem kind_ge (x : Str) : 1 ≤ Builtin.Str.strKind x := by
  unfold Builtin.Str.strKind
  split
  · omega
  · split <;> omega
theorem occ_of {x y : List Nat} {ps : List (List Nat)} (hy : y ≠ []) (h : TP y x ps) : Builtin.Str.occurrences (S x) (S y) 0 (S x).length ((S x).length + 1) = cutsOf y.length 0 ps ∧ StrLaws.partsFrom (S x) y.length 0 (cutsOf y.length 0 ps) = ps.map S := by
  obtain ⟨f, h1, h2⟩ := StrLaws.occ_tight (S x) (S y) (by cases y with | nil => exact absurd rfl hy | cons _ _ => simp [Str.length])
  have := cuts_eq hy ps 0 _ f (Nat.zero_le _) (by simpa using h) h1 h2
  exact ⟨this.1, by rw [← this.1]; exact this.2⟩
theorem TP.long {x y : List Nat} {p q : List Nat} {r : List (List Nat)} (h : TP y x (p :: q :: r)) : y.length ≤ x.length := by
  obtain ⟨x', h1, _⟩ := h
  rw [h1]; simp; omega
theorem split_of {x y : List Nat} {ps : List (List Nat)} (hy : y ≠ []) (hk : y.all (· < 256) = true) (h : TP y x ps) : Txt.split (S x) (S y) = ps.map S := by
  obtain ⟨h1, h2⟩ := occ_of hy h
  unfold Txt.split
  rw [h1]
  have e2 : decide (Builtin.Str.strKind (S x) < Builtin.Str.strKind (S y)) = false := by
    rw [kind_one hk]
    have := kind_ge (S x)
    simp; omega
  rw [e2, Bool.or_false]
  match ps, h with
  | [p], h => rw [h.1]; simp [cutsOf]
  | p :: q :: r, h =>
    have := h.long
    rw [if_neg (by simp [Str.length]; omega), if_neg (by simp [cutsOf]), StrLaws.partsBetween_eq]
    simpa [Str.length] using h2
theorem contains_of {x y : List Nat} {ps : List (List Nat)} (h : TP y x ps) : Txt.contains (S x) (S y) = decide (1 < ps.length) := by
  unfold Txt.contains
  match ps, h with
  | [p], h =>
    rcases Ops.occ_head (S x) (S y) 0 (S x).length with ⟨e, _⟩ | ⟨i, r, e, h1, h2, h3⟩
    · rw [e]; rfl
    · exact absurd (At_atL.mp h2) (h.2 i)
  | p :: q :: r, h =>
    rcases Ops.occ_head (S x) (S y) 0 (S x).length with ⟨e, hn⟩ | ⟨i, r, e, h1, h2, h3⟩
    · obtain ⟨x', g1, g2, g3⟩ := h
      exact absurd (At_atL.mpr (show atL x y p.length by rw [g1]; unfold atL; simp)) (hn _ (Nat.zero_le _))
    · rw [e]; simp
end Mine

namespace Mine
theorem hexD_step {n f : Nat} (h1 : 1 ≤ f) (h2 : f < 16) : hexD (16 * n + f) = hexD n ++ [f] := by
  rw [hexD, if_neg (by omega), show (16 * n + f) / 16 = n by omega, show (16 * n + f) % 16 = f by omega]
theorem hexD_zero : hexD 0 = [] := by rw [hexD]; rfl
theorem hexD_one {f : Nat} (h1 : 1 ≤ f) (h2 : f < 16) : hexD f = [f] := by
  have := hexD_step (n := 0) h1 h2
  rw [hexD_zero] at this
  simpa using this
theorem hexD_len : ∀ (k n : Nat), n < 16 ^ k → (hexD n).length ≤ k
  | 0, n, h => by
    have : n = 0 := by simpa using h
    subst this; simp [hexD_zero]
  | k + 1, n, h => by
    rw [hexD]
    split
    · simp
    · have := hexD_len k (n / 16) (by rw [Nat.pow_succ] at h; omega)
      simp; omega
theorem ap_str {l : List Nat} (h : ∀ d ∈ l, d < 16) : (apB l).map (·.toNat) = aps l := by
  show (l.map fun d => UInt8.ofNat (65 + d)).map (·.toNat) = l.map (65 + ·)
  rw [List.map_map]
  refine List.map_congr_left fun d hd => ?_
  have := h d hd
  show (UInt8.ofNat (65 + d)).toNat = 65 + d
  rw [UInt8.toNat_ofNat']
  omega
theorem op_ap {prog : Program} {w : World} {A : Around} {K : Frag} {n : Nat} (hn : n < 16 ^ 100) : Op prog w A K (cb "bytes.decode") [.bytes (apB (hexD n))] (.str (aps (hexD n))) := by
  have h := hexD_len 100 n hn
  refine (Ops.op_decode (by simp; omega) fun x hx => ?_).cast (by rw [ap_str hexD_lt])
  obtain ⟨d, hd, rfl⟩ := List.mem_map.mp hx
  have := hexD_lt d hd
  rw [UInt8.toNat_ofNat']
  omega
theorem letterAt {f : Nat} (h : f < 16) : (Str.ofString "ABCDEFGHIJKLMNOP").cps.toList[((f : Nat) : Int).toNat]? = some (65 + f) := by
  have : ∀ k : Fin 16, (Str.ofString "ABCDEFGHIJKLMNOP").cps.toList[k.1]? = some (65 + k.1) := by decide
  exact this ⟨f, h⟩
end Mine

namespace Mine
/-! ### _law_let_go -/
def pushF (s : List Int × List Int) (f : Int) : List Int × List Int := (s.1 ++ s.2.takeWhile (· < f), f :: s.2.dropWhile (· < f))
def letGo (figs : List Int) : List Int := (figs.foldl pushF ([], [])).1 ++ (figs.foldl pushF ([], [])).2
theorem push_len (figs : List Int) : ∀ (s : List Int × List Int), (figs.foldl pushF s).1.length + (figs.foldl pushF s).2.length = s.1.length + s.2.length + figs.length := by
  induction figs with
  | nil => intro s; simp
  | cons f figs ih =>
    intro s
    rw [List.foldl_cons, ih]
    have := congrArg List.length (List.takeWhile_append_dropWhile (p := (· < f)) (l := s.2))
    rw [List.length_append] at this
    simp [pushF]
    omega
theorem takeWhile_take {p : Int → Bool} : ∀ (l : List Int), l.take (l.takeWhile p).length = l.takeWhile p ∧ l.drop (l.takeWhile p).length = l.dropWhile p
  | [] => by simp
  | a :: l => by
    cases h : p a
    · simp [h]
    · have := takeWhile_take (p := p) l
      simp [h, this.1, this.2]
theorem takeWhile_at {p : Int → Bool} : ∀ (l : List Int) (j : Nat), j < (l.takeWhile p).length → ∃ a r, l.drop j = a :: r ∧ p a = true ∧ l.drop (j + 1) = r ∧ l.take (j + 1) = l.take j ++ [a]
  | [], j, h => by simp at h
  | a :: l, 0, h => by
    cases hp : p a
    · simp [hp] at h
    · exact ⟨a, l, rfl, hp, rfl, rfl⟩
  | a :: l, j + 1, h => by
    cases hp : p a
    · simp [hp] at h
    · obtain ⟨b, r, h1, h2, h3, h4⟩ := takeWhile_at (p := p) l j (by simpa [hp] using h)
      exact ⟨b, r, by simpa using h1, h2, by simpa using h3, by simp [h4]⟩
theorem dropWhile_head {p : Int → Bool} : ∀ (l : List Int), l.dropWhile p = [] ∨ ∃ a r, l.dropWhile p = a :: r ∧ p a = false
  | [] => .inl rfl
  | a :: l => by
    cases hp : p a
    · exact .inr ⟨a, l, by simp [hp], hp⟩
    · rcases dropWhile_head (p := p) l with h | ⟨b, r, h1, h2⟩
      · exact .inl (by simpa [hp] using h)
      · exact .inr ⟨b, r, by simpa [hp] using h1, h2⟩
theorem allFlat_dI : ∀ ns : List Int, allFlat (ns.map .int) = true
  | [] => rfl
  | _ :: ns => by show (true && allFlat (ns.map .int)) = true; rw [allFlat_dI ns]; rfl
section
variable {prog : Program} {w : World}
theorem fn_letgo {figs : List Int} (hz : figs.length ≤ 100) : Fn prog w (hd2.heap_39 w.params) 2 69 [dI figs] (dI (letGo figs)) := by
  refine DefAt.enter (ps := ["figures"]) ⟨obAt (hd2.heap_39 w.params) 69, fdAt (hd2.heap_39 w.params) 69, by rfl, by rfl, by rfl, by rfl, ?_, by rfl, by rfl, by rfl, by rfl⟩ rfl ?_ ?_ ?_ ?_ ?_
  · intro vs h; obtain ⟨a, rfl⟩ : ∃ a, vs = [a] := List.length_eq_one_iff.mp h; rfl
  · intro n x hx; simp at hx; subst hx; exact .inl (by rfl)
  · exact List.nodup_nil
  · decide
  · exact ⟨_, List.mem_cons_self, by rfl⟩
  · intro L qual code A hA
    generalize hd2.heap_39 w.params = K
    walk_at "asgn"
    walk_at "asgn"
    let St : Nat → List Int × List Int := fun i => (figs.take i).foldl pushF ([], [])
    have hSl : ∀ i, (St i).1.length + (St i).2.length ≤ 100 := fun i => by
      have := push_len (figs.take i) ([], [])
      have h2 : (figs.take i).length ≤ figs.length := by rw [List.length_take]; omega
      simp at this
      show ((figs.take i).foldl pushF ([], [])).1.length + ((figs.take i).foldl pushF ([], [])).2.length ≤ 100
      omega
    let ρs : Nat → Rho := fun i => [("gone", .own ((St i).1.map .int)), ("pile", .own ((St i).2.reverse.map .int)), ("figures", .d (.lst (figs.map .int)))]
    refine Xs.pre (ρ₁ := ρs 0) (.cons rfl (.cons rfl (.cons rfl .nil))) ?_
    refine' xs_cons (x_for (ds := figs.map .int) ρs ?I0 ?step0) ?_
    case I0 => walk_at "evi"
    case step0 =>
      intro i d hd
      obtain ⟨f, hf, rfl⟩ : ∃ f, figs[i]? = some f ∧ D.int f = d := by simpa using hd
      refine ⟨_, bd_name (by walk_at "kd"), ?_⟩
      have hSt : St (i + 1) = pushF (St i) f := by
        show (figs.take (i + 1)).foldl pushF ([], []) = _
        rw [List.take_add_one, hf]
        simp [St]
      have hSi := hSl i
      generalize hSg : St i = s at hSt hSi
      obtain ⟨g, st⟩ := s
      dsimp only at hSi
      let ρw : Nat → Rho := fun j => [("gone", .own ((g ++ st.take j).map .int)), ("pile", .own ((st.drop j).reverse.map .int)), ("figure", .d (.int f)), ("figures", .d (.lst (figs.map .int)))]
      have hρi : ρs i = ([("gone", .own (g.map .int)), ("pile", .own (st.reverse.map .int)), ("figures", .d (.lst (figs.map .int)))] : Rho) := by
        show ([("gone", .own ((St i).1.map .int)), ("pile", .own ((St i).2.reverse.map .int)), ("figures", .d (.lst (figs.map .int)))] : Rho) = _
        rw [hSg]
      rw [hρi]
      refine Xs.pre (ρ₁ := ρw 0) (.cons (by show some (B.own (g.map .int)) = some (B.own ((g ++ []).map .int)); rw [List.append_nil]) (.cons rfl (.cons rfl (.cons rfl .nil)))) ?_
      have hpn : ∀ l : List Int, plL (l.map D.int) = true := fun l => by
        induction l with
        | nil => rfl
        | cons a l ih => show (true && plL (l.map .int)) = true; rw [ih]; rfl
      have hln : ∀ l : List Int, lowL 7 (l.map D.int) = true := fun l => by
        induction l with
        | nil => rfl
        | cons a l ih => show (true && lowL 7 (l.map .int)) = true; rw [ih]; rfl
      refine' xs_cons (x_while (st.takeWhile (· < f)).length ρw ?t1 ?b1 ?f1) ?_
      case t1 =>
        intro j hj
        obtain ⟨a, r, h1, h2, h3, h4⟩ := takeWhile_at st j hj
        have hlen : (st.drop j).length ≤ 100 := by rw [List.length_drop]; omega
        refine' EvC.cast (evC_and (a := true) (b := true) (EvC.cast (evC_cmp ?l1 ?r1 (op_ne (n := 1) (a := dI (st.drop j).reverse) (b := .lst []) hA (show plL _ = true from hpn _) rfl (show lowL 7 _ = true from hln _)) ?m1) ?c1) (fun _ => EvC.cast (evC_cmp (d₁ := .int a) ?l2 ?r2 op_lt ?m2) ?c2)) rfl
        case l1 => walk_at "ev"
        case r1 => exact EvN.ev (evN_list evL_nil (by simp))
        case m1 => intro _; rfl
        case c1 => rw [h1]; simp [eqD]; cases r.reverse <;> simp [eqL]
        case l2 =>
          refine' ev_index (d₁ := dI (st.drop j).reverse) (i := -1) ?v3 ?s3 rfl (op_itemLast ?o3 ?z3)
          case v3 => walk_at "ev"
          case s3 => walk_at "ev"
          case o3 => rw [h1]; simp
          case z3 => simp; omega
        case r2 => walk_at "ev"
        case m2 => intro _; rfl
        case c2 => exact h2
      case b1 =>
        intro j hj
        obtain ⟨a, r, h1, h2, h3, h4⟩ := takeWhile_at st j hj
        have hlen : (st.drop j).length ≤ 100 := by rw [List.length_drop]; omega
        have hr : r.length ≤ 100 := by rw [h1] at hlen; simp at hlen; omega
        have htk : (st.take j).length ≤ 100 := by rw [List.length_take]; omega
        refine xs_cons (x_appendPop (l := (g ++ st.take j).map .int) (l' := r.reverse.map .int) (d := .int a) rfl (show some (B.own ((st.drop j).reverse.map .int)) = _ by rw [h1]; simp) (by decide) (by simp; omega) (by simp; omega) rfl rfl (by decide) (by decide) (by decide) (by decide) rfl rfl rfl rfl rfl rfl rfl rfl rfl rfl) (Xs.sub xs_nil (.cons ?_ (.cons ?_ (.cons rfl (.cons rfl .nil)))))
        · show some (B.own ((g ++ st.take j).map .int ++ [.int a])) = some (B.own ((g ++ st.take (j + 1)).map .int))
          rw [h4]; simp
        · show some (B.own (r.reverse.map .int)) = some (B.own ((st.drop (j + 1)).reverse.map .int))
          rw [h3]
      case f1 =>
        obtain ⟨e1, e2⟩ := takeWhile_take (p := (· < f)) st
        have hlen : (st.drop (st.takeWhile (· < f)).length).length ≤ 100 := by rw [List.length_drop]; omega
        rcases dropWhile_head (p := (· < f)) st with h | ⟨a, r, h1, h2⟩
        · refine' EvC.cast (evC_and (a := false) (b := false) (EvC.cast (evC_cmp ?l4 ?r4 (op_ne (n := 1) (a := dI (st.drop (st.takeWhile (· < f)).length).reverse) (b := .lst []) hA (show plL _ = true from hpn _) rfl (show lowL 7 _ = true from hln _)) ?m4) ?c4) (fun h => nomatch h)) rfl
          case l4 => walk_at "ev"
          case r4 => exact EvN.ev (evN_list evL_nil (by simp))
          case m4 => intro _; rfl
          case c4 => rw [e2, h]; rfl
        · refine' EvC.cast (evC_and (a := true) (b := false) (EvC.cast (evC_cmp ?l5 ?r5 (op_ne (n := 1) (a := dI (st.drop (st.takeWhile (· < f)).length).reverse) (b := .lst []) hA (show plL _ = true from hpn _) rfl (show lowL 7 _ = true from hln _)) ?m5) ?c5) (fun _ => EvC.cast (evC_cmp (d₁ := .int a) ?l6 ?r6 op_lt ?m6) ?c6)) rfl
          case l5 => walk_at "ev"
          case r5 => exact EvN.ev (evN_list evL_nil (by simp))
          case m5 => intro _; rfl
          case c5 => rw [e2, h1]; simp [eqD]; cases r.reverse <;> simp [eqL]
          case l6 =>
            refine' ev_index (d₁ := dI (st.drop (st.takeWhile (· < f)).length).reverse) (i := -1) ?v7 ?s7 rfl (op_itemLast ?o7 ?z7)
            case v7 => walk_at "ev"
            case s7 => walk_at "ev"
            case o7 => rw [e2, h1]; simp
            case z7 => simp; omega
          case r6 => walk_at "ev"
          case m6 => intro _; rfl
          case c6 => exact h2
      obtain ⟨e1, e2⟩ := takeWhile_take (p := (· < f)) st
      have hlen : (st.drop (st.takeWhile (· < f)).length).length ≤ 100 := by rw [List.length_drop]; omega
      refine' xs_cons (x_append (l' := (f :: st.dropWhile (· < f)).reverse.map .int) (d := .int f) rfl ?h8 ?l8 ?z8) (Xs.sub xs_nil (.cons ?g8 (.cons ?p8 (.cons rfl .nil))))
      case h8 => walk_at "ev"
      case l8 => rw [e2]; simp
      case z8 => simp; omega
      case g8 =>
        show some (B.own ((g ++ st.take (st.takeWhile (· < f)).length).map .int)) = some (B.own ((St (i + 1)).1.map .int))
        rw [hSt, e1]; rfl
      case p8 =>
        show some (B.own ((f :: st.dropWhile (· < f)).reverse.map .int)) = some (B.own ((St (i + 1)).2.reverse.map .int))
        rw [hSt]; rfl
    have hfin : St (figs.map D.int).length = figs.foldl pushF ([], []) := by
      show (figs.take (figs.map D.int).length).foldl pushF ([], []) = _
      rw [List.length_map, List.take_length]
    have hSf := hSl (figs.map D.int).length
    rw [hfin] at hSf
    refine Xs.pre (ρ₁ := [("gone", .own ((figs.foldl pushF ([], [])).1.map .int)), ("pile", .own ((figs.foldl pushF ([], [])).2.reverse.map .int))]) (.cons (by rw [← hfin]; rfl) (.cons (by rw [← hfin]; rfl) .nil)) ?_
    refine Xs.give (x := "gone") rfl ?_
    refine Xs.give (x := "pile") (l := (figs.foldl pushF ([], [])).2.reverse.map .int) rfl ?_
    refine' xs_ret (x_retN (l := (letGo figs).map .int) (evN_bin ?l9 ?r9 (opN_cat ?o9)) ?e9 (allFlat_dI _))
    case l9 => walk_at "ev"
    case r9 => walk_at "ev"
    case o9 => simp; omega
    case e9 => unfold letGo; simp
end
end Mine
namespace Mine
/-! ### law 02: the order in which the pile lets go -/
/-- y ahead of x with a greater z between -/
def Pat3 (p : List Int) (y x : Int) : Prop := ∃ z ∈ p, y < z ∧ p.idxOf y < p.idxOf z ∧ p.idxOf z < p.idxOf x
structure InvG (p g st : List Int) : Prop where
  perm : (g ++ st).Perm p
  up : st.Pairwise (· < ·)
  gone : ∀ y ∈ p, (y ∈ g ↔ ∃ z ∈ p, y < z ∧ p.idxOf y < p.idxOf z)
  ord : ∀ x ∈ p, ∀ y ∈ p, x < y → ((g ++ st).idxOf y < (g ++ st).idxOf x ↔ Pat3 p y x)
theorem idx_snoc {p : List Int} {f a : Int} (ha : a ∈ p) : (p ++ [f]).idxOf a = p.idxOf a := by
  rw [List.idxOf_append, if_pos ha]
theorem idx_last {p : List Int} {f : Int} (hf : f ∉ p) : (p ++ [f]).idxOf f = p.length := by
  rw [List.idxOf_append, if_neg hf]; simp
theorem takeW_lt {f : Int} : ∀ (l : List Int), ∀ a ∈ l.takeWhile (· < f), a < f
  | [], a, h => by simp at h
  | b :: l, a, h => by
    by_cases hb : b < f
    · rw [List.takeWhile_cons_of_pos (by simpa using hb)] at h
      rcases List.mem_cons.mp h with q | q
      · omega
      · exact takeW_lt l a q
    · rw [List.takeWhile_cons_of_neg (by simpa using hb)] at h; cases h
theorem dropW_ge {f : Int} : ∀ (l : List Int), l.Pairwise (· < ·) → ∀ a ∈ l.dropWhile (· < f), f ≤ a
  | [], _, a, h => by simp at h
  | b :: l, hp, a, h => by
    obtain ⟨h1, h2⟩ := List.pairwise_cons.mp hp
    by_cases hb : b < f
    · rw [List.dropWhile_cons_of_pos (by simpa using hb)] at h
      exact dropW_ge l h2 a h
    · rw [List.dropWhile_cons_of_neg (by simpa using hb)] at h
      rcases List.mem_cons.mp h with q | q
      · omega
      · have := h1 a q; omega
theorem InvG.step {p g st : List Int} {f : Int} (h : InvG p g st) (hf : f ∉ p) (hnd : p.Nodup) : InvG (p ++ [f]) (g ++ st.takeWhile (· < f)) (f :: st.dropWhile (· < f)) := by
  have hst : st = st.takeWhile (· < f) ++ st.dropWhile (· < f) := (List.takeWhile_append_dropWhile).symm
  have hmem : ∀ a, a ∈ p ↔ a ∈ g ∨ a ∈ st := fun a => by rw [← h.perm.mem_iff, List.mem_append]
  have hP := takeW_lt (f := f) st
  have hR := dropW_ge (f := f) st h.up
  generalize st.takeWhile (· < f) = P at hst hP ⊢
  generalize st.dropWhile (· < f) = R at hst hR ⊢
  subst hst
  have hRf : ∀ a ∈ R, f < a := fun a ha => by
    have h1 := hR a ha
    have : a ≠ f := fun e => hf ((hmem f).mpr (.inr (List.mem_append_right _ (e ▸ ha))))
    omega
  have hupR := (List.pairwise_append.mp h.up).2.1
  have hG : (g ++ (P ++ R)).Nodup := h.perm.nodup_iff.mpr hnd
  constructor
  · have : (g ++ P ++ f :: R).Perm (f :: (g ++ (P ++ R))) := by
      rw [← List.append_assoc]; exact List.perm_middle
    exact this.trans ((h.perm.cons f).trans (List.perm_append_singleton f p).symm)
  · exact List.pairwise_cons.mpr ⟨hRf, hupR⟩
  · intro y hy
    have hlt : ∀ a ∈ p, p.idxOf a < p.length := fun a ha => List.idxOf_lt_length_iff.mpr ha
    have hle : ∀ z ∈ p ++ [f], (p ++ [f]).idxOf z ≤ p.length := fun z hz => by
      rcases List.mem_append.mp hz with q | q
      · rw [idx_snoc q]; exact Nat.le_of_lt (hlt z q)
      · rw [List.mem_singleton.mp q, idx_last hf]; exact Nat.le_refl _
    rcases List.mem_append.mp hy with q | q
    · constructor
      · intro hg
        rcases List.mem_append.mp hg with r | r
        · obtain ⟨z, hz, h1, h2⟩ := (h.gone y q).mp r
          exact ⟨z, List.mem_append_left _ hz, h1, by rw [idx_snoc q, idx_snoc hz]; exact h2⟩
        · exact ⟨f, by simp, hP y r, by rw [idx_snoc q, idx_last hf]; exact hlt y q⟩
      · rintro ⟨z, hz, h1, h2⟩
        rcases List.mem_append.mp hz with r | r
        · rw [idx_snoc q, idx_snoc r] at h2
          exact List.mem_append_left _ ((h.gone y q).mpr ⟨z, r, h1, h2⟩)
        · have e := List.mem_singleton.mp r
          subst e
          rcases (hmem y).mp q with t | t
          · exact List.mem_append_left _ t
          · rcases List.mem_append.mp t with t | t
            · exact List.mem_append_right _ t
            · have := hRf y t; omega
    · have e := List.mem_singleton.mp q
      subst e
      constructor
      · intro hg
        rcases List.mem_append.mp hg with r | r
        · exact absurd ((hmem y).mpr (.inl r)) hf
        · exact absurd ((hmem y).mpr (.inr (List.mem_append_left _ r))) hf
      · rintro ⟨z, hz, h1, h2⟩
        have := hle z hz
        rw [idx_last hf] at h2; omega
  · have hlt : ∀ a ∈ p, p.idxOf a < p.length := fun a ha => List.idxOf_lt_length_iff.mpr ha
    have hfg : f ∉ g ++ P := fun q => by
      rcases List.mem_append.mp q with r | r
      · exact hf ((hmem f).mpr (.inl r))
      · exact hf ((hmem f).mpr (.inr (List.mem_append_left _ r)))
    have i1 : ∀ a, a ∈ g ++ P → (g ++ P ++ f :: R).idxOf a = (g ++ (P ++ R)).idxOf a ∧ (g ++ P ++ f :: R).idxOf a < (g ++ P).length := fun a ha => by
      have e1 : (g ++ P ++ f :: R).idxOf a = (g ++ P).idxOf a := by
        have := List.idxOf_append (a := a) (l₁ := g ++ P) (l₂ := f :: R); rw [if_pos ha] at this; exact this
      have e2 : (g ++ P ++ R).idxOf a = (g ++ P).idxOf a := by
        have := List.idxOf_append (a := a) (l₁ := g ++ P) (l₂ := R); rw [if_pos ha] at this; exact this
      rw [← List.append_assoc, e1, e2]
      exact ⟨rfl, List.idxOf_lt_length_iff.mpr ha⟩
    have i2 : ∀ a, a ∈ R → a ∉ g ++ P → (g ++ P ++ f :: R).idxOf a = (g ++ (P ++ R)).idxOf a + 1 ∧ (g ++ P).length ≤ (g ++ (P ++ R)).idxOf a := fun a ha hn => by
      have hne : f ≠ a := by have := hRf a ha; omega
      have e1 : (g ++ P ++ f :: R).idxOf a = (f :: R).idxOf a + (g ++ P).length := by
        have := List.idxOf_append (a := a) (l₁ := g ++ P) (l₂ := f :: R); rw [if_neg hn] at this; exact this
      have e2 : (g ++ P ++ R).idxOf a = R.idxOf a + (g ++ P).length := by
        have := List.idxOf_append (a := a) (l₁ := g ++ P) (l₂ := R); rw [if_neg hn] at this; exact this
      have e3 : (f :: R).idxOf a = R.idxOf a + 1 := by
        rw [List.idxOf_cons, beq_eq_false_iff_ne.mpr hne]; rfl
      rw [← List.append_assoc, e1, e2, e3]
      omega
    have i3 : (g ++ P ++ f :: R).idxOf f = (g ++ P).length := by
      have := List.idxOf_append (a := f) (l₁ := g ++ P) (l₂ := f :: R); rw [if_neg hfg] at this; rw [this]; simp
    have cls : ∀ a ∈ p, a ∈ g ++ P ∨ (a ∈ R ∧ a ∉ g ++ P) := fun a ha => by
      by_cases q : a ∈ g ++ P
      · exact .inl q
      · refine .inr ⟨?_, q⟩
        rcases (hmem a).mp ha with r | r
        · exact absurd (List.mem_append_left _ r) q
        · rcases List.mem_append.mp r with r | r
          · exact absurd (List.mem_append_right _ r) q
          · exact r
    have hpat : ∀ y ∈ p, ∀ x ∈ p, (Pat3 (p ++ [f]) y x ↔ Pat3 p y x) := fun y hy x hx => by
      constructor
      · rintro ⟨z, hz, h1, h2, h3⟩
        rcases List.mem_append.mp hz with r | r
        · rw [idx_snoc hy, idx_snoc r] at h2
          rw [idx_snoc r, idx_snoc hx] at h3
          exact ⟨z, r, h1, h2, h3⟩
        · rw [List.mem_singleton.mp r, idx_last hf, idx_snoc hx] at h3
          have := hlt x hx; omega
      · rintro ⟨z, hz, h1, h2, h3⟩
        exact ⟨z, List.mem_append_left _ hz, h1, by rw [idx_snoc hy, idx_snoc hz]; exact h2, by rw [idx_snoc hz, idx_snoc hx]; exact h3⟩
    have hleA : ∀ z ∈ p ++ [f], (p ++ [f]).idxOf z ≤ p.length := fun z hz => by
      rcases List.mem_append.mp hz with q | q
      · rw [idx_snoc q]; exact Nat.le_of_lt (hlt z q)
      · rw [List.mem_singleton.mp q, idx_last hf]; exact Nat.le_refl _
    intro x hx y hy hxy
    rcases List.mem_append.mp hx with qx | qx
    · rcases List.mem_append.mp hy with qy | qy
      · rw [hpat y qy x qx, ← h.ord x qx y qy hxy]
        rcases cls x qx with a1 | ⟨a1, a2⟩ <;> rcases cls y qy with b1 | ⟨b1, b2⟩
        · have := i1 x a1; have := i1 y b1; omega
        · have := i1 x a1; have := i2 y b1 b2; omega
        · have := i2 x a1 a2; have := i1 y b1; omega
        · have := i2 x a1 a2; have := i2 y b1 b2; omega
      · have e := List.mem_singleton.mp qy
        subst e
        constructor
        · intro hlt2
          rcases cls x qx with a1 | ⟨a1, a2⟩
          · have := i1 x a1; omega
          · have := hRf x a1; omega
        · rintro ⟨z, hz, h1, h2, h3⟩
          have := hleA z hz
          rw [idx_last hf] at h2; omega
    · have e := List.mem_singleton.mp qx
      subst e
      rcases List.mem_append.mp hy with qy | qy
      · rw [i3]
        have key : (g ++ P ++ x :: R).idxOf y < (g ++ P).length ↔ y ∈ g := by
          rcases cls y qy with b1 | ⟨b1, b2⟩
          · have hi := (i1 y b1).2
            constructor
            · intro _
              rcases List.mem_append.mp b1 with r | r
              · exact r
              · have := hP y r; omega
            · intro _; exact hi
          · have := i2 y b1 b2
            constructor
            · intro _; omega
            · intro r; exact absurd (List.mem_append_left _ r) b2
        rw [key, h.gone y qy]
        constructor
        · rintro ⟨z, hz, h1, h2⟩
          exact ⟨z, List.mem_append_left _ hz, h1, by rw [idx_snoc qy, idx_snoc hz]; exact h2, by rw [idx_snoc hz, idx_last hf]; exact hlt z hz⟩
        · rintro ⟨z, hz, h1, h2, h3⟩
          rcases List.mem_append.mp hz with r | r
          · rw [idx_snoc qy, idx_snoc r] at h2
            exact ⟨z, r, h1, h2⟩
          · rw [List.mem_singleton.mp r] at h3; omega
      · have e := List.mem_singleton.mp qy
        omega
theorem invG_all : ∀ (l p g st : List Int), (p ++ l).Nodup → InvG p g st → InvG (p ++ l) (l.foldl pushF (g, st)).1 (l.foldl pushF (g, st)).2
  | [], p, g, st, _, h => by simpa using h
  | f :: l, p, g, st, hnd, h => by
    have h1 := List.nodup_append.mp hnd
    have hf : f ∉ p := fun q => h1.2.2 f q f (by simp) rfl
    have := invG_all l (p ++ [f]) (g ++ st.takeWhile (· < f)) (f :: st.dropWhile (· < f)) (by simpa using hnd) (h.step hf h1.1)
    simpa [pushF] using this
/-- the order in which the first pile lets go -/
theorem letGo_order {figs : List Int} (hnd : figs.Nodup) : (letGo figs).Perm figs ∧ ∀ x ∈ figs, ∀ y ∈ figs, x < y → ((letGo figs).idxOf y < (letGo figs).idxOf x ↔ Pat3 figs y x) := by
  have h0 : InvG [] [] [] := ⟨List.Perm.refl _, List.Pairwise.nil, fun y hy => (nomatch hy), fun x hx => (nomatch hx)⟩
  have := invG_all figs [] [] [] (by simpa using hnd) h0
  rw [List.nil_append] at this
  exact ⟨this.perm, this.ord⟩
end Mine

namespace Mine
theorem idx_rev : ∀ {l : List Int} {a : Int}, l.Nodup → a ∈ l → l.reverse.idxOf a + l.idxOf a + 1 = l.length
  | [], a, _, h => nomatch h
  | b :: l, a, hnd, h => by
    obtain ⟨h1, h2⟩ := List.nodup_cons.mp hnd
    rw [List.reverse_cons]
    by_cases e : a = b
    · subst e
      have := List.idxOf_append (a := a) (l₁ := l.reverse) (l₂ := [a])
      rw [if_neg (by simpa using h1)] at this
      rw [this]
      simp
    · have ha : a ∈ l := (List.mem_cons.mp h).resolve_left e
      have ih := idx_rev h2 ha
      have := List.idxOf_append (a := a) (l₁ := l.reverse) (l₂ := [b])
      rw [if_pos (by simpa using ha)] at this
      rw [this, List.idxOf_cons, beq_eq_false_iff_ne.mpr (fun q => e q.symm)]
      simp
      omega
/-- y .. z .. x told from the end -/
theorem pat_rev {figs : List Int} (hnd : figs.Nodup) {x y : Int} (hx : x ∈ figs) (hy : y ∈ figs) : Pat3 figs.reverse y x ↔ ∃ z ∈ figs, y < z ∧ figs.idxOf x < figs.idxOf z ∧ figs.idxOf z < figs.idxOf y := by
  have rx := idx_rev hnd hx
  have ry := idx_rev hnd hy
  constructor
  · rintro ⟨z, hz, h1, h2, h3⟩
    have hz' : z ∈ figs := by simpa using hz
    have rz := idx_rev hnd hz'
    exact ⟨z, hz', h1, by omega, by omega⟩
  · rintro ⟨z, hz, h1, h2, h3⟩
    have rz := idx_rev hnd hz
    exact ⟨z, by simpa using hz, h1, by omega, by omega⟩
end Mine

namespace Mine
/-! ### _law_word -/
def valI (figs : List Int) : Int := figs.foldl (fun v f => 16 * v + f) 0
section
variable {prog : Program} {w : World}
theorem g_int2ap : Glob (hd2.heap_39 w.params) "Int2AP" (.ref 45) := .top rfl
theorem fa_int2ap : FnAt (hd2.heap_39 w.params) 45 := ⟨obAt (hd2.heap_39 w.params) 45, fdAt (hd2.heap_39 w.params) 45, rfl, rfl⟩
theorem fn_word {figs : List Int} {side : Int} (hz : figs.length ≤ 100) (hs : side.natAbs < 2 ^ 64) (hv : (side * valI figs).natAbs < 16 ^ 100) : Fn prog w (hd2.heap_39 w.params) 4 76 [dI figs, .int side] (.str (aps (hexD (side * valI figs).natAbs))) := by
  have g1 := g_int2ap (w := w)
  have f1 := fa_int2ap (w := w)
  have s1 := fn_int2ap (prog := prog) (w := w) (n := side * valI figs) (by have := hexD_len 100 _ hv; omega)
  refine DefAt.enter (ps := ["figures", "side"]) ⟨obAt (hd2.heap_39 w.params) 76, fdAt (hd2.heap_39 w.params) 76, by rfl, by rfl, by rfl, by rfl, ?_, by rfl, by rfl, by rfl, by rfl⟩ rfl ?_ ?_ ?_ ?_ ?_
  · intro vs h; match vs, h with | [a, b], _ => rfl
  · intro n x hx; simp at hx; rcases hx with rfl | rfl <;> exact .inl (by rfl)
  · exact List.nodup_nil
  · decide
  · exact ⟨_, List.mem_cons_self, by rfl⟩
  · intro L qual code A hA
    generalize hd2.heap_39 w.params = K at g1 f1 s1 ⊢
    walk_at "asg"
    let ρs : Nat → Rho := fun i => [("number", .d (.int (valI (figs.take i)))), ("figures", .d (.lst (figs.map .int))), ("side", .d (.int side))]
    refine Xs.pre (ρ₁ := ρs 0) (.cons rfl (.cons rfl (.cons rfl .nil))) ?_
    refine' xs_cons (x_for (ds := figs.map .int) ρs ?I0 ?step0) ?_
    case I0 => walk_at "evi"
    case step0 =>
      intro i d hd
      obtain ⟨f, hf, rfl⟩ : ∃ f, figs[i]? = some f ∧ D.int f = d := by simpa using hd
      refine ⟨_, bd_name (by walk_at "kd"), ?_⟩
      refine' xs_cons (x_assign (d := .int (valI (figs.take (i + 1)))) ?h1 ?e1 ?k1) (Xs.sub xs_nil (.cons rfl (.cons rfl (.cons rfl .nil))))
      case h1 => walk_at "ev"
      case e1 =>
        rw [List.take_add_one, hf]
        simp [valI]
      case k1 => walk_at "kd"
    refine Xs.pre (ρ₁ := [("number", .d (.int (valI figs))), ("side", .d (.int side))]) (.cons (by show some (B.d (D.int (valI (figs.take (figs.map D.int).length)))) = _; rw [List.length_map, List.take_length]) (.cons rfl .nil)) ?_
    refine' xs_ret (x_retFlat (ev_method (T := "bytes") (d₀ := .bytes (apB (hexD (side * valI figs).natAbs))) ?h2 ?a2 rfl FB.plainAttrs_bytes FB.slot_bytes_decode FB.type_bytes_decode (op_ap hv)) rfl rfl)
    case h2 =>
      refine' ev_callFn ?f3 ?a3 f1 s1 ?A3
      case f3 => walk_at "evf"
      case a3 => walk_at "evl"
      case A3 => walk_at "aok"
    case a2 => walk_at "evl"
end
end Mine
namespace Mine
mutual
theorem eqD_self : ∀ d : D, d.pl = true → eqD d d = true
  | .int _, _ => by simp [eqD]
  | .str _, _ => by simp [eqD]
  | .tup l, h => by simp only [eqD]; exact eqL_self l h
  | .lst l, h => by simp only [eqD]; exact eqL_self l h
  | .none, h => nomatch h
  | .bool _, h => nomatch h
  | .bytes _, h => nomatch h
theorem eqL_self : ∀ l : List D, plL l = true → eqL l l = true
  | [], _ => rfl
  | d :: ds, h => by
    have h' := Bool.and_eq_true_iff.mp h
    simp only [eqL, eqD_self d h'.1, eqL_self ds h'.2, Bool.and_self]
end
theorem plL_map {α : Type} {f : α → D} : ∀ {l : List α}, (∀ a ∈ l, (f a).pl = true) → plL (l.map f) = true
  | [], _ => rfl
  | a :: l, h => by
    show ((f a).pl && plL (l.map f)) = true
    rw [h a (by simp), plL_map fun b hb => h b (by simp [hb])]; rfl
theorem lowL_map {α : Type} {f : α → D} {n : Nat} : ∀ {l : List α}, (∀ a ∈ l, (f a).low n = true) → lowL n (l.map f) = true
  | [], _ => rfl
  | a :: l, h => by
    show ((f a).low n && lowL n (l.map f)) = true
    rw [h a (by simp), lowL_map fun b hb => h b (by simp [hb])]; rfl
def ascii (x : List Nat) : Prop := ∀ c ∈ x, c < 128
theorem pl_str {x : List Nat} (h : ascii x) : (D.str x).pl = true := by
  simp only [D.pl, List.all_eq_true]
  intro c hc
  have := h c hc
  simpa using (show c < 0x110000 by omega)
theorem low_str {x : List Nat} {n : Nat} : (D.str x).low n = true := by cases n <;> rfl
theorem low_int {i : Int} {n : Nat} : (D.int i).low n = true := by cases n <;> rfl

end Mine

namespace Mine
/-! ### _law_order -/
def lessP (pairs : List (List Nat)) (letter x : List Nat) : Bool := decide (x < letter) && !(pairs.any fun y => y == letter ++ x)
def moreP (pairs : List (List Nat)) (letter y : List Nat) : Bool := decide (letter < y) && pairs.any fun z => z == y ++ letter
def posF (letters pairs : List (List Nat)) (letter : List Nat) : Nat := (letters.filter (lessP pairs letter)).length + (letters.filter (moreP pairs letter)).length
def orderF (letters pairs : List (List Nat)) : List (List Nat) := letters.foldl (fun told letter => told.set (posF letters pairs letter) letter) (List.replicate letters.length [])
theorem fold_len (letters pairs : List (List Nat)) : ∀ (l : List (List Nat)) (told : List (List Nat)), (l.foldl (fun told letter => told.set (posF letters pairs letter) letter) told).length = told.length
  | [], _ => rfl
  | a :: l, told => by rw [List.foldl_cons, fold_len letters pairs l]; simp
theorem any_dS (pairs : List (List Nat)) (x : List Nat) : ((pairs.map D.str).any fun y => eqD y (.str x)) = pairs.any fun y => y == x := by
  rw [List.any_map]
  congr 1
section
variable {prog : Program} {w : World}
theorem g_len2 : Glob (hd2.heap_39 w.params) "len" (.builtin "len") := .blt rfl rfl
theorem fn_order {letters pairs : List (List Nat)} (hz : letters.length ≤ 100) (hz2 : pairs.length ≤ 1000) (hl : ∀ x ∈ letters, x.length ≤ 100 ∧ ascii x) (hp : ∀ x ∈ pairs, ascii x) (hpos : ∀ x ∈ letters, posF letters pairs x < letters.length) :
    Fn prog w (hd2.heap_39 w.params) 4 88 [dS letters, dS pairs] (.str (orderF letters pairs).flatten) := by
  have g1 := g_len2 (w := w)
  refine DefAt.enter (ps := ["letters", "pairs"]) ⟨obAt (hd2.heap_39 w.params) 88, fdAt (hd2.heap_39 w.params) 88, by rfl, by rfl, by rfl, by rfl, ?_, by rfl, by rfl, by rfl, by rfl⟩ rfl ?_ ?_ ?_ ?_ ?_
  · intro vs h; match vs, h with | [a, b], _ => rfl
  · intro n x hx; simp at hx; rcases hx with rfl | rfl <;> first | exact .inl (by rfl) | exact .inr ⟨by rfl, by rfl⟩
  · decide
  · decide
  · exact ⟨_, List.mem_cons_self, by rfl⟩
  · intro L qual code A hA
    generalize hd2.heap_39 w.params = K at g1 ⊢
    have hpl1 : plL (pairs.map .str) = true := plL_map fun x hx => pl_str (hp x hx)
    refine' xs_cons (x_assignOwn (l := (List.replicate letters.length ([] : List Nat)).map .str) ?h0 ?e0 ?k0) ?_
    case h0 => walk_at "evn"
    case e0 =>
      rw [List.length_map, Int.toNat_natCast, List.map_replicate]
      show (List.replicate letters.length [D.str []]).flatten = _
      induction letters.length with
      | zero => rfl
      | succ n ih => rw [List.replicate_succ, List.flatten_cons, ih, List.replicate_succ]; rfl
    case k0 => walk_at "kd"
    let tl : Nat → List (List Nat) := fun i => (letters.take i).foldl (fun told letter => told.set (posF letters pairs letter) letter) (List.replicate letters.length [])
    have htl : ∀ i, (tl i).length = letters.length := fun i => by
      have := fold_len letters pairs (letters.take i) (List.replicate letters.length [])
      rw [List.length_replicate] at this
      exact this
    let ρs : Nat → Rho := fun i => [("told", .own ((tl i).map .str)), ("letters", .d (.lst (letters.map .str))), ("pairs", .d (.lst (pairs.map .str)))]
    refine Xs.pre (ρ₁ := ρs 0) (.cons rfl (.cons rfl (.cons rfl .nil))) ?_
    refine' xs_cons (x_for (ds := letters.map .str) ρs ?I1 ?step1) ?_
    case I1 => walk_at "evi"
    case step1 =>
      intro i d hd
      obtain ⟨a, ha, rfl⟩ : ∃ a, letters[i]? = some a ∧ D.str a = d := by simpa using hd
      have ham := List.mem_of_getElem? ha
      obtain ⟨la, aa⟩ := hl a ham
      have hpa := hpos a ham
      have htli := htl i
      refine ⟨_, bd_name (by walk_at "kd"), ?_⟩
      have hf1 : (letters.filter (lessP pairs a)).length ≤ 100 := Nat.le_trans (List.length_filter_le _ _) hz
      have hf2 : (letters.filter (moreP pairs a)).length ≤ 100 := Nat.le_trans (List.length_filter_le _ _) hz
      refine' xs_cons ?X2 ?_
      case X2 =>
        refine' x_assignComp1 (ρc := [("letter", .d (.str a)), ("pairs", .d (.lst (pairs.map .str)))]) D.str letters (lessP pairs a) D.str (l' := (letters.filter (lessP pairs a)).map .str) ?g2 ?cl2 ?_ ?_ ?_ ?_ ?_ ?cap2 ?I2 ?_ ?t2 ?e2 ?z2 ?l2 ?_ ?_ ?_
        case g2 => intro a b e; exact D.str.inj e
        case cl2 => exact rfl
        case cap2 => walk_at "capt"
        case I2 => walk_at "evi"
        case t2 =>
          intro C x hx
          obtain ⟨lx, ax⟩ := hl x hx
          have hpx : (D.str (a ++ x)).pl = true := pl_str fun c hc => (List.mem_append.mp hc).elim (aa c) (ax c)
          refine' EvC.cast (evC_and (b := !(pairs.any fun y => y == a ++ x)) ?a3 (fun _ => EvC.cast (evC_cmp (d₁ := .str (a ++ x)) (d₂ := .lst (pairs.map .str)) ?l3 ?r3 (op_notin (n := 3) hA hpx hpl1 low_str) ?m3) ?c3)) rfl
          case a3 => walk_at "evc"
          case l3 => walk_at "ev"
          case r3 => walk_at "ev"
          case m3 => intro _; rfl
          case c3 => rw [any_dS]
        case e2 => intro C x hx _; walk_at "ev"
        case z2 => omega
        case l2 => rfl
        all_goals walk_at "cs"
      refine' xs_cons ?X4 ?_
      case X4 =>
        refine' x_assignComp1 (ρc := [("letter", .d (.str a)), ("pairs", .d (.lst (pairs.map .str)))]) D.str letters (moreP pairs a) D.str (l' := (letters.filter (moreP pairs a)).map .str) ?g4 ?cl4 ?_ ?_ ?_ ?_ ?_ ?cap4 ?I4 ?_ ?t4 ?e4 ?z4 ?l4 ?_ ?_ ?_
        case g4 => intro a b e; exact D.str.inj e
        case cl4 => exact rfl
        case cap4 => walk_at "capt"
        case I4 => walk_at "evi"
        case t4 =>
          intro C x hx
          obtain ⟨lx, ax⟩ := hl x hx
          have hpx : (D.str (x ++ a)).pl = true := pl_str fun c hc => (List.mem_append.mp hc).elim (ax c) (aa c)
          refine' EvC.cast (evC_and (b := pairs.any fun y => y == x ++ a) ?a5 (fun _ => EvC.cast (evC_cmp (d₁ := .str (x ++ a)) (d₂ := .lst (pairs.map .str)) ?l5 ?r5 (op_in (n := 3) hA hpx hpl1 low_str) ?m5) ?c5)) rfl
          case a5 => walk_at "evc"
          case l5 => walk_at "ev"
          case r5 => walk_at "ev"
          case m5 => intro _; rfl
          case c5 => rw [any_dS]
        case e4 => intro C x hx _; walk_at "ev"
        case z4 => omega
        case l4 => rfl
        all_goals walk_at "cs"
      refine' xs_cons (x_setItem (l' := (tl (i + 1)).map .str) (k := (posF letters pairs a : Nat)) (d := .str a) rfl ?e6 (Ev.cast ?i6 ?c6) (by omega) ?n6 ?s6 ?z6) (Xs.sub xs_nil (.cons rfl (.cons rfl (.cons rfl .nil))))
      case e6 => walk_at "ev"
      case i6 => walk_at "ev"
      case c6 => simp [posF]
      case n6 => simp; omega
      case s6 =>
        have e1 : tl (i + 1) = (tl i).set (posF letters pairs a) a := by
          show List.foldl (fun told letter => told.set (posF letters pairs letter) letter) (List.replicate letters.length []) (letters.take (i + 1)) = _
          rw [List.take_add_one, ha]
          simp [tl]
        rw [e1, Int.toNat_natCast, List.map_set]
      case z6 => simp; omega
    have hfin : tl (letters.map D.str).length = orderF letters pairs := by
      show (letters.take (letters.map D.str).length).foldl _ _ = _
      rw [List.length_map, List.take_length]; rfl
    refine Xs.pre (ρ₁ := [("told", .own ((orderF letters pairs).map .str))]) (.cons (by rw [← hfin]; rfl) .nil) ?_
    refine Xs.give (x := "told") (l := (orderF letters pairs).map .str) rfl ?_
    have hol : (orderF letters pairs).length = letters.length := by
      have := fold_len letters pairs letters (List.replicate letters.length [])
      rw [List.length_replicate] at this
      exact this
    have hoz : ((orderF letters pairs).map (·.length)).sum ≤ 10000 := by
      have key : ∀ (l : List (List Nat)), (∀ x ∈ l, x.length ≤ 100) → (l.map (·.length)).sum ≤ 100 * l.length := fun l => by
        induction l with
        | nil => intro _; simp
        | cons a l ih =>
          intro h
          have h1 := h a (by simp)
          have h2 := ih fun x hx => h x (by simp [hx])
          simp only [List.map_cons, List.sum_cons, List.length_cons]
          omega
      have hall : ∀ x ∈ orderF letters pairs, x.length ≤ 100 := by
        have gen : ∀ (l : List (List Nat)) (told : List (List Nat)), (∀ x ∈ l, x ∈ letters) → (∀ x ∈ told, x.length ≤ 100) → ∀ x ∈ l.foldl (fun told letter => told.set (posF letters pairs letter) letter) told, x.length ≤ 100 := fun l => by
          induction l with
          | nil => intro told _ h x hx; exact h x hx
          | cons a l ih =>
            intro told h1 h2
            rw [List.foldl_cons]
            refine ih _ (fun x hx => h1 x (by simp [hx])) fun x hx => ?_
            rcases List.mem_or_eq_of_mem_set hx with q | q
            · exact h2 x q
            · exact q ▸ (hl a (h1 a (by simp))).1
        exact gen letters _ (fun x hx => hx) fun x hx => by rw [(List.mem_replicate.mp hx).2]; simp
      have := key _ hall
      rw [hol] at this
      omega
    refine' xs_ret (x_retFlat (ev_method (T := "str") (d₀ := .str []) (ds := [dS (orderF letters pairs)]) ?h7 ?a7 rfl F.plainAttrs_str F.slot_str_join F.type_str_join (op_join (x := []) (xs := orderF letters pairs) (by simp; omega))) ?e7 rfl)
    case h7 => exact ev_str
    case a7 => walk_at "evl"
    case e7 => rw [show S [] = S ([] : List Nat) from rfl, Re.join_nil]
end
end Mine
namespace Mine
open Re
/-! ### law 01: rows and mails -/
abbrev Row := Nat × List Nat × Nat
def line (r : Row) : List Nat := List.replicate r.1 46 ++ r.2.1
def text (e : List Nat) (rows : List Row) : List Nat := rows.flatMap fun r => line r ++ e
def lift (k : Nat) (rows : List Row) : List Row := rows.map fun r => (r.1 + k, r.2)
def letters (l : List Nat) : Prop := ∀ c ∈ l, 65 ≤ c ∧ c ≤ 80
def GoodR (rows : List Row) : Prop := ∀ r ∈ rows, 1 ≤ r.1 ∧ letters r.2.1
def isEnd (e : List Nat) : Prop := e = [10] ∨ e = [13] ∨ e = [13, 10]
theorem line_plain {r : Row} (h : letters r.2.1) : ∀ c ∈ line r, c ≠ 10 ∧ c ≠ 13 := fun c hc => by
  rcases List.mem_append.mp hc with q | q
  · have := (List.mem_replicate.mp q).2; omega
  · have := h c q; omega
theorem norm_plain {l y : List Nat} (h : ∀ c ∈ l, c ≠ 10 ∧ c ≠ 13) : norm (l ++ y) = l ++ norm y := by
  induction l with
  | nil => rfl
  | cons c l ih =>
    obtain ⟨h1, h2⟩ := h c (by simp)
    rw [List.cons_append, norm_cons, if_neg (by omega), if_neg (by simp [isBr, h1, h2]), ih fun d hd => h d (by simp [hd])]
    rfl
theorem norm_end {e y : List Nat} (he : isEnd e) (hy : y.head? ≠ some 10) : norm (e ++ y) = 13 :: 10 :: norm y := by
  rcases he with rfl | rfl | rfl
  · show norm (10 :: y) = _
    rw [norm_cons, if_neg (by omega), if_pos (by rfl)]
  · show norm (13 :: y) = _
    rw [norm_cons, if_neg (fun h => hy h.2), if_pos (by rfl)]
  · show norm (13 :: 10 :: y) = _
    rw [norm_cons, if_pos ⟨rfl, rfl⟩]; rfl
theorem stuff_plain {l y : List Nat} (h : ∀ c ∈ l, c ≠ 10) : stuff false (l ++ 13 :: 10 :: y) = l ++ 13 :: 10 :: stuff true y := by
  induction l with
  | nil => rfl
  | cons c l ih =>
    have h1 := h c (by simp)
    rw [List.cons_append, stuff_cons, if_neg (by simp), beq_eq_false_iff_ne.mpr h1, ih fun d hd => h d (by simp [hd])]
    rfl
theorem stuff_text : ∀ {rows : List Row}, GoodR rows → stuff true (text [13, 10] rows) = text [13, 10] (lift 1 rows)
  | [], _ => rfl
  | r :: rows, h => by
    have h' : GoodR rows := fun x hx => h x (by simp [hx])
    obtain ⟨h1, h2⟩ := h r (by simp)
    obtain ⟨n, hn⟩ : ∃ n, r.1 = n + 1 := ⟨r.1 - 1, by omega⟩
    show stuff true ((line r ++ [13, 10]) ++ text [13, 10] rows) = (line (r.1 + 1, r.2) ++ [13, 10]) ++ text [13, 10] (lift 1 rows)
    have e1 : line r = 46 :: (List.replicate n 46 ++ r.2.1) := by unfold line; rw [hn, List.replicate_succ]; rfl
    have e2 : line (r.1 + 1, r.2) = 46 :: 46 :: (List.replicate n 46 ++ r.2.1) := by unfold line; rw [hn, List.replicate_succ, List.replicate_succ]; rfl
    rw [e1, e2, List.append_assoc]
    show stuff true (46 :: (List.replicate n 46 ++ r.2.1 ++ 13 :: 10 :: text [13, 10] rows)) = _
    rw [stuff_cons, if_pos (by rfl)]
    show 46 :: 46 :: stuff false _ = _
    rw [stuff_plain, stuff_text h']
    · simp
    · intro c hc
      have := line_plain (r := (n, r.2)) h2 c hc
      exact this.1
theorem GoodR.lift {rows : List Row} (h : GoodR rows) (k : Nat) : GoodR (Mine.lift k rows) := fun r hr => by
  obtain ⟨x, hx, rfl⟩ := List.mem_map.mp hr
  exact ⟨by have := (h x hx).1; show 1 ≤ x.1 + k; omega, (h x hx).2⟩
/-- rows with ends of their own -/
def textE (l : List (Row × List Nat)) : List Nat := l.flatMap fun p => line p.1 ++ p.2
theorem textE_head {l : List (Row × List Nat)} (h : ∀ p ∈ l, 1 ≤ p.1.1) : (textE l).head? ≠ some 10 := by
  cases l with
  | nil => simp [textE]
  | cons p l =>
    have := h p (by simp)
    unfold textE
    rw [List.flatMap_cons]
    unfold line
    obtain ⟨n, hn⟩ : ∃ n, p.1.1 = n + 1 := ⟨p.1.1 - 1, by omega⟩
    rw [hn, List.replicate_succ]
    simp
theorem norm_textE : ∀ {l : List (Row × List Nat)}, (∀ p ∈ l, isEnd p.2 ∧ 1 ≤ p.1.1 ∧ letters p.1.2.1) → norm (textE l) = text [13, 10] (l.map (·.1))
  | [], _ => rfl
  | p :: l, h => by
    have h' : ∀ q ∈ l, isEnd q.2 ∧ 1 ≤ q.1.1 ∧ letters q.1.2.1 := fun q hq => h q (by simp [hq])
    obtain ⟨h1, h2, h3⟩ := h p (by simp)
    show norm ((line p.1 ++ p.2) ++ textE l) = (line p.1 ++ [13, 10]) ++ text [13, 10] (l.map (·.1))
    rw [List.append_assoc, norm_plain (line_plain h3), norm_end h1 (textE_head fun q hq => (h' q hq).2.1), norm_textE h', List.append_assoc]
    rfl
theorem quote_textE {l : List (Row × List Nat)} (h : ∀ p ∈ l, isEnd p.2 ∧ 1 ≤ p.1.1 ∧ letters p.1.2.1) : quote (textE l) = text [13, 10] (lift 1 (l.map (·.1))) := by
  unfold quote
  rw [norm_textE h, stuff_text fun r hr => by obtain ⟨p, hp, rfl⟩ := List.mem_map.mp hr; exact (h p hp).2]
end Mine

namespace Mine
open Re
/-! ### law 02: the mail's tree -/
def maxN : List Nat → Nat
  | [] => 0
  | a :: l => max a (maxN l)
def end02 (t : Nat) : List Nat := [[10], [13], [13, 10]].getD (t % 3) []
def rowsM : Nat → List Nat → List Row
  | 0, _ => []
  | n + 1, l => if l = [] then [] else lift 1 (rowsM n (l.take (l.idxOf (maxN l)))) ++ [(1, [65 + maxN l], 0)] ++ lift 1 (rowsM n (l.drop (l.idxOf (maxN l) + 1)))
def mailM : Nat → List Nat → List Nat
  | 0, _ => []
  | n + 1, l => if l = [] then [] else quote (mailM n (l.take (l.idxOf (maxN l)))) ++ 46 :: (65 + maxN l) :: end02 (maxN l) ++ quote (mailM n (l.drop (l.idxOf (maxN l) + 1)))
theorem end02_end (t : Nat) : isEnd (end02 t) := by
  unfold end02
  have : t % 3 < 3 := Nat.mod_lt _ (by omega)
  match t % 3, this with
  | 0, _ => exact .inl rfl
  | 1, _ => exact .inr (.inl rfl)
  | 2, _ => exact .inr (.inr rfl)
theorem maxN_mem : ∀ l : List Nat, l ≠ [] → maxN l ∈ l
  | [a], _ => by simp [maxN]
  | a :: b :: l, _ => by
    have := maxN_mem (b :: l) (by simp)
    show max a (maxN (b :: l)) ∈ _
    rcases Nat.le_total a (maxN (b :: l)) with h | h
    · rw [Nat.max_eq_right h]; exact List.mem_cons_of_mem _ this
    · rw [Nat.max_eq_left h]; simp
theorem maxN_le : ∀ (l : List Nat), ∀ a ∈ l, a ≤ maxN l
  | b :: l, a, h => by
    show a ≤ max b (maxN l)
    rcases List.mem_cons.mp h with q | q
    · subst q; omega
    · have := maxN_le l a q; omega
theorem rowsM_good : ∀ (n : Nat) (l : List Nat), (∀ a ∈ l, a < 16) → GoodR (rowsM n l)
  | 0, _, _ => fun r hr => nomatch hr
  | n + 1, l, h => by
    unfold rowsM
    split
    · exact fun r hr => nomatch hr
    · rename_i hl
      intro r hr
      rcases List.mem_append.mp hr with q | q
      · rcases List.mem_append.mp q with q | q
        · exact (rowsM_good n _ fun a ha => h a (List.mem_of_mem_take ha)).lift 1 r q
        · simp at q; subst q
          have := h _ (maxN_mem l hl)
          exact ⟨by simp, fun c hc => by simp at hc; omega⟩
      · exact (rowsM_good n _ fun a ha => h a (List.mem_of_mem_drop ha)).lift 1 r q
theorem text_textE (e : List Nat) (rows : List Row) : text e rows = textE (rows.map fun r => (r, e)) := by
  unfold text textE; rw [List.flatMap_map]
theorem textE_app (a b : List (Row × List Nat)) : textE (a ++ b) = textE a ++ textE b := by unfold textE; simp
theorem quote_mail : ∀ (n : Nat) (l : List Nat), (∀ a ∈ l, a < 16) → quote (mailM n l) = text [13, 10] (lift 1 (rowsM n l))
  | 0, _, _ => rfl
  | n + 1, l, h => by
    unfold mailM rowsM
    by_cases hl : l = []
    · rw [if_pos hl, if_pos hl]; rfl
    · rw [if_neg hl, if_neg hl]
      have hL : ∀ a ∈ l.take (l.idxOf (maxN l)), a < 16 := fun a ha => h a (List.mem_of_mem_take ha)
      have hR : ∀ a ∈ l.drop (l.idxOf (maxN l) + 1), a < 16 := fun a ha => h a (List.mem_of_mem_drop ha)
      have iL := quote_mail n _ hL
      have iR := quote_mail n _ hR
      have gL := (rowsM_good n _ hL).lift 1
      have gR := (rowsM_good n _ hR).lift 1
      have hm := h _ (maxN_mem l hl)
      rw [iL, iR, text_textE, text_textE]
      have e : ∀ (a b : List (Row × List Nat)), textE a ++ 46 :: (65 + maxN l) :: end02 (maxN l) ++ textE b = textE (a ++ [((1, [65 + maxN l], 0), end02 (maxN l))] ++ b) := fun a b => by
        rw [textE_app, textE_app]; simp [textE, line]
      rw [e, quote_textE]
      · simp [Function.comp_def]
      · intro p hp
        rcases List.mem_append.mp hp with q | q
        · rcases List.mem_append.mp q with q | q
          · obtain ⟨r, hr, rfl⟩ := List.mem_map.mp q
            exact ⟨.inr (.inr rfl), gL r hr⟩
          · simp at q; subst q
            exact ⟨end02_end _, by simp, fun c hc => by simp at hc; omega⟩
        · obtain ⟨r, hr, rfl⟩ := List.mem_map.mp q
          exact ⟨.inr (.inr rfl), gR r hr⟩
end Mine

namespace Mine
open Re
theorem rowsM_size : ∀ (n : Nat) (l : List Nat), (rowsM n l).length ≤ l.length ∧ ∀ r ∈ rowsM n l, r.1 ≤ n ∧ r.2.1.length ≤ 1
  | 0, l => ⟨by simp [rowsM], fun r hr => nomatch hr⟩
  | n + 1, l => by
    unfold rowsM
    by_cases hl : l = []
    · rw [if_pos hl]; exact ⟨by simp, fun r hr => nomatch hr⟩
    · rw [if_neg hl]
      obtain ⟨a1, a2⟩ := rowsM_size n (l.take (l.idxOf (maxN l)))
      obtain ⟨b1, b2⟩ := rowsM_size n (l.drop (l.idxOf (maxN l) + 1))
      have hi : l.idxOf (maxN l) < l.length := List.idxOf_lt_length_iff.mpr (maxN_mem l hl)
      refine ⟨?_, fun r hr => ?_⟩
      · simp [lift] at *
        omega
      · rcases List.mem_append.mp hr with q | q
        · rcases List.mem_append.mp q with q | q
          · obtain ⟨x, hx, rfl⟩ := List.mem_map.mp q
            have := a2 x hx
            exact ⟨by show x.1 + 1 ≤ n + 1; omega, this.2⟩
          · simp at q; subst q; exact ⟨by simp, by simp⟩
        · obtain ⟨x, hx, rfl⟩ := List.mem_map.mp q
          have := b2 x hx
          exact ⟨by show x.1 + 1 ≤ n + 1; omega, this.2⟩
end Mine

namespace Mine
/-! ### _law_mail -/
abbrev dN (l : List Nat) : D := .lst (l.map fun (a : Nat) => D.int (a : Int))
section
variable {prog : Program} {w : World}
theorem g_max : Glob (hd2.heap_39 w.params) "max" (.builtin "max") := .blt rfl rfl
theorem g_quote : Glob (hd2.heap_39 w.params) "quotedata" (.ref 62) := .top rfl
theorem g_mail : Glob (hd2.heap_39 w.params) "_law_mail" (.ref 83) := .top rfl
theorem g_word : Glob (hd2.heap_39 w.params) "_law_word" (.ref 76) := .top rfl
theorem fa_quote : FnAt (hd2.heap_39 w.params) 62 := ⟨obAt (hd2.heap_39 w.params) 62, fdAt (hd2.heap_39 w.params) 62, rfl, rfl⟩
theorem fa_mail : FnAt (hd2.heap_39 w.params) 83 := ⟨obAt (hd2.heap_39 w.params) 83, fdAt (hd2.heap_39 w.params) 83, rfl, rfl⟩
theorem fa_word : FnAt (hd2.heap_39 w.params) 76 := ⟨obAt (hd2.heap_39 w.params) 76, fdAt (hd2.heap_39 w.params) 76, rfl, rfl⟩
theorem idxOf_cast (l : List Nat) (a : Nat) : (l.map fun (b : Nat) => (b : Int)).idxOf (a : Int) = l.idxOf a := by
  induction l with
  | nil => rfl
  | cons b l ih =>
    rw [List.map_cons, List.idxOf_cons, List.idxOf_cons, ih]
    by_cases h : b = a
    · subst h; simp
    · have : ((b : Int) == (a : Int)) = false := beq_eq_false_iff_ne.mpr fun e => h (Int.ofNat.inj e)
      rw [this, beq_eq_false_iff_ne.mpr h]
theorem mail_qlen {n : Nat} {l : List Nat} (hn : n ≤ 10) (hl : ∀ a ∈ l, a < 16) : (Re.quote (mailM n l)).length ≤ l.length * 14 := by
  rw [quote_mail n l hl]
  obtain ⟨a1, a2⟩ := rowsM_size n l
  have key : ∀ (rows : List Row), (∀ r ∈ rows, r.1 ≤ 11 ∧ r.2.1.length ≤ 1) → (text [13, 10] rows).length ≤ rows.length * 14 := fun rows => by
    induction rows with
    | nil => intro _; simp [text]
    | cons r rows ih =>
      intro hr
      have h1 := hr r (by simp)
      have h2 := ih fun x hx => hr x (by simp [hx])
      show ((line r ++ [13, 10]) ++ text [13, 10] rows).length ≤ (rows.length + 1) * 14
      simp [line]
      omega
  have := key (lift 1 (rowsM n l)) fun r hr => by
    obtain ⟨x, hx, rfl⟩ := List.mem_map.mp hr
    have := a2 x hx
    exact ⟨by show x.1 + 1 ≤ 11; omega, this.2⟩
  have h3 : (lift 1 (rowsM n l)).length = (rowsM n l).length := by simp [lift]
  omega
theorem mail_len {n : Nat} {l : List Nat} (hn : n ≤ 10) (hl : ∀ a ∈ l, a < 16) : (mailM n l).length ≤ l.length * 14 := by
  cases n with
  | zero => simp [mailM]
  | succ n =>
    unfold mailM
    by_cases h : l = []
    · rw [if_pos h]; simp
    · rw [if_neg h]
      have h1 := mail_qlen (n := n) (l := l.take (l.idxOf (maxN l))) (by omega) fun a ha => hl a (List.mem_of_mem_take ha)
      have h2 := mail_qlen (n := n) (l := l.drop (l.idxOf (maxN l) + 1)) (by omega) fun a ha => hl a (List.mem_of_mem_drop ha)
      have hi : l.idxOf (maxN l) < l.length := List.idxOf_lt_length_iff.mpr (maxN_mem l h)
      have h3 : (end02 (maxN l)).length ≤ 2 := by rcases end02_end (maxN l) with q | q | q <;> rw [q] <;> simp
      rw [List.length_take] at h1
      rw [List.length_drop] at h2
      simp only [List.length_append, List.length_cons]
      omega
theorem fn_mail : ∀ (n : Nat) (l : List Nat), n ≤ 10 → l.length ≤ n → (∀ a ∈ l, 1 ≤ a ∧ a < 16) → Fn prog w (hd2.heap_39 w.params) (n + 8) 83 [dN l] (.str (mailM n l)) := by
  intro n
  induction n with
  | zero =>
    intro l hn hln hl
    have hl0 : l = [] := List.length_eq_zero_iff.mp (by omega)
    subst hl0
    refine DefAt.enter (ps := ["figures"]) ⟨obAt (hd2.heap_39 w.params) 83, fdAt (hd2.heap_39 w.params) 83, by rfl, by rfl, by rfl, by rfl, ?_, by rfl, by rfl, by rfl, by rfl⟩ rfl ?_ ?_ ?_ ?_ ?_
    · intro vs h; obtain ⟨a, rfl⟩ : ∃ a, vs = [a] := List.length_eq_one_iff.mp h; rfl
    · intro n x hx; simp at hx; subst hx; exact .inl (by rfl)
    · exact List.nodup_nil
    · decide
    · exact ⟨_, List.mem_cons_self, by rfl⟩
    · intro L qual code A hA
      generalize hd2.heap_39 w.params = K
      refine' xs_ret (x_then (evC_cmp ?l0 ?r0 (op_eq (n := 7) (a := .lst []) (b := .lst []) hA rfl rfl rfl) ?m0) rfl (xs_ret (x_retFlat ?h0 rfl rfl)))
      case l0 => exact ev_name rfl
      case r0 => exact EvN.ev (evN_list evL_nil (by simp))
      case m0 => intro _; rfl
      case h0 => exact ev_str
  | succ n ih =>
    intro l hn hln hl
    have g1 := g_max (w := w)
    have g2 := g_quote (w := w)
    have g3 := g_mail (w := w)
    have g4 := g_word (w := w)
    have f1 := fa_quote (w := w)
    have f2 := fa_mail (w := w)
    have f3 := fa_word (w := w)
    have s1 : ∀ {x : List Nat}, x.length ≤ 4000 → Fn prog w (hd2.heap_39 w.params) 2 62 [.str x] (.str (Re.quote x)) := fun h => fn_quote h
    have s3 : ∀ {t : Nat}, 1 ≤ t → t < 16 → Fn prog w (hd2.heap_39 w.params) 4 76 [dI [(t : Int)], .int 1] (.str [65 + t]) := fun {t} h1 h2 => by
      have e : (1 * valI [(t : Int)]).natAbs = t := by simp [valI]
      have := fn_word (prog := prog) (w := w) (figs := [(t : Int)]) (side := 1) (by simp) (by decide) (by rw [e]; omega)
      rw [e, hexD_one h1 h2] at this
      exact this
    refine DefAt.enter (ps := ["figures"]) ⟨obAt (hd2.heap_39 w.params) 83, fdAt (hd2.heap_39 w.params) 83, by rfl, by rfl, by rfl, by rfl, ?_, by rfl, by rfl, by rfl, by rfl⟩ rfl ?_ ?_ ?_ ?_ ?_
    · intro vs h; obtain ⟨a, rfl⟩ : ∃ a, vs = [a] := List.length_eq_one_iff.mp h; rfl
    · intro n x hx; simp at hx; subst hx; exact .inl (by rfl)
    · exact List.nodup_nil
    · decide
    · exact ⟨_, List.mem_cons_self, by rfl⟩
    · intro L qual code A hA
      have ih' := fun l h1 h2 => ih l (by omega) h1 h2
      clear ih
      generalize hd2.heap_39 w.params = K at g1 g2 g3 g4 f1 f2 f3 s1 s3 ih' ⊢
      have hA8 : Aok A 8 := hA.le (by omega)
      have hpl0 : plL (l.map fun (a : Nat) => D.int (a : Int)) = true := plL_map fun _ _ => rfl
      have hlo0 : lowL 7 (l.map fun (a : Nat) => D.int (a : Int)) = true := lowL_map fun _ _ => low_int
      by_cases h0 : l = []
      · subst h0
        refine' xs_ret (x_then (evC_cmp ?l1 ?r1 (op_eq (n := 8) (a := .lst []) (b := .lst []) hA8 rfl rfl rfl) ?m1) rfl (xs_ret (x_retFlat ?h1 rfl rfl)))
        case l1 => exact ev_name rfl
        case r1 => exact EvN.ev (evN_list evL_nil (by simp))
        case m1 => intro _; rfl
        case h1 => exact ev_str
      · refine' xs_cons (x_skip (evC_cmp ?l2 ?r2 (op_eq (n := 8) (a := dN l) (b := .lst []) hA8 (show plL _ = true from hpl0) rfl (show lowL 7 _ = true from hlo0)) ?m2) ?c2) ?_
        case l2 => walk_at "ev"
        case r2 => exact EvN.ev (evN_list evL_nil (by simp))
        case m2 => intro _; rfl
        case c2 => cases l with | nil => exact absurd rfl h0 | cons a l => simp [eqD, eqL]
        have hmm := maxN_mem l h0
        obtain ⟨m1, m2⟩ := hl _ hmm
        have hi : l.idxOf (maxN l) < l.length := List.idxOf_lt_length_iff.mpr hmm
        have edN : dN l = dI (l.map fun (a : Nat) => (a : Int)) := by show D.lst _ = D.lst _; rw [List.map_map]; rfl
        refine' xs_cons (x_assign (d := .int (maxN l : Nat)) ?h3 rfl ?k3) ?_
        case h3 =>
          refine' ev_call ?f4 ?k4 (ds := [dI (l.map fun (a : Nat) => (a : Int))]) ?a4 (op_max hA8 ?u4 ?v4)
          case f4 => walk_at "evf"
          case k4 => exact .inl ⟨_, rfl⟩
          case a4 => exact evL_cons (Ev.cast (ev_name rfl) edN) evL_nil
          case u4 => exact List.mem_map.mpr ⟨_, hmm, rfl⟩
          case v4 =>
            intro x hx
            obtain ⟨a, ha, rfl⟩ := List.mem_map.mp hx
            have := maxN_le l a ha
            omega
        case k3 => walk_at "kd"
        refine' xs_cons (x_assign (d := .int (l.idxOf (maxN l) : Nat)) ?h5 rfl ?k5) ?_
        case h5 =>
          refine' Ev.cast (ev_method (T := "list") (d₀ := dI (l.map fun (a : Nat) => (a : Int))) (ds := [.int (maxN l : Nat)]) ?h6 ?a6 rfl F.plainAttrs_list F.slot_list_index F.type_list_index (op_index (List.mem_map.mpr ⟨_, hmm, rfl⟩) (by simp; omega))) ?c6
          case h6 => exact Ev.cast (ev_name rfl) edN
          case a6 => walk_at "evl"
          case c6 => rw [idxOf_cast]
        case k5 => walk_at "kd"
        have qL := mail_qlen (n := n) (l := l.take (l.idxOf (maxN l))) (by omega) fun a ha => (hl a (List.mem_of_mem_take ha)).2
        have qR := mail_qlen (n := n) (l := l.drop (l.idxOf (maxN l) + 1)) (by omega) fun a ha => (hl a (List.mem_of_mem_drop ha)).2
        have pL := mail_len (n := n) (l := l.take (l.idxOf (maxN l))) (by omega) fun a ha => (hl a (List.mem_of_mem_take ha)).2
        have pR := mail_len (n := n) (l := l.drop (l.idxOf (maxN l) + 1)) (by omega) fun a ha => (hl a (List.mem_of_mem_drop ha)).2
        have sL := ih' (l.take (l.idxOf (maxN l))) (by rw [List.length_take]; omega) fun a ha => hl a (List.mem_of_mem_take ha)
        have sR := ih' (l.drop (l.idxOf (maxN l) + 1)) (by rw [List.length_drop]; omega) fun a ha => hl a (List.mem_of_mem_drop ha)
        rw [List.length_take] at qL pL
        rw [List.length_drop] at qR pR
        refine' xs_cons (x_assign (d := .str (Re.quote (mailM n (l.take (l.idxOf (maxN l)))))) ?h7 rfl ?k7) ?_
        case h7 =>
          refine' ev_callFn ?f8 (evL_cons ?a8 evL_nil) f1 (s1 (by omega)) ?A8
          case f8 => walk_at "evf"
          case a8 =>
            refine' ev_callFn ?f9 (evL_cons (Ev.cast ?a9 ?c9) evL_nil) f2 sL ?A9
            case f9 => walk_at "evf"
            case a9 => walk_at "ev"
            case c9 => rw [Int.toNat_natCast, ← List.map_take]
            case A9 => exact hA.le (by omega)
          case A8 => walk_at "aok"
        case k7 => walk_at "kd"
        refine' xs_cons (x_assign (d := .str (Re.quote (mailM n (l.drop (l.idxOf (maxN l) + 1))))) ?h10 rfl ?k10) ?_
        case h10 =>
          refine' ev_callFn ?f11 (evL_cons ?a11 evL_nil) f1 (s1 (by omega)) ?A11
          case f11 => walk_at "evf"
          case a11 =>
            refine' ev_callFn ?f12 (evL_cons (Ev.cast ?a12 ?c12) evL_nil) f2 sR ?A12
            case f12 => walk_at "evf"
            case a12 => walk_at "ev"
            case c12 => rw [show ((l.idxOf (maxN l) : Nat) : Int) + 1 = ((l.idxOf (maxN l) + 1 : Nat) : Int) by omega, Int.toNat_natCast, ← List.map_drop]
            case A12 => exact hA.le (by omega)
          case A11 => walk_at "aok"
        case k10 => walk_at "kd"
        have h3 : (end02 (maxN l)).length ≤ 2 := by rcases end02_end (maxN l) with q | q | q <;> rw [q] <;> simp
        have z1 : (Str.ofString ".").cps.toList.length = 1 := rfl
        refine' xs_ret (x_retFlat (d := .str (mailM (n + 1) l)) (Ev.cast (ev_bin (ev_bin (ev_bin (ev_bin ?e13 ?e14 (op_cat ?z14)) ?e15 (op_cat ?z15)) ?e16 (op_cat ?z16)) ?e17 (op_cat ?z17)) ?c13) rfl rfl)
        case e13 => walk_at "ev"
        case e14 => walk_at "ev"
        case e15 =>
          refine' ev_callFn ?f18 (evL_cons (EvN.ev (evN_list (evL_cons ?a18 evL_nil) (by simp))) (evL_cons ?b18 evL_nil)) f3 (s3 m1 m2) ?A18
          case f18 => walk_at "evf"
          case a18 => walk_at "ev"
          case b18 => walk_at "ev"
          case A18 => walk_at "aok"
        case e16 =>
          refine' ev_index (d₁ := .tup [.str [10], .str [13], .str [13, 10]]) (i := ((maxN l : Nat) : Int) % 3) (d := .str (end02 (maxN l))) ?v19 ?s19 rfl ?o19
          case v19 => exact ev_tuple (evL_cons ev_str (evL_cons ev_str (evL_cons ev_str evL_nil)))
          case s19 => walk_at "ev"
          case o19 =>
            refine op_itemT (by omega) (by omega) ?_
            unfold end02
            rw [show (((maxN l : Nat) : Int) % 3).toNat = maxN l % 3 by omega]
            have : maxN l % 3 < 3 := Nat.mod_lt _ (by omega)
            match maxN l % 3, this with
            | 0, _ => rfl
            | 1, _ => rfl
            | 2, _ => rfl
        case e17 => walk_at "ev"
        case z14 => omega
        case z15 => simp only [List.length_append, List.length_cons, List.length_nil]; omega
        case z16 => simp only [List.length_append, List.length_cons, List.length_nil]; omega
        case z17 => simp only [List.length_append, List.length_cons, List.length_nil]; omega
        case c13 =>
          conv => rhs; unfold mailM
          rw [if_neg h0]
          simp
          rfl
end
end Mine
namespace Mine
/-! ### law 02: the depth of a row -/
/-- a figure above y stands between y and f -/
def Btw (l : List Nat) (y f : Nat) : Prop := ∃ z ∈ l, y < z ∧ ((l.idxOf y < l.idxOf z ∧ l.idxOf z < l.idxOf f) ∨ (l.idxOf f < l.idxOf z ∧ l.idxOf z < l.idxOf y))
open Classical in
noncomputable def abv (l : List Nat) (f : Nat) : Nat := (l.filter fun y => decide (f < y ∧ ¬ Btw l y f)).length
theorem split_idx {L R : List Nat} {M : Nat} (hnd : (L ++ M :: R).Nodup) : (∀ a ∈ L, (L ++ M :: R).idxOf a = L.idxOf a ∧ L.idxOf a < L.length) ∧ (L ++ M :: R).idxOf M = L.length ∧ ∀ a ∈ R, (L ++ M :: R).idxOf a = L.length + 1 + R.idxOf a ∧ R.idxOf a < R.length := by
  obtain ⟨n1, n2, n3⟩ := List.nodup_append.mp hnd
  obtain ⟨n4, n5⟩ := List.nodup_cons.mp n2
  refine ⟨fun a ha => ⟨?_, List.idxOf_lt_length_iff.mpr ha⟩, ?_, fun a ha => ⟨?_, List.idxOf_lt_length_iff.mpr ha⟩⟩
  · rw [List.idxOf_append, if_pos ha]
  · rw [List.idxOf_append, if_neg fun q => n3 M q M (by simp) rfl]; simp
  · have hM : M ≠ a := fun q => n4 (q ▸ ha)
    rw [List.idxOf_append, if_neg fun q => n3 a q a (by simp [ha]) rfl, List.idxOf_cons, beq_eq_false_iff_ne.mpr hM]
    simp; omega
theorem btw_left {L R : List Nat} {M y f : Nat} (hnd : (L ++ M :: R).Nodup) (hy : y ∈ L) (hf : f ∈ L) : Btw (L ++ M :: R) y f ↔ Btw L y f := by
  obtain ⟨i1, i2, i3⟩ := split_idx hnd
  have a1 := i1 y hy
  have a2 := i1 f hf
  constructor
  · rintro ⟨z, hz, h1, h2⟩
    rcases List.mem_append.mp hz with q | q
    · have a3 := i1 z q
      exact ⟨z, q, h1, by omega⟩
    · rcases List.mem_cons.mp q with q | q
      · subst q; omega
      · have a3 := i3 z q; omega
  · rintro ⟨z, hz, h1, h2⟩
    have a3 := i1 z hz
    exact ⟨z, List.mem_append_left _ hz, h1, by omega⟩
theorem btw_right {L R : List Nat} {M y f : Nat} (hnd : (L ++ M :: R).Nodup) (hy : y ∈ R) (hf : f ∈ R) : Btw (L ++ M :: R) y f ↔ Btw R y f := by
  obtain ⟨i1, i2, i3⟩ := split_idx hnd
  have a1 := i3 y hy
  have a2 := i3 f hf
  constructor
  · rintro ⟨z, hz, h1, h2⟩
    rcases List.mem_append.mp hz with q | q
    · have a3 := i1 z q; omega
    · rcases List.mem_cons.mp q with q | q
      · subst q; omega
      · have a3 := i3 z q
        exact ⟨z, q, h1, by omega⟩
  · rintro ⟨z, hz, h1, h2⟩
    have a3 := i3 z hz
    exact ⟨z, List.mem_append_right _ (List.mem_cons_of_mem _ hz), h1, by omega⟩
open Classical in
theorem abv_left {L R : List Nat} {M f : Nat} (hnd : (L ++ M :: R).Nodup) (hmax : ∀ a ∈ L ++ M :: R, a ≤ M) (hf : f ∈ L) : abv (L ++ M :: R) f = abv L f + 1 := by
  obtain ⟨i1, i2, i3⟩ := split_idx hnd
  have a2 := i1 f hf
  have hfM : f < M := by
    have := hmax f (by simp [hf])
    have h2 : f ≠ M := fun q => by subst q; omega
    omega
  unfold abv
  rw [List.filter_append, List.filter_cons_of_pos, List.length_append, List.length_cons]
  · have e1 : (R.filter fun y => decide (f < y ∧ ¬ Btw (L ++ M :: R) y f)) = [] := List.filter_eq_nil_iff.mpr fun y hy => by
      have a3 := i3 y hy
      have h1 := hmax y (by simp [hy])
      have h2 : y ≠ M := fun q => by subst q; omega
      simp only [decide_eq_true_eq]
      rintro ⟨_, h⟩
      exact h ⟨M, by simp, by omega, by omega⟩
    have e2 : (L.filter fun y => decide (f < y ∧ ¬ Btw (L ++ M :: R) y f)) = L.filter fun y => decide (f < y ∧ ¬ Btw L y f) := List.filter_congr fun y hy => by
      simp only [btw_left hnd hy hf]
    rw [e1, e2]; rfl
  · simp only [decide_eq_true_eq]
    refine ⟨hfM, ?_⟩
    rintro ⟨z, hz, h1, _⟩
    have := hmax z hz; omega
open Classical in
theorem abv_right {L R : List Nat} {M f : Nat} (hnd : (L ++ M :: R).Nodup) (hmax : ∀ a ∈ L ++ M :: R, a ≤ M) (hf : f ∈ R) : abv (L ++ M :: R) f = abv R f + 1 := by
  obtain ⟨i1, i2, i3⟩ := split_idx hnd
  have a2 := i3 f hf
  have hfM : f < M := by
    have := hmax f (by simp [hf])
    have h2 : f ≠ M := fun q => by subst q; omega
    omega
  unfold abv
  rw [List.filter_append, List.filter_cons_of_pos, List.length_append, List.length_cons]
  · have e1 : (L.filter fun y => decide (f < y ∧ ¬ Btw (L ++ M :: R) y f)) = [] := List.filter_eq_nil_iff.mpr fun y hy => by
      have a3 := i1 y hy
      have h1 := hmax y (by simp [hy])
      have h2 : y ≠ M := fun q => by subst q; omega
      simp only [decide_eq_true_eq]
      rintro ⟨_, h⟩
      exact h ⟨M, by simp, by omega, by omega⟩
    have e2 : (R.filter fun y => decide (f < y ∧ ¬ Btw (L ++ M :: R) y f)) = R.filter fun y => decide (f < y ∧ ¬ Btw R y f) := List.filter_congr fun y hy => by
      simp only [btw_right hnd hy hf]
    rw [e1, e2]; simp
  · simp only [decide_eq_true_eq]
    refine ⟨hfM, ?_⟩
    rintro ⟨z, hz, h1, _⟩
    have := hmax z hz; omega
open Classical in
theorem abv_mid {l : List Nat} {M : Nat} (hmax : ∀ a ∈ l, a ≤ M) : abv l M = 0 := by
  unfold abv
  rw [List.filter_eq_nil_iff.mpr fun y hy => ?_]; rfl
  have := hmax y hy
  simp only [decide_eq_true_eq]
  omega
theorem cut_idx {l : List Nat} {a : Nat} (h : a ∈ l) : l = l.take (l.idxOf a) ++ a :: l.drop (l.idxOf a + 1) := by
  have hi : l.idxOf a < l.length := List.idxOf_lt_length_iff.mpr h
  have e : l[l.idxOf a] = a := List.getElem_idxOf hi
  conv => lhs; rw [← List.take_append_drop (l.idxOf a) l, List.drop_eq_getElem_cons hi, e]
/-- the mail's rows: each letter with a dot and one more for each figure above it that is not shut off -/
theorem rowsM_abv : ∀ (n : Nat) (l : List Nat), l.length ≤ n → l.Nodup → rowsM n l = l.map fun f => (1 + abv l f, [65 + f], 0)
  | 0, l, h, _ => by
    have : l = [] := List.length_eq_zero_iff.mp (by omega)
    subst this; rfl
  | n + 1, l, h, hnd => by
    unfold rowsM
    by_cases hl : l = []
    · rw [if_pos hl, hl]; rfl
    · rw [if_neg hl]
      have hm := maxN_mem l hl
      have hi : l.idxOf (maxN l) < l.length := List.idxOf_lt_length_iff.mpr hm
      have e := cut_idx hm
      have hmax := maxN_le l
      rw [rowsM_abv n (l.take (l.idxOf (maxN l))) (by rw [List.length_take]; omega) (hnd.sublist (List.take_sublist _ _)), rowsM_abv n (l.drop (l.idxOf (maxN l) + 1)) (by rw [List.length_drop]; omega) (hnd.sublist (List.drop_sublist _ _))]
      generalize l.take (l.idxOf (maxN l)) = L at *
      generalize l.drop (l.idxOf (maxN l) + 1) = R at *
      generalize maxN l = M at *
      subst e
      have eL : lift 1 (L.map fun f => ((1 + abv L f, [65 + f], 0) : Row)) = L.map fun f => (1 + abv (L ++ M :: R) f, [65 + f], 0) := by
        unfold lift
        rw [List.map_map]
        refine List.map_congr_left fun f hf => ?_
        rw [abv_left hnd hmax hf]
        rfl
      have eR : lift 1 (R.map fun f => ((1 + abv R f, [65 + f], 0) : Row)) = R.map fun f => (1 + abv (L ++ M :: R) f, [65 + f], 0) := by
        unfold lift
        rw [List.map_map]
        refine List.map_congr_left fun f hf => ?_
        rw [abv_right hnd hmax hf]
        rfl
      rw [eL, eR, List.map_append, List.map_cons, abv_mid hmax]
      simp
end Mine

namespace Mine
/-! ### law 02: what a pattern of three letters tells -/
def pat3 (a b c : Nat) : List Nat := [46, 46, 46, a, 46, 46, 46, b, 46, 46, 46, c, 46, 46, 46]
theorem no_atL0 {x : List Nat} {a : Nat} (h : a ≠ 46) : ¬ atL (a :: x) [46, 46, 46] 0 := fun q => by
  have := q.2
  simp at this
  exact h this.1
theorem tp_pat {a b c : Nat} (ha : a ≠ 46) (hb : b ≠ 46) (hc : c ≠ 46) : TP [46, 46, 46] (pat3 a b c) [[], [a], [b], [c], []] := by
  refine ⟨_, rfl, fun k hk => by simp at hk, _, rfl, fun k hk => ?_, _, rfl, fun k hk => ?_, _, rfl, fun k hk => ?_, rfl, fun k hk => by have := hk.1; simp at this⟩
  · have : k = 0 := by simpa using hk
    subst this; exact no_atL0 ha
  · have : k = 0 := by simpa using hk
    subst this; exact no_atL0 hb
  · have : k = 0 := by simpa using hk
    subst this; exact no_atL0 hc
theorem idx_uniq {got : List Nat} {a i : Nat} (hnd : got.Nodup) (h : got[i]? = some a) : i = got.idxOf a := by
  obtain ⟨hi, e⟩ := List.getElem?_eq_some_iff.mp h
  have := hnd.idxOf_getElem i hi
  rw [e] at this
  exact this.symm
theorem ffind_one {got : List Nat} {a lo : Nat} (hnd : got.Nodup) (ha : a ∈ got) : ffind [a] got lo got.length = if lo ≤ got.idxOf a then some (got.idxOf a) else none := by
  have hi : got.idxOf a < got.length := List.idxOf_lt_length_iff.mpr ha
  have hget : got[got.idxOf a]? = some a := by rw [List.getElem?_eq_getElem hi, List.getElem_idxOf hi]
  have key : ∀ i, (decide (i + [a].length ≤ got.length) && ((got.drop i).take [a].length == [a])) = true ↔ i = got.idxOf a := fun i => by
    simp only [Bool.and_eq_true, decide_eq_true_eq, beq_iff_eq, List.length_cons, List.length_nil, Nat.zero_add]
    constructor
    · rintro ⟨h1, h2⟩
      refine idx_uniq hnd ?_
      rw [List.drop_eq_getElem_cons (by omega), List.take_succ_cons, List.take_zero] at h2
      rw [List.getElem?_eq_getElem (by omega)]
      exact congrArg some (List.cons.inj h2).1
    · rintro rfl
      refine ⟨by omega, ?_⟩
      rw [List.drop_eq_getElem_cons hi, List.take_succ_cons, List.take_zero, List.getElem_idxOf hi]
  unfold ffind
  split
  · rename_i h
    rw [List.find?_eq_some_iff_append]
    refine ⟨(key _).mpr rfl, List.range' lo (got.idxOf a - lo), List.range' (got.idxOf a + 1) (got.length - got.idxOf a), ?_, fun k hk => ?_⟩
    · have e1 : got.length + 1 - lo = (got.idxOf a - lo) + ((got.length - got.idxOf a) + 1) := by omega
      rw [e1, ← List.range'_append_1, show lo + (got.idxOf a - lo) = got.idxOf a by omega, List.range'_succ]
    · have hk := List.mem_range'_1.mp hk
      have := mt (key k).mp (by omega)
      rw [Bool.not_eq_true] at this
      rw [this]; rfl
  · rename_i h
    rw [List.find?_eq_none]
    intro k hk hA
    have := (key k).mp hA
    have := (List.mem_range'_1.mp hk).1
    omega
theorem ffind_nil {got : List Nat} {lo hi : Nat} (h : lo ≤ hi) : ffind [] got lo hi = some lo := by
  unfold ffind
  rw [show hi + 1 - lo = (hi - lo) + 1 by omega, List.range'_succ, List.find?_cons_of_pos]
  simpa using h
theorem scan_pat {got : List Nat} {a b c : Nat} (hnd : got.Nodup) (ha : a ∈ got) (hb : b ∈ got) (hc : c ∈ got) (hab : a ≠ b) (hbc : b ≠ c) :
    scan got got.length [[], [a], [b], [c], []] 0 = decide (got.idxOf a < got.idxOf b ∧ got.idxOf b < got.idxOf c) := by
  have hi : got.idxOf c < got.length := List.idxOf_lt_length_iff.mpr hc
  have ne1 : got.idxOf a ≠ got.idxOf b := fun q => hab (by
    have h1 : got[got.idxOf a]'(List.idxOf_lt_length_iff.mpr ha) = a := List.getElem_idxOf _
    have h2 : got[got.idxOf b]'(List.idxOf_lt_length_iff.mpr hb) = b := List.getElem_idxOf _
    rw [← h1, ← h2]; congr 1)
  have ne2 : got.idxOf b ≠ got.idxOf c := fun q => hbc (by
    have h1 : got[got.idxOf b]'(List.idxOf_lt_length_iff.mpr hb) = b := List.getElem_idxOf _
    have h2 : got[got.idxOf c]'(List.idxOf_lt_length_iff.mpr hc) = c := List.getElem_idxOf _
    rw [← h1, ← h2]; congr 1)
  have z0 : ∀ x : Nat, x + ([] : List Nat).length = x := fun _ => rfl
  have z1 : ∀ x y : Nat, x + [y].length = x + 1 := fun _ _ => rfl
  simp only [scan, ffind_nil (Nat.zero_le _), ffind_one hnd ha, ffind_one hnd hb, ffind_one hnd hc, z0, z1, Nat.zero_le, if_true]
  by_cases h1 : got.idxOf a + 1 ≤ got.idxOf b
  · rw [if_pos h1]
    by_cases h2 : got.idxOf b + 1 ≤ got.idxOf c
    · simp only [if_pos h2, z1, z0]
      rw [ffind_nil (by omega)]
      exact (decide_eq_true (by omega)).symm
    · simp only [if_neg h2, z1]
      exact (decide_eq_false (by omega)).symm
  · rw [if_neg h1]
    exact (decide_eq_false (by omega)).symm
section
variable {prog : Program} {w : World}
theorem fn_em_pat {got : List Nat} {a b c : Nat} (hnd : got.Nodup) (hlet : ∀ x ∈ got, x ≠ 46) (ha : a ∈ got) (hb : b ∈ got) (hc : c ∈ got) (hab : a ≠ b) (hbc : b ≠ c) (hz : got.length ≤ 1000000) :
    Fn prog w (hd2.heap_39 w.params) 2 38 [.str (pat3 a b c), .str got] (.bool (decide (got.idxOf a < got.idxOf b ∧ got.idxOf b < got.idxOf c))) := by
  have htp := tp_pat (hlet a ha) (hlet b hb) (hlet c hc)
  have hs : pieces (pat3 a b c) = [] :: ([[a], [b], [c]] ++ [[]]) := by
    unfold pieces
    rw [split_of (by simp) (by decide) htp]
    rfl
  have := fn_em_some (prog := prog) (w := w) (want := pat3 a b c) (got := got) (last := []) (ws := [[a], [b], [c]]) (by rw [contains_of htp]; rfl) hs (by simp [pat3]) hz (by simp) (by simp) (fun p hp => by simp at hp; rcases hp with rfl | rfl | rfl <;> simp)
  rw [if_pos rfl] at this
  rw [← scan_pat hnd ha hb hc hab hbc]
  exact this
end
end Mine

namespace Mine
/-! ### law 02: the order of letters -/
def phi (i : Int) : Nat := 65 + i.toNat
theorem phi_lt {a b : Int} (ha : 0 ≤ a) (hb : 0 ≤ b) : phi a < phi b ↔ a < b := by unfold phi; omega
theorem phi_inj {a b : Int} (ha : 0 ≤ a) (hb : 0 ≤ b) (h : phi a = phi b) : a = b := by unfold phi at h; omega
theorem idx_phi {a : Int} (ha : 0 ≤ a) : ∀ {l : List Int}, (∀ b ∈ l, 0 ≤ b) → (l.map phi).idxOf (phi a) = l.idxOf a
  | [], _ => rfl
  | b :: l, h => by
    have hb := h b (by simp)
    rw [List.map_cons, List.idxOf_cons, List.idxOf_cons, idx_phi ha fun c hc => h c (by simp [hc])]
    by_cases e : b = a
    · subst e; simp
    · rw [beq_eq_false_iff_ne.mpr e, beq_eq_false_iff_ne.mpr fun q => e (phi_inj hb ha q)]
theorem nodup_phi {l : List Int} (h : ∀ b ∈ l, 0 ≤ b) (hnd : l.Nodup) : (l.map phi).Nodup := by
  induction l with
  | nil => exact List.nodup_nil
  | cons a l ih =>
    obtain ⟨n1, n2⟩ := List.nodup_cons.mp hnd
    rw [List.map_cons]
    refine List.nodup_cons.mpr ⟨fun q => ?_, ih (fun b hb => h b (by simp [hb])) n2⟩
    obtain ⟨b, hb, e⟩ := List.mem_map.mp q
    exact n1 (phi_inj (h b (by simp [hb])) (h a (by simp)) e ▸ hb)
/-- y ahead of x just if T says it for some greater z -/
def Ord (word g : List Nat) (T : Nat → Nat → Nat → Bool) : Prop := g.Perm word ∧ ∀ x ∈ word, ∀ y ∈ word, x < y → (g.idxOf y < g.idxOf x ↔ ∃ z ∈ word, y < z ∧ T x y z = true)
def TA (word : List Nat) (x y z : Nat) : Bool := decide (word.idxOf y < word.idxOf z ∧ word.idxOf z < word.idxOf x)
def TB (word : List Nat) (x y z : Nat) : Bool := decide (word.idxOf x < word.idxOf z ∧ word.idxOf z < word.idxOf y)
theorem ordA {figs : List Int} (h0 : ∀ b ∈ figs, 0 ≤ b) (hnd : figs.Nodup) : Ord (figs.map phi) ((letGo figs).map phi) (TA (figs.map phi)) := by
  obtain ⟨hp, ho⟩ := letGo_order hnd
  have h0g : ∀ b ∈ letGo figs, 0 ≤ b := fun b hb => h0 b (hp.mem_iff.mp hb)
  refine ⟨hp.map phi, fun x' hx' y' hy' hxy => ?_⟩
  obtain ⟨x, hx, rfl⟩ := List.mem_map.mp hx'
  obtain ⟨y, hy, rfl⟩ := List.mem_map.mp hy'
  rw [idx_phi (h0 y hy) h0g, idx_phi (h0 x hx) h0g, ho x hx y hy ((phi_lt (h0 x hx) (h0 y hy)).mp hxy)]
  constructor
  · rintro ⟨z, hz, h1, h2, h3⟩
    refine ⟨phi z, List.mem_map.mpr ⟨z, hz, rfl⟩, (phi_lt (h0 y hy) (h0 z hz)).mpr h1, ?_⟩
    unfold TA
    rw [idx_phi (h0 y hy) h0, idx_phi (h0 x hx) h0, idx_phi (h0 z hz) h0]
    exact decide_eq_true ⟨h2, h3⟩
  · rintro ⟨z', hz', h1, h2⟩
    obtain ⟨z, hz, rfl⟩ := List.mem_map.mp hz'
    unfold TA at h2
    rw [idx_phi (h0 y hy) h0, idx_phi (h0 x hx) h0, idx_phi (h0 z hz) h0] at h2
    obtain ⟨h3, h4⟩ := of_decide_eq_true h2
    exact ⟨z, hz, (phi_lt (h0 y hy) (h0 z hz)).mp h1, h3, h4⟩
theorem ordB {figs : List Int} (h0 : ∀ b ∈ figs, 0 ≤ b) (hnd : figs.Nodup) : Ord (figs.map phi) ((letGo figs.reverse).map phi) (TB (figs.map phi)) := by
  have hndr : figs.reverse.Nodup := (List.reverse_perm figs).nodup_iff.mpr hnd
  obtain ⟨hp, ho⟩ := letGo_order hndr
  have hp' := hp.trans (List.reverse_perm figs)
  have h0g : ∀ b ∈ letGo figs.reverse, 0 ≤ b := fun b hb => h0 b (hp'.mem_iff.mp hb)
  refine ⟨hp'.map phi, fun x' hx' y' hy' hxy => ?_⟩
  obtain ⟨x, hx, rfl⟩ := List.mem_map.mp hx'
  obtain ⟨y, hy, rfl⟩ := List.mem_map.mp hy'
  rw [idx_phi (h0 y hy) h0g, idx_phi (h0 x hx) h0g, ho x (by simpa using hx) y (by simpa using hy) ((phi_lt (h0 x hx) (h0 y hy)).mp hxy), pat_rev hnd hx hy]
  constructor
  · rintro ⟨z, hz, h1, h2, h3⟩
    refine ⟨phi z, List.mem_map.mpr ⟨z, hz, rfl⟩, (phi_lt (h0 y hy) (h0 z hz)).mpr h1, ?_⟩
    unfold TB
    rw [idx_phi (h0 y hy) h0, idx_phi (h0 x hx) h0, idx_phi (h0 z hz) h0]
    exact decide_eq_true ⟨h2, h3⟩
  · rintro ⟨z', hz', h1, h2⟩
    obtain ⟨z, hz, rfl⟩ := List.mem_map.mp hz'
    unfold TB at h2
    rw [idx_phi (h0 y hy) h0, idx_phi (h0 x hx) h0, idx_phi (h0 z hz) h0] at h2
    obtain ⟨h3, h4⟩ := of_decide_eq_true h2
    exact ⟨z, hz, (phi_lt (h0 y hy) (h0 z hz)).mp h1, h3, h4⟩

/-! ### the pairs that the turns write down -/
def rowP (cs : List Nat) (T : Nat → Nat → Nat → Bool) (k j n : Nat) : List (List Nat) := (List.range n).flatMap fun i => if T (cs.getD i 0) (cs.getD j 0) (cs.getD k 0) then [[cs.getD j 0, cs.getD i 0]] else []
def midP (cs : List Nat) (T : Nat → Nat → Nat → Bool) (k n : Nat) : List (List Nat) := (List.range n).flatMap fun j => rowP cs T k j j
def allP (cs : List Nat) (T : Nat → Nat → Nat → Bool) (n : Nat) : List (List Nat) := (List.range n).flatMap fun k => midP cs T k k
theorem rowP_succ {cs : List Nat} {T : Nat → Nat → Nat → Bool} {k j n : Nat} : rowP cs T k j (n + 1) = rowP cs T k j n ++ if T (cs.getD n 0) (cs.getD j 0) (cs.getD k 0) then [[cs.getD j 0, cs.getD n 0]] else [] := by
  unfold rowP; rw [List.range_succ, List.flatMap_append]; simp
theorem midP_succ {cs : List Nat} {T : Nat → Nat → Nat → Bool} {k n : Nat} : midP cs T k (n + 1) = midP cs T k n ++ rowP cs T k n n := by
  unfold midP; rw [List.range_succ, List.flatMap_append]; simp
theorem allP_succ {cs : List Nat} {T : Nat → Nat → Nat → Bool} {n : Nat} : allP cs T (n + 1) = allP cs T n ++ midP cs T n n := by
  unfold allP; rw [List.range_succ, List.flatMap_append]; simp
theorem rowP_len (cs : List Nat) (T : Nat → Nat → Nat → Bool) (k j : Nat) : ∀ n, (rowP cs T k j n).length ≤ n
  | 0 => by simp [rowP]
  | n + 1 => by
    have := rowP_len cs T k j n
    rw [rowP_succ, List.length_append]
    split <;> simp <;> omega
theorem midP_len (cs : List Nat) (T : Nat → Nat → Nat → Bool) (k : Nat) : ∀ n, (midP cs T k n).length ≤ n * n
  | 0 => by simp [midP]
  | n + 1 => by
    have := midP_len cs T k n
    have h2 := rowP_len cs T k n n
    rw [midP_succ, List.length_append, Nat.add_mul, Nat.mul_add]
    omega
theorem allP_len (cs : List Nat) (T : Nat → Nat → Nat → Bool) : ∀ n, (allP cs T n).length ≤ n * (n * n)
  | 0 => by simp [allP]
  | n + 1 => by
    have := allP_len cs T n
    have h2 := midP_len cs T n n
    have h3 : n * (n * n) + n * n ≤ (n + 1) * ((n + 1) * (n + 1)) := by
      have : n * n ≤ (n + 1) * (n + 1) := Nat.mul_le_mul (by omega) (by omega)
      have h4 := Nat.mul_le_mul (Nat.le_refl (n + 1)) this
      rw [Nat.add_mul, Nat.one_mul] at h4
      exact h4
    rw [allP_succ, List.length_append]
    omega
theorem mem_allP {cs : List Nat} {T : Nat → Nat → Nat → Bool} {n : Nat} {p : List Nat} : p ∈ allP cs T n ↔ ∃ k j i, k < n ∧ j < k ∧ i < j ∧ T (cs.getD i 0) (cs.getD j 0) (cs.getD k 0) = true ∧ p = [cs.getD j 0, cs.getD i 0] := by
  unfold allP midP rowP
  simp only [List.mem_flatMap, List.mem_range]
  constructor
  · rintro ⟨k, hk, j, hj, i, hi, h⟩
    split at h
    · rename_i ht
      exact ⟨k, j, i, hk, hj, hi, ht, by simpa using h⟩
    · cases h
  · rintro ⟨k, j, i, hk, hj, hi, ht, rfl⟩
    exact ⟨k, hk, j, hj, i, hi, by rw [if_pos ht]; simp⟩
/-- strictly rising -/
theorem up_idx {cs : List Nat} (hs : cs.Pairwise (· < ·)) {i j : Nat} (hi : i < cs.length) (hj : j < cs.length) : cs[i] < cs[j] ↔ i < j := by
  constructor
  · intro h
    rcases Nat.lt_trichotomy i j with q | q | q
    · exact q
    · subst q; omega
    · have := List.pairwise_iff_getElem.mp hs j i hj hi q; omega
  · intro h; exact List.pairwise_iff_getElem.mp hs i j hi hj h
theorem mem_pairs {word cs : List Nat} {T : Nat → Nat → Nat → Bool} (hp : cs.Perm word) (hs : cs.Pairwise (· < ·)) {x y : Nat} (hx : x ∈ word) (hy : y ∈ word) (hxy : x < y) : [y, x] ∈ allP cs T cs.length ↔ ∃ z ∈ word, y < z ∧ T x y z = true := by
  rw [mem_allP]
  have gd : ∀ i (h : i < cs.length), cs.getD i 0 = cs[i] := fun i h => by simp [List.getD, h]
  constructor
  · rintro ⟨k, j, i, hk, hj, hi, ht, e⟩
    have hj' : j < cs.length := by omega
    have hi' : i < cs.length := by omega
    rw [gd k hk, gd j hj', gd i hi'] at ht
    rw [gd j hj', gd i hi'] at e
    injection e with e1 e2
    injection e2 with e2 _
    subst e1; subst e2
    exact ⟨cs[k], hp.mem_iff.mp (List.getElem_mem hk), (up_idx hs hj' hk).mpr hj, ht⟩
  · rintro ⟨z, hz, h1, ht⟩
    obtain ⟨i, hi, rfl⟩ := List.getElem_of_mem (hp.mem_iff.mpr hx)
    obtain ⟨j, hj, rfl⟩ := List.getElem_of_mem (hp.mem_iff.mpr hy)
    obtain ⟨k, hk, rfl⟩ := List.getElem_of_mem (hp.mem_iff.mpr hz)
    exact ⟨k, j, i, hk, (up_idx hs hj hk).mp h1, (up_idx hs hi hj).mp hxy, by rw [gd k hk, gd j hj, gd i hi]; exact ht, by rw [gd j hj, gd i hi]⟩

/-! ### the order that the letters' pairs tell -/
theorem filter_idx : ∀ {g : List Nat}, g.Nodup → ∀ (n : Nat), n ≤ g.length → (g.filter fun a => decide (g.idxOf a < n)).length = n
  | g, hnd, n, hn => by
    have e : (g.filter fun a => decide (g.idxOf a < n)) = g.take n := by
      conv => lhs; rw [← List.take_append_drop n g, List.filter_append]
      rw [List.filter_eq_self.mpr, List.filter_eq_nil_iff.mpr, List.append_nil]
      · intro a ha
        obtain ⟨i, hi, rfl⟩ := List.getElem_of_mem ha
        rw [List.length_drop] at hi
        rw [List.getElem_drop, List.take_append_drop, hnd.idxOf_getElem]
        simp
      · intro a ha
        obtain ⟨i, hi, rfl⟩ := List.getElem_of_mem ha
        rw [List.length_take] at hi
        rw [List.getElem_take, List.take_append_drop, hnd.idxOf_getElem]
        simp; omega
    rw [e, List.length_take]; omega
theorem one_lt {x y : Nat} : ([x] : List Nat) < [y] ↔ x < y := by
  constructor
  · intro h
    cases h with
    | rel h => exact h
    | cons h => cases h
  · intro h; exact List.Lex.rel h
theorem filter_add {l : List Nat} {p q r : Nat → Bool} (h : ∀ a ∈ l, (r a = (p a || q a)) ∧ ¬ (p a = true ∧ q a = true)) : (l.filter p).length + (l.filter q).length = (l.filter r).length := by
  induction l with
  | nil => rfl
  | cons a l ih =>
    obtain ⟨h1, h2⟩ := h a (by simp)
    have ih := ih fun b hb => h b (by simp [hb])
    cases hp : p a <;> cases hq : q a <;> rw [hp, hq] at h1 h2 <;> simp [hp, hq, h1] <;> simp at h2 <;> omega
abbrev lets (cs : List Nat) : List (List Nat) := cs.map fun c => [c]
theorem pos_eq {word cs g : List Nat} {T : Nat → Nat → Nat → Bool} (hp : cs.Perm word) (hs : cs.Pairwise (· < ·)) (hnd : word.Nodup) (ho : Ord word g T) {l : Nat} (hl : l ∈ word) : posF (lets cs) (allP cs T cs.length) [l] = g.idxOf l := by
  obtain ⟨hg, hord⟩ := ho
  have hgn : g.Nodup := hg.nodup_iff.mpr hnd
  have hlg : g.idxOf l < g.length := List.idxOf_lt_length_iff.mpr (hg.mem_iff.mpr hl)
  have hidx : ∀ {a b : Nat}, a ∈ word → b ∈ word → g.idxOf a = g.idxOf b → a = b := fun {a b} ha hb e => by
    have h1 : g[g.idxOf a]'(List.idxOf_lt_length_iff.mpr (hg.mem_iff.mpr ha)) = a := List.getElem_idxOf _
    have h2 : g[g.idxOf b]'(List.idxOf_lt_length_iff.mpr (hg.mem_iff.mpr hb)) = b := List.getElem_idxOf _
    rw [← h1, ← h2]; congr 1
  have key : posF (lets cs) (allP cs T cs.length) [l] = (cs.filter fun a => decide (g.idxOf a < g.idxOf l)).length := by
    unfold posF
    rw [List.filter_map, List.filter_map, List.length_map, List.length_map]
    refine filter_add fun a ha => ?_
    have haw : a ∈ word := hp.mem_iff.mp ha
    have any_eq : ∀ z : List Nat, ((allP cs T cs.length).any fun y => y == z) = decide (z ∈ allP cs T cs.length) := fun z => by
      rw [Bool.eq_iff_iff, List.any_eq_true, decide_eq_true_eq]
      constructor
      · rintro ⟨y, hy, e⟩; rw [← eq_of_beq e]; exact hy
      · intro h; exact ⟨z, h, beq_self_eq_true _⟩
    simp only [Function.comp_def, lessP, moreP, any_eq, List.singleton_append]
    rcases Nat.lt_trichotomy a l with q | q | q
    · have hm := (mem_pairs (T := T) hp hs haw hl q).trans (hord a haw l hl q).symm
      have n1 : ¬ l < a := by omega
      have hne : g.idxOf a ≠ g.idxOf l := fun e => by have := hidx haw hl e; omega
      simp only [one_lt, q, n1, hm, decide_true, decide_false, Bool.true_and, Bool.false_and, Bool.or_false]
      refine ⟨?_, by simp⟩
      by_cases h : g.idxOf l < g.idxOf a
      · rw [decide_eq_true h, decide_eq_false (by omega)]; rfl
      · rw [decide_eq_false h, decide_eq_true (by omega)]; rfl
    · subst q
      simp
    · have hm := (mem_pairs (T := T) hp hs hl haw q).trans (hord l hl a haw q).symm
      have n1 : ¬ a < l := by omega
      simp only [one_lt, q, n1, hm, decide_true, decide_false, Bool.true_and, Bool.false_and, Bool.false_or]
      exact ⟨trivial, by simp⟩
  rw [key, ((hp.trans hg.symm).filter _).length_eq, filter_idx hgn _ (Nat.le_of_lt hlg)]
theorem fold_set {pos : List Nat → Nat} {n : Nat} : ∀ (l : List Nat) (told : List (List Nat)), told.length = n → (∀ c ∈ l, pos [c] < n) → (∀ c ∈ l, ∀ d ∈ l, pos [c] = pos [d] → c = d) →
    let out := (lets l).foldl (fun told letter => told.set (pos letter) letter) told
    out.length = n ∧ (∀ c ∈ l, out[pos [c]]? = some [c]) ∧ ∀ i, (∀ c ∈ l, pos [c] ≠ i) → out[i]? = told[i]?
  | [], told, ht, _, _ => by
    intro out
    exact ⟨ht, fun c hc => (nomatch hc), fun i _ => rfl⟩
  | a :: l, told, ht, h1, h2 => by
    intro out
    have hrec := fold_set (pos := pos) (n := n) l (told.set (pos [a]) [a]) (by rw [List.length_set]; exact ht) (fun c hc => h1 c (by simp [hc])) (fun c hc d hd e => h2 c (by simp [hc]) d (by simp [hd]) e)
    obtain ⟨r1, r2, r3⟩ := hrec
    refine ⟨r1, fun c hc => ?_, fun i hi => ?_⟩
    · by_cases hcl : c ∈ l
      · exact r2 c hcl
      · have e : c = a := (List.mem_cons.mp hc).resolve_right hcl
        subst e
        have := r3 (pos [c]) fun d hd e => hcl (h2 d (by simp [hd]) c (by simp) e ▸ hd)
        show ((lets l).foldl _ (told.set (pos [c]) [c]))[pos [c]]? = _
        rw [this, List.getElem?_set_self]
        rw [ht]; exact h1 c (by simp)
    · show ((lets l).foldl _ (told.set (pos [a]) [a]))[i]? = _
      rw [r3 i fun c hc => hi c (by simp [hc]), List.getElem?_set_ne (hi a (by simp))]
theorem lets_flat : ∀ l : List Nat, (lets l).flatten = l
  | [] => rfl
  | b :: l => by show [b] ++ (lets l).flatten = b :: l; rw [lets_flat l]; rfl
theorem order_eq {word cs g : List Nat} {T : Nat → Nat → Nat → Bool} (hp : cs.Perm word) (hs : cs.Pairwise (· < ·)) (hnd : word.Nodup) (ho : Ord word g T) : (orderF (lets cs) (allP cs T cs.length)).flatten = g := by
  have hg := ho.1
  have hgn : g.Nodup := hg.nodup_iff.mpr hnd
  have hlen : g.length = cs.length := (hg.trans hp.symm).length_eq
  have hpos : ∀ c ∈ cs, posF (lets cs) (allP cs T cs.length) [c] = g.idxOf c := fun c hc => pos_eq hp hs hnd ho (hp.mem_iff.mp hc)
  have hmem : ∀ c ∈ cs, c ∈ g := fun c hc => (hg.trans hp.symm).mem_iff.mpr hc
  obtain ⟨r1, r2, _⟩ := fold_set (pos := posF (lets cs) (allP cs T cs.length)) (n := cs.length) cs (List.replicate (lets cs).length []) (by simp) (fun c hc => by
    rw [hpos c hc, ← hlen]; exact List.idxOf_lt_length_iff.mpr (hmem c hc)) (fun c hc d hd e => by
    rw [hpos c hc, hpos d hd] at e
    have h1 : g[g.idxOf c]'(List.idxOf_lt_length_iff.mpr (hmem c hc)) = c := List.getElem_idxOf _
    have h2 : g[g.idxOf d]'(List.idxOf_lt_length_iff.mpr (hmem d hd)) = d := List.getElem_idxOf _
    rw [← h1, ← h2]; congr 1)
  have e : orderF (lets cs) (allP cs T cs.length) = lets g := by
    apply List.ext_getElem?
    intro i
    rcases Nat.lt_or_ge i cs.length with q | q
    · have hi : i < g.length := by omega
      have hc : g[i] ∈ cs := (hg.trans hp.symm).mem_iff.mp (List.getElem_mem hi)
      have := r2 _ hc
      rw [hpos _ hc, hgn.idxOf_getElem] at this
      have e2 : (lets g)[i]? = some [g[i]] := by simp [hi]
      rw [e2]
      exact this
    · have h1 : (orderF (lets cs) (allP cs T cs.length))[i]? = none := List.getElem?_eq_none (by show List.length _ ≤ i; unfold orderF; rw [r1]; exact q)
      rw [h1]
      exact (List.getElem?_eq_none (by simp; omega)).symm
  rw [e, lets_flat]
theorem posF_lt {word cs g : List Nat} {T : Nat → Nat → Nat → Bool} (hp : cs.Perm word) (hs : cs.Pairwise (· < ·)) (hnd : word.Nodup) (ho : Ord word g T) : ∀ x ∈ lets cs, posF (lets cs) (allP cs T cs.length) x < (lets cs).length := fun x hx => by
  obtain ⟨c, hc, rfl⟩ := List.mem_map.mp hx
  have hlen : g.length = cs.length := (ho.1.trans hp.symm).length_eq
  rw [pos_eq hp hs hnd ho (hp.mem_iff.mp hc), List.length_map, ← hlen]
  exact List.idxOf_lt_length_iff.mpr ((ho.1.trans hp.symm).mem_iff.mpr hc)
end Mine

namespace Mine
/-! ### law 02: the figures -/
def drawn2 (ns : List Int) : List Int := ns.take 6 ++ ([6, 11, 2, 9, 4, 7] : List Int).drop (min 6 ns.length)
theorem drawn2_len (ns : List Int) : (drawn2 ns).length = 6 := by
  unfold drawn2; simp; omega
abbrev bag0 : List Int := (List.range 15).map fun (i : Nat) => 1 + (i : Int)
structure FigsOk (figs : List Int) : Prop where
  len : figs.length = 6
  nd : figs.Nodup
  ran : ∀ f ∈ figs, 1 ≤ f ∧ f < 16
theorem figs_ok {dr : List Int} (h : dr.length = 6) : FigsOk (pops dr bag0) := by
  obtain ⟨h1, h2, h3⟩ := pops_perm dr bag0 (by rw [h]; decide)
  have hnd : bag0.Nodup := by decide
  have hall : ∀ f ∈ bag0, 1 ≤ f ∧ f < 16 := by decide
  refine ⟨by rw [h3, h], (List.nodup_append.mp (h1.nodup_iff.mpr hnd)).1, fun f hf => hall f (h1.mem_iff.mp (List.mem_append_left _ hf))⟩
/-! ### numbers and their letters -/
theorem valI_snoc (l : List Int) (f : Int) : valI (l ++ [f]) = 16 * valI l + f := by simp [valI]
theorem rev_ind {α : Type} {P : List α → Prop} (h0 : P []) (h1 : ∀ l a, P l → P (l ++ [a])) (l : List α) : P l := by
  have : ∀ r : List α, P r.reverse := fun r => by
    induction r with
    | nil => exact h0
    | cons a r ih => rw [List.reverse_cons]; exact h1 _ _ ih
  simpa using this l.reverse
theorem valI_hex (l : List Int) (h : ∀ f ∈ l, 1 ≤ f ∧ f < 16) : 0 ≤ valI l ∧ hexD (valI l).natAbs = l.map Int.toNat ∧ (valI l).natAbs < 16 ^ l.length := by
  induction l using rev_ind with
  | h0 => exact ⟨by decide, by rw [show (valI []).natAbs = 0 from rfl, hexD_zero]; rfl, by decide⟩
  | h1 l f ih =>
    obtain ⟨i1, i2, i3⟩ := ih fun g hg => h g (by simp [hg])
    obtain ⟨f1, f2⟩ := h f (by simp)
    rw [valI_snoc]
    have e : (16 * valI l + f).natAbs = 16 * (valI l).natAbs + f.toNat := by omega
    refine ⟨by omega, ?_, ?_⟩
    · rw [e, hexD_step (by omega) (by omega), i2, List.map_append]; rfl
    · rw [e, List.length_append]
      show _ < 16 ^ (l.length + 1)
      rw [Nat.pow_succ]; omega
theorem word_eq {l : List Int} (h : ∀ f ∈ l, 1 ≤ f ∧ f < 16) {side : Int} (hs : side = 1 ∨ side = -1) : aps (hexD (side * valI l).natAbs) = l.map phi ∧ (side * valI l).natAbs < 16 ^ l.length := by
  obtain ⟨h1, h2, h3⟩ := valI_hex l h
  have e : (side * valI l).natAbs = (valI l).natAbs := by rcases hs with rfl | rfl <;> omega
  rw [e, h2]
  refine ⟨?_, h3⟩
  show (l.map Int.toNat).map (65 + ·) = _
  rw [List.map_map]; rfl

/-! ### the depth, told by both piles -/
def abvP (figs : List Int) (f y : Int) : Bool := decide (y > f) && (decide (((letGo figs).idxOf y : Int) > ((letGo figs).idxOf f : Nat)) && decide (((letGo figs.reverse).idxOf y : Int) > ((letGo figs.reverse).idxOf f : Nat)))
theorem abvP_eq {l : List Nat} (hnd : l.Nodup) {f : Nat} (hf : f ∈ l) : ((l.map fun (a : Nat) => (a : Int)).filter (abvP (l.map fun (a : Nat) => (a : Int)) (f : Int))).length = abv l f := by
  generalize hL : (l.map fun (a : Nat) => (a : Int)) = L
  have hLnd : L.Nodup := by
    rw [← hL]
    exact List.Pairwise.map _ (fun a b h e => h (Int.ofNat.inj e)) hnd
  have hmem : ∀ a : Nat, a ∈ l → (a : Int) ∈ L := fun a ha => by rw [← hL]; exact List.mem_map.mpr ⟨a, ha, rfl⟩
  have hidx : ∀ a : Nat, L.idxOf (a : Int) = l.idxOf a := fun a => by rw [← hL]; exact idxOf_cast l a
  obtain ⟨pA, oA⟩ := letGo_order hLnd
  have hndr : L.reverse.Nodup := (List.reverse_perm L).nodup_iff.mpr hLnd
  obtain ⟨pB, oB⟩ := letGo_order hndr
  have pB' := pB.trans (List.reverse_perm L)
  have hne : ∀ (g : List Int), g.Perm L → ∀ a ∈ L, ∀ b ∈ L, a ≠ b → g.idxOf a ≠ g.idxOf b := fun g hg a ha b hb hab e => hab (by
    have h1 : g[g.idxOf a]'(List.idxOf_lt_length_iff.mpr (hg.mem_iff.mpr ha)) = a := List.getElem_idxOf _
    have h2 : g[g.idxOf b]'(List.idxOf_lt_length_iff.mpr (hg.mem_iff.mpr hb)) = b := List.getElem_idxOf _
    rw [← h1, ← h2]; congr 1)
  unfold abv
  rw [← hL, List.filter_map, List.length_map, hL]
  congr 1
  refine List.filter_congr fun y hy => ?_
  have hfL := hmem f hf
  have hyL := hmem y hy
  rw [Bool.eq_iff_iff]
  simp only [Function.comp_def, abvP, Bool.and_eq_true, decide_eq_true_eq]
  have key : f < y → ((Btw l y f) ↔ ((letGo L).idxOf (y : Int) < (letGo L).idxOf (f : Int) ∨ (letGo L.reverse).idxOf (y : Int) < (letGo L.reverse).idxOf (f : Int))) := fun hlt => by
    rw [oA f hfL y hyL (by omega), oB f (by simpa using hfL) y (by simpa using hyL) (by omega), pat_rev hLnd hfL hyL]
    constructor
    · rintro ⟨z, hz, h1, h2 | h2⟩
      · exact .inl ⟨z, hmem z hz, by omega, by rw [hidx, hidx]; exact h2.1, by rw [hidx, hidx]; exact h2.2⟩
      · exact .inr ⟨z, hmem z hz, by omega, by rw [hidx, hidx]; exact h2.1, by rw [hidx, hidx]; exact h2.2⟩
    · rintro (⟨z', hz', h1, h2, h3⟩ | ⟨z', hz', h1, h2, h3⟩)
      · rw [← hL] at hz'
        obtain ⟨z, hz, rfl⟩ := List.mem_map.mp hz'
        rw [hidx, hidx] at h2 h3
        exact ⟨z, hz, by omega, .inl ⟨h2, h3⟩⟩
      · rw [← hL] at hz'
        obtain ⟨z, hz, rfl⟩ := List.mem_map.mp hz'
        rw [hidx, hidx] at h2 h3
        exact ⟨z, hz, by omega, .inr ⟨h2, h3⟩⟩
  constructor
  · rintro ⟨h1, h2, h3⟩
    have hlt : f < y := by omega
    refine ⟨hlt, fun hb => ?_⟩
    rcases (key hlt).mp hb with q | q <;> omega
  · rintro ⟨h1, h2⟩
    have n1 := hne _ pA y hyL f hfL (by omega)
    have n2 := hne _ pB' y hyL f hfL (by omega)
    have h3 := mt (key h1).mpr h2
    exact ⟨by omega, by omega, by omega⟩
/-- the rows that the law writes -/
noncomputable def rowsL (l : List Nat) : List Nat := l.flatMap fun f => List.replicate (2 + abv l f) 46 ++ ([65 + f] ++ [13, 10])
theorem mail_rows {l : List Nat} {n : Nat} (hn : l.length ≤ n) (hnd : l.Nodup) (hl : ∀ a ∈ l, a < 16) : Re.quote (mailM n l) = rowsL l := by
  rw [quote_mail n l hl, rowsM_abv n l hn hnd]
  unfold text lift rowsL
  rw [List.map_map, List.flatMap_map]
  congr 1
  funext f
  show (List.replicate (1 + abv l f + 1) 46 ++ [65 + f]) ++ [13, 10] = _
  rw [List.append_assoc, show 1 + abv l f + 1 = 2 + abv l f by omega]
end Mine

namespace Mine
/-! ### law -/
def rowsP (ab : Nat → Nat) (m : List Nat) : List Nat := m.flatMap fun f => List.replicate (2 + ab f) 46 ++ ([65 + f] ++ [13, 10])
theorem rowsP_snoc (ab : Nat → Nat) (m : List Nat) (f : Nat) : rowsP ab (m ++ [f]) = rowsP ab m ++ (List.replicate (2 + ab f) 46 ++ ([65 + f] ++ [13, 10])) := by
  unfold rowsP; rw [List.flatMap_append]; simp
theorem rowsP_len {ab : Nat → Nat} {k : Nat} (h : ∀ f, ab f ≤ k) : ∀ m : List Nat, (rowsP ab m).length ≤ m.length * (k + 5)
  | [] => by simp [rowsP]
  | f :: m => by
    have ih := rowsP_len h m
    have hf := h f
    have e : rowsP ab (f :: m) = (List.replicate (2 + ab f) 46 ++ ([65 + f] ++ [13, 10])) ++ rowsP ab m := rfl
    rw [e, List.length_append, List.length_cons, Nat.add_mul]
    simp
    omega
theorem abv_le (l : List Nat) (f : Nat) : abv l f ≤ l.length := List.length_filter_le _ _
theorem rng_at {n i : Nat} {d : D} (h : (rng n)[i]? = some d) : i < n ∧ d = .int (i : Nat) := by
  have hp : i < n := by
    have := (List.getElem?_eq_some_iff.mp h).1
    simpa [rng] using this
  refine ⟨hp, ?_⟩
  simp [rng, hp] at h
  exact h.symm
theorem rng_len (n : Nat) : (rng n).length = n := by simp [rng]
theorem own_nil (P : List (List Nat)) : some (B.own (P.map D.str)) = some (B.own ((P ++ []).map D.str)) := by rw [List.append_nil]
theorem pairs_len {cs : List Nat} {T : Nat → Nat → Nat → Bool} {k j i : Nat} (hk : k < 6) (hj : j < k) (hi : i < j) : (allP cs T k ++ midP cs T k j ++ rowP cs T k j i).length ≤ 1000 := by
  have h1 := allP_len cs T k
  have h2 := midP_len cs T k j
  have h3 := rowP_len cs T k j i
  have h4 : k * (k * k) ≤ 5 * (5 * 5) := Nat.mul_le_mul (by omega) (Nat.mul_le_mul (by omega) (by omega))
  have h5 : j * j ≤ 5 * 5 := Nat.mul_le_mul (by omega) (by omega)
  simp only [List.length_append]
  omega
theorem phi_cast (l : List Nat) : (l.map fun (a : Nat) => (a : Int)).map phi = l.map (65 + ·) := by
  rw [List.map_map]; exact List.map_congr_left fun a _ => by show 65 + ((a : Int)).toNat = 65 + a; rw [Int.toNat_natCast]
theorem figs_nat {figs : List Int} (h : FigsOk figs) : ∃ l : List Nat, figs = l.map (fun (a : Nat) => (a : Int)) ∧ l.length = 6 ∧ l.Nodup ∧ ∀ a ∈ l, 1 ≤ a ∧ a < 16 := by
  have e : figs = (figs.map Int.toNat).map (fun (a : Nat) => (a : Int)) := by
    rw [List.map_map]
    conv => lhs; rw [← List.map_id figs]
    exact List.map_congr_left fun a ha => by have := h.ran a ha; show a = ((a.toNat : Nat) : Int); omega
  refine ⟨figs.map Int.toNat, e, by rw [List.length_map, h.len], ?_, fun a ha => ?_⟩
  · have := h.nd
    rw [e] at this
    exact (List.pairwise_map.mp this).imp fun h e => h (congrArg _ e)
  · obtain ⟨f, hf, rfl⟩ := List.mem_map.mp ha
    have := h.ran f hf; omega
section
variable {prog : Program} {w : World}
theorem g_range : Glob (hd2.heap_39 w.params) "range" (.type "range") := .blt rfl rfl
theorem g_list : Glob (hd2.heap_39 w.params) "list" (.type "list") := .blt rfl rfl
theorem g_sorted : Glob (hd2.heap_39 w.params) "sorted" (.builtin "sorted") := .blt rfl rfl
theorem g_em : Glob (hd2.heap_39 w.params) "_ellipsis_match" (.ref 38) := .top rfl
theorem g_letgo : Glob (hd2.heap_39 w.params) "_law_let_go" (.ref 69) := .top rfl
theorem g_order : Glob (hd2.heap_39 w.params) "_law_order" (.ref 88) := .top rfl
theorem fa_em : FnAt (hd2.heap_39 w.params) 38 := ⟨obAt (hd2.heap_39 w.params) 38, fdAt (hd2.heap_39 w.params) 38, rfl, rfl⟩
theorem fa_letgo : FnAt (hd2.heap_39 w.params) 69 := ⟨obAt (hd2.heap_39 w.params) 69, fdAt (hd2.heap_39 w.params) 69, rfl, rfl⟩
theorem fa_order : FnAt (hd2.heap_39 w.params) 88 := ⟨obAt (hd2.heap_39 w.params) 88, fdAt (hd2.heap_39 w.params) 88, rfl, rfl⟩
theorem fn_word' {figs : List Int} {side : Int} (hl : figs.length = 6) (hf : ∀ f ∈ figs, 1 ≤ f ∧ f < 16) (hs : side = 1 ∨ side = -1) : Fn prog w (hd2.heap_39 w.params) 4 76 [dI figs, .int side] (.str (figs.map phi)) := by
  obtain ⟨h1, h2⟩ := word_eq hf hs
  rw [← h1]
  refine fn_word (by omega) (by rcases hs with rfl | rfl <;> decide) (Nat.lt_of_lt_of_le h2 ?_)
  rw [hl]
  exact Nat.pow_le_pow_right (by omega) (by omega)
theorem fn_law {ns : List Int} (hz : ns.length ≤ 63) : Fn prog w (hd2.heap_39 w.params) 16 93 [dI ns] (.bool true) := by
  have g1 := g_range (w := w)
  have g2 := g_sorted (w := w)
  have g3 := g_list (w := w)
  have g4 := g_len (w := w)
  have g5 := g_quote (w := w)
  have g6 := g_em (w := w)
  have g7 := g_letgo (w := w)
  have g8 := g_order (w := w)
  have g9 := g_word (w := w)
  have g10 := g_mail (w := w)
  have f1 := fa_quote (w := w)
  have f2 := fa_em (w := w)
  have f3 := fa_letgo (w := w)
  have f4 := fa_order (w := w)
  have f5 := fa_word (w := w)
  have f6 := fa_mail (w := w)
  refine DefAt.enter (ps := ["script"]) ⟨obAt (hd2.heap_39 w.params) 93, fdAt (hd2.heap_39 w.params) 93, by rfl, by rfl, by rfl, by rfl, ?_, by rfl, by rfl, by rfl, by rfl⟩ rfl ?_ ?_ ?_ ?_ ?_
  · intro vs h; obtain ⟨a, rfl⟩ : ∃ a, vs = [a] := List.length_eq_one_iff.mp h; rfl
  · intro n x hx; simp at hx; subst hx; exact .inl (by rfl)
  · decide
  · decide
  · exact ⟨_, List.mem_cons_self, by rfl⟩
  · intro L qual code A hA
    have s1 : ∀ {x : List Nat}, x.length ≤ 4000 → Fn prog w (hd2.heap_39 w.params) 2 62 [.str x] (.str (Re.quote x)) := fun h => fn_quote h
    have s2 : ∀ {figs : List Int} {side : Int}, figs.length = 6 → (∀ f ∈ figs, 1 ≤ f ∧ f < 16) → (side = 1 ∨ side = -1) → Fn prog w (hd2.heap_39 w.params) 4 76 [dI figs, .int side] (.str (figs.map phi)) := fun h1 h2 h3 => fn_word' h1 h2 h3
    have s3 : ∀ {figs : List Int}, figs.length ≤ 100 → Fn prog w (hd2.heap_39 w.params) 2 69 [dI figs] (dI (letGo figs)) := fun h => fn_letgo h
    have s4 : ∀ {got : List Nat} {a b c : Nat}, got.Nodup → (∀ x ∈ got, x ≠ 46) → a ∈ got → b ∈ got → c ∈ got → a ≠ b → b ≠ c → got.length ≤ 1000000 → Fn prog w (hd2.heap_39 w.params) 2 38 [.str (pat3 a b c), .str got] (.bool (decide (got.idxOf a < got.idxOf b ∧ got.idxOf b < got.idxOf c))) := fun h1 h2 h3 h4 h5 h6 h7 h8 => fn_em_pat h1 h2 h3 h4 h5 h6 h7 h8
    have s5 : ∀ {letters pairs : List (List Nat)}, letters.length ≤ 100 → pairs.length ≤ 1000 → (∀ x ∈ letters, x.length ≤ 100 ∧ ascii x) → (∀ x ∈ pairs, ascii x) → (∀ x ∈ letters, posF letters pairs x < letters.length) → Fn prog w (hd2.heap_39 w.params) 4 88 [dS letters, dS pairs] (.str (orderF letters pairs).flatten) := fun h1 h2 h3 h4 h5 => fn_order h1 h2 h3 h4 h5
    have s6 : ∀ (l : List Nat), l.length ≤ 6 → (∀ a ∈ l, 1 ≤ a ∧ a < 16) → Fn prog w (hd2.heap_39 w.params) (6 + 8) 83 [dN l] (.str (mailM 6 l)) := fun l h1 h2 => fn_mail 6 l (by omega) h1 h2
    generalize hd2.heap_39 w.params = K at *
    refine' xs_cons (x_assign (d := dI (drawn2 ns)) ?h1 ?e1 ?k1) ?_
    case h1 => walk_at "ev"
    case e1 => unfold drawn2; simp
    case k1 => walk_at "kd"
    refine' xs_cons (x_assignOwn (l := bag0.map .int) (evN_listRange (a := 1) (b := 16) hA ?f2 ?g2 ?h2 ?i2 (by decide) (by decide) (by decide) ?q2 ?r2 ?t2 ?u2 ?v2) ?e2 ?k2) ?_
    case f2 => walk_at "evf"
    case g2 => walk_at "evf"
    case h2 => walk_at "ev"
    case i2 => walk_at "ev"
    case q2 => rfl
    case r2 => rfl
    case t2 => rfl
    case u2 => rfl
    case v2 => rfl
    case e2 => rfl
    case k2 => walk_at "kd"
    have hdl := drawn2_len ns
    refine' xs_cons ?X3 ?_
    case X3 =>
      refine' x_assignPopComp (ns := drawn2 ns) (l := bag0) rfl (by rw [hdl]; decide) (by decide) ?cl3 ?_ ?_ ?_ ?_ ?_ rfl ?b3 (fun _ => ?kf3) ?cap3 ?I3 ?_ ?e3 (by decide) rfl ?_ ?_ (by decide) (by decide) ?_ ?_ ?_ ?_ ?_
      case cl3 => exact rfl
      case b3 => exact rfl
      case kf3 => first | exact .inl rfl | exact .inr rfl
      case cap3 => intro l'; walk_at "capt"
      case I3 => walk_at "evi"
      case e3 =>
        intro C l' k h1 h2
        refine' Ev.cast ?a4 ?c4
        case a4 =>
          refine' ev_bin ?l4 ?r4 (op_mod ?s4)
          case l4 => walk_at "ev"
          case r4 =>
            refine' Ev.flat (q' := false) (d := .int ((l'.map D.int).length : Nat)) ?x4 rfl
            refine' ev_call ?f5 (.inl ⟨_, rfl⟩) (evL_cons ?a5 evL_nil) (op_lenL ?z5)
            case f5 => walk_at "evf"
            case a5 => walk_at "ev"
            case z5 => simp; omega
          case s4 => simp; omega
        case c4 => simp
      all_goals walk_at "cs"
    have hfok := figs_ok hdl
    generalize pops (drawn2 ns) bag0 = figs at hfok ⊢
    obtain ⟨l, rfl, hl6, hnd, hran⟩ := figs_nat hfok
    -- the word
    have hFl : (l.map fun (a : Nat) => (a : Int)).length = 6 := by rw [List.length_map, hl6]
    have hFr : ∀ f ∈ (l.map fun (a : Nat) => (a : Int)), 1 ≤ f ∧ f < 16 := hfok.ran
    have hFn := hfok.nd
    have hF0 : ∀ f ∈ (l.map fun (a : Nat) => (a : Int)), 0 ≤ f := fun f hf => by have := hFr f hf; omega
    have hA0 := ordA hF0 hFn
    have hB0 := ordB hF0 hFn
    rw [phi_cast] at hA0 hB0
    have hWnd : (l.map (65 + ·)).Nodup := by have := nodup_phi hF0 hFn; rwa [phi_cast] at this
    have hWr : ∀ c ∈ l.map (65 + ·), 65 < c ∧ c < 81 := fun c hc => by
      obtain ⟨a, ha, rfl⟩ := List.mem_map.mp hc
      have := hran a ha; omega
    have hWl : (l.map (65 + ·)).length = 6 := by rw [List.length_map, hl6]
    refine' xs_cons (x_assign (d := .str (l.map (65 + ·))) (Ev.cast ?h5 ?c5) rfl ?k5) ?_
    case h5 =>
      refine' ev_callFn ?f6 ?a6 f5 (s2 (side := 1) hFl hFr (.inl rfl)) ?A6
      case f6 => walk_at "evf"
      case a6 => walk_at "evl"
      case A6 => walk_at "aok"
    case c5 => rw [phi_cast]
    case k5 => walk_at "kd"
    refine' xs_cons (x_skip (evC_cmp (d₁ := .str (l.map (65 + ·))) (d₂ := .str (l.map (65 + ·))) ?l7 ?r7 op_neS ?m7) ?c7) ?_
    case l7 => walk_at "ev"
    case r7 =>
      refine' Ev.cast (ev_method (T := "str") (d₀ := .str []) (ds := [dS (l.map fun f => [65 + f])]) ?h8 ?a8 rfl F.plainAttrs_str F.slot_str_join F.type_str_join (op_join (x := []) (xs := l.map fun f => [65 + f]) ?z8)) ?c8
      case h8 => exact ev_str
      case a8 =>
        refine' evL_cons (EvN.ev (EvN.cast (evN_comp1 (ρc := []) (fun a : Nat => D.int (a : Int)) l (fun _ => true) (fun f => .str [65 + f]) ?g9 ?cl9 ?_ ?_ ?_ ?_ ?_ ?cap9 ?I9 ?_ ?_ ?e9 ?z9 ?_) ?c9)) evL_nil
        case g9 => intro a b e; exact Int.ofNat.inj (D.int.inj e)
        case cl9 => exact rfl
        case cap9 => walk_at "capt"
        case I9 =>
          refine' evI_cast ?a10 ?b10
          case a10 => walk_at "evi"
          case b10 => rw [List.map_map]; rfl
        case e9 =>
          intro C a ha _
          have hle := letterAt (hran a ha).2
          have h0 : (0 : Int) ≤ (a : Int) := by omega
          have h1 : (a : Int) < 2 ^ 62 := by have := hran a ha; omega
          refine' ev_index ?v13 ?s13 rfl (op_itemS h0 h1 hle)
          case v13 => walk_at "ev"
          case s13 => walk_at "ev"
        case z9 => omega
        case c9 => rw [filt_true, List.map_map]; rfl
        all_goals walk_at "cs"
      case z8 =>
        have : ∀ m : List Nat, ((m.map fun f => [65 + f]).map (·.length)).sum = m.length := fun m => by
          induction m with
          | nil => rfl
          | cons a m ih => rw [List.map_cons, List.map_cons, List.sum_cons, ih]; simp; omega
        rw [this]; simp; omega
      case c8 =>
        have e := Re.join_nil (l.map fun f => [65 + f])
        rw [show S [] = S ([] : List Nat) from rfl, e]
        congr 1
        have := lets_flat (l.map (65 + ·))
        have e2 : (l.map (65 + ·)).map (fun c => [c]) = l.map fun f => [65 + f] := by rw [List.map_map]; rfl
        rw [← e2]
        exact this.symm ▸ rfl
    case m7 => intro _; rfl
    case c7 => simp
    refine' xs_cons (x_assign (d := dS (lets (sortN (l.map (65 + ·))))) (Ev.cast ?h11 ?c11) rfl ?k11) ?_
    case h11 =>
      refine' ev_call ?f12 (.inl ⟨_, rfl⟩) ?a12 (op_sortedS hA (x := l.map (65 + ·)) ?z12)
      case f12 => walk_at "evf"
      case a12 => walk_at "evl"
      case z12 => omega
    case c11 => show D.lst _ = D.lst (List.map D.str (List.map _ _)); rw [List.map_map]; rfl
    case k11 => walk_at "kd"
    have hCp := sortN_perm (l.map (65 + ·))
    have hCu := sortN_up hWnd
    have hCl : (sortN (l.map (65 + ·))).length = 6 := by rw [hCp.length_eq, hWl]
    generalize hCS : sortN (l.map (65 + ·)) = CS at hCp hCu hCl ⊢
    generalize hWD : l.map (65 + ·) = WD at hA0 hB0 hWnd hWr hWl hCp ⊢
    walk_at "asgn"
    walk_at "asgn"
    -- the pairs
    have hgd : ∀ i (h : i < 6), CS.getD i 0 = CS[i]'(by omega) := fun i h => by simp [List.getD, show i < CS.length by omega]
    have hmem : ∀ i, i < 6 → CS.getD i 0 ∈ WD := fun i hi => by rw [hgd i hi]; exact hCp.mem_iff.mp (List.getElem_mem _)
    have hltC : ∀ i j, i < j → j < 6 → CS.getD i 0 < CS.getD j 0 := fun i j hij hj => by
      rw [hgd i (by omega), hgd j hj]; exact (up_idx hCu (by omega) (by omega)).mpr hij
    have hget : ∀ i, i < 6 → ((lets CS).map D.str)[((i : Nat) : Int).toNat]? = some (.str [CS.getD i 0]) := fun i hi => by
      rw [Int.toNat_natCast, hgd i hi, List.map_map, List.getElem?_map, List.getElem?_eq_getElem (by omega)]; rfl
    have hno46 : ∀ x ∈ WD, x ≠ 46 := fun x hx => by have := hWr x hx; omega
    have z3 : (Str.ofString "...").cps.toList.length = 3 := rfl
    let ρk : Nat → Rho := fun n => [("ahead", .own ((allP CS (TA WD) n).map .str)), ("behind", .own ((allP CS (TB WD) n).map .str)), ("letters", .d (.lst ((lets CS).map .str))), ("word", .d (.str WD)), ("figures", .d (.lst ((l.map fun (a : Nat) => (a : Int)).map .int)))]
    refine Xs.pre (ρ₁ := ρk 0) (.cons rfl (.cons rfl (.cons rfl (.cons rfl (.cons rfl .nil))))) ?_
    refine' xs_cons (x_for (ds := rng 6) ρk ?I20 ?step20) ?_
    case I20 =>
      refine' evI_cast ?a21 ?b21
      case a21 => walk_at "evi"
      case b21 => rfl
    case step20 =>
      intro k d hd
      obtain ⟨hk, rfl⟩ := rng_at hd
      refine ⟨_, bd_name (by walk_at "kd"), ?_⟩
      let ρj : Nat → Rho := fun n => [("ahead", .own ((allP CS (TA WD) k ++ midP CS (TA WD) k n).map .str)), ("behind", .own ((allP CS (TB WD) k ++ midP CS (TB WD) k n).map .str)), ("k", .d (.int (k : Nat))), ("letters", .d (.lst ((lets CS).map .str))), ("word", .d (.str WD)), ("figures", .d (.lst ((l.map fun (a : Nat) => (a : Int)).map .int)))]
      refine Xs.pre (ρ₁ := ρj 0) (.cons (own_nil _) (.cons (own_nil _) (.cons rfl (.cons rfl (.cons rfl (.cons rfl .nil)))))) ?_
      refine' xs_cons (x_for (ds := rng k) ρj ?I22 ?step22) (Xs.sub xs_nil (.cons ?ga22 (.cons ?gb22 (.cons rfl (.cons rfl (.cons rfl .nil))))))
      case I22 =>
        refine' evI_cast ?a23 ?b23
        case a23 => walk_at "evi"
        case b23 => rw [Int.toNat_natCast]
      case ga22 =>
        show some (B.own ((allP CS (TA WD) k ++ midP CS (TA WD) k (rng k).length).map D.str)) = some (B.own ((allP CS (TA WD) (k + 1)).map D.str))
        rw [allP_succ, rng_len]
      case gb22 =>
        show some (B.own ((allP CS (TB WD) k ++ midP CS (TB WD) k (rng k).length).map D.str)) = some (B.own ((allP CS (TB WD) (k + 1)).map D.str))
        rw [allP_succ, rng_len]
      case step22 =>
        intro j d hd
        obtain ⟨hj, rfl⟩ := rng_at hd
        refine ⟨_, bd_name (by walk_at "kd"), ?_⟩
        let ρi : Nat → Rho := fun n => [("ahead", .own ((allP CS (TA WD) k ++ midP CS (TA WD) k j ++ rowP CS (TA WD) k j n).map .str)), ("behind", .own ((allP CS (TB WD) k ++ midP CS (TB WD) k j ++ rowP CS (TB WD) k j n).map .str)), ("j", .d (.int (j : Nat))), ("k", .d (.int (k : Nat))), ("letters", .d (.lst ((lets CS).map .str))), ("word", .d (.str WD)), ("figures", .d (.lst ((l.map fun (a : Nat) => (a : Int)).map .int)))]
        refine Xs.pre (ρ₁ := ρi 0) (.cons (own_nil _) (.cons (own_nil _) (.cons rfl (.cons rfl (.cons rfl (.cons rfl (.cons rfl .nil))))))) ?_
        refine' xs_cons (x_for (ds := rng j) ρi ?I24 ?step24) (Xs.sub xs_nil (.cons ?ga24 (.cons ?gb24 (.cons rfl (.cons rfl (.cons rfl (.cons rfl .nil)))))))
        case I24 =>
          refine' evI_cast ?a25 ?b25
          case a25 => walk_at "evi"
          case b25 => rw [Int.toNat_natCast]
        case ga24 =>
          show some (B.own ((allP CS (TA WD) k ++ midP CS (TA WD) k j ++ rowP CS (TA WD) k j (rng j).length).map D.str)) = some (B.own ((allP CS (TA WD) k ++ midP CS (TA WD) k (j + 1)).map D.str))
          rw [midP_succ, rng_len, List.append_assoc]
        case gb24 =>
          show some (B.own ((allP CS (TB WD) k ++ midP CS (TB WD) k j ++ rowP CS (TB WD) k j (rng j).length).map D.str)) = some (B.own ((allP CS (TB WD) k ++ midP CS (TB WD) k (j + 1)).map D.str))
          rw [midP_succ, rng_len, List.append_assoc]
        case step24 =>
          intro i d hd
          obtain ⟨hi, rfl⟩ := rng_at hd
          refine ⟨_, bd_name (by walk_at "kd"), ?_⟩
          have hgi := hget i (by omega)
          have hgj := hget j (by omega)
          have hgk := hget k hk
          have hmi := hmem i (by omega)
          have hmj := hmem j (by omega)
          have hmk := hmem k hk
          have hij := hltC i j hi (by omega)
          have hjk := hltC j k hj hk
          have r1 := @rowP_succ CS (TA WD) k j i
          have r2 := @rowP_succ CS (TB WD) k j i
          have hzA : (allP CS (TA WD) k ++ midP CS (TA WD) k j ++ rowP CS (TA WD) k j i).length ≤ 1000 := pairs_len hk hj hi
          have hzB : (allP CS (TB WD) k ++ midP CS (TB WD) k j ++ rowP CS (TB WD) k j i).length ≤ 1000 := pairs_len hk hj hi
          simp only [ρi]
          rw [r1, r2]
          generalize allP CS (TA WD) k ++ midP CS (TA WD) k j = PA at *
          generalize allP CS (TB WD) k ++ midP CS (TB WD) k j = PB at *
          generalize rowP CS (TA WD) k j i = RA at *
          generalize rowP CS (TB WD) k j i = RB at *
          generalize CS.getD i 0 = cx at *
          generalize CS.getD j 0 = cy at *
          generalize CS.getD k 0 = cz at *
          refine' xs_cons (x_swap3 (d₁ := .str [cx]) (d₂ := .str [cy]) (d₃ := .str [cz]) hA ?h26 rfl rfl rfl ?kx26 ?ky26 ?kz26) ?_
          case h26 => walk_at "ev"
          case kx26 => walk_at "kd"
          case ky26 => walk_at "kd"
          case kz26 => walk_at "kd"
          refine' xs_cons (x_assign (d := .bool (TA WD cx cy cz)) ?h27 rfl ?k27) ?_
          case h27 =>
            refine' ev_callFn ?f28 (evL_cons (Ev.cast (d' := .str (pat3 cy cz cx)) ?a28 ?c28) (evL_cons ?b28 evL_nil)) f2 (s4 hWnd hno46 hmj hmk hmi (by omega) (by omega) (by omega)) ?A28
            case f28 => walk_at "evf"
            case a28 => walk_at "ev"
            case c28 => rfl
            case b28 => walk_at "ev"
            case A28 => walk_at "aok"
          case k27 => walk_at "kd"
          refine' xs_cons (x_assign (d := .bool (TB WD cx cy cz)) ?h29 rfl ?k29) ?_
          case h29 =>
            refine' ev_callFn ?f30 (evL_cons (Ev.cast (d' := .str (pat3 cx cz cy)) ?a30 ?c30) (evL_cons ?b30 evL_nil)) f2 (s4 hWnd hno46 hmi hmk hmj (by omega) (by omega) (by omega)) ?A30
            case f30 => walk_at "evf"
            case a30 => walk_at "ev"
            case c30 => rfl
            case b30 => walk_at "ev"
            case A30 => walk_at "aok"
          case k29 => walk_at "kd"
          generalize TA WD cx cy cz = tA at *
          generalize TB WD cx cy cz = tB at *
          let ρa : List D → List D → Rho := fun la lb => [("ahead", .own la), ("behind", .own lb), ("there", .d (.bool tA)), ("back", .d (.bool tB)), ("x", .d (.str [cx])), ("y", .d (.str [cy])), ("j", .d (.int (j : Nat))), ("k", .d (.int (k : Nat))), ("letters", .d (.lst ((lets CS).map .str))), ("word", .d (.str WD)), ("figures", .d (.lst ((l.map fun (a : Nat) => (a : Int)).map .int)))]
          refine Xs.pre (ρ₁ := ρa ((PA ++ RA).map .str) ((PB ++ RB).map .str)) (.cons rfl (.cons rfl (.cons rfl (.cons rfl (.cons rfl (.cons rfl (.cons rfl (.cons rfl (.cons rfl (.cons rfl (.cons rfl .nil))))))))))) ?_
          refine' xs_cons (ρ₁ := ρa ((PA ++ (RA ++ if tA then [[cy, cx]] else [])).map .str) ((PB ++ RB).map .str)) (x_if (b := tA) (EvC.cast ?c31 ?e31) (fun h => ?t31) (fun h => ?f31)) ?_
          case c31 => walk_at "evc"
          case e31 => cases tA <;> rfl
          case t31 =>
            subst h
            refine' xs_cons (x_append (l' := (PA ++ (RA ++ [[cy, cx]])).map .str) (d := .str [cy, cx]) rfl ?h32 ?l32 ?z32) (Xs.sub xs_nil (.cons rfl (.cons rfl (.cons rfl (.cons rfl (.cons rfl (.cons rfl (.cons rfl (.cons rfl (.cons rfl (.cons rfl (.cons rfl .nil))))))))))))
            case h32 =>
              refine' Ev.cast (d := .str ([cy] ++ [cx])) ?i32 rfl
              case i32 => walk_at "ev"
            case l32 => simp
            case z32 => rw [List.length_map]; omega
          case f31 =>
            subst h
            refine' xs_cons (x_skip ?c33 ?e33) (Xs.sub xs_nil (.cons (by show some (B.own ((PA ++ RA).map D.str)) = some (B.own ((PA ++ (RA ++ [])).map D.str)); rw [List.append_nil]) (.cons rfl (.cons rfl (.cons rfl (.cons rfl (.cons rfl (.cons rfl (.cons rfl (.cons rfl (.cons rfl (.cons rfl .nil))))))))))))
            case c33 => walk_at "evc"
            case e33 => rfl
          refine' xs_cons (ρ₁ := ρa ((PA ++ (RA ++ if tA then [[cy, cx]] else [])).map .str) ((PB ++ (RB ++ if tB then [[cy, cx]] else [])).map .str)) (x_if (b := tB) (EvC.cast ?c34 ?e34) (fun h => ?t34) (fun h => ?f34)) ?_
          case c34 => walk_at "evc"
          case e34 => cases tB <;> rfl
          case t34 =>
            subst h
            refine' xs_cons (x_append (l' := (PB ++ (RB ++ [[cy, cx]])).map .str) (d := .str [cy, cx]) rfl ?h35 ?l35 ?z35) (Xs.sub xs_nil (.cons rfl (.cons rfl (.cons rfl (.cons rfl (.cons rfl (.cons rfl (.cons rfl (.cons rfl (.cons rfl (.cons rfl (.cons rfl .nil))))))))))))
            case h35 =>
              refine' Ev.cast (d := .str ([cy] ++ [cx])) ?i35 rfl
              case i35 => walk_at "ev"
            case l35 => simp
            case z35 => rw [List.length_map]; omega
          case f34 =>
            subst h
            refine' xs_cons (x_skip ?c36 ?e36) (Xs.sub xs_nil (.cons rfl (.cons (by show some (B.own ((PB ++ RB).map D.str)) = some (B.own ((PB ++ (RB ++ [])).map D.str)); rw [List.append_nil]) (.cons rfl (.cons rfl (.cons rfl (.cons rfl (.cons rfl (.cons rfl (.cons rfl (.cons rfl (.cons rfl .nil))))))))))))
            case c36 => walk_at "evc"
            case e36 => rfl
          refine Xs.sub xs_nil (.cons ?_ (.cons ?_ (.cons rfl (.cons rfl (.cons rfl (.cons rfl (.cons rfl .nil)))))))
          · show some (B.own ((PA ++ (RA ++ if tA then [[cy, cx]] else [])).map D.str)) = some (B.own ((PA ++ (RA ++ if tA = true then [[cy, cx]] else [])).map D.str))
            rfl
          · show some (B.own ((PB ++ (RB ++ if tB then [[cy, cx]] else [])).map D.str)) = some (B.own ((PB ++ (RB ++ if tB = true then [[cy, cx]] else [])).map D.str))
            rfl
    -- the piles
    have pA := posF_lt hCp hCu hWnd hA0
    have oA := order_eq hCp hCu hWnd hA0
    have pB := posF_lt hCp hCu hWnd hB0
    have oB := order_eq hCp hCu hWnd hB0
    rw [hCl] at pA oA pB oB
    have hlz : ∀ x ∈ lets CS, x.length ≤ 100 ∧ ascii x := fun x hx => by
      obtain ⟨a, ha, rfl⟩ := List.mem_map.mp hx
      have := hWr a (hCp.mem_iff.mp ha)
      exact ⟨by simp, fun b hb => by simp at hb; subst hb; omega⟩
    have hpz : ∀ (T : Nat → Nat → Nat → Bool), ∀ x ∈ allP CS T 6, ascii x := fun T x hx => by
      obtain ⟨k, j, i, hk, hj, hi, _, rfl⟩ := mem_allP.mp hx
      have h1 := hWr _ (hmem j (by omega))
      have h2 := hWr _ (hmem i (by omega))
      intro b hb
      simp only [List.mem_cons, List.not_mem_nil, or_false] at hb
      rcases hb with rfl | rfl <;> omega
    have hpl : ∀ (T : Nat → Nat → Nat → Bool), (allP CS T 6).length ≤ 1000 := fun T => Nat.le_trans (allP_len CS T 6) (by omega)
    have hFrl : (l.map fun (a : Nat) => (a : Int)).reverse.length = 6 := by rw [List.length_reverse, hFl]
    have hFrn : (l.map fun (a : Nat) => (a : Int)).reverse.Nodup := (List.reverse_perm _).nodup_iff.mpr hFn
    obtain ⟨gP, _⟩ := letGo_order hFn
    obtain ⟨cP0, _⟩ := letGo_order hFrn
    have cP := cP0.trans (List.reverse_perm _)
    have hgl := gP.length_eq.trans hFl
    have hcl := cP.length_eq.trans hFl
    have hgr : ∀ f ∈ letGo (l.map fun (a : Nat) => (a : Int)), 1 ≤ f ∧ f < 16 := fun f hf => hFr f (gP.mem_iff.mp hf)
    have hcr : ∀ f ∈ letGo (l.map fun (a : Nat) => (a : Int)).reverse, 1 ≤ f ∧ f < 16 := fun f hf => hFr f (cP.mem_iff.mp hf)
    have habv : ∀ f ∈ l, ((l.map fun (a : Nat) => (a : Int)).filter (abvP (l.map fun (a : Nat) => (a : Int)) (f : Int))).length = abv l f := fun f hf => abvP_eq hnd hf
    have hgm : ∀ f ∈ (l.map fun (a : Nat) => (a : Int)), f ∈ letGo (l.map fun (a : Nat) => (a : Int)) := fun f hf => gP.mem_iff.mpr hf
    have hcm : ∀ f ∈ (l.map fun (a : Nat) => (a : Int)), f ∈ letGo (l.map fun (a : Nat) => (a : Int)).reverse := fun f hf => cP.mem_iff.mpr hf
    unfold abvP at habv
    refine Xs.pre (ρ₁ := [("ahead", .own ((allP CS (TA WD) 6).map .str)), ("behind", .own ((allP CS (TB WD) 6).map .str)), ("letters", .d (.lst ((lets CS).map .str))), ("figures", .d (.lst ((l.map fun (a : Nat) => (a : Int)).map .int)))]) (.cons rfl (.cons rfl (.cons rfl (.cons rfl .nil)))) ?_
    refine' xs_cons (x_assign (d := dI (letGo (l.map fun (a : Nat) => (a : Int)))) ?h40 rfl ?k40) ?_
    case h40 =>
      refine' ev_callFn ?f41 ?a41 f3 (s3 (by omega)) ?A41
      case f41 => walk_at "evf"
      case a41 => walk_at "evl"
      case A41 => walk_at "aok"
    case k40 => walk_at "kd"
    refine' xs_cons (x_assign (d := dI (letGo (l.map fun (a : Nat) => (a : Int)).reverse)) ?h42 rfl ?k42) ?_
    case h42 =>
      refine' ev_callFn ?f43 (evL_cons (Ev.cast ?a43 ?c43) evL_nil) f3 (s3 (by omega)) ?A43
      case f43 => walk_at "evf"
      case a43 => walk_at "ev"
      case c43 => rw [← List.map_reverse]
      case A43 => walk_at "aok"
    case k42 => walk_at "kd"
    refine' xs_cons (x_skip (evC_cmp (d₁ := .str ((letGo (l.map fun (a : Nat) => (a : Int))).map phi)) (d₂ := .str ((letGo (l.map fun (a : Nat) => (a : Int))).map phi)) ?l44 ?r44 op_neS ?m44) ?c44) ?_
    case l44 =>
      refine' ev_callFn ?f45 ?a45 f5 (s2 (side := -1) hgl hgr (.inr rfl)) ?A45
      case f45 => walk_at "evf"
      case a45 =>
        refine' evL_cons ?b45 (evL_cons ?d45 evL_nil)
        case b45 => walk_at "ev"
        case d45 => walk_at "ev"
      case A45 => walk_at "aok"
    case r44 =>
      refine' Ev.cast (ev_callFn ?f46 ?a46 f4 (s5 (letters := lets CS) (pairs := allP CS (TA WD) 6) (by simp; omega) (hpl _) hlz (hpz _) pA) ?A46) (by rw [oA])
      case f46 => walk_at "evf"
      case a46 => walk_at "evl"
      case A46 => walk_at "aok"
    case m44 => intro _; rfl
    case c44 => simp
    refine' xs_cons (x_skip (evC_cmp (d₁ := .str ((letGo (l.map fun (a : Nat) => (a : Int)).reverse).map phi)) (d₂ := .str ((letGo (l.map fun (a : Nat) => (a : Int)).reverse).map phi)) ?l47 ?r47 op_neS ?m47) ?c47) ?_
    case l47 =>
      refine' ev_callFn ?f48 ?a48 f5 (s2 (side := 1) hcl hcr (.inl rfl)) ?A48
      case f48 => walk_at "evf"
      case a48 => walk_at "evl"
      case A48 => walk_at "aok"
    case r47 =>
      refine' Ev.cast (ev_callFn ?f49 ?a49 f4 (s5 (letters := lets CS) (pairs := allP CS (TB WD) 6) (by simp; omega) (hpl _) hlz (hpz _) pB) ?A49) (by rw [oB])
      case f49 => walk_at "evf"
      case a49 => walk_at "evl"
      case A49 => walk_at "aok"
    case m47 => intro _; rfl
    case c47 => simp
    walk_at "asg"
    -- the rows
    have hzr : ∀ i, (rowsP (abv l) (l.take i)).length ≤ 66 := fun i => by
      have h1 := rowsP_len (ab := abv l) (k := 6) (fun f => hl6 ▸ abv_le l f) (l.take i)
      have h2 : (l.take i).length ≤ 6 := by rw [List.length_take]; omega
      omega
    have hmlen := mail_len (n := 6) (l := l) (by omega) fun a ha => (hran a ha).2
    have hmr : Re.quote (mailM 6 l) = rowsP (abv l) l := mail_rows (by omega) hnd fun a ha => (hran a ha).2
    have hdN : dI (l.map fun (a : Nat) => (a : Int)) = dN l := by show D.lst _ = D.lst _; rw [List.map_map]; rfl
    generalize hGO : letGo (l.map fun (a : Nat) => (a : Int)) = GO at *
    generalize hCO : letGo (l.map fun (a : Nat) => (a : Int)).reverse = CO at *
    let ρf : Nat → Rho := fun i => [("rows", .d (.str (rowsP (abv l) (l.take i)))), ("going", .d (.lst (GO.map .int))), ("coming", .d (.lst (CO.map .int))), ("figures", .d (.lst ((l.map fun (a : Nat) => (a : Int)).map .int)))]
    refine Xs.pre (ρ₁ := ρf 0) (.cons rfl (.cons rfl (.cons rfl (.cons rfl .nil)))) ?_
    refine' xs_cons (x_for (ds := (l.map fun (a : Nat) => (a : Int)).map .int) ρf ?I50 ?step50) ?_
    case I50 => walk_at "evi"
    case step50 =>
      intro i d hd
      obtain ⟨f, hf, rfl⟩ : ∃ f, l[i]? = some f ∧ D.int (f : Int) = d := by simpa using hd
      have hfl := List.mem_of_getElem? hf
      have hff := hran f hfl
      have hfI : (f : Int) ∈ (l.map fun (a : Nat) => (a : Int)) := List.mem_map.mpr ⟨f, hfl, rfl⟩
      have hab := habv f hfl
      have habl : abv l f ≤ 6 := hl6 ▸ abv_le l f
      have hzri := hzr i
      refine ⟨_, bd_name (by walk_at "kd"), ?_⟩
      refine' xs_cons ?X51 ?_
      case X51 =>
        refine' x_assignComp1 (ρc := [("coming", .d (.lst (CO.map .int))), ("figure", .d (.int (f : Nat))), ("going", .d (.lst (GO.map .int)))]) D.int (l.map fun (a : Nat) => (a : Int)) (fun y => decide (y > (f : Int)) && (decide ((GO.idxOf y : Int) > (GO.idxOf (f : Int) : Nat)) && decide ((CO.idxOf y : Int) > (CO.idxOf (f : Int) : Nat)))) D.int (l' := ((l.map fun (a : Nat) => (a : Int)).filter (fun y => decide (y > (f : Int)) && (decide ((GO.idxOf y : Int) > (GO.idxOf (f : Int) : Nat)) && decide ((CO.idxOf y : Int) > (CO.idxOf (f : Int) : Nat))))).map .int) ?g52 ?cl52 ?_ ?_ ?_ ?_ ?_ ?cap52 ?I52 ?_ ?t52 ?e52 ?z52 ?l52 ?_ ?_ ?_
        case g52 => intro a b e; exact D.int.inj e
        case cl52 => exact rfl
        case cap52 => walk_at "capt"
        case I52 => walk_at "evi"
        case t52 =>
          intro C y hy
          refine' evC_and3 ?a53 (fun _ => ?b53) (fun _ _ => ?c53)
          case a53 => walk_at "evc"
          case b53 =>
            refine' evC_cmp (d₁ := .int (GO.idxOf y : Nat)) (d₂ := .int (GO.idxOf (f : Int) : Nat)) ?l54 ?r54 op_gt ?m54
            case l54 =>
              refine' Ev.flat (q' := true) (ev_method (T := "list") (d₀ := dI GO) (ds := [.int y]) ?h55 ?a55 rfl F.plainAttrs_list F.slot_list_index F.type_list_index (op_index (hgm y hy) (by omega))) rfl
              case h55 => walk_at "ev"
              case a55 => walk_at "evl"
            case r54 =>
              refine' Ev.flat (q' := true) (ev_method (T := "list") (d₀ := dI GO) (ds := [.int (f : Int)]) ?h56 ?a56 rfl F.plainAttrs_list F.slot_list_index F.type_list_index (op_index (hgm f hfI) (by omega))) rfl
              case h56 => walk_at "ev"
              case a56 => walk_at "evl"
            case m54 => intro _; rfl
          case c53 =>
            refine' evC_cmp (d₁ := .int (CO.idxOf y : Nat)) (d₂ := .int (CO.idxOf (f : Int) : Nat)) ?l57 ?r57 op_gt ?m57
            case l57 =>
              refine' Ev.flat (q' := true) (ev_method (T := "list") (d₀ := dI CO) (ds := [.int y]) ?h58 ?a58 rfl F.plainAttrs_list F.slot_list_index F.type_list_index (op_index (hcm y hy) (by omega))) rfl
              case h58 => walk_at "ev"
              case a58 => walk_at "evl"
            case r57 =>
              refine' Ev.flat (q' := true) (ev_method (T := "list") (d₀ := dI CO) (ds := [.int (f : Int)]) ?h59 ?a59 rfl F.plainAttrs_list F.slot_list_index F.type_list_index (op_index (hcm f hfI) (by omega))) rfl
              case h59 => walk_at "ev"
              case a59 => walk_at "evl"
            case m57 => intro _; rfl
        case e52 => intro C y hy _; walk_at "ev"
        case z52 => omega
        case l52 => rfl
        all_goals walk_at "cs"
      generalize ((l.map fun (a : Nat) => (a : Int)).filter (fun y => decide (y > (f : Int)) && (decide ((GO.idxOf y : Int) > (GO.idxOf (f : Int) : Nat)) && decide ((CO.idxOf y : Int) > (CO.idxOf (f : Int) : Nat))))) = AB at hab ⊢
      have hABl : (AB.map D.int).length = abv l f := by rw [List.length_map, hab]
      have hle := letterAt hff.2
      have h0 : (0 : Int) ≤ (f : Int) := by omega
      have h1 : (f : Int) < 2 ^ 62 := by omega
      refine' xs_cons (x_assign (d := .str (rowsP (abv l) (l.take (i + 1)))) (Ev.cast (ev_bin (d₁ := .str (rowsP (abv l) (l.take i) ++ List.replicate (2 + abv l f) 46 ++ [65 + f])) (d₂ := .str [13, 10]) (ev_bin (d₁ := .str (rowsP (abv l) (l.take i) ++ List.replicate (2 + abv l f) 46)) (d₂ := .str [65 + f]) (ev_bin (d₁ := .str (rowsP (abv l) (l.take i))) (d₂ := .str (List.replicate (2 + abv l f) 46)) ?a60 ?b60 (op_cat ?z60)) ?c60 (op_cat ?z61)) ?d60 (op_cat ?z62)) ?e60) rfl ?k60) (Xs.sub xs_nil (.cons rfl (.cons rfl (.cons rfl (.cons rfl .nil)))))
      case a60 => walk_at "ev"
      case b60 =>
        refine' Ev.cast (ev_bin (d₁ := .str [46]) (d₂ := .int (2 + (abv l f : Nat))) ev_str ?f63 (op_dots rfl ?g63 ?h63)) ?i63
        case f63 =>
          refine' ev_bin ev_int ?f64 op_add
          refine' Ev.flat (q' := true) (d := .int (abv l f : Nat)) (Ev.cast (ev_call ?f65 (.inl ⟨_, rfl⟩) (evL_cons (d := .lst (AB.map .int)) ?a65 evL_nil) (op_lenL ?z65)) ?c65) rfl
          case f65 => walk_at "evf"
          case a65 => walk_at "ev"
          case z65 => omega
          case c65 => rw [hABl]
        case g63 => omega
        case h63 => omega
        case i63 => rw [show (2 + ((abv l f : Nat) : Int)).toNat = 2 + abv l f by omega]
      case c60 =>
        refine' ev_index ?v66 ?s66 rfl (op_itemS h0 h1 hle)
        case v66 => walk_at "ev"
        case s66 => walk_at "ev"
      case d60 => exact ev_str
      case z60 => simp; omega
      case z61 => simp; omega
      case z62 => simp; omega
      case e60 =>
        rw [List.take_add_one, hf]
        show _ = D.str (rowsP (abv l) (l.take i ++ [f]))
        rw [rowsP_snoc]
        simp
      case k60 => walk_at "kd"
    refine Xs.pre (ρ₁ := [("rows", .d (.str (rowsP (abv l) l))), ("figures", .d (.lst ((l.map fun (a : Nat) => (a : Int)).map .int)))]) (.cons (by
      show some (B.d (D.str (rowsP (abv l) (l.take ((l.map fun (a : Nat) => (a : Int)).map D.int).length)))) = _
      rw [List.length_map, List.length_map, List.take_length]) (.cons rfl .nil)) ?_
    refine' xs_ret (x_retFlat (d := .bool true) (Ev.cast (ev_cmp (d₁ := .str (Re.quote (mailM 6 l))) (d₂ := .str (rowsP (abv l) l)) ?l67 ?r67 op_eqS ?m67) ?c67) rfl rfl)
    case l67 =>
      refine' ev_callFn ?f68 (evL_cons ?a68 evL_nil) f1 (s1 (by omega)) ?A68
      case f68 => walk_at "evf"
      case a68 =>
        refine' ev_callFn ?f69 (evL_cons (Ev.cast (ev_name rfl) hdN) evL_nil) f6 (s6 l (by omega) hran) ?A69
        case f69 => walk_at "evf"
        case A69 => exact hA.le (by omega)
      case A68 => walk_at "aok"
    case r67 => walk_at "ev"
    case m67 => intro _; rfl
    case c67 => rw [hmr]; simp
end
end Mine
namespace Mine
theorem plain_of_well {P : Params} {h : Heap} {a : Addr} {vs : List Value} {xs : List WData} (x : Well P h (.ref a) (.list xs)) (y : h.IsList a vs.toArray) : h.PlainList a vs.toArray := by
  obtain ⟨o, e, _, n, hd⟩ := y
  cases x with
  | list g _ =>
    rw [g] at e; cases e
    cases hd
    exact ⟨_, g⟩
theorem good_true {c : ClaimW} {cl : Str → Option Addr} {mean : ExcName → Option Value} {args : List WData} {s₁ s' : Shared} {v : Value} (hv : v = .bool true) (k : Ext s₁ s') (hg : s₁.gens = #[]) (hn : ∀ cls, c.raises args cls = false) (hp : c.post args (.bool true) args = true) :
    GoodWG c cl mean args s₁ (.ok (.ret v)) s' := by
  subst hv
  obtain ⟨h, t, rfl, kk⟩ := k
  exact GoodW.toG ⟨.inl ⟨_, .bool true, [], rfl, hn, .bool true, hp, unshared_nil⟩, kk, rfl, hg⟩
theorem x2 : PySem.Challenge.rw_rw0017_02.Holds := hd2 (by
  k_fill
  intro w s₀ s₁ mg mb G Y fa o pm cd doc dV kV ho hd hcd hD hmg hg args vals as hpre hlay hrd hwl hlo
  have KX := kIn_of Y
  clear hd hcd hD
  refine Ground.open G ?_
  intro T B D TE TW
  obtain ⟨hns, ⟨mb', hb1, hb2⟩, hnl⟩ : s₁.heap.Ns mainGlobals mg ∧ (∃ mb, s₁.heap.Ns builtinsNs mb ∧ ∀ x : Str, x ≠ "__name__" → mb x = bootBuiltins x) ∧ s₁.heap.NoLimit := ⟨T.g, ⟨mb, T.b, T.builtins⟩, T.nolimit⟩
  wrow_args hpre hlay hrd hwl hlo
  refine enter_call ?_
  rename_i ns hs hlay0 hL1 hr1 hl2 W4 W3 l vs W0 hL ra w1 r0 hI hr hc1 hc2
  have hmg' : mg "law" = some (.ref fa) := hmg
  have h93 := mg_of KX hns (n := "law") (v := .ref 93) rfl
  rw [hmg'] at h93
  cases h93
  have hpl : s₁.heap.PlainList l vs.toArray := plain_of_well w1 hL
  have gl : GL (hd2.heap_39 w.params) s₁.heap := ⟨KX, ⟨mg, mb', hns, hb1, hb2⟩, hnl⟩
  refine codeAny_mono (fn_law (ns := ns) (by omega) callerA s₁ [.ref l] ⟨rfl, by decide, by decide⟩ gl ⟨_, [], rfl, ⟨l, vs, rfl, List.not_mem_nil, hpl, RdL.of_ints hI⟩, rfl⟩) ?_
  rintro r s' ⟨v, rfl, k, hv⟩
  refine good_true (hv [] (fun _ h => nomatch h)) k hg (raisesW_false ?_) ?_
  · wrow_none_raised
  · first | kc_post | wrow_post)
end Mine

theorem PySem.Challenge.cw_rw0017_02_holds : PySem.Challenge.rw_rw0017_02.Holds := by
  exact Mine.x2
