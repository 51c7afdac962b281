import PyProof.Rows.All
import Wide.All
import OpenK.AllK
import Wide.FinOn
import PySem.Challenge.RW_pg0163_01
open PySem PySem.W PyProof.Rows
set_option Elab.async false
set_option maxRecDepth 100000
set_option linter.unusedVariables false
set_option linter.unusedSimpArgs false
set_option maxHeartbeats 8000000
namespace Mine
open_top hd for PySem.Challenge.rw_pg0163_01
end Mine
namespace Mine

/-! ## abstract values -/
inductive AV where
  | none
  | bool (b : Bool)
  | int (i : Int)
  | str (x : Str)
  | lst (xs : List AV)
  | tup (xs : List AV)
  | own (k : Nat)
  | rng (a b c : Int)

mutual
def AV.Is (ρ W : List Addr) (h : Heap) : AV → Value → Prop
  | .none, v => v = Value.none
  | .bool b, v => v = Value.bool b
  | .int i, v => ∃ t, v = Value.int i t
  | .str x, v => ∃ t, v = Value.str x t
  | .lst xs, v => ∃ a vs, v = Value.ref a ∧ a ∉ W ∧ h.IsList a (List.toArray vs) ∧ AllIs ρ W h xs vs
  | .tup xs, v => ∃ a vs, v = Value.ref a ∧ a ∉ W ∧ IsTup h a (List.toArray vs) ∧ AllIs ρ W h xs vs
  | .own k, v => ∃ a, v = Value.ref a ∧ ρ[k]? = some a
  | .rng a b c, v => ∃ r t u w, v = Value.ref r ∧ r ∉ W ∧ IsRange h r a b c t u w
def AllIs (ρ W : List Addr) (h : Heap) : List AV → List Value → Prop
  | [], vs => vs = []
  | x :: xs, vs => ∃ v vs', vs = v :: vs' ∧ AV.Is ρ W h x v ∧ AllIs ρ W h xs vs'
end

theorem AllIs.length {ρ W h} : ∀ {xs : List AV} {vs : List Value}, AllIs ρ W h xs vs → vs.length = xs.length
  | [], _, e => by simp only [AllIs] at e; subst e; rfl
  | _ :: xs, _, e => by
    simp only [AllIs] at e
    obtain ⟨v, vs', rfl, _, r⟩ := e
    rw [List.length_cons, List.length_cons, r.length]

theorem AllIs.get {ρ W h} : ∀ {xs : List AV} {vs : List Value} {i : Nat} {x : AV}, AllIs ρ W h xs vs → xs[i]? = some x → ∃ v, vs[i]? = some v ∧ x.Is ρ W h v
  | [], _, _, _, _, e => by simp at e
  | y :: xs, vs, i, x, h, e => by
    simp only [AllIs] at h
    obtain ⟨v, vs', rfl, hx, r⟩ := h
    cases i with
    | zero => simp only [List.getElem?_cons_zero, Option.some.injEq] at e; subst e; exact ⟨v, rfl, hx⟩
    | succ i => simp only [List.getElem?_cons_succ] at e ⊢; exact r.get e

theorem AllIs.append {ρ W h} : ∀ {xs ys : List AV} {vs us : List Value}, AllIs ρ W h xs vs → AllIs ρ W h ys us → AllIs ρ W h (xs ++ ys) (vs ++ us)
  | [], _, _, _, a, b => by simp only [AllIs] at a; subst a; exact b
  | x :: xs, ys, _, us, a, b => by
    simp only [AllIs] at a
    obtain ⟨v, vs', rfl, hx, r⟩ := a
    simp only [List.cons_append, AllIs]
    exact ⟨v, _, rfl, hx, r.append b⟩

theorem AllIs.one {ρ W h x v} (hx : AV.Is ρ W h x v) : AllIs ρ W h [x] [v] := by
  simp only [AllIs]; exact ⟨v, [], rfl, hx, rfl⟩

theorem AllIs.drop {ρ W h} : ∀ (n : Nat) {xs : List AV} {vs : List Value}, AllIs ρ W h xs vs → AllIs ρ W h (xs.drop n) (vs.drop n)
  | 0, _, _, a => a
  | n + 1, [], _, a => by simp only [AllIs] at a; subst a; simp [AllIs]
  | n + 1, _ :: xs, _, a => by
    simp only [AllIs] at a
    obtain ⟨v, vs', rfl, _, r⟩ := a
    exact r.drop n

theorem AllIs.take {ρ W h} : ∀ (n : Nat) {xs : List AV} {vs : List Value}, AllIs ρ W h xs vs → AllIs ρ W h (xs.take n) (vs.take n)
  | 0, _, _, _ => by simp [AllIs]
  | n + 1, [], _, a => by simp only [AllIs] at a; subst a; simp [AllIs]
  | n + 1, _ :: xs, _, a => by
    simp only [AllIs] at a
    obtain ⟨v, vs', rfl, hx, r⟩ := a
    simp only [List.take_succ_cons, AllIs]
    exact ⟨v, _, rfl, hx, r.take n⟩

theorem AllIs.set {ρ W h} : ∀ (i : Nat) {xs : List AV} {vs : List Value} {x : AV} {v : Value}, AllIs ρ W h xs vs → AV.Is ρ W h x v → AllIs ρ W h (xs.set i x) (vs.set i v)
  | _, [], _, _, _, a, _ => by simp only [AllIs] at a; subst a; simp [AllIs]
  | 0, _ :: xs, _, _, _, a, b => by
    simp only [AllIs] at a
    obtain ⟨v, vs', rfl, _, r⟩ := a
    simp only [List.set_cons_zero, AllIs]
    exact ⟨_, _, rfl, b, r⟩
  | i + 1, _ :: xs, _, _, _, a, b => by
    simp only [AllIs] at a
    obtain ⟨v, vs', rfl, hx, r⟩ := a
    simp only [List.set_cons_succ, AllIs]
    exact ⟨_, _, rfl, hx, r.set i b⟩

theorem AllIs.reverse {ρ W h} : ∀ {xs : List AV} {vs : List Value}, AllIs ρ W h xs vs → AllIs ρ W h xs.reverse vs.reverse
  | [], _, e => by simp only [AllIs] at e; subst e; simp [AllIs]
  | _ :: xs, _, e => by
    simp only [AllIs] at e
    obtain ⟨v, vs', rfl, hx, r⟩ := e
    rw [List.reverse_cons, List.reverse_cons]
    exact r.reverse.append (AllIs.one hx)

theorem allIs_ints {ρ W h} : ∀ {vs : List Value} {ns : List Int}, IntsAre vs ns → AllIs ρ W h (ns.map .int) vs
  | _, _, .nil => by simp [AllIs]
  | _, _, .cons _ _ r => by
    simp only [List.map_cons, AllIs]
    exact ⟨_, _, rfl, ⟨_, rfl⟩, allIs_ints r⟩
theorem ints_allIs {ρ W h} : ∀ {vs : List Value} {ns : List Int}, AllIs ρ W h (ns.map .int) vs → IntsAre vs ns
  | _, [], e => by simp only [List.map_nil, AllIs] at e; subst e; exact .nil
  | _, n :: ns, e => by
    simp only [List.map_cons, AllIs, AV.Is] at e
    obtain ⟨v, vs', rfl, ⟨t, rfl⟩, r⟩ := e
    exact .cons _ _ (ints_allIs r)

/-! heap and address lists change -/
structure Evo (P ρ : List Addr) (h : Heap) (ρ' : List Addr) (h' : Heap) : Prop where
  keep : ∀ a o, a ∉ P → h.get? a = some o → h'.get? a = some o
  live : ∀ a o, h.get? a = some o → ∃ o', h'.get? a = some o'
  new : ∀ a ∈ ρ', a ∈ ρ ∨ h.get? a = none

mutual
theorem AV.Is.evo {ρ ρ' W W' : List Addr} {h h' : Heap} (keep : ∀ a o, a ∉ W → h.get? a = some o → h'.get? a = some o) (new : ∀ a ∈ W', a ∈ W ∨ h.get? a = none) (pre : ρ <+: ρ') :
    ∀ {r : AV} {v : Value}, r.Is ρ W h v → r.Is ρ' W' h' v
  | .none, _, e => e
  | .bool _, _, e => e
  | .int _, _, e => e
  | .str _, _, e => e
  | .lst xs, v, e => by
    simp only [AV.Is] at e ⊢
    obtain ⟨a, vs, rfl, ha, hl, r⟩ := e
    obtain ⟨o, ho, hr⟩ := hl
    refine ⟨a, vs, rfl, fun hm => ?_, ⟨o, keep a o ha ho, hr⟩, AllIs.evo keep new pre r⟩
    rcases new a hm with q | q
    · exact ha q
    · rw [q] at ho; cases ho
  | .tup xs, v, e => by
    simp only [AV.Is] at e ⊢
    obtain ⟨a, vs, rfl, ha, hl, r⟩ := e
    obtain ⟨o, ho, hr⟩ := hl
    refine ⟨a, vs, rfl, fun hm => ?_, ⟨o, keep a o ha ho, hr⟩, AllIs.evo keep new pre r⟩
    rcases new a hm with q | q
    · exact ha q
    · rw [q] at ho; cases ho
  | .own k, v, e => by
    simp only [AV.Is] at e ⊢
    obtain ⟨a, rfl, hk⟩ := e
    refine ⟨a, rfl, ?_⟩
    obtain ⟨t, rfl⟩ := pre
    rw [List.getElem?_append_left (List.getElem?_eq_some_iff.mp hk).1, hk]
  | .rng a b c, v, e => by
    simp only [AV.Is] at e ⊢
    obtain ⟨r, t, u, w, rfl, ha, ho⟩ := e
    refine ⟨r, t, u, w, rfl, fun hm => ?_, keep r _ ha ho⟩
    rcases new r hm with q | q
    · exact ha q
    · have ho' : h.get? r = some _ := ho
      rw [q] at ho'; cases ho'
theorem AllIs.evo {ρ ρ' W W' : List Addr} {h h' : Heap} (keep : ∀ a o, a ∉ W → h.get? a = some o → h'.get? a = some o) (new : ∀ a ∈ W', a ∈ W ∨ h.get? a = none) (pre : ρ <+: ρ') :
    ∀ {xs : List AV} {vs : List Value}, AllIs ρ W h xs vs → AllIs ρ' W' h' xs vs
  | [], _, e => by simp only [AllIs] at e ⊢; exact e
  | x :: xs, _, e => by
    simp only [AllIs] at e ⊢
    obtain ⟨v, vs', rfl, hx, r⟩ := e
    exact ⟨v, vs', rfl, AV.Is.evo keep new pre hx, AllIs.evo keep new pre r⟩
end

/-! own (mutable) objects -/
inductive AO where
  | cell (v : Option AV)
  | list (xs : List AV)

/-- a list as the machine lays it -/
def Lo (h : Heap) (a : Addr) (vs : List Value) : Prop := ∃ n, h.get? a = some (listOf vs.toArray n)
theorem Lo.isList {h a vs} (x : Lo h a vs) : h.IsList a vs.toArray := let ⟨n, ho⟩ := x; ⟨_, ho, rfl, n, rfl⟩

def AO.At (ρ W : List Addr) (h : Heap) (a : Addr) : AO → Prop
  | .cell none => h.IsCell a none
  | .cell (some r) => ∃ v, h.IsCell a (some v) ∧ r.Is ρ W h v
  | .list xs => ∃ vs, Lo h a vs ∧ AllIs ρ W h xs vs

theorem AO.At.evo {ρ ρ' W W' : List Addr} {h h' : Heap} {a : Addr} (keep : ∀ a o, a ∉ W → h.get? a = some o → h'.get? a = some o) (new : ∀ a ∈ W', a ∈ W ∨ h.get? a = none) (pre : ρ <+: ρ')
    (ha : ∀ o, h.get? a = some o → h'.get? a = some o) : ∀ {o : AO}, o.At ρ W h a → o.At ρ' W' h' a
  | .cell none, e => by
    obtain ⟨o, ho, hd⟩ := e
    exact ⟨o, ha o ho, hd⟩
  | .cell (some r), e => by
    obtain ⟨v, ⟨o, ho, hd⟩, hr⟩ := e
    exact ⟨v, ⟨o, ha o ho, hd⟩, hr.evo keep new pre⟩
  | .list xs, e => by
    obtain ⟨vs, ⟨n, ho⟩, hr⟩ := e
    exact ⟨vs, ⟨n, ha _ ho⟩, hr.evo keep new pre⟩

theorem AO.At.there {ρ W h a} : ∀ {o : AO}, o.At ρ W h a → ∃ x, h.get? a = some x
  | .cell none, e => let ⟨o, ho, _⟩ := e; ⟨o, ho⟩
  | .cell (some _), e => let ⟨_, ⟨o, ho, _⟩, _⟩ := e; ⟨o, ho⟩
  | .list _, e => let ⟨_, ⟨_, ho⟩, _⟩ := e; ⟨_, ho⟩

/-! ## the base: what the top left -/
structure Base where
  prog : Program
  w : World
  H : Heap
  os : OsState
  mg : Str → Option Value
  mb : Str → Option Value
  g : H.Ns mainGlobals mg
  b : H.Ns builtinsNs mb
  bi : ∀ x : Str, x ≠ "__name__" → mb x = bootBuiltins x
  nolim : H.NoLimit

inductive CV where
  | own (k : Nat)
  | cap (r : AV)

structure AS where
  ls : List (Str × AV)
  cx : List (Str × CV)
  own : List AO

abbrev wide (L : Addr) (ρ χ : List Addr) : List Addr := L :: (ρ ++ χ)

def CV.At (L : Addr) (ρ χ : List Addr) (h : Heap) (a : Addr) : CV → Prop
  | .own k => ρ[k]? = some a
  | .cap r => a ∉ L :: ρ ∧ ∃ v, h.IsCell a (some v) ∧ r.Is ρ (wide L ρ χ) h v

structure St (C : Base) (env : Env) (σ : AS) (ρ χ : List Addr) (s : Shared) : Prop where
  base : ∀ a o, C.H.get? a = some o → s.heap.get? a = some o
  gens : s.gens = #[]
  os : s.os = C.os
  len : ρ.length = σ.own.length
  nod : (wide env.locals ρ χ).Nodup
  out : ∀ a ∈ env.locals :: ρ, C.H.get? a = none
  above : C.H.objs.size ≤ env.locals
  alc : ∀ a ∈ wide env.locals ρ χ, ∃ o, s.heap.get? a = some o
  ns : ∃ m, s.heap.Ns env.locals m ∧ ∀ p ∈ σ.ls, env.kindOf p.1 = some .local ∧ (p.1 == ("__debug__" : Str)) = false ∧ ∃ v, m p.1 = some v ∧ p.2.Is ρ (wide env.locals ρ χ) s.heap v
  keys : (σ.ls.map (·.1)).Nodup
  cx : ∀ p ∈ σ.cx, (env.kindOf p.1 = some .cell ∨ env.kindOf p.1 = some .free) ∧ (p.1 == ("__classdict__" : Str)) = false ∧ (p.1 == ("__debug__" : Str)) = false ∧ ∃ a, env.cells.lookup p.1 = some a ∧ p.2.At env.locals ρ χ s.heap a
  own : ∀ (k : Nat) (o : AO), σ.own[k]? = some o → ∃ a, ρ[k]? = some a ∧ o.At ρ (wide env.locals ρ χ) s.heap a

structure EnvOk (sc : Scope) (env : Env) : Prop where
  scope : env.scope = sc
  fn : sc.kind = .function
  glob : env.globals = mainGlobals
  blt : env.builtins = builtinsNs

structure Ok (n : Nat) (A : Around) : Prop where
  handled : A.handled = none
  depth : A.depth + n ≤ 900
  units : A.units + 10 * n ≤ 9000

theorem Ok.in1 {n A} (x : Ok (n + 1) A) : Ok n A.in1 := ⟨x.handled, by have := x.depth; show A.depth + n ≤ 900; omega, by have := x.units; show A.units + 1 + 10 * n ≤ 9000; omega⟩
theorem Ok.less {n m A} (x : Ok n A) (h : m ≤ n) : Ok m A := ⟨x.handled, by have := x.depth; omega, by have := x.units; omega⟩
theorem Ok.deeper {n A env} (x : Ok (n + 1) A) : Ok n (A.deeper env) := ⟨x.handled, by have := x.depth; show A.depth + 1 + n ≤ 900; omega, by have := x.units; rw [Around.deeper_units]; omega⟩
theorem Ok.room {n A} (x : Ok n A) : A.depth < recursionLimit := by have := x.depth; unfold recursionLimit; omega
theorem Ok.line {n A} (x : Ok n A) : A.units + 100 < cLine := by have := x.units; unfold cLine; omega

end Mine
namespace Mine

theorem Ns.unique {h : Heap} {L m m'} (a : h.Ns L m) (b : h.Ns L m') : m = m' := by
  obtain ⟨o, es, ep, ho, hd, _, hm⟩ := a
  obtain ⟨o', es', ep', ho', hd', _, hm'⟩ := b
  rw [ho] at ho'; cases ho'
  rw [hd] at hd'; cases hd'
  funext x; rw [← hm x, hm' x]

section
variable {C : Base} {env : Env} {σ σ' : AS} {ρ χ : List Addr} {s : Shared}

theorem St.notIn (S : St C env σ ρ χ s) {a o} (h : C.H.get? a = some o) : a ∉ env.locals :: ρ := fun hm => by rw [S.out a hm] at h; cases h

/-- the heap grows (or only the frame's own object is another, its map the same) -/
theorem St.grow (S : St C env σ ρ χ s) {h' : Heap} {t : Nat} {m : Str → Option Value} (hn : s.heap.Ns env.locals m) (hn' : h'.Ns env.locals m)
    (hk : ∀ a o, a ≠ env.locals → s.heap.get? a = some o → h'.get? a = some o) : St C env σ ρ χ { s with heap := h', toks := t } := by
  have keep : ∀ a o, a ∉ wide env.locals ρ χ → s.heap.get? a = some o → h'.get? a = some o := fun a o ha e => hk a o (fun z => ha (z ▸ List.mem_cons_self)) e
  have new : ∀ a ∈ wide env.locals ρ χ, a ∈ wide env.locals ρ χ ∨ s.heap.get? a = none := fun a h => .inl h
  have pre : ρ <+: ρ := List.prefix_refl _
  refine ⟨fun a o e => hk a o (fun z => S.notIn e (z ▸ List.mem_cons_self)) (S.base a o e), S.gens, S.os, S.len, S.nod, S.out, S.above, fun a ha => ?_, ?_, S.keys, fun p hp => ?_, fun k o hk' => ?_⟩
  · by_cases z : a = env.locals
    · obtain ⟨o, _, _, ho, _⟩ := hn'; exact ⟨o, z ▸ ho⟩
    · obtain ⟨o, ho⟩ := S.alc a ha; exact ⟨o, hk a o z ho⟩
  · obtain ⟨m₀, hm₀, hl⟩ := S.ns
    refine ⟨m, hn', fun p hp => ?_⟩
    obtain ⟨a, b, v, hv, hi⟩ := hl p hp
    rw [Ns.unique hm₀ hn] at hv
    exact ⟨a, b, v, hv, hi.evo keep new pre⟩
  · obtain ⟨a, b, c, d, hd, he⟩ := S.cx p hp
    refine ⟨a, b, c, d, hd, ?_⟩
    cases hq : p.2 with
    | own k => rw [hq] at he; exact he
    | cap r =>
      rw [hq] at he
      obtain ⟨h1, v, ⟨o, ho, hc⟩, hi⟩ := he
      exact ⟨h1, v, ⟨o, hk d o (fun z => h1 (z ▸ List.mem_cons_self)) ho, hc⟩, hi.evo keep new pre⟩
  · obtain ⟨a, ha, hi⟩ := S.own k o hk'
    refine ⟨a, ha, hi.evo keep new pre fun o ho => hk a o (fun z => ?_) ho⟩
    have hm : a ∈ ρ := List.mem_of_getElem? ha
    have := (List.nodup_cons.mp S.nod).1
    exact this (List.mem_append_left _ (z ▸ hm))

theorem St.toks (S : St C env σ ρ χ s) (t : Nat) : St C env σ ρ χ { s with toks := t } := by
  obtain ⟨m, hm, _⟩ := S.ns
  exact S.grow hm hm fun _ _ _ e => e

theorem Evo.refl {P ρ h} : Evo P ρ h ρ h := ⟨fun _ _ _ e => e, fun _ o e => ⟨o, e⟩, fun _ h => .inl h⟩
theorem Evo.trans {L ρ h ρ' h' ρ'' h''} (x : Evo (L :: ρ) ρ h ρ' h') (y : Evo (L :: ρ') ρ' h' ρ'' h'') : Evo (L :: ρ) ρ h ρ'' h'' := by
  refine ⟨fun a o ha e => y.keep a o (fun hm => ?_) (x.keep a o ha e), fun a o e => ?_, fun a ha => ?_⟩
  · rcases List.mem_cons.mp hm with rfl | hm
    · exact ha List.mem_cons_self
    · rcases x.new a hm with q | q
      · exact ha (List.mem_cons_of_mem _ q)
      · rw [q] at e; cases e
  · obtain ⟨o', e'⟩ := x.live a o e
    exact y.live a o' e'
  · rcases y.new a ha with q | q
    · exact x.new a q
    · cases hq : h.get? a with
      | none => exact .inr rfl
      | some o =>
        obtain ⟨o', e'⟩ := x.live a o hq
        rw [q] at e'; cases e'

structure Post (C : Base) (env : Env) (σ' : AS) (ρ χ : List Addr) (s : Shared) (ρ' : List Addr) (s' : Shared) : Prop where
  st : St C env σ' ρ' χ s'
  evo : Evo (env.locals :: ρ) ρ s.heap ρ' s'.heap
  pre : ρ <+: ρ'

theorem Post.refl (S : St C env σ ρ χ s) : Post C env σ ρ χ s ρ s := ⟨S, Evo.refl, List.prefix_refl _⟩
theorem Post.trans {σ₁ σ₂ : AS} {ρ₁ ρ₂ : List Addr} {s₁ s₂ : Shared} (x : Post C env σ₁ ρ χ s ρ₁ s₁) (y : Post C env σ₂ ρ₁ χ s₁ ρ₂ s₂) : Post C env σ₂ ρ χ s ρ₂ s₂ :=
  ⟨y.st, x.evo.trans y.evo, x.pre.trans y.pre⟩
theorem Evo.ofGrow {L ρ h h'} (hk : ∀ a o, a ≠ L → h.get? a = some o → h'.get? a = some o) (hl : ∃ o, h'.get? L = some o) : Evo (L :: ρ) ρ h ρ h' :=
  ⟨fun a o ha e => hk a o (fun z => ha (z ▸ List.mem_cons_self)) e, fun a o e => by
    by_cases z : a = L
    · exact z ▸ hl
    · exact ⟨o, hk a o z e⟩, fun _ h => .inl h⟩
theorem Ns.there {h : Heap} {L m} (x : h.Ns L m) : ∃ o, h.get? L = some o := let ⟨o, _, _, ho, _⟩ := x; ⟨o, ho⟩
theorem Post.grow (S : St C env σ ρ χ s) {h' : Heap} {t : Nat} {m : Str → Option Value} (hn : s.heap.Ns env.locals m) (hn' : h'.Ns env.locals m)
    (hk : ∀ a o, a ≠ env.locals → s.heap.get? a = some o → h'.get? a = some o) : Post C env σ ρ χ s ρ { s with heap := h', toks := t } :=
  ⟨S.grow hn hn' hk, Evo.ofGrow hk (Ns.there hn'), List.prefix_refl _⟩
theorem Post.toks (S : St C env σ ρ χ s) (t : Nat) : Post C env σ ρ χ s ρ { s with toks := t } := ⟨S.toks t, Evo.refl, List.prefix_refl _⟩
theorem Post.push (S : St C env σ ρ χ s) (o : Obj) (t : Nat) : Post C env σ ρ χ s ρ { s with heap := s.heap.push o, toks := t } := by
  obtain ⟨m, hm, _⟩ := S.ns
  exact Post.grow S hm (hm.push o) fun a o' _ e => Heap.get?_push_of_some o e

/-- a value's word goes along -/
theorem Post.is {x : AV} {v : Value} {ρ' : List Addr} {s' : Shared} (P : Post C env σ' ρ χ s ρ' s') (h : x.Is ρ (wide env.locals ρ χ) s.heap v) : x.Is ρ' (wide env.locals ρ' χ) s'.heap v := by
  refine h.evo (fun a o ha e => P.evo.keep a o (fun hm => ha ?_) e) (fun a ha => ?_) P.pre
  · rcases List.mem_cons.mp hm with rfl | hm
    · exact List.mem_cons_self
    · exact List.mem_cons_of_mem _ (List.mem_append_left _ hm)
  · rcases List.mem_cons.mp ha with rfl | ha
    · exact .inl List.mem_cons_self
    · rcases List.mem_append.mp ha with ha | ha
      · rcases P.evo.new a ha with q | q
        · exact .inl (List.mem_cons_of_mem _ (List.mem_append_left _ q))
        · exact .inr q
      · exact .inl (List.mem_cons_of_mem _ (List.mem_append_right _ ha))
theorem Post.all {xs : List AV} {vs : List Value} {ρ' : List Addr} {s' : Shared} (P : Post C env σ' ρ χ s ρ' s') (h : AllIs ρ (wide env.locals ρ χ) s.heap xs vs) : AllIs ρ' (wide env.locals ρ' χ) s'.heap xs vs := by
  refine h.evo (fun a o ha e => P.evo.keep a o (fun hm => ha ?_) e) (fun a ha => ?_) P.pre
  · rcases List.mem_cons.mp hm with rfl | hm
    · exact List.mem_cons_self
    · exact List.mem_cons_of_mem _ (List.mem_append_left _ hm)
  · rcases List.mem_cons.mp ha with rfl | ha
    · exact .inl List.mem_cons_self
    · rcases List.mem_append.mp ha with ha | ha
      · rcases P.evo.new a ha with q | q
        · exact .inl (List.mem_cons_of_mem _ (List.mem_append_left _ q))
        · exact .inr q
      · exact .inl (List.mem_cons_of_mem _ (List.mem_append_right _ ha))

/-- the rest of the heap, listed: what the library's rules keep for us -/
def allNews (H : Heap) (L : Addr) (h : Heap) : List (Addr × Obj) :=
  (List.range h.objs.size).filterMap fun a => if a = L ∨ (H.get? a).isSome = true then none else (h.get? a).map fun o => (a, o)
theorem mem_allNews {H : Heap} {L : Addr} {h : Heap} {p : Addr × Obj} : p ∈ allNews H L h ↔ h.get? p.1 = some p.2 ∧ p.1 ≠ L ∧ H.get? p.1 = none := by
  unfold allNews
  rw [List.mem_filterMap]
  constructor
  · rintro ⟨a, _, e⟩
    split at e
    · cases e
    · rename_i hn
      cases hg : h.get? a with
      | none => rw [hg] at e; cases e
      | some o =>
        rw [hg] at e
        cases e
        refine ⟨hg, fun z => hn (.inl z), ?_⟩
        cases hH : H.get? a with
        | none => rfl
        | some o' => exact absurd (.inr (by rw [hH]; rfl)) hn
  · rintro ⟨e, hL, hH⟩
    refine ⟨p.1, List.mem_range.mpr (Heap.lt_size e), ?_⟩
    rw [if_neg (by rintro (z | z); exact hL z; rw [hH] at z; cases z), e]
    rfl
theorem St.fr (S : St C env σ ρ χ s) {m} (hm : s.heap.Ns env.locals m) : Fr C.H env.locals s.heap m := ⟨hm, S.base, S.above⟩
theorem St.news : News C.H env.locals s.heap (allNews C.H env.locals s.heap) := fun p hp => let ⟨a, b, c⟩ := mem_allNews.mp hp; ⟨a, b, c⟩
theorem keeps_of (F : Fr C.H env.locals s.heap m) {h' : Heap} {m' : Str → Option Value} {more : List (Addr × Obj)} (F' : Fr C.H env.locals h' m') (N' : News C.H env.locals h' (more ++ allNews C.H env.locals s.heap)) :
    ∀ a o, a ≠ env.locals → s.heap.get? a = some o → h'.get? a = some o := fun a o ha e => by
  cases q : C.H.get? a with
  | some o' =>
    have := F.keep a o' q
    rw [e] at this; cases this
    exact F'.keep a o q
  | none => exact (N' (a, o) (List.mem_append_right _ (mem_allNews.mpr ⟨e, ha, q⟩))).1
end
end Mine
namespace Mine

/-- the names' list with one name set -/
inductive SetL (x : Str) (r : AV) : List (Str × AV) → List (Str × AV) → Prop
  | nil : SetL x r [] [(x, r)]
  | hit {r₀ t} : SetL x r ((x, r₀) :: t) ((x, r) :: t)
  | miss {y v t t'} : (y == x) = false → SetL x r t t' → SetL x r ((y, v) :: t) ((y, v) :: t')

theorem SetL.keys {x r} : ∀ {l l'}, SetL x r l l' → ∀ y, y ∈ l'.map (·.1) → y = x ∨ y ∈ l.map (·.1)
  | _, _, .nil, y, h => by simp at h; exact .inl h
  | _, _, .hit, y, h => by
    simp only [List.map_cons, List.mem_cons] at h
    rcases h with rfl | h
    · exact .inl rfl
    · right; simp only [List.map_cons, List.mem_cons]; exact .inr h
  | _, _, .miss _ t, y, h => by
    simp only [List.map_cons, List.mem_cons] at h ⊢
    rcases h with rfl | h
    · exact .inr (.inl rfl)
    · rcases t.keys y h with q | q
      · exact .inl q
      · exact .inr (.inr q)
theorem SetL.nodup {x r} : ∀ {l l'}, SetL x r l l' → (l.map (·.1)).Nodup → (l'.map (·.1)).Nodup
  | _, _, .nil, _ => by simp
  | _, _, .hit, h => h
  | _, _, .miss hne t, h => by
    simp only [List.map_cons, List.nodup_cons] at h ⊢
    refine ⟨fun hm => ?_, t.nodup h.2⟩
    rcases t.keys _ hm with rfl | q
    · simp at hne
    · exact h.1 q
theorem SetL.mem {x r} : ∀ {l l'}, SetL x r l l' → (l.map (·.1)).Nodup → ∀ p, p ∈ l' → p = (x, r) ∨ (p ∈ l ∧ p.1 ≠ x)
  | _, _, .nil, _, p, h => by simp at h; exact .inl h
  | _, _, .hit, hn, p, h => by
    rcases List.mem_cons.mp h with rfl | h
    · exact .inl rfl
    · right
      refine ⟨List.mem_cons_of_mem _ h, fun z => ?_⟩
      simp only [List.map_cons, List.nodup_cons] at hn
      exact hn.1 (z ▸ List.mem_map_of_mem h)
  | _, _, .miss hne t, hn, p, h => by
    rcases List.mem_cons.mp h with rfl | h
    · right; exact ⟨List.mem_cons_self, fun z => by simp at hne; exact hne z⟩
    · simp only [List.map_cons, List.nodup_cons] at hn
      rcases t.mem hn.2 p h with q | q
      · exact .inl q
      · exact .inr ⟨List.mem_cons_of_mem _ q.1, q.2⟩

section
variable {C : Base} {env : Env} {σ σ' : AS} {ρ χ : List Addr} {s : Shared}

theorem St.loc (S : St C env σ ρ χ s) : env.locals ∉ ρ ++ χ := (List.nodup_cons.mp S.nod).1

theorem nodup_place : ∀ {l : List Addr} {i j : Nat} {a : Addr}, l.Nodup → l[i]? = some a → l[j]? = some a → i = j
  | [], _, _, _, _, h, _ => by simp at h
  | x :: l, 0, 0, _, _, _, _ => rfl
  | x :: l, 0, j + 1, a, hn, h, h' => by
    simp at h h'; subst h
    exact absurd (List.mem_of_getElem? h') (List.nodup_cons.mp hn).1
  | x :: l, i + 1, 0, a, hn, h, h' => by
    simp at h h'; subst h'
    exact absurd (List.mem_of_getElem? h) (List.nodup_cons.mp hn).1
  | x :: l, i + 1, j + 1, a, hn, h, h' => by
    simp at h h'
    rw [nodup_place (List.nodup_cons.mp hn).2 h h']

/-- a local name is stored -/
theorem St.store (S : St C env σ ρ χ s) {x : Str} {r : AV} {v : Value} {ls' : List (Str × AV)} {h' : Heap} {t : Nat} {m : Str → Option Value}
    (hset : SetL x r σ.ls ls') (hx : env.kindOf x = some .local) (hd : (x == ("__debug__" : Str)) = false) (hv : r.Is ρ (wide env.locals ρ χ) s.heap v)
    (hm : s.heap.Ns env.locals m) (hn : h'.Ns env.locals (fun y => if y = x then some v else m y)) (hs : Heap.SameBut env.locals s.heap h') :
    Post C env { σ with ls := ls' } ρ χ s ρ { s with heap := h', toks := t } := by
  have hk : ∀ a o, a ≠ env.locals → s.heap.get? a = some o → h'.get? a = some o := fun a o ha e => (hs.2 a ha).trans e
  have keep : ∀ a o, a ∉ wide env.locals ρ χ → s.heap.get? a = some o → h'.get? a = some o := fun a o ha e => hk a o (fun z => ha (z ▸ List.mem_cons_self)) e
  have new : ∀ a ∈ wide env.locals ρ χ, a ∈ wide env.locals ρ χ ∨ s.heap.get? a = none := fun a h => .inl h
  have pre : ρ <+: ρ := List.prefix_refl _
  refine ⟨⟨fun a o e => hk a o (fun z => S.notIn e (z ▸ List.mem_cons_self)) (S.base a o e), S.gens, S.os, S.len, S.nod, S.out, S.above, fun a ha => ?_, ?_, hset.nodup S.keys, fun p hp => ?_, fun k o hk' => ?_⟩, Evo.ofGrow hk (Ns.there hn), pre⟩
  · by_cases z : a = env.locals
    · exact z ▸ Ns.there hn
    · obtain ⟨o, ho⟩ := S.alc a ha; exact ⟨o, hk a o z ho⟩
  · obtain ⟨m₀, hm₀, hl⟩ := S.ns
    refine ⟨_, hn, fun p hp => ?_⟩
    rcases hset.mem S.keys p hp with rfl | ⟨hp, hne⟩
    · exact ⟨hx, hd, v, by simp, hv.evo keep new pre⟩
    · obtain ⟨a, b, v', hv', hi⟩ := hl p hp
      rw [Ns.unique hm₀ hm] at hv'
      exact ⟨a, b, v', by simp only [hne, if_false]; exact hv', hi.evo keep new pre⟩
  · obtain ⟨a, b, c, d, hd, he⟩ := S.cx p hp
    refine ⟨a, b, c, d, hd, ?_⟩
    cases hq : p.2 with
    | own k => rw [hq] at he; exact he
    | cap r =>
      rw [hq] at he
      obtain ⟨h1, v, ⟨o, ho, hc⟩, hi⟩ := he
      exact ⟨h1, v, ⟨o, hk d o (fun z => h1 (z ▸ List.mem_cons_self)) ho, hc⟩, hi.evo keep new pre⟩
  · obtain ⟨a, ha, hi⟩ := S.own k o hk'
    refine ⟨a, ha, hi.evo keep new pre fun o ho => hk a o (fun z => ?_) ho⟩
    exact S.loc (List.mem_append_left _ (z ▸ List.mem_of_getElem? ha))

/-- an own object is changed -/
theorem St.update (S : St C env σ ρ χ s) {k : Nat} {a : Addr} {o' : AO} {h' : Heap} {t : Nat} (ha : ρ[k]? = some a)
    (hk : ∀ b o, b ≠ a → s.heap.get? b = some o → h'.get? b = some o) (ho : o'.At ρ (wide env.locals ρ χ) h' a) :
    Post C env { σ with own := σ.own.set k o' } ρ χ s ρ { s with heap := h', toks := t } := by
  have hm : a ∈ ρ := List.mem_of_getElem? ha
  have hw : a ∈ wide env.locals ρ χ := List.mem_cons_of_mem _ (List.mem_append_left _ hm)
  have hL : env.locals ≠ a := fun z => S.loc (List.mem_append_left _ (z ▸ hm))
  have keep : ∀ b o, b ∉ wide env.locals ρ χ → s.heap.get? b = some o → h'.get? b = some o := fun b o hb e => hk b o (fun z => hb (z ▸ hw)) e
  have new : ∀ a ∈ wide env.locals ρ χ, a ∈ wide env.locals ρ χ ∨ s.heap.get? a = none := fun a h => .inl h
  have pre : ρ <+: ρ := List.prefix_refl _
  have hnd : ρ.Nodup := (List.nodup_append.mp (List.nodup_cons.mp S.nod).2).1
  obtain ⟨m, hm₀, hl⟩ := S.ns
  have hns : h'.Ns env.locals m := by
    obtain ⟨o, es, ep, ho, r⟩ := hm₀
    exact ⟨o, es, ep, hk _ _ hL ho, r⟩
  refine ⟨⟨fun b o e => hk b o (fun z => S.notIn e (List.mem_cons_of_mem _ (z ▸ hm))) (S.base b o e), S.gens, S.os, by simp [S.len], S.nod, S.out, S.above, fun b hb => ?_, ⟨m, hns, fun p hp => ?_⟩, S.keys, fun p hp => ?_, fun j o hj => ?_⟩,
    ⟨fun b o hb e => hk b o (fun z => hb (List.mem_cons_of_mem _ (z ▸ hm))) e, fun b o e => ?_, fun _ h => .inl h⟩, pre⟩
  · by_cases z : b = a
    · exact z ▸ ho.there
    · obtain ⟨o, e⟩ := S.alc b hb; exact ⟨o, hk b o z e⟩
  · obtain ⟨a, b, v, hv, hi⟩ := hl p hp
    exact ⟨a, b, v, hv, hi.evo keep new pre⟩
  · obtain ⟨x, y, z, d, hd, he⟩ := S.cx p hp
    refine ⟨x, y, z, d, hd, ?_⟩
    cases hq : p.2 with
    | own k => rw [hq] at he; exact he
    | cap r =>
      rw [hq] at he
      obtain ⟨h1, v, ⟨o, e, hc⟩, hi⟩ := he
      exact ⟨h1, v, ⟨o, hk d o (fun z => h1 (List.mem_cons_of_mem _ (z ▸ hm))) e, hc⟩, hi.evo keep new pre⟩
  · by_cases hjk : j = k
    · subst hjk
      have hlt : j < σ.own.length := by rw [← S.len]; exact (List.getElem?_eq_some_iff.mp ha).1
      rw [List.getElem?_set_self hlt] at hj
      cases hj
      exact ⟨a, ha, ho⟩
    · rw [List.getElem?_set_ne (fun z => hjk z.symm)] at hj
      obtain ⟨b, hb, hi⟩ := S.own j o hj
      have hne : b ≠ a := fun z => by
        subst z
        exact hjk (nodup_place hnd hb ha)
      exact ⟨b, hb, hi.evo keep new pre fun o e => hk b o hne e⟩
  · by_cases z : b = a
    · exact z ▸ ho.there
    · exact ⟨o, hk b o z e⟩

/-- a new own object -/
theorem St.alloc (S : St C env σ ρ χ s) {a : Addr} {o' : AO} {h' : Heap} {t : Nat} {m : Str → Option Value} (hm : s.heap.Ns env.locals m) (hn : h'.Ns env.locals m)
    (hk : ∀ b o, b ≠ env.locals → s.heap.get? b = some o → h'.get? b = some o) (hf : s.heap.get? a = none) (ho : o'.At (ρ ++ [a]) (wide env.locals (ρ ++ [a]) χ) h' a) :
    Post C env { σ with own := σ.own ++ [o'] } ρ χ s (ρ ++ [a]) { s with heap := h', toks := t } := by
  have hna : a ∉ wide env.locals ρ χ := fun z => by obtain ⟨o, e⟩ := S.alc a z; rw [hf] at e; cases e
  have keep : ∀ b o, b ∉ wide env.locals ρ χ → s.heap.get? b = some o → h'.get? b = some o := fun b o hb e => hk b o (fun z => hb (z ▸ List.mem_cons_self)) e
  have new : ∀ b ∈ wide env.locals (ρ ++ [a]) χ, b ∈ wide env.locals ρ χ ∨ s.heap.get? b = none := fun b hb => by
    simp only [wide, List.mem_cons, List.mem_append, List.not_mem_nil, or_false] at hb ⊢
    rcases hb with h | (h | h) | h
    · exact .inl (.inl h)
    · exact .inl (.inr (.inl h))
    · exact .inr (h ▸ hf)
    · exact .inl (.inr (.inr h))
  have pre : ρ <+: ρ ++ [a] := List.prefix_append ..
  have hH : C.H.get? a = none := by
    cases q : C.H.get? a with
    | none => rfl
    | some o => have := S.base a o q; rw [hf] at this; cases this
  refine ⟨⟨fun b o e => hk b o (fun z => S.notIn e (z ▸ List.mem_cons_self)) (S.base b o e), S.gens, S.os, by simp [S.len], ?_, fun b hb => ?_, S.above, fun b hb => ?_, ?_, S.keys, fun p hp => ?_, fun j o hj => ?_⟩,
    ⟨fun b o hb e => hk b o (fun z => hb (z ▸ List.mem_cons_self)) e, fun b o e => ?_, fun b hb => ?_⟩, pre⟩
  · have hp : List.Perm (wide env.locals (ρ ++ [a]) χ) (a :: wide env.locals ρ χ) := by
      have h1 : List.Perm (ρ ++ [a] ++ χ) (a :: (ρ ++ χ)) := by
        rw [List.append_assoc]
        exact List.perm_middle
      exact ((List.Perm.cons _ h1).trans (List.Perm.swap ..))
    exact hp.nodup_iff.mpr (List.nodup_cons.mpr ⟨hna, S.nod⟩)
  · rcases List.mem_cons.mp hb with rfl | hb
    · exact S.out _ List.mem_cons_self
    · rcases List.mem_append.mp hb with hb | hb
      · exact S.out b (List.mem_cons_of_mem _ hb)
      · rw [List.mem_singleton.mp hb]; exact hH
  · by_cases z : b = a
    · exact z ▸ ho.there
    · by_cases zL : b = env.locals
      · exact zL ▸ Ns.there hn
      · have : b ∈ wide env.locals ρ χ := by
          rcases new b hb with q | q
          · exact q
          · simp only [wide, List.mem_cons, List.mem_append, List.not_mem_nil, or_false] at hb ⊢
            rcases hb with h | (h | h) | h
            · exact .inl h
            · exact .inr (.inl h)
            · exact absurd h z
            · exact .inr (.inr h)
        obtain ⟨o, e⟩ := S.alc b this
        exact ⟨o, hk b o zL e⟩
  · obtain ⟨m₀, hm₀, hl⟩ := S.ns
    refine ⟨m, hn, fun p hp => ?_⟩
    obtain ⟨x, y, v, hv, hi⟩ := hl p hp
    rw [Ns.unique hm₀ hm] at hv
    exact ⟨x, y, v, hv, hi.evo keep new pre⟩
  · obtain ⟨x, y, z, d, hd, he⟩ := S.cx p hp
    refine ⟨x, y, z, d, hd, ?_⟩
    cases hq : p.2 with
    | own k =>
      rw [hq] at he
      have he' : ρ[k]? = some d := he
      show (ρ ++ [a])[k]? = some d
      rw [List.getElem?_append_left (List.getElem?_eq_some_iff.mp he').1]; exact he'
    | cap r =>
      rw [hq] at he
      obtain ⟨h1, v, ⟨o, e, hc⟩, hi⟩ := he
      refine ⟨fun hm => ?_, v, ⟨o, hk d o (fun z => h1 (z ▸ List.mem_cons_self)) e, hc⟩, hi.evo keep new pre⟩
      rcases List.mem_cons.mp hm with z | hm
      · exact h1 (z ▸ List.mem_cons_self)
      · rcases List.mem_append.mp hm with hm | hm
        · exact h1 (List.mem_cons_of_mem _ hm)
        · rw [List.mem_singleton.mp hm, hf] at e; cases e
  · by_cases hlt : j < σ.own.length
    · rw [List.getElem?_append_left hlt] at hj
      obtain ⟨b, hb, hi⟩ := S.own j o hj
      refine ⟨b, by rw [List.getElem?_append_left (List.getElem?_eq_some_iff.mp hb).1]; exact hb, hi.evo keep new pre fun o e => hk b o (fun z => ?_) e⟩
      exact S.loc (List.mem_append_left _ (z ▸ List.mem_of_getElem? hb))
    · have hj' : j = σ.own.length := by
        have := (List.getElem?_eq_some_iff.mp hj).1
        simp at this; omega
      subst hj'
      rw [List.getElem?_append_right (Nat.le_refl _)] at hj
      simp at hj
      subst hj
      exact ⟨a, by rw [← S.len]; simp, ho⟩
  · by_cases z : b = env.locals
    · exact z ▸ Ns.there hn
    · exact ⟨o, hk b o z e⟩
  · rcases List.mem_append.mp hb with h | h
    · exact .inl h
    · right; rw [List.mem_singleton.mp h]; exact hf
end
end Mine
namespace Mine

def Run {α : Type} (C : Base) (sc : Scope) (n : Nat) (σ : AS) (t : Env → Sem α) (P : List Addr → List Addr → Heap → α → Prop) (σ' : AS) : Prop :=
  ∀ (A : Around) (env : Env) (ρ χ : List Addr) (s : Shared) (Q : α → Shared → Prop) (E : Value → Shared → Prop), Ok n A → EnvOk sc env → St C env σ ρ χ s →
    (∀ x s' ρ', Post C env σ' ρ χ s ρ' s' → P ρ' (wide env.locals ρ' χ) s'.heap x → Q x s') → wpAny (model C.prog C.w) A (t env) Q E s

def Ev (C : Base) (sc : Scope) (n : Nat) (σ : AS) (e : Expr) (r : AV) (σ' : AS) : Prop := Run C sc n σ (eval e) (fun ρ W h v => r.Is ρ W h v) σ'
def EvT (C : Base) (sc : Scope) (n : Nat) (σ : AS) (e : Expr) (b : Bool) (σ' : AS) : Prop := Run C sc n σ (fun env => isTrue e env (eval e env)) (fun _ _ _ x => x = b) σ'

inductive Fl where
  | next | brk | cont
  | ret (r : AV)
def Fl.Is (ρ W : List Addr) (h : Heap) : Fl → Flow → Prop
  | .next, f => f = .next
  | .brk, f => f = .brk
  | .cont, f => f = .cont
  | .ret r, f => ∃ v, f = .ret v ∧ r.Is ρ W h v

structure PostS (C : Base) (env : Env) (σ' : AS) (p : Nat) (ρ χ : List Addr) (s : Shared) (ρ' : List Addr) (s' : Shared) : Prop where
  st : St C env σ' ρ' χ s'
  evo : Evo (env.locals :: ρ) ρ s.heap ρ' s'.heap
  pre : ρ'.take p = ρ.take p
  le : p ≤ ρ'.length

def RunS (C : Base) (sc : Scope) (n p : Nat) (σ : AS) (t : Env → Sem Flow) (f : Fl) (σ' : AS) : Prop :=
  ∀ (A : Around) (env : Env) (ρ χ : List Addr) (s : Shared) (Q : Flow → Shared → Prop) (E : Value → Shared → Prop), Ok n A → EnvOk sc env → St C env σ ρ χ s → p ≤ ρ.length →
    (∀ x s' ρ', PostS C env σ' p ρ χ s ρ' s' → f.Is ρ' (wide env.locals ρ' χ) s'.heap x → Q x s') → wpAny (model C.prog C.w) A (t env) Q E s

def Ex (C : Base) (sc : Scope) (n p : Nat) (σ : AS) (l : List Stmt) (f : Fl) (σ' : AS) : Prop := RunS C sc n p σ (execs l) f σ'
def Ex1 (C : Base) (sc : Scope) (n p : Nat) (σ : AS) (l : Stmt) (f : Fl) (σ' : AS) : Prop := RunS C sc n p σ (exec l) f σ'

variable {C : Base} {sc : Scope} {n p : Nat} {σ σ₁ σ₂ σ' : AS}

section
variable {env : Env} {ρ χ : List Addr} {s : Shared}
theorem Post.toS {ρ' s'} (P : Post C env σ' ρ χ s ρ' s') (hp : p ≤ ρ.length) : PostS C env σ' p ρ χ s ρ' s' := by
  obtain ⟨t, ht⟩ := P.pre
  refine ⟨P.st, P.evo, ?_, ?_⟩
  · rw [← ht, List.take_append_of_le_length hp]
  · rw [← ht, List.length_append]; omega
theorem PostS.trans {ρ₁ ρ₂ : List Addr} {s₁ s₂ : Shared} (x : PostS C env σ₁ p ρ χ s ρ₁ s₁) (y : PostS C env σ₂ p ρ₁ χ s₁ ρ₂ s₂) : PostS C env σ₂ p ρ χ s ρ₂ s₂ :=
  ⟨y.st, x.evo.trans y.evo, y.pre.trans x.pre, y.le⟩
theorem PostS.refl (S : St C env σ ρ χ s) (hp : p ≤ ρ.length) : PostS C env σ p ρ χ s ρ s := ⟨S, Evo.refl, rfl, hp⟩
theorem EnvOk.kind (hE : EnvOk sc env) (x : Str) : env.kindOf x = sc.names.lookup x := by unfold Env.kindOf; rw [hE.scope]
theorem EnvOk.sk (hE : EnvOk sc env) : env.scope.kind = .function := by rw [hE.scope]; exact hE.fn

theorem store_local {M : Model} {A : Around} {x : Str} {r : AV} {v : Value} {ls' : List (Str × AV)} {Q : Unit → Shared → Prop} {E : Value → Shared → Prop} (hE : EnvOk sc env) (S : St C env σ ρ χ s)
    (hset : SetL x r σ.ls ls') (hx : sc.names.lookup x = some .local) (hd : (x == ("__debug__" : Str)) = false) (hv : r.Is ρ (wide env.locals ρ χ) s.heap v)
    (h : ∀ s', Post C env { σ with ls := ls' } ρ χ s ρ s' → Q () s') : wpAny M A (storeName env x v) Q E s := by
  obtain ⟨m, hm, _⟩ := S.ns
  refine wpAny_storeName_local ((hE.kind x).trans hx) hm (fun h' hn hs => h _ (S.store hset ((hE.kind x).trans hx) hd hv hm hn hs)) ?_
  rw [hE.sk]; rfl

theorem store_cell {M : Model} {A : Around} {x : Str} {k : Nat} {r : AV} {o : Option AV} {v : Value} {Q : Unit → Shared → Prop} {E : Value → Shared → Prop} (hE : EnvOk sc env) (S : St C env σ ρ χ s)
    (hx : (x, CV.own k) ∈ σ.cx) (hk : sc.names.lookup x = some .cell) (ho : σ.own[k]? = some (.cell o)) (hv : r.Is ρ (wide env.locals ρ χ) s.heap v)
    (h : ∀ s', Post C env { σ with own := σ.own.set k (.cell (some r)) } ρ χ s ρ s' → Q () s') : wpAny M A (storeName env x v) Q E s := by
  obtain ⟨_, _, _, a, ha, hak⟩ := S.cx _ hx
  obtain ⟨a', ha', hc⟩ := S.own k _ ho
  have hak' : ρ[k]? = some a := hak
  rw [hak'] at ha'; cases ha'
  have hcell : ∃ v₀, s.heap.IsCell a v₀ := by
    cases o with
    | none => exact ⟨_, hc⟩
    | some r => obtain ⟨v, h, _⟩ := hc; exact ⟨_, h⟩
  obtain ⟨v₀, hcell⟩ := hcell
  refine wpAny_storeName_cell hE.sk ((hE.kind x).trans hk) ha hcell fun h' hc' hs' => h _ (S.update (t := s.toks) hak' (fun b o hb e => (hs'.2 b hb).trans e) ⟨v, hc', ?_⟩)
  refine hv.evo (fun b o hb e => (hs'.2 b (fun z => hb ?_)).trans e) (fun a h => .inl h) (List.prefix_refl _)
  exact z ▸ List.mem_cons_of_mem _ (List.mem_append_left _ (List.mem_of_getElem? hak'))
end

/-! ### expressions -/
theorem ev_int {i : Int} {k : Nat} {pos : Pos} : Ev C sc n σ (.Constant (.int i) k pos) (.int i) σ :=
  fun _ _ _ _ s _ _ _ _ S h => wpAny_Constant_int (h _ _ _ (Post.toks S _) ⟨_, rfl⟩)
theorem ev_str {x : Str} {k : Nat} {pos : Pos} : Ev C sc n σ (.Constant (.str x) k pos) (.str x) σ :=
  fun _ _ _ _ s _ _ _ _ S h => Calls.Constant_str (h _ _ _ (Post.toks S _) ⟨_, rfl⟩)
theorem ev_none {k : Nat} {pos : Pos} : Ev C sc n σ (.Constant .none k pos) .none σ :=
  fun _ _ _ _ s _ _ _ _ S h => wpAny_pure (h _ _ _ (Post.refl S) rfl)
theorem ev_bool {b : Bool} {k : Nat} {pos : Pos} : Ev C sc n σ (.Constant (.bool b) k pos) (.bool b) σ :=
  fun _ _ _ _ s _ _ _ _ S h => wpAny_pure (h _ _ _ (Post.refl S) rfl)

theorem load_local {M : Model} {A : Around} {env : Env} {ρ χ : List Addr} {s : Shared} {x : Str} {r : AV} {Q : Value → Shared → Prop} {E : Value → Shared → Prop} (hE : EnvOk sc env) (S : St C env σ ρ χ s) (hx : (x, r) ∈ σ.ls)
    (h : ∀ v, r.Is ρ (wide env.locals ρ χ) s.heap v → Q v s) : wpAny M A (loadName env x) Q E s := by
  obtain ⟨m, hm, hl⟩ := S.ns
  obtain ⟨hk, _, v, hv, hi⟩ := hl _ hx
  exact wpAny_loadName_local hE.sk hk hm hv (h v hi)
theorem load_cell {M : Model} {A : Around} {env : Env} {ρ χ : List Addr} {s : Shared} {x : Str} {r : AV} {k : Nat} {Q : Value → Shared → Prop} {E : Value → Shared → Prop} (hE : EnvOk sc env) (S : St C env σ ρ χ s) (hx : (x, CV.own k) ∈ σ.cx)
    (ho : σ.own[k]? = some (.cell (some r))) (h : ∀ v, r.Is ρ (wide env.locals ρ χ) s.heap v → Q v s) : wpAny M A (loadName env x) Q E s := by
  obtain ⟨hk, hc, _, a, ha, hak⟩ := S.cx _ hx
  obtain ⟨a', ha', v, hcell, hi⟩ := S.own k _ ho
  have hak' : ρ[k]? = some a := hak
  rw [hak'] at ha'; cases ha'
  rcases hk with hk | hk
  · exact wpAny_loadName_cell hE.sk hk ha hcell (h v hi)
  · exact wpAny_loadName_free hE.sk hk ha hcell (h v hi) hc
theorem load_cap {M : Model} {A : Around} {env : Env} {ρ χ : List Addr} {s : Shared} {x : Str} {r : AV} {Q : Value → Shared → Prop} {E : Value → Shared → Prop} (hE : EnvOk sc env) (S : St C env σ ρ χ s) (hx : (x, CV.cap r) ∈ σ.cx)
    (h : ∀ v, r.Is ρ (wide env.locals ρ χ) s.heap v → Q v s) : wpAny M A (loadName env x) Q E s := by
  obtain ⟨hk, hc, _, a, ha, _, v, hcell, hi⟩ := S.cx _ hx
  rcases hk with hk | hk
  · exact wpAny_loadName_cell hE.sk hk ha hcell (h v hi)
  · exact wpAny_loadName_free hE.sk hk ha hcell (h v hi) hc

theorem ev_local {x : Str} {pos : Pos} {r : AV} (hx : (x, r) ∈ σ.ls) : Ev C sc n σ (.Name x pos) r σ := fun _ env ρ χ s _ _ _ hE S h => by
  obtain ⟨m, hm, hl⟩ := S.ns
  obtain ⟨_, hd, _⟩ := hl _ hx
  exact wpAny_Name (load_local hE S hx fun v hi => h v s ρ (Post.refl S) hi) hd
theorem ev_cell {x : Str} {pos : Pos} {k : Nat} {r : AV} (hx : (x, CV.own k) ∈ σ.cx) (ho : σ.own[k]? = some (.cell (some r))) : Ev C sc n σ (.Name x pos) r σ := fun _ env ρ χ s _ _ _ hE S h => by
  obtain ⟨_, _, hd, _⟩ := S.cx _ hx
  exact wpAny_Name (load_cell hE S hx ho fun v hi => h v s ρ (Post.refl S) hi) hd
theorem ev_cap {x : Str} {pos : Pos} {r : AV} (hx : (x, CV.cap r) ∈ σ.cx) : Ev C sc n σ (.Name x pos) r σ := fun _ env ρ χ s _ _ _ hE S h => by
  obtain ⟨_, _, hd, _⟩ := S.cx _ hx
  exact wpAny_Name (load_cap hE S hx fun v hi => h v s ρ (Post.refl S) hi) hd

/-- an operation upon values that only draws tokens and makes new things -/
def BinR (C : Base) (op : Operator) (a b r : AV) : Prop :=
  ∀ (n : Nat) (A : Around) (env : Env) (σ : AS) (ρ χ : List Addr) (s : Shared) (v w : Value) (Q : Value → Shared → Prop) (E : Value → Shared → Prop), Ok n A → St C env σ ρ χ s →
    a.Is ρ (wide env.locals ρ χ) s.heap v → b.Is ρ (wide env.locals ρ χ) s.heap w →
    (∀ x s', Post C env σ ρ χ s ρ s' → r.Is ρ (wide env.locals ρ χ) s'.heap x → Q x s') → wpAny (model C.prog C.w) A (binaryOp op v w) Q E s

theorem ev_bin {l r : Expr} {op : Operator} {pos : Pos} {a b c : AV} (hl : Ev C sc n σ l a σ₁) (hr : Ev C sc n σ₁ r b σ₂) (ho : BinR C op a b c) : Ev C sc n σ (.BinOp l op r pos) c σ₂ :=
  fun A env ρ χ s Q E hA hE S h => wpAny_BinOp (hl A env ρ χ s _ E hA hE S fun v s₁ ρ₁ P₁ hv => hr A env ρ₁ χ s₁ _ E hA hE P₁.st fun w s₂ ρ₂ P₂ hw =>
    ho n A env σ₂ ρ₂ χ s₂ v w Q E hA P₂.st (P₂.is hv) hw fun x s₃ P₃ hx => h x s₃ ρ₂ ((P₁.trans P₂).trans P₃) hx)

theorem bin_add {i j : Int} : BinR C .Add (.int i) (.int j) (.int (i + j)) := fun _ _ _ _ ρ _ s _ _ _ _ _ S ⟨_, hv⟩ ⟨_, hw⟩ h => by
  subst hv hw; exact wpAny_add_int (h _ _ (Post.toks S _) ⟨_, rfl⟩)
theorem bin_sub {i j : Int} : BinR C .Sub (.int i) (.int j) (.int (i - j)) := fun _ _ _ _ ρ _ s _ _ _ _ _ S ⟨_, hv⟩ ⟨_, hw⟩ h => by
  subst hv hw; exact sub_int' (h _ _ (Post.toks S _) ⟨_, rfl⟩)
theorem bin_mul {i j : Int} (hm : IntMulOk i j) : BinR C .Mult (.int i) (.int j) (.int (i * j)) := fun _ _ _ _ ρ _ s _ _ _ _ _ S ⟨_, hv⟩ ⟨_, hw⟩ h => by
  subst hv hw; exact PyProof.Rows.mul_int (h _ _ (Post.toks S _) ⟨_, rfl⟩) hm
theorem bin_mod {i j : Int} (hj : j ≠ 0) : BinR C .Mod (.int i) (.int j) (.int (i.fmod j)) := fun _ _ _ _ ρ _ s _ _ _ _ _ S ⟨_, hv⟩ ⟨_, hw⟩ h => by
  subst hv hw; exact mod_int' hj (h _ _ (Post.toks S _) ⟨_, rfl⟩)
theorem bin_rshift1 {i : Int} (hi : 0 ≤ i) : BinR C .RShift (.int i) (.int 1) (.int (i / 2)) := fun _ _ _ _ ρ _ s _ _ _ _ _ S ⟨_, hv⟩ ⟨_, hw⟩ h => by
  subst hv hw; exact wpAny_rshift1_int hi (h _ _ (Post.toks S _) ⟨_, rfl⟩)

theorem ev_neg {e : Expr} {pos : Pos} {i : Int} (he : Ev C sc n σ e (.int i) σ₁) : Ev C sc n σ (.UnaryOp .USub e pos) (.int (-i)) σ₁ := fun A env ρ χ s Q E hA hE S h => by
  rw [arm_eval_UnaryOp]
  refine wpAny_bind (he A env ρ χ s _ E hA hE S fun v s₁ ρ₁ P₁ ⟨_, hv⟩ => ?_)
  subst hv
  exact wpAny_bind (wpAny_standAt (wpAny_holding (PyProof.Rows.neg_int (h _ _ ρ₁ (P₁.trans (Post.toks P₁.st _)) ⟨_, rfl⟩))))

/-! ### comparisons -/
def CmpR (C : Base) (op : CmpOp) (a b : AV) (c : Bool) : Prop :=
  ∀ (n : Nat) (A : Around) (env : Env) (σ : AS) (ρ χ : List Addr) (s : Shared) (v w : Value) (Q : Value → Shared → Prop) (E : Value → Shared → Prop), Ok n A → St C env σ ρ χ s →
    a.Is ρ (wide env.locals ρ χ) s.heap v → b.Is ρ (wide env.locals ρ χ) s.heap w →
    (∀ s', Post C env σ ρ χ s ρ s' → Q (.bool c) s') → wpAny (model C.prog C.w) A (compareOp op v w) Q E s

theorem cmp_lt {i j : Int} : CmpR C .Lt (.int i) (.int j) (decide (i < j)) := fun _ _ _ _ ρ _ s _ _ _ _ _ S ⟨_, hv⟩ ⟨_, hw⟩ h => by
  subst hv hw; exact PyProof.Rows.lt_int (h _ (Post.refl S))
theorem cmp_gt {i j : Int} : CmpR C .Gt (.int i) (.int j) (decide (j < i)) := fun _ _ _ _ ρ _ s _ _ _ _ _ S ⟨_, hv⟩ ⟨_, hw⟩ h => by
  subst hv hw; exact PyProof.Rows.gt_int (h _ (Post.refl S))
theorem cmp_eq {i j : Int} : CmpR C .Eq (.int i) (.int j) (i == j) := fun _ _ _ _ ρ _ s _ _ _ _ _ S ⟨_, hv⟩ ⟨_, hw⟩ h => by
  subst hv hw; exact PyProof.Rows.eq_int (h _ (Post.refl S))
theorem cmp_ne {i j : Int} : CmpR C .NotEq (.int i) (.int j) (i != j) := fun _ _ _ _ ρ _ s _ _ _ _ _ S ⟨_, hv⟩ ⟨_, hw⟩ h => by
  subst hv hw; exact PyProof.Rows.ne_int (h _ (Post.refl S))

theorem evt_cmp {l r : Expr} {op : CmpOp} {pos : Pos} {a b : AV} {c : Bool} (hl : Ev C sc n σ l a σ₁) (hr : Ev C sc n σ₁ r b σ₂) (ho : CmpR C op a b c) (hm : behindInMarks op r = false := by with_unfolding_all rfl) :
    EvT C sc n σ (.Compare l [op] [r] pos) c σ₂ :=
  fun A env ρ χ s Q E hA hE S h => wpAny_isTrue_Compare1 (hl A env ρ χ s _ E hA hE S fun v s₁ ρ₁ P₁ hv => hr A env ρ₁ χ s₁ _ E hA hE P₁.st fun w s₂ ρ₂ P₂ hw =>
    ho n A env σ₂ ρ₂ χ s₂ v w _ E hA P₂.st (P₂.is hv) hw fun s₃ P₃ => wpAny_truthy_bool (h c s₃ ρ₂ ((P₁.trans P₂).trans P₃) rfl)) hm
theorem ev_cmp {l r : Expr} {op : CmpOp} {pos : Pos} {a b : AV} {c : Bool} (hl : Ev C sc n σ l a σ₁) (hr : Ev C sc n σ₁ r b σ₂) (ho : CmpR C op a b c) (hm : behindInMarks op r = false := by with_unfolding_all rfl) :
    Ev C sc n σ (.Compare l [op] [r] pos) (.bool c) σ₂ :=
  fun A env ρ χ s Q E hA hE S h => wpAny_Compare1 (hl A env ρ χ s _ E hA hE S fun v s₁ ρ₁ P₁ hv => hr A env ρ₁ χ s₁ _ E hA hE P₁.st fun w s₂ ρ₂ P₂ hw =>
    ho n A env σ₂ ρ₂ χ s₂ v w _ E hA P₂.st (P₂.is hv) hw fun s₃ P₃ => h _ s₃ ρ₂ ((P₁.trans P₂).trans P₃) rfl) hm

theorem evt_not {x : Expr} {pos : Pos} {b : Bool} (h₁ : EvT C sc n σ x b σ₁) : EvT C sc n σ (.UnaryOp .Not x pos) (!b) σ₁ :=
  fun A env ρ χ s Q E hA hE S h => isTrue_not (h₁ A env ρ χ s _ E hA hE S fun c s' ρ' P hc => h _ s' ρ' P (by rw [hc]))

/-- all of, any of -/
def EvA (C : Base) (sc : Scope) (n : Nat) (σ : AS) (op : BoolOp) (l : List Expr) (b : Bool) (σ' : AS) : Prop := Run C sc n σ (fun env => allTrue op l env) (fun _ _ _ x => x = b) σ'
theorem evt_bool {op : BoolOp} {l : List Expr} {pos : Pos} {b : Bool} (h₁ : EvA C sc n σ op l b σ₁) : EvT C sc n σ (.BoolOp op l pos) b σ₁ := h₁
theorem eva_and_nil : EvA C sc n σ .And [] true σ := fun _ _ _ _ s _ _ _ _ S h => wpAny_pure (h _ _ _ (Post.refl S) rfl)
theorem eva_or_nil : EvA C sc n σ .Or [] false σ := fun _ _ _ _ s _ _ _ _ S h => wpAny_pure (h _ _ _ (Post.refl S) rfl)
theorem eva_and_ff {x : Expr} {l : List Expr} (h₁ : EvT C sc n σ x false σ₁) : EvA C sc n σ .And (x :: l) false σ₁ := fun A env ρ χ s Q E hA hE S h => by
  show wpAny _ A (isTrue x env (eval x env) >>= _) Q E s
  exact wpAny_bind (h₁ A env ρ χ s _ E hA hE S fun c s' ρ' P hc => by subst hc; exact wpAny_pure (h _ s' ρ' P rfl))
theorem eva_and_tt {x : Expr} {l : List Expr} {b : Bool} (h₁ : EvT C sc n σ x true σ₁) (h₂ : EvA C sc n σ₁ .And l b σ₂) : EvA C sc n σ .And (x :: l) b σ₂ := fun A env ρ χ s Q E hA hE S h => by
  show wpAny _ A (isTrue x env (eval x env) >>= _) Q E s
  exact wpAny_bind (h₁ A env ρ χ s _ E hA hE S fun c s' ρ' P hc => by subst hc; exact h₂ A env ρ' χ s' Q E hA hE P.st fun x s'' ρ'' P' hx => h x s'' ρ'' (P.trans P') hx)
theorem eva_or_tt {x : Expr} {l : List Expr} (h₁ : EvT C sc n σ x true σ₁) : EvA C sc n σ .Or (x :: l) true σ₁ := fun A env ρ χ s Q E hA hE S h => by
  show wpAny _ A (isTrue x env (eval x env) >>= _) Q E s
  exact wpAny_bind (h₁ A env ρ χ s _ E hA hE S fun c s' ρ' P hc => by subst hc; exact wpAny_pure (h _ s' ρ' P rfl))
theorem eva_or_ff {x : Expr} {l : List Expr} {b : Bool} (h₁ : EvT C sc n σ x false σ₁) (h₂ : EvA C sc n σ₁ .Or l b σ₂) : EvA C sc n σ .Or (x :: l) b σ₂ := fun A env ρ χ s Q E hA hE S h => by
  show wpAny _ A (isTrue x env (eval x env) >>= _) Q E s
  exact wpAny_bind (h₁ A env ρ χ s _ E hA hE S fun c s' ρ' P hc => by subst hc; exact h₂ A env ρ' χ s' Q E hA hE P.st fun x s'' ρ'' P' hx => h x s'' ρ'' (P.trans P') hx)

theorem ev_if_tt {t a b : Expr} {pos : Pos} {r : AV} (h₁ : EvT C sc n σ t true σ₁) (h₂ : Ev C sc n σ₁ a r σ₂) : Ev C sc n σ (.IfExp t a b pos) r σ₂ := fun A env ρ χ s Q E hA hE S h => by
  rw [arm_eval_IfExp]
  exact wpAny_bind (h₁ A env ρ χ s _ E hA hE S fun c s' ρ' P hc => by subst hc; exact h₂ A env ρ' χ s' Q E hA hE P.st fun x s'' ρ'' P' hx => h x s'' ρ'' (P.trans P') hx)
theorem ev_if_ff {t a b : Expr} {pos : Pos} {r : AV} (h₁ : EvT C sc n σ t false σ₁) (h₂ : Ev C sc n σ₁ b r σ₂) : Ev C sc n σ (.IfExp t a b pos) r σ₂ := fun A env ρ χ s Q E hA hE S h => by
  rw [arm_eval_IfExp]
  exact wpAny_bind (h₁ A env ρ χ s _ E hA hE S fun c s' ρ' P hc => by subst hc; exact h₂ A env ρ' χ s' Q E hA hE P.st fun x s'' ρ'' P' hx => h x s'' ρ'' (P.trans P') hx)

/-! ### statements -/
theorem ex_nil : Ex C sc n p σ [] .next σ := fun _ _ ρ _ s _ _ _ _ S hp h => wpAny_execs_nil (h _ s ρ (PostS.refl S hp) rfl)
theorem ex_cons {st : Stmt} {l : List Stmt} {f : Fl} (h₁ : Ex1 C sc n p σ st .next σ₁) (h₂ : Ex C sc n p σ₁ l f σ₂) : Ex C sc n p σ (st :: l) f σ₂ := fun A env ρ χ s Q E hA hE S hp h =>
  wpAny_execs_cons (h₁ A env ρ χ s _ E hA hE S hp fun x s' ρ' P hx => by
    have hx' : x = .next := hx
    subst hx'
    exact h₂ A env ρ' χ s' Q E hA hE P.st P.le fun y s'' ρ'' P' hy => h y s'' ρ'' (P.trans P') hy)
theorem ex_stop {st : Stmt} {l : List Stmt} {f : Fl} (h₁ : Ex1 C sc n p σ st f σ₁) (hf : f ≠ .next) : Ex C sc n p σ (st :: l) f σ₁ := fun A env ρ χ s Q E hA hE S hp h =>
  wpAny_execs_cons (h₁ A env ρ χ s _ E hA hE S hp fun x s' ρ' P hx => by
    have h' := h x s' ρ' P hx
    cases f with
    | next => exact absurd rfl hf
    | brk => have e : x = .brk := hx; subst e; exact h'
    | cont => have e : x = .cont := hx; subst e; exact h'
    | ret r => obtain ⟨v, e, _⟩ := hx; subst e; exact h')

theorem ex_assign {x : Str} {pos' pos : Pos} {e : Expr} {r : AV} {ls' : List (Str × AV)} (h₁ : Ev C sc n σ e r σ₁) (hset : SetL x r σ₁.ls ls') (hx : sc.names.lookup x = some .local) (hd : (x == ("__debug__" : Str)) = false)
    (hs : ∀ env, swapsWith e (some (.Name x pos')) pos.line env = pure false := by intro _; rfl) : Ex1 C sc n p σ (.Assign [.Name x pos'] e pos) .next { σ₁ with ls := ls' } := fun A env ρ χ s Q E hA hE S hp h =>
  wpAny_Assign_Name (h₁ A env ρ χ s _ E hA hE S fun v s' ρ' P hv => store_local hE P.st hset hx hd hv fun s'' P' => h _ s'' ρ' ((P.trans P').toS hp) rfl) (hs env)
theorem ex_assign_cell {x : Str} {pos' pos : Pos} {e : Expr} {r : AV} {k : Nat} {o : Option AV} (h₁ : Ev C sc n σ e r σ₁) (hx : (x, CV.own k) ∈ σ₁.cx) (hk : sc.names.lookup x = some .cell) (ho : σ₁.own[k]? = some (.cell o))
    (hs : ∀ env, EnvOk sc env → swapsWith e (some (.Name x pos')) pos.line env = pure false := by intro _ _; rfl) : Ex1 C sc n p σ (.Assign [.Name x pos'] e pos) .next { σ₁ with own := σ₁.own.set k (.cell (some r)) } := fun A env ρ χ s Q E hA hE S hp h =>
  wpAny_Assign_Name (h₁ A env ρ χ s _ E hA hE S fun v s' ρ' P hv => store_cell hE P.st hx hk ho hv fun s'' P' => h _ s'' ρ' ((P.trans P').toS hp) rfl) (hs env hE)

theorem ex_if {t : Expr} {a b : List Stmt} {pos : Pos} {c : Bool} {f : Fl} (h₁ : EvT C sc n σ t c σ₁) (h₂ : Ex C sc n p σ₁ (if c then a else b) f σ₂) : Ex1 C sc n p σ (.If t a b pos) f σ₂ := fun A env ρ χ s Q E hA hE S hp h =>
  wpAny_If (h₁ A env ρ χ s _ E hA hE S fun x s' ρ' P hx => by
    subst hx
    have P' := P.toS hp
    cases x <;> exact h₂ A env ρ' χ s' Q E hA hE P'.st P'.le fun y s'' ρ'' P'' hy => h y s'' ρ'' (P'.trans P'') hy)
theorem ex_return {e : Expr} {pos : Pos} {r : AV} (h₁ : Ev C sc n σ e r σ₁) : Ex1 C sc n p σ (.Return (some e) pos) (.ret r) σ₁ := fun A env ρ χ s Q E hA hE S hp h =>
  wpAny_Return_some (h₁ A env ρ χ s _ E hA hE S fun v s' ρ' P hv => h _ s' ρ' (P.toS hp) ⟨v, rfl, hv⟩)
theorem ex_break {pos : Pos} : Ex1 C sc n p σ (.Break pos) .brk σ := fun _ _ ρ _ s _ _ _ _ S hp h => by
  rw [arm_exec_Break]
  exact wpAny_bind (wpAny_standAt (wpAny_pure (h _ s ρ (PostS.refl S hp) rfl)))
theorem ex_continue {pos : Pos} : Ex1 C sc n p σ (.Continue pos) .cont σ := fun _ _ ρ _ s _ _ _ _ S hp h => by
  rw [arm_exec_Continue]
  exact wpAny_bind (wpAny_standAt (wpAny_pure (h _ s ρ (PostS.refl S hp) rfl)))
/-- a statement that is an expression: the value is none -/
theorem ex_expr {e : Expr} {pos : Pos} (h₁ : Ev C sc n σ e .none σ₁) (hs : ∀ env, swapsWith e none pos.line env = pure false := by intro _; rfl) :
    Ex1 C sc n p σ (.Expr e pos) .next σ₁ := fun A env ρ χ s Q E hA hE S hp h =>
  wpAny_Expr (h₁ A env ρ χ s _ E hA hE S fun v s' ρ' P hv => by
    have hv' : v = .none := hv
    subst hv'
    exact h _ s' ρ' (P.toS hp) rfl) (by unfold interactive; rw [hE.sk]; rfl) (hs env)

/-! loops -/
inductive WhileTo (C : Base) (sc : Scope) (n p : Nat) (t : Expr) (body : List Stmt) : Nat → AS → Fl → AS → Prop
  | done {σ σ' : AS} : EvT C sc n σ t false σ' → WhileTo C sc n p t body 0 σ .next σ'
  | turn {k : Nat} {σ σ₁ σ₂ σ' : AS} {f g : Fl} : EvT C sc n σ t true σ₁ → Ex C sc n p σ₁ body g σ₂ → (g = .next ∨ g = .cont) → WhileTo C sc n p t body k σ₂ f σ' → WhileTo C sc n p t body (k + 1) σ f σ'
  | brk {σ σ₁ σ' : AS} : EvT C sc n σ t true σ₁ → Ex C sc n p σ₁ body .brk σ' → WhileTo C sc n p t body 0 σ .next σ'
  | ret {σ σ₁ σ' : AS} {r : AV} : EvT C sc n σ t true σ₁ → Ex C sc n p σ₁ body (.ret r) σ' → WhileTo C sc n p t body 0 σ (.ret r) σ'

theorem Ok.mark {A} (hA : Ok n A) : Ok n (A.mark none) := ⟨hA.handled, hA.depth, hA.units⟩

theorem ex_while {t : Expr} {body : List Stmt} {pos : Pos} {k : Nat} {f : Fl} (hw : WhileTo C sc n p t body k σ f σ') : Ex1 C sc n p σ (.While t body [] pos) f σ' := fun A env ρ χ s Q E hA hE S hp h => by
  refine wpAny_While ?_
  refine codeAny_whileLoop (fun k s' => ∃ σ₁ ρ', PostS C env σ₁ p ρ χ s ρ' s' ∧ WhileTo C sc n p t body k σ₁ f σ') (fun k s' ⟨σ₁, ρ', P, hw⟩ => ?_) k ⟨σ, ρ, PostS.refl S hp, hw⟩
  cases hw with
  | done ht =>
    refine ht A env ρ' χ s' _ _ hA hE P.st fun b s₂ ρ₂ P₂ hb => ?_
    subst hb
    simp only [Bool.false_eq_true, if_false]
    exact wpAny_execs_nil (h _ s₂ ρ₂ (P.trans (P₂.toS P.le)) rfl)
  | turn ht hb hg hw =>
    refine ht A env ρ' χ s' _ _ hA hE P.st fun b s₂ ρ₂ P₂ hb' => ?_
    subst hb'
    simp only [if_true]
    have P₂' := P.trans (P₂.toS P.le)
    refine hb A env ρ₂ χ s₂ _ _ hA hE P₂.st P₂'.le fun fl s₃ ρ₃ P₃ hfl => ?_
    rcases hg with rfl | rfl
    · have e : fl = .next := hfl
      subst e
      exact ⟨_, Nat.lt_succ_self _, _, ρ₃, P₂'.trans P₃, hw⟩
    · have e : fl = .cont := hfl
      subst e
      exact ⟨_, Nat.lt_succ_self _, _, ρ₃, P₂'.trans P₃, hw⟩
  | brk ht hb =>
    refine ht A env ρ' χ s' _ _ hA hE P.st fun b s₂ ρ₂ P₂ hb' => ?_
    subst hb'
    simp only [if_true]
    have P₂' := P.trans (P₂.toS P.le)
    refine hb A env ρ₂ χ s₂ _ _ hA hE P₂.st P₂'.le fun fl s₃ ρ₃ P₃ hfl => ?_
    have e : fl = .brk := hfl
    subst e
    exact h _ s₃ ρ₃ (P₂'.trans P₃) rfl
  | ret ht hb =>
    refine ht A env ρ' χ s' _ _ hA hE P.st fun b s₂ ρ₂ P₂ hb' => ?_
    subst hb'
    simp only [if_true]
    have P₂' := P.trans (P₂.toS P.le)
    refine hb A env ρ₂ χ s₂ _ _ hA hE P₂.st P₂'.le fun fl s₃ ρ₃ P₃ hfl => ?_
    obtain ⟨v, e, hv⟩ := hfl
    subst e
    exact h _ s₃ ρ₃ (P₂'.trans P₃) ⟨v, rfl, hv⟩
end Mine
namespace Mine
variable {C : Base} {sc : Scope} {n p : Nat} {σ σ₁ σ₂ σ₃ σ' : AS}

/-- a list's items, be it frozen or own -/
inductive LstOf (σ : AS) : AV → List AV → Prop
  | frozen {xs : List AV} : LstOf σ (.lst xs) xs
  | own {k : Nat} {xs : List AV} : σ.own[k]? = some (.list xs) → LstOf σ (.own k) xs

section
variable {env : Env} {ρ χ : List Addr} {s : Shared}
theorem LstOf.get (S : St C env σ ρ χ s) {r : AV} {xs : List AV} {v : Value} (h : LstOf σ r xs) (hv : r.Is ρ (wide env.locals ρ χ) s.heap v) :
    ∃ a vs, v = .ref a ∧ s.heap.IsList a (List.toArray vs) ∧ AllIs ρ (wide env.locals ρ χ) s.heap xs vs := by
  cases h with
  | frozen => simp only [AV.Is] at hv; obtain ⟨a, vs, e, _, hl, hx⟩ := hv; exact ⟨a, vs, e, hl, hx⟩
  | own hk =>
    simp only [AV.Is] at hv
    obtain ⟨a, e, ha⟩ := hv
    obtain ⟨a', ha', vs, hl, hx⟩ := S.own _ _ hk
    rw [ha] at ha'; cases ha'
    exact ⟨a, vs, e, hl.isList, hx⟩
theorem St.freshSize (S : St C env σ ρ χ s) : s.heap.objs.size ∉ wide env.locals ρ χ := fun hm => by
  obtain ⟨o, ho⟩ := S.alc _ hm
  exact Nat.lt_irrefl _ (Heap.lt_size ho)
theorem noneSize (h : Heap) : h.get? h.objs.size = none := by
  cases q : h.get? h.objs.size with
  | none => rfl
  | some o => exact absurd (Heap.lt_size q) (Nat.lt_irrefl _)
theorem Heap.IsList.of_push (h : Heap) (vs : List Value) (ep : Nat) : (h.push { cls := .type "list", data := .seq vs.toArray ep }).IsList h.objs.size vs.toArray :=
  ⟨_, Heap.get?_push_size _ rfl, rfl, ep, rfl⟩

theorem wide_snoc {h : Heap} {L a : Addr} {ρ χ : List Addr} (hf : h.get? a = none) : ∀ b ∈ wide L (ρ ++ [a]) χ, b ∈ wide L ρ χ ∨ h.get? b = none := fun b hb => by
  simp only [wide, List.mem_cons, List.mem_append, List.not_mem_nil, or_false] at hb ⊢
  rcases hb with h | (h | h) | h
  · exact .inl (.inl h)
  · exact .inl (.inr (.inl h))
  · exact .inr (h ▸ hf)
  · exact .inl (.inr (.inr h))
/-- a new frozen list -/
theorem newLst {xs : List AV} {vs : List Value} (S : St C env σ ρ χ s) (hx : AllIs ρ (wide env.locals ρ χ) s.heap xs vs) (t : Nat) :
    Post C env σ ρ χ s ρ { s with heap := s.heap.push { cls := .type "list", data := .seq vs.toArray }, toks := t } ∧
    (AV.lst xs).Is ρ (wide env.locals ρ χ) (s.heap.push { cls := .type "list", data := .seq vs.toArray }) (.ref s.heap.objs.size) := by
  have P := Post.push S { cls := .type "list", data := .seq vs.toArray } t
  refine ⟨P, ?_⟩
  simp only [AV.Is]
  exact ⟨_, vs, rfl, S.freshSize, Heap.IsList.of_push .., P.all hx⟩
/-- a new frozen list, out of what the library's rule says -/
theorem newLst_of {xs : List AV} {vs : List Value} {a : Addr} {h' : Heap} {t : Nat} {m : Str → Option Value} (S : St C env σ ρ χ s) (hx : AllIs ρ (wide env.locals ρ χ) s.heap xs vs)
    (hm : s.heap.Ns env.locals m) (hn : h'.Ns env.locals m) (hk : ∀ b o, b ≠ env.locals → s.heap.get? b = some o → h'.get? b = some o) (hf : s.heap.get? a = none) (hl : h'.IsList a vs.toArray) :
    Post C env σ ρ χ s ρ { s with heap := h', toks := t } ∧ (AV.lst xs).Is ρ (wide env.locals ρ χ) h' (.ref a) := by
  have P := Post.grow (t := t) S hm hn hk
  refine ⟨P, ?_⟩
  simp only [AV.Is]
  refine ⟨_, vs, rfl, fun hm => ?_, hl, P.all hx⟩
  obtain ⟨o, ho⟩ := S.alc _ hm
  rw [hf] at ho; cases ho
end

/-! items -/
theorem sub_tail {w : World} {prog : Program} {A : Around} {E : Value → Shared → Prop} {s : Shared} {value slice : Expr} {o i : Value} {T id : String} {Q : Value → Shared → Prop} (hT : s.TypeIs o T)
    (hl : typeLookup (.type T) "__getitem__" = pure (some (.builtin id))) (h : wpAny (model prog w) A (getItem o i) Q E s) : wpAny (model prog w) A (subscriptTail value slice o i) Q E s := by
  unfold subscriptTail
  refine wpAny_bind ?_
  rw [getitemInPython_of_ne hT.not_modules]
  refine wpAny_bind (wpAny_specialOf hT hl ?_)
  have hs : ∃ ops, subscripted slice false o i = operate ops (getItem o i) := by
    unfold subscripted
    split <;> first | exact ⟨_, rfl⟩ | (rename_i h; cases h)
  obtain ⟨ops, hs⟩ := hs
  have fin : wpAny (model prog w) A (subscripted slice false o i) (fun r s₃ => wpAny (model prog w) A (letTemporaryGo value o r >>= fun _ => pure r) Q E s₃) E s := by
    rw [hs]
    exact wpAny_operating (wpAny_mono h (fun r s₃ h₃ => wpAny_bind (wpAny_letTemporaryGo (wpAny_pure h₃))) fun _ _ x => x)
  first
    | exact wpAny_pure (wpAny_bind fin)
    | exact wpAny_bind (wpAny_pure (wpAny_bind fin))
    | exact wpAny_bind fin

theorem ev_item {value slice : Expr} {pos : Pos} {r x : AV} {xs : List AV} {i : Int} (hv : Ev C sc n σ value r σ₁) (hi : Ev C sc n σ₁ slice (.int i) σ₂) (hl : LstOf σ₂ r xs) (h0 : 0 ≤ i) (hx : xs[i.toNat]? = some x)
    (hsz : xs.length ≤ 2 ^ 24 := by simp) : Ev C sc n σ (.Subscript value slice pos) x σ₂ := fun A env ρ χ s Q E hA hE S h =>
  Subscript_ (hv A env ρ χ s _ E hA hE S fun v s₁ ρ₁ P₁ hr => hi A env ρ₁ χ s₁ _ E hA hE P₁.st fun w s₂ ρ₂ P₂ ⟨t, hw⟩ => by
    subst hw
    obtain ⟨a, vs, rfl, hl', ha⟩ := hl.get P₂.st (P₂.is hr)
    obtain ⟨y, hy, hy'⟩ := ha.get hx
    have hlt := (List.getElem?_eq_some_iff.mp hx).1
    exact sub_tail hl'.typeIs slot_list_getitem.lookup (wpAny_getItem_list hl' h0 (by omega) (by simpa using hy) (h y s₂ ρ₂ (P₁.trans P₂) hy')))
theorem ev_item_neg {value slice : Expr} {pos : Pos} {r x : AV} {xs : List AV} {i : Int} (hv : Ev C sc n σ value r σ₁) (hi : Ev C sc n σ₁ slice (.int i) σ₂) (hl : LstOf σ₂ r xs) (h0 : i < 0) (h1 : -(xs.length : Int) ≤ i) (hx : xs[(i + xs.length).toNat]? = some x)
    (hsz : xs.length ≤ 2 ^ 24 := by simp) : Ev C sc n σ (.Subscript value slice pos) x σ₂ := fun A env ρ χ s Q E hA hE S h =>
  Subscript_ (hv A env ρ χ s _ E hA hE S fun v s₁ ρ₁ P₁ hr => hi A env ρ₁ χ s₁ _ E hA hE P₁.st fun w s₂ ρ₂ P₂ ⟨t, hw⟩ => by
    subst hw
    obtain ⟨a, vs, rfl, hl', ha⟩ := hl.get P₂.st (P₂.is hr)
    obtain ⟨y, hy, hy'⟩ := ha.get hx
    have hlen := ha.length
    exact sub_tail hl'.typeIs slot_list_getitem.lookup (wpAny_getItem_list_neg hl' h0 (by simp; omega) (by omega) (by simpa [hlen] using hy) (h y s₂ ρ₂ (P₁.trans P₂) hy')))

/-! displays -/
def EvL (C : Base) (sc : Scope) (n : Nat) (σ : AS) (pos : Pos) (l : List Expr) (rs : List AV) (σ' : AS) : Prop := Run C sc n σ (fun env => spliced (backTo pos (starEach l env))) (fun ρ W h vs => AllIs ρ W h rs vs) σ'
theorem evl_nil {pos : Pos} : EvL C sc n σ pos [] [] σ := fun _ _ _ _ s _ _ _ _ S h => wpAny_items_nil (h _ _ _ (Post.refl S) rfl)
theorem evl_cons {pos : Pos} {e : Expr} {l : List Expr} {r : AV} {rs : List AV} (h₁ : Ev C sc n σ e r σ₁) (h₂ : EvL C sc n σ₁ pos l rs σ₂) (he : ∀ env, starEach (e :: l) env = (false, eval e env) :: starEach l env := by intro _; rfl) :
    EvL C sc n σ pos (e :: l) (r :: rs) σ₂ := fun A env ρ χ s Q E hA hE S h =>
  wpAny_items_cons (h₁ A env ρ χ s _ E hA hE S fun v s₁ ρ₁ P₁ hv => h₂ A env ρ₁ χ s₁ _ E hA hE P₁.st fun vs s₂ ρ₂ P₂ hvs =>
    h _ s₂ ρ₂ (P₁.trans P₂) (by simp only [AllIs]; exact ⟨v, vs, rfl, P₂.is hv, hvs⟩)) (he env)
theorem ev_list {l : List Expr} {pos : Pos} {rs : List AV} (h₁ : EvL C sc n σ pos l rs σ₁) (hz : rs.length ≤ 2 ^ 20 := by simp) : Ev C sc n σ (.List l pos) (.lst rs) σ₁ := fun A env ρ χ s Q E hA hE S h =>
  wpAny_List (h₁ A env ρ χ s _ E hA hE S fun vs s₁ ρ₁ P₁ hvs => by
    obtain ⟨P, hI⟩ := newLst P₁.st hvs s₁.toks
    exact ⟨by rw [hvs.length]; unfold sizeLine; omega, h _ _ ρ₁ (P₁.trans P) hI⟩)
theorem ev_tuple {l : List Expr} {k : Nat} {pos : Pos} {rs : List AV} (h₁ : EvL C sc n σ pos l rs σ₁) (hz : rs.length ≤ 2 ^ 20 := by simp) : Ev C sc n σ (.Tuple l k pos) (.tup rs) σ₁ := fun A env ρ χ s Q E hA hE S h =>
  wpAny_Tuple (h₁ A env ρ χ s _ E hA hE S fun vs s₁ ρ₁ P₁ hvs => by
    refine ⟨by rw [hvs.length]; unfold sizeLine; omega, ?_⟩
    have P := Post.push P₁.st { cls := .type "tuple", data := .seq vs.toArray } s₁.toks
    refine h _ _ ρ₁ (P₁.trans P) ?_
    simp only [AV.Is]
    exact ⟨_, vs, rfl, P₁.st.freshSize, ⟨_, Heap.get?_push_size _ rfl, rfl, _, rfl⟩, P.all hvs⟩)
/-- a display that becomes an own list -/
theorem ev_list_own {l : List Expr} {pos : Pos} {rs : List AV} (h₁ : EvL C sc n σ pos l rs σ₁) (hz : rs.length ≤ 2 ^ 20 := by simp) :
    Ev C sc n σ (.List l pos) (.own σ₁.own.length) { σ₁ with own := σ₁.own ++ [.list rs] } := fun A env ρ χ s Q E hA hE S h =>
  wpAny_List (h₁ A env ρ χ s _ E hA hE S fun vs s₁ ρ₁ P₁ hvs => by
    refine ⟨by rw [hvs.length]; unfold sizeLine; omega, ?_⟩
    obtain ⟨m, hm, _⟩ := P₁.st.ns
    have P' := St.alloc (t := s₁.toks) (a := s₁.heap.objs.size) (o' := .list rs) P₁.st hm (hm.push { cls := .type "list", data := .seq vs.toArray }) (fun b o _ e => Heap.get?_push_of_some _ e) (noneSize _)
      ⟨vs, ⟨_, Heap.get?_push_size _ rfl⟩, hvs.evo (fun _ _ _ e => Heap.get?_push_of_some _ e) (wide_snoc (noneSize _)) (List.prefix_append ..)⟩
    exact h _ _ _ (P₁.trans P') ⟨_, rfl, by rw [← P₁.st.len]; simp⟩)
end Mine
namespace Mine
variable {C : Base} {sc : Scope} {n p : Nat} {σ σ₁ σ₂ σ₃ σ' : AS}

section
variable {env : Env} {ρ χ : List Addr} {s : Shared}
theorem St.lo (S : St C env σ ρ χ s) {k : Nat} {xs : List AV} (hk : σ.own[k]? = some (.list xs)) {v : Value} (hv : (AV.own k).Is ρ (wide env.locals ρ χ) s.heap v) :
    ∃ a vs, v = .ref a ∧ ρ[k]? = some a ∧ Lo s.heap a vs ∧ AllIs ρ (wide env.locals ρ χ) s.heap xs vs := by
  simp only [AV.Is] at hv
  obtain ⟨a, e, ha⟩ := hv
  obtain ⟨a', ha', vs, hl, hx⟩ := S.own _ _ hk
  rw [ha] at ha'; cases ha'
  exact ⟨a, vs, e, ha, hl, hx⟩
theorem St.upd (S : St C env σ ρ χ s) {k : Nat} {a : Addr} {xs : List AV} {vs : List Value} {f : Obj → Obj} {t : Nat} (ha : ρ[k]? = some a) (hl : Lo (s.heap.update a f) a vs)
    (hx : AllIs ρ (wide env.locals ρ χ) s.heap xs vs) : Post C env { σ with own := σ.own.set k (.list xs) } ρ χ s ρ { s with heap := s.heap.update a f, toks := t } := by
  have hs : Heap.SameBut a s.heap (s.heap.update a f) := Heap.SameBut.update ..
  refine S.update ha (fun b o hb e => (hs.2 b hb).trans e) ⟨vs, hl, hx.evo (fun b o hb e => (hs.2 b fun z => hb ?_).trans e) (fun _ h => .inl h) (List.prefix_refl _)⟩
  exact z ▸ List.mem_cons_of_mem _ (List.mem_append_left _ (List.mem_of_getElem? ha))
theorem Lo.update {h : Heap} {a : Addr} {vs us : List Value} {f : Array Value → Array Value} (x : Lo h a vs) (e : f vs.toArray = us.toArray) : Lo (h.update a (Obj.mapSeq f)) a us := by
  obtain ⟨n, hn⟩ := x
  have q := PySem.IsL.update hn f
  rw [e] at q
  exact ⟨_, q⟩
end

theorem ex_setitem {o i e : Expr} {pos' pos : Pos} {x : AV} {k : Nat} {j : Int} {xs : List AV} (he : Ev C sc n σ e x σ₁) (ho : Ev C sc n σ₁ o (.own k) σ₂) (hi : Ev C sc n σ₂ i (.int j) σ₃) (hk : σ₃.own[k]? = some (.list xs))
    (h0 : 0 ≤ j) (h1 : j < xs.length) (hz : xs.length ≤ 2 ^ 24 := by simp) (hs : ∀ env, swapsWith e (some (.Subscript o i pos')) pos.line env = pure false := by intro _; rfl) :
    Ex1 C sc n p σ (.Assign [.Subscript o i pos'] e pos) .next { σ₃ with own := σ₃.own.set k (.list (xs.set j.toNat x)) } := fun A env ρ χ s Q E hA hE S hp h =>
  wpAny_Assign_Subscript (he A env ρ χ s _ E hA hE S fun v s₁ ρ₁ P₁ hv => ho A env ρ₁ χ s₁ _ E hA hE P₁.st fun w s₂ ρ₂ P₂ hw => hi A env ρ₂ χ s₂ _ E hA hE P₂.st fun u s₃ ρ₃ P₃ ⟨t, hu⟩ => by
    subst hu
    obtain ⟨a, vs, rfl, ha, hl, hx⟩ := P₃.st.lo hk (P₃.is hw)
    obtain ⟨nn, hl'⟩ := id hl
    have hlen := hx.length
    refine ki_setAt hl' h0 (by omega) (by rw [List.size_toArray, hlen]; exact h1) (h _ _ ρ₃ ((((P₁.trans P₂).trans P₃).trans (St.upd (t := s₃.toks) P₃.st ha (hl.update (us := vs.set j.toNat v) ?_) (hx.set _ (P₃.is (P₂.is hv))))).toS hp) rfl)
    apply Array.toList_inj.mp
    simp) (hs env)

/-! ### methods of an own list -/
theorem call_one {pos : Pos} {id : String} {ov : Value} {A : Around} {env : Env} {ρ χ : List Addr} {s : Shared} {e : Expr} {l : List Expr} {rs : List AV} {Q : Value → Shared → Prop} {E : Value → Shared → Prop} (hA : Ok n A) (hE : EnvOk sc env) (S : St C env σ ρ χ s)
    (h₁ : EvL C sc n σ pos (e :: l) rs σ₁) (he : starEach (e :: l) env = (false, eval e env) :: starEach l env) (hplain : (backTo pos (starEach l env)).any (·.1) = false)
    (h : ∀ vs s' ρ', Post C env σ₁ ρ χ s ρ' s' → AllIs ρ' (wide env.locals ρ' χ) s'.heap rs vs → wpAny (model C.prog C.w) A (call (.builtin id) (ov :: vs)) Q E s') :
    wpAny (model C.prog C.w) A (callWith pos (.builtin id) [ov] (backTo pos (starEach (e :: l) env)) []) Q E s := by
  refine Calls.callWith_builtin (by rw [he]; show (false || (backTo pos (starEach l env)).any (·.1)) = false; rw [hplain]; rfl) ?_
  have z : wpAny (model C.prog C.w) A (spliced (backTo pos (starEach (e :: l) env))) _ E s := h₁ A env ρ χ s (fun vs s' => wpAny (model C.prog C.w) A (call (.builtin id) ([ov] ++ vs)) Q E s') E hA hE S fun vs s' ρ' P hx => h vs s' ρ' P hx
  rw [he] at z ⊢
  exact Calls.evalArgs_plain z

theorem ev_append {o e : Expr} {apos pos : Pos} {x : AV} {k : Nat} {xs : List AV} (ho : Ev C sc n σ o (.own k) σ₁) (hk₁ : ∃ ys, σ₁.own[k]? = some (.list ys)) (he : EvL C sc n σ₁ pos [e] [x] σ₂) (hk : σ₂.own[k]? = some (.list xs)) (hz : xs.length ≤ 2 ^ 20)
    (hbase : ∀ env, attributeBase o "append" env (eval o env) = eval o env := by intro _; rfl) (hline : (apos.endLine == pos.line) = true := by rfl) (hs : ∀ env, starEach [e] env = [(false, eval e env)] := by intro _; rfl) :
    Ev C sc n σ (.Call (.Attribute o "append" apos) [e] [] pos) .none { σ₂ with own := σ₂.own.set k (.list (xs ++ [x])) } := fun A env ρ χ s Q E hA hE S h =>
  wpAny_Call_method_lateS (hbase env) (by rw [hs env]; rfl) hline (ho A env ρ χ s _ E hA hE S fun v s₁ ρ₁ P₁ hv => by
    obtain ⟨ys, hk₁⟩ := hk₁
    obtain ⟨a, vs, rfl, ha, ⟨n₁, hl₁⟩, _⟩ := P₁.st.lo hk₁ hv
    refine ⟨"list", "list.append", F.plainAttrs_list, slot_list_append, type_list_append, ⟨_, hl₁, rfl⟩, (fun a' e' => by cases e'; exact ⟨_, hl₁, rfl⟩), ?_⟩
    refine call_one hA hE P₁.st he (hs env) rfl fun us s₂ ρ₂ P₂ hus => ?_
    simp only [AllIs] at hus
    obtain ⟨u, us', rfl, hu, rfl⟩ := hus
    obtain ⟨a₂, vs₂, e₂, ha₂, hl₂, hx₂⟩ := P₂.st.lo hk (P₂.is hv)
    cases e₂
    obtain ⟨n₂, hl₂'⟩ := id hl₂
    refine call_meets slot_list_append ⟨_, hl₂', rfl⟩ entry_list_append (args_list_append _ _) (PySem.list_append a _ n₂ u (by rw [List.size_toArray, hx₂.length]; unfold sizeLine; omega)) ⟨hl₂', ?_⟩
    refine h _ _ ρ₂ ((P₁.trans P₂).trans (St.upd P₂.st ha₂ (hl₂.update (us := vs₂ ++ [u]) (by simp)) (hx₂.append (AllIs.one hu)))) rfl)

theorem ev_insert0 {o e₀ e : Expr} {apos pos : Pos} {x : AV} {k : Nat} {xs : List AV} (ho : Ev C sc n σ o (.own k) σ₁) (hk₁ : ∃ ys, σ₁.own[k]? = some (.list ys)) (he : EvL C sc n σ₁ pos [e₀, e] [.int 0, x] σ₂) (hk : σ₂.own[k]? = some (.list xs)) (hz : xs.length ≤ 2 ^ 20)
    (hbase : ∀ env, attributeBase o "insert" env (eval o env) = eval o env := by intro _; rfl) (hline : (apos.endLine == pos.line) = true := by rfl) (hs₀ : ∀ env, starEach [e₀, e] env = (false, eval e₀ env) :: starEach [e] env := by intro _; rfl) (hs : ∀ env, starEach [e] env = [(false, eval e env)] := by intro _; rfl) :
    Ev C sc n σ (.Call (.Attribute o "insert" apos) [e₀, e] [] pos) .none { σ₂ with own := σ₂.own.set k (.list (x :: xs)) } := fun A env ρ χ s Q E hA hE S h =>
  wpAny_Call_method_lateS (hbase env) (by rw [hs₀ env, hs env]; rfl) hline (ho A env ρ χ s _ E hA hE S fun v s₁ ρ₁ P₁ hv => by
    obtain ⟨ys, hk₁⟩ := hk₁
    obtain ⟨a, vs, rfl, ha, ⟨n₁, hl₁⟩, _⟩ := P₁.st.lo hk₁ hv
    refine ⟨"list", "list.insert", F.plainAttrs_list, PySem.F.slot_list_insert, PySem.F.type_list_insert, ⟨_, hl₁, rfl⟩, (fun a' e' => by cases e'; exact ⟨_, hl₁, rfl⟩), ?_⟩
    refine call_one hA hE P₁.st he (hs₀ env) (by rw [hs env]; rfl) fun us s₂ ρ₂ P₂ hus => ?_
    simp only [AllIs] at hus
    obtain ⟨u₀, us', rfl, ⟨t, rfl⟩, u, us'', rfl, hu, rfl⟩ := hus
    obtain ⟨a₂, vs₂, e₂, ha₂, hl₂, hx₂⟩ := P₂.st.lo hk (P₂.is hv)
    cases e₂
    obtain ⟨n₂, hl₂'⟩ := id hl₂
    refine call_meets PySem.F.slot_list_insert ⟨_, hl₂', rfl⟩ PySem.F.entry_list_insert (PySem.F.args_list_insert_3 _ _ _) (PySem.AutoSeq1.list_insert_list_int_val_1 a _ n₂ 0 t u (by decide) (by rw [List.size_toArray, hx₂.length]; unfold sizeLine; omega)) ⟨hl₂', ?_⟩
    refine h _ _ ρ₂ ((P₁.trans P₂).trans (St.upd P₂.st ha₂ (hl₂.update (us := u :: vs₂) ?_) (by simp only [AllIs]; exact ⟨u, vs₂, rfl, hu, hx₂⟩))) rfl
    apply Array.toList_inj.mp
    simp)
end Mine
namespace Mine
variable {C : Base} {sc : Scope} {n p : Nat} {σ σ₁ σ₂ σ₃ σ' : AS}

/-! ### values without own objects -/
mutual
def AV.plain : AV → Bool
  | .none => true
  | .bool _ => true
  | .int _ => true
  | .str _ => true
  | .lst xs => plains xs
  | .tup xs => plains xs
  | .own _ => false
  | .rng _ _ _ => true
def plains : List AV → Bool
  | [] => true
  | x :: xs => x.plain && plains xs
end
mutual
theorem AV.Is.plain {ρ ρ' W W' : List Addr} {h : Heap} (sub : ∀ a ∈ W', a ∈ W) : ∀ {r : AV} {v : Value}, r.plain = true → r.Is ρ W h v → r.Is ρ' W' h v
  | .none, _, _, e => e
  | .bool _, _, _, e => e
  | .int _, _, _, e => e
  | .str _, _, _, e => e
  | .lst xs, v, hp, e => by
    simp only [AV.Is] at e ⊢
    obtain ⟨a, vs, rfl, ha, hl, r⟩ := e
    exact ⟨a, vs, rfl, fun hm => ha (sub a hm), hl, AllIs.plain sub hp r⟩
  | .tup xs, v, hp, e => by
    simp only [AV.Is] at e ⊢
    obtain ⟨a, vs, rfl, ha, hl, r⟩ := e
    exact ⟨a, vs, rfl, fun hm => ha (sub a hm), hl, AllIs.plain sub hp r⟩
  | .rng a b c, v, hp, e => by
    simp only [AV.Is] at e ⊢
    obtain ⟨r, t, u, w, rfl, ha, ho⟩ := e
    exact ⟨r, t, u, w, rfl, fun hm => ha (sub r hm), ho⟩
theorem AllIs.plain {ρ ρ' W W' : List Addr} {h : Heap} (sub : ∀ a ∈ W', a ∈ W) : ∀ {xs : List AV} {vs : List Value}, plains xs = true → AllIs ρ W h xs vs → AllIs ρ' W' h xs vs
  | [], _, _, e => by simp only [AllIs] at e ⊢; exact e
  | x :: xs, _, hp, e => by
    simp only [AllIs] at e ⊢
    simp only [plains, Bool.and_eq_true] at hp
    obtain ⟨v, vs', rfl, hx, r⟩ := e
    exact ⟨v, vs', rfl, AV.Is.plain sub hp.1 hx, AllIs.plain sub hp.2 r⟩
end
theorem plains_ints (ns : List Int) : plains (ns.map .int) = true := by
  induction ns with
  | nil => rfl
  | cons n r ih => simp only [List.map_cons, plains, AV.plain, ih, Bool.and_true]

/-! ### calls of built-ins -/
def CallR (C : Base) (σ : AS) (f : Value) (rs : List AV) (r : AV) : Prop :=
  ∀ (n : Nat) (A : Around) (env : Env) (ρ χ : List Addr) (s : Shared) (vs : List Value) (Q : Value → Shared → Prop) (E : Value → Shared → Prop), Ok n A → St C env σ ρ χ s →
    AllIs ρ (wide env.locals ρ χ) s.heap rs vs → (∀ x s', Post C env σ ρ χ s ρ s' → r.Is ρ (wide env.locals ρ χ) s'.heap x → Q x s') → wpAny (model C.prog C.w) A (call f vs) Q E s

inductive Mach : Value → Prop
  | builtin (id : String) : Mach (.builtin id)
  | type (T : String) : Mach (.type T)

theorem name_builtin {env : Env} {ρ χ : List Addr} {s : Shared} {M : Model} {A : Around} {x : Str} {p : Pos} {f : Value} {Q : Value → Shared → Prop} {E : Value → Shared → Prop} (hE : EnvOk sc env) (S : St C env σ ρ χ s)
    (hx : sc.names.lookup x = some .globalImplicit) (hg : C.mg x = none) (hn : x ≠ "__name__") (hd : (x == ("__debug__" : Str)) = false) (hb : bootBuiltins x = some f) (h : Q f s) : wpAny M A (eval (.Name x p) env) Q E s := by
  refine Calls.Name_function_global hE.sk ((hE.kind x).trans hx) (Calls.loadGlobal_builtin (mg := C.mg) (mb := C.mb) ?_ hg ?_ ((C.bi x hn).trans hb) h) hd
  · rw [hE.glob]; exact C.g.keeps S.base
  · rw [hE.blt]; exact C.b.keeps S.base
theorem name_global {env : Env} {ρ χ : List Addr} {s : Shared} {M : Model} {A : Around} {x : Str} {p : Pos} {f : Value} {Q : Value → Shared → Prop} {E : Value → Shared → Prop} (hE : EnvOk sc env) (S : St C env σ ρ χ s)
    (hx : sc.names.lookup x = some .globalImplicit) (hg : C.mg x = some f) (hd : (x == ("__debug__" : Str)) = false) (h : Q f s) : wpAny M A (eval (.Name x p) env) Q E s := by
  refine Calls.Name_function_global hE.sk ((hE.kind x).trans hx) (Calls.loadGlobal_global (mg := C.mg) ?_ hg h) hd
  rw [hE.glob]; exact C.g.keeps S.base

theorem ev_call_bi {x : Str} {p pos : Pos} {f : Value} {e : Expr} {l : List Expr} {rs : List AV} {r : AV} (hx : sc.names.lookup x = some .globalImplicit) (hg : C.mg x = none) (hn : x ≠ "__name__") (hd : (x == ("__debug__" : Str)) = false)
    (hb : bootBuiltins x = some f) (hf : Mach f) (ha : EvL C sc n σ pos (e :: l) rs σ₁) (hr : CallR C σ₁ f rs r) (he : ∀ env, starEach (e :: l) env = (false, eval e env) :: starEach l env := by intro _; rfl) (hplain : ∀ env, (backTo pos (starEach l env)).any (·.1) = false := by intro _; rfl) :
    Ev C sc n σ (.Call (.Name x p) (e :: l) [] pos) r σ₁ := fun A env ρ χ s Q E hA hE S h => by
  show wpAny _ A (eval (.Name x p) env >>= fun f => callWith pos f [] (backTo pos (starEach (e :: l) env)) (backToKw pos (keywordEach [] env))) Q E s
  refine wpAny_bind (name_builtin hE S hx hg hn hd hb ?_)
  have z : wpAny (model C.prog C.w) A (spliced (backTo pos (starEach (e :: l) env))) (fun vs s' => wpAny (model C.prog C.w) A (call f ([] ++ vs) []) Q E s') E s :=
    ha A env ρ χ s _ E hA hE S fun vs s₁ ρ₁ P₁ hvs => hr n A env ρ₁ χ s₁ vs Q E hA P₁.st hvs fun x s₂ P₂ hx => h x s₂ ρ₁ (P₁.trans P₂) hx
  have hany : (backTo pos (starEach (e :: l) env)).any (·.1) = false := by
    rw [he env]; show (false || (backTo pos (starEach l env)).any (·.1)) = false; rw [hplain env]; rfl
  rw [he env] at z
  cases hf with
  | builtin id => exact Calls.callWith_builtin hany (by rw [he env]; exact Calls.evalArgs_plain z)
  | type T => exact PySem.callWith_type hany (by rw [he env]; exact Calls.evalArgs_plain z)

theorem callr_len {r : AV} {xs : List AV} (hl : LstOf σ r xs) (hz : xs.length ≤ 2 ^ 24 := by simp) : CallR C σ (.builtin "len") [r] (.int xs.length) := fun n A env ρ χ s vs Q E hA S hvs h => by
  simp only [AllIs] at hvs
  obtain ⟨v, vs', rfl, hv, rfl⟩ := hvs
  obtain ⟨a, us, rfl, hl', hx⟩ := hl.get S hv
  exact Calls.call_len_list hl' (by rw [List.size_toArray, hx.length]; omega) (h _ _ (Post.toks S _) ⟨s.toks + 1, by rw [List.size_toArray, hx.length]⟩)
theorem callr_len_str {x : Str} (hz : x.length ≤ 2 ^ 24) : CallR C σ (.builtin "len") [.str x] (.int x.length) := fun n A env ρ χ s vs Q E hA S hvs h => by
  simp only [AllIs] at hvs
  obtain ⟨v, vs', rfl, ⟨t, rfl⟩, rfl⟩ := hvs
  exact P.len_str (by omega) (h _ _ (Post.toks S _) ⟨_, rfl⟩)
theorem Post.grown {env : Env} {ρ χ : List Addr} {s : Shared} (S : St C env σ ρ χ s) {h' : Heap} {t : Nat} (hk : ∀ b o, s.heap.get? b = some o → h'.get? b = some o) : Post C env σ ρ χ s ρ { s with heap := h', toks := t } := by
  obtain ⟨m, hm, _⟩ := S.ns
  exact Post.grow S hm (hm.keeps hk) fun a o _ e => hk a o e
theorem callr_sum {r : AV} {ns : List Int} (hl : LstOf σ r (ns.map .int)) : CallR C σ (.builtin "sum") [r] (.int ns.sum) := fun n A env ρ χ s vs Q E hA S hvs h => by
  simp only [AllIs] at hvs
  obtain ⟨v, vs', rfl, hv, rfl⟩ := hvs
  obtain ⟨a, us, rfl, hl', hx⟩ := hl.get S hv
  have hi := ints_allIs hx
  obtain ⟨xs, e⟩ := hi.allInts.items
  have hns : ns = xs.toList.map (·.1) := by rw [← hi.numsOf, ← nums_intItems, ← e]
  rw [e] at hl'
  refine sum_intListG hA.handled hl' fun h' tk t' hk => h _ _ (Post.grown S hk) ⟨t', ?_⟩
  rw [preSum_eq, List.take_of_length_le (by simp), ← hns]
theorem callr_min {r : AV} {ns : List Int} {M : Int} (hl : LstOf σ r (ns.map .int)) (hm : M ∈ ns) (hle : ∀ a ∈ ns, M ≤ a) : CallR C σ (.builtin "min") [r] (.int M) := fun n A env ρ χ s vs Q E hA S hvs h => by
  simp only [AllIs] at hvs
  obtain ⟨v, vs', rfl, hv, rfl⟩ := hvs
  obtain ⟨a, us, rfl, hl', hx⟩ := hl.get S hv
  obtain ⟨m, hns, _⟩ := S.ns
  refine min_list_N hA.handled (S.fr hns) St.news hl' (ints_allIs hx) (List.length_pos_of_mem hm) fun h' M' t tk F' N' hM hM' => ?_
  have e : M' = M := Int.le_antisymm (hM' M hm) (hle M' hM)
  subst e
  exact h _ _ (Post.grow S hns F'.ns (keeps_of (more := []) (S.fr hns) F' N')) ⟨_, rfl⟩
theorem callr_max {r : AV} {ns : List Int} {M : Int} (hl : LstOf σ r (ns.map .int)) (hm : M ∈ ns) (hle : ∀ a ∈ ns, a ≤ M) : CallR C σ (.builtin "max") [r] (.int M) := fun n A env ρ χ s vs Q E hA S hvs h => by
  simp only [AllIs] at hvs
  obtain ⟨v, vs', rfl, hv, rfl⟩ := hvs
  obtain ⟨a, us, rfl, hl', hx⟩ := hl.get S hv
  obtain ⟨m, hns, _⟩ := S.ns
  refine max_list_N hA.handled (S.fr hns) St.news hl' (ints_allIs hx) (List.length_pos_of_mem hm) fun h' M' t tk F' N' hM hM' => ?_
  have e : M' = M := Int.le_antisymm (hle M' hM) (hM' M hm)
  subst e
  exact h _ _ (Post.grow S hns F'.ns (keeps_of (more := []) (S.fr hns) F' N')) ⟨_, rfl⟩
theorem callr_min2 {a b : Int} : CallR C σ (.builtin "min") [.int a, .int b] (.int (if b < a then b else a)) := fun n A env ρ χ s vs Q E hA S hvs h => by
  simp only [AllIs] at hvs
  obtain ⟨v, vs', rfl, ⟨t, rfl⟩, w, vs'', rfl, ⟨u, rfl⟩, rfl⟩ := hvs
  refine min_two_ints hA.handled fun h' tk hk => ?_
  by_cases hba : b < a
  · rw [if_pos hba] at h ⊢; exact h _ _ (Post.grown S hk) ⟨_, rfl⟩
  · rw [if_neg hba] at h ⊢; exact h _ _ (Post.grown S hk) ⟨_, rfl⟩
theorem callr_abs {a : Int} : CallR C σ (.builtin "abs") [.int a] (.int (if a < 0 then -a else a)) := fun n A env ρ χ s vs Q E hA S hvs h => by
  simp only [AllIs] at hvs
  obtain ⟨v, vs', rfl, ⟨t, rfl⟩, rfl⟩ := hvs
  exact call_abs_int fun u tk => h _ _ (Post.toks S _) ⟨_, rfl⟩
end Mine
namespace Mine
variable {C : Base} {sc : Scope} {n p : Nat} {σ σ₁ σ₂ σ₃ σ' : AS}

/-! ### the text's own functions -/
structure FnAt (C : Base) (f : Addr) (fd : FuncData) (body : List Stmt) : Prop where
  obj : ∃ o, C.H.get? f = some o ∧ o.data = .func fd
  code : C.H.CodeRec fd.code fd.qualname
  glob : fd.globals = mainGlobals
  blt : fd.builtins = builtinsNs
  body : fd.body = .stmts body

structure CallPre (C : Base) (own : List AO) (ρ χ : List Addr) (s : Shared) : Prop where
  size : C.H.objs.size ≤ s.heap.objs.size
  base : ∀ a o, C.H.get? a = some o → s.heap.get? a = some o
  gens : s.gens = #[]
  os : s.os = C.os
  len : ρ.length = own.length
  nod : (ρ ++ χ).Nodup
  out : ∀ a ∈ ρ, C.H.get? a = none
  alc : ∀ a ∈ ρ ++ χ, ∃ o, s.heap.get? a = some o
  own : ∀ (k : Nat) (o : AO), own[k]? = some o → ∃ a, ρ[k]? = some a ∧ o.At ρ (ρ ++ χ) s.heap a

structure CallPost (C : Base) (own' : List AO) (ρ χ : List Addr) (s s' : Shared) : Prop where
  gens : s'.gens = #[]
  os : s'.os = C.os
  keep : ∀ a o, a ∉ ρ → s.heap.get? a = some o → s'.heap.get? a = some o
  live : ∀ a o, s.heap.get? a = some o → ∃ o', s'.heap.get? a = some o'
  own : ∀ (k : Nat) (o : AO), own'[k]? = some o → ∃ a, ρ[k]? = some a ∧ o.At ρ (ρ ++ χ) s'.heap a

def CallOk (C : Base) (n : Nat) (f : Addr) (own : List AO) (args : List AV) (r : AV) (own' : List AO) : Prop :=
  ∀ (A : Around) (s : Shared) (ρ χ : List Addr) (vs : List Value) (R : Result → Shared → Prop), Ok n A → CallPre C own ρ χ s → AllIs ρ (ρ ++ χ) s.heap args vs →
    (∀ v s', CallPost C own' ρ χ s s' → r.Is ρ (ρ ++ χ) s'.heap v → R (.ok (.ret v)) s') → codeAny (model C.prog C.w) A (.call (.ref f) ⟨vs, []⟩) R s

/-! what is handed back: own lists are let go -/
mutual
inductive Cl (own : List AO) (p : Nat) : AV → AV → Prop
  | plain {r : AV} : r.plain = true → Cl own p r r
  | own {k : Nat} {xs : List AV} : p ≤ k → own[k]? = some (.list xs) → plains xs = true → Cl own p (.own k) (.lst xs)
  | tup {xs ys : List AV} : ClAll own p xs ys → Cl own p (.tup xs) (.tup ys)
inductive ClAll (own : List AO) (p : Nat) : List AV → List AV → Prop
  | nil : ClAll own p [] []
  | cons {x y : AV} {xs ys : List AV} : Cl own p x y → ClAll own p xs ys → ClAll own p (x :: xs) (y :: ys)
end

section
variable {env : Env} {ρ ρ₀ χ : List Addr} {s : Shared}
theorem St.sub₀ (hp : p ≤ ρ.length) (ht : ρ.take p = ρ₀) : ∀ a ∈ ρ₀ ++ χ, a ∈ wide env.locals ρ χ := fun a ha => by
  rcases List.mem_append.mp ha with h | h
  · exact List.mem_cons_of_mem _ (List.mem_append_left _ (List.mem_of_mem_take (ht ▸ h)))
  · exact List.mem_cons_of_mem _ (List.mem_append_right _ h)
mutual
theorem Cl.is (S : St C env σ ρ χ s) (hp : p ≤ ρ.length) (ht : ρ.take p = ρ₀) : ∀ {r r' : AV} {v : Value}, Cl σ.own p r r' → r.Is ρ (wide env.locals ρ χ) s.heap v → r'.Is ρ₀ (ρ₀ ++ χ) s.heap v
  | _, _, _, .plain h, e => AV.Is.plain (St.sub₀ hp ht) h e
  | _, _, v, .own (k := k) (xs := xs) hk ho hx, e => by
    obtain ⟨a, vs, rfl, ha, hl, hall⟩ := S.lo ho e
    simp only [AV.Is]
    refine ⟨a, vs, rfl, fun hm => ?_, hl.isList, AllIs.plain (St.sub₀ hp ht) hx hall⟩
    have hnd := (List.nodup_cons.mp S.nod).2
    rcases List.mem_append.mp hm with h | h
    · rw [← ht] at h
      obtain ⟨j, hj, e⟩ := List.mem_iff_getElem.mp h
      rw [List.getElem_take] at e
      rw [List.length_take] at hj
      have h1 : ρ[j]? = some a := by rw [List.getElem?_eq_getElem (by omega), e]
      have := nodup_place (List.nodup_append.mp hnd).1 h1 ha
      omega
    · exact (List.nodup_append.mp hnd).2.2 a (List.mem_of_getElem? ha) a h rfl
  | _, _, v, .tup h, e => by
    simp only [AV.Is] at e ⊢
    obtain ⟨a, vs, rfl, ha, hl, hall⟩ := e
    exact ⟨a, vs, rfl, fun hm => ha (St.sub₀ hp ht a hm), hl, ClAll.is S hp ht h hall⟩
theorem ClAll.is (S : St C env σ ρ χ s) (hp : p ≤ ρ.length) (ht : ρ.take p = ρ₀) : ∀ {xs ys : List AV} {vs : List Value}, ClAll σ.own p xs ys → AllIs ρ (wide env.locals ρ χ) s.heap xs vs → AllIs ρ₀ (ρ₀ ++ χ) s.heap ys vs
  | _, _, _, .nil, e => by simp only [AllIs] at e ⊢; exact e
  | _, _, _, .cons h hs, e => by
    simp only [AllIs] at e ⊢
    obtain ⟨v, vs', rfl, hx, r⟩ := e
    exact ⟨v, vs', rfl, Cl.is S hp ht h hx, ClAll.is S hp ht hs r⟩
end
end

theorem lookup_rev : ∀ {l : List (Str × Value)}, (l.map (·.1)).Nodup → ∀ {x v}, (x, v) ∈ l → l.reverse.lookup x = some v := by
  intro l hn x v hm
  have key : ∀ (l : List (Str × Value)), (l.map (·.1)).Nodup → (x, v) ∈ l → l.lookup x = some v := by
    intro l
    induction l with
    | nil => intro _ h; cases h
    | cons y l ih =>
      intro hn hm
      obtain ⟨a, b⟩ := y
      rw [List.lookup_cons]
      rcases List.mem_cons.mp hm with e | hm
      · cases e; simp
      · simp only [List.map_cons, List.nodup_cons] at hn
        have hne : (x == a) = false := beq_eq_false_iff_ne.mpr fun z => hn.1 (z ▸ List.mem_map_of_mem hm)
        rw [hne]; exact ih hn.2 hm
  refine key _ ?_ (List.mem_reverse.mpr hm)
  rw [List.map_reverse]
  exact (List.reverse_perm _).nodup_iff.mpr hn

/-- the own facts at the end, by the arguments' part alone -/
def OwnPlain : AO → Prop
  | .cell none => True
  | .cell (some r) => r.plain = true
  | .list xs => plains xs = true
theorem AO.At.plain {ρ ρ' W W' : List Addr} {h : Heap} {a : Addr} (sub : ∀ a ∈ W', a ∈ W) : ∀ {o : AO}, OwnPlain o → o.At ρ W h a → o.At ρ' W' h a
  | .cell none, _, e => e
  | .cell (some r), hp, ⟨v, hc, hr⟩ => ⟨v, hc, hr.plain sub hp⟩
  | .list xs, hp, ⟨vs, hl, hx⟩ => ⟨vs, hl, hx.plain sub hp⟩

theorem call_entry {f : Addr} {fd : FuncData} {body : List Stmt} {own : List AO} {args args' : List AV} {names : List Str} {fl : Fl} {r : AV} (hf : FnAt C f fd body)
    (hcell : ∀ x ∈ fd.scope.names, x.2 ≠ .cell) (hl : ∀ x ∈ names, fd.scope.names.lookup x = some .local ∧ (x == ("__debug__" : Str)) = false) (hn : names.Nodup) (hlen : names.length = args'.length)
    (hbind : ∀ (s : Shared) (vs : List Value) (ρ W : List Addr), (∀ a o, C.H.get? a = some o → s.heap.get? a = some o) → AllIs ρ W s.heap args vs → ∃ us, AllIs ρ W s.heap args' us ∧ BindsTo s fd ⟨vs, []⟩ (names.zip us))
    (hbody : Ex C fd.scope n own.length ⟨names.zip args', [], own⟩ body fl σ') (hr : (fl = .next ∧ r = .none) ∨ ∃ r₀, fl = .ret r₀ ∧ Cl σ'.own own.length r₀ r) (hplain : ∀ o ∈ σ'.own.take own.length, OwnPlain o)
    (hco : fd.scope.isCoroutine = false := by rfl) (hgen : fd.scope.isGenerator = false := by rfl) (hk : fd.scope.kind = .function := by rfl) :
    CallOk C (n + 1) f own args r (σ'.own.take own.length) := fun A s ρ χ vs R hA hP hvs h => by
  obtain ⟨o, ho, hd⟩ := hf.obj
  obtain ⟨us, hus, hb⟩ := hbind s vs ρ _ hP.base hvs
  have hul : us.length = names.length := by rw [hus.length, hlen]
  have hz : (names.zip us).map (·.1) = names := List.map_fst_zip (by omega)
  refine codeAny_call_def hA.room (hP.base f o ho) hd (C.nolim.keeps hP.base) (hf.code.keeps hP.base) hf.body hb hcell (fun x hx => (hl x.1 ?_).1) (fun h₀ hns hkeep => ?_) hco hgen hk
  · rw [← hz]; exact List.mem_map_of_mem hx
  have hL : s.heap.get? s.heap.objs.size = none := noneSize _
  have hloc : (callEnv fd s.heap.objs.size f).locals = s.heap.objs.size := rfl
  have hE : EnvOk fd.scope (callEnv fd s.heap.objs.size f) := ⟨rfl, hk, hf.glob, hf.blt⟩
  have hLn : s.heap.objs.size ∉ ρ ++ χ := fun hm => by obtain ⟨o, e⟩ := hP.alc _ hm; rw [hL] at e; cases e
  have keep : ∀ W : List Addr, ∀ a o, a ∉ W → s.heap.get? a = some o → h₀.get? a = some o := fun _ a o _ e => hkeep a o e
  have new : ∀ a ∈ wide s.heap.objs.size ρ χ, a ∈ ρ ++ χ ∨ s.heap.get? a = none := fun a ha => by
    rcases List.mem_cons.mp ha with rfl | ha
    · exact .inr hL
    · exact .inl ha
  have S : St C (callEnv fd s.heap.objs.size f) ⟨names.zip args', [], own⟩ ρ χ { s with heap := h₀, toks := s.toks + (names.zip us).length } := by
    refine ⟨fun a o e => hkeep a o (hP.base a o e), hP.gens, hP.os, hP.len, List.nodup_cons.mpr ⟨hLn, hP.nod⟩, fun a ha => ?_, ?_, fun a ha => ?_, ⟨_, hns, fun p hp => ?_⟩, ?_, fun p hp => (nomatch hp), fun k o hk => ?_⟩
    · rcases List.mem_cons.mp ha with rfl | ha
      · cases q : C.H.get? s.heap.objs.size with
        | none => exact q
        | some o => have := hP.base _ o q; rw [hL] at this; cases this
      · exact hP.out a ha
    · exact hP.size
    · rcases List.mem_cons.mp ha with rfl | ha
      · exact Ns.there hns
      · obtain ⟨o, e⟩ := hP.alc a ha; exact ⟨o, hkeep a o e⟩
    · have hmem : p.1 ∈ names := (List.of_mem_zip hp).1
      refine ⟨(hE.kind p.1).trans (hl p.1 hmem).1, (hl p.1 hmem).2, ?_⟩
      obtain ⟨i, hi, e⟩ := List.mem_iff_getElem.mp hp
      rw [List.getElem_zip] at e
      rw [List.length_zip] at hi
      have hx : args'[i]? = some p.2 := by rw [List.getElem?_eq_getElem (by omega), ← e]
      obtain ⟨v, hv, hI⟩ := hus.get hx
      refine ⟨v, ?_, hI.evo (keep _) new (List.prefix_refl _)⟩
      refine lookup_rev (by rw [hz]; exact hn) ?_
      have hiu := (List.getElem?_eq_some_iff.mp hv)
      have : (names.zip us)[i]? = some (p.1, v) := by
        rw [List.getElem?_eq_getElem (by rw [List.length_zip]; omega), List.getElem_zip, hiu.2, ← e]
      exact List.mem_of_getElem? this
    · show ((names.zip args').map (·.1)).Nodup
      rw [List.map_fst_zip (by omega)]; exact hn
    · obtain ⟨a, ha, hI⟩ := hP.own k o hk
      exact ⟨a, ha, hI.evo (keep _) new (List.prefix_refl _) fun o e => hkeep a o e⟩
  refine hbody (A.deeper (callEnv fd s.heap.objs.size f)) _ ρ χ _ _ _ hA.deeper hE S (by rw [hP.len]; exact Nat.le_refl _) fun x s' ρ' P hx => ?_
  have hpre : ρ'.take own.length = ρ := by rw [P.pre, ← hP.len]; exact List.take_length
  have hle : own.length ≤ ρ'.length := P.le
  have post : CallPost C (σ'.own.take own.length) ρ χ s s' := by
    refine ⟨P.st.gens, P.st.os, fun a o ha e => P.evo.keep a o (fun hm => ?_) (hkeep a o e), fun a o e => P.evo.live a o (hkeep a o e), fun k o hk => ?_⟩
    · rcases List.mem_cons.mp hm with z | hm
      · rw [z] at e; have e' : s.heap.get? s.heap.objs.size = some o := e; rw [hL] at e'; cases e'
      · exact ha hm
    · have hk' : k < own.length ∧ σ'.own[k]? = some o := by
        rw [List.getElem?_take] at hk
        split at hk
        · exact ⟨by assumption, hk⟩
        · cases hk
      obtain ⟨a, ha, hI⟩ := P.st.own k o hk'.2
      refine ⟨a, ?_, (hI.plain (St.sub₀ hle hpre) (hplain o (List.mem_of_getElem? hk)))⟩
      rw [← hpre, List.getElem?_take, if_pos hk'.1]; exact ha
  rcases hr with ⟨rfl, rfl⟩ | ⟨r₀, rfl, hcl⟩
  · have e : x = .next := hx
    subst e
    exact h _ s' post rfl
  · obtain ⟨v, e, hv⟩ := hx
    subst e
    exact h _ s' post (hcl.is P.st hle hpre hv)
end Mine
namespace Mine
variable {C : Base} {sc : Scope} {n p : Nat} {σ σ₁ σ₂ σ₃ σ' : AS}

section
variable {env : Env} {ρ χ : List Addr} {s : Shared}
theorem St.reshape (S : St C env σ ρ χ s) {s' : Shared} (hh : s'.heap = s.heap) (hg : s'.gens = #[]) (ho : s'.os = C.os) : St C env σ ρ χ s' := by
  obtain ⟨a, b, c, d, e, f, g, h, i, j, k, l⟩ := S
  exact ⟨hh ▸ a, hg, ho, d, e, f, g, hh ▸ h, hh ▸ i, j, hh ▸ k, hh ▸ l⟩
theorem Post.ofKeep (S : St C env σ ρ χ s) {s' : Shared} (hk : ∀ a o, s.heap.get? a = some o → s'.heap.get? a = some o) (hg : s'.gens = #[]) (ho : s'.os = C.os) : Post C env σ ρ χ s ρ s' := by
  have P := Post.grown (t := s.toks) S hk
  exact ⟨P.st.reshape rfl hg ho, P.evo, P.pre⟩
theorem St.size (S : St C env σ ρ χ s) : C.H.objs.size ≤ s.heap.objs.size := by
  obtain ⟨o, e⟩ := S.alc env.locals List.mem_cons_self
  exact Nat.le_trans S.above (Nat.le_of_lt (Heap.lt_size e))
end

def IsFn (C : Base) (f : Addr) : Prop := ∃ o fd, C.H.get? f = some o ∧ o.data = .func fd
theorem FnAt.isFn {f fd body} (h : FnAt C f fd body) : IsFn C f := let ⟨o, a, b⟩ := h.obj; ⟨o, fd, a, b⟩

theorem erase_perm : ∀ {l : List Addr} {k : Nat} (h : k < l.length), List.Perm (l[k] :: l.eraseIdx k) l
  | x :: l, 0, _ => List.Perm.refl _
  | x :: l, k + 1, h => by
    have h' : k < l.length := Nat.lt_of_succ_lt_succ h
    show List.Perm (l[k] :: x :: l.eraseIdx k) (x :: l)
    exact (List.Perm.swap ..).trans ((erase_perm h').cons x)

/-- what a call's arguments are to the callee -/
inductive View (σ : AS) : AV → AV → Prop
  | plain {r : AV} : r.plain = true → View σ r r
  | own {k : Nat} {xs : List AV} : σ.own[k]? = some (.list xs) → plains xs = true → View σ (.own k) (.lst xs)
inductive ViewAll (σ : AS) : List AV → List AV → Prop
  | nil : ViewAll σ [] []
  | cons {x y : AV} {xs ys : List AV} : View σ x y → ViewAll σ xs ys → ViewAll σ (x :: xs) (y :: ys)
def scalar : AV → Bool
  | .none | .bool _ | .int _ | .str _ => true
  | _ => false
theorem scalar_is {ρ W ρ' W' : List Addr} {h h' : Heap} : ∀ {r : AV} {v : Value}, scalar r = true → r.Is ρ W h v → r.Is ρ' W' h' v
  | .none, _, _, e => e
  | .bool _, _, _, e => e
  | .int _, _, _, e => e
  | .str _, _, _, e => e
  | .lst _, _, h, _ => nomatch h
  | .tup _, _, h, _ => nomatch h
  | .own _, _, h, _ => nomatch h
  | .rng _ _ _, _, h, _ => nomatch h
section
variable {env : Env} {ρ χ : List Addr} {s : Shared}
theorem View.is (S : St C env σ ρ χ s) {r r' : AV} {v : Value} (h : View σ r r') (e : r.Is ρ (wide env.locals ρ χ) s.heap v) : r'.Is [] [] s.heap v := by
  cases h with
  | plain h => exact AV.Is.plain (by intro _ h; cases h) h e
  | own ho hx =>
    obtain ⟨a, vs, rfl, ha, hl, hall⟩ := S.lo ho e
    simp only [AV.Is]
    exact ⟨a, vs, rfl, (fun h => nomatch h), hl.isList, AllIs.plain (by intro _ h; cases h) hx hall⟩
theorem ViewAll.is (S : St C env σ ρ χ s) : ∀ {xs ys : List AV} {vs : List Value}, ViewAll σ xs ys → AllIs ρ (wide env.locals ρ χ) s.heap xs vs → AllIs [] [] s.heap ys vs
  | _, _, _, .nil, e => by simp only [AllIs] at e ⊢; exact e
  | _, _, _, .cons h hs, e => by
    simp only [AllIs] at e ⊢
    obtain ⟨v, vs', rfl, hx, r⟩ := e
    exact ⟨v, vs', rfl, h.is S hx, hs.is S r⟩
end

theorem call_fn {x : Str} {p pos : Pos} {f : Addr} {e : Expr} {l : List Expr} {rs : List AV} {r : AV} {σ' : AS} (hx : sc.names.lookup x = some .globalImplicit) (hg : C.mg x = some (.ref f)) (hd : (x == ("__debug__" : Str)) = false)
    (hf : IsFn C f) (ha : EvL C sc n σ pos (e :: l) rs σ₁) (he : ∀ env, starEach (e :: l) env = (false, eval e env) :: starEach l env) (hplain : ∀ env, (backTo pos (starEach l env)).any (·.1) = false)
    (hc : ∀ (A : Around) (env : Env) (ρ χ : List Addr) (s : Shared) (vs : List Value) (R : Result → Shared → Prop), Ok n A → St C env σ₁ ρ χ s → AllIs ρ (wide env.locals ρ χ) s.heap rs vs →
      (∀ v s', Post C env σ' ρ χ s ρ s' → r.Is ρ (wide env.locals ρ χ) s'.heap v → R (.ok (.ret v)) s') → codeAny (model C.prog C.w) A (.call (.ref f) ⟨vs, []⟩) R s) :
    Ev C sc n σ (.Call (.Name x p) (e :: l) [] pos) r σ' := fun A env ρ χ s Q E hA hE S h => by
  show wpAny _ A (eval (.Name x p) env >>= fun f => callWith pos f [] (backTo pos (starEach (e :: l) env)) (backToKw pos (keywordEach [] env))) Q E s
  refine wpAny_bind (name_global hE S hx hg hd ?_)
  obtain ⟨o, fd, ho, hdt⟩ := hf
  have z : wpAny (model C.prog C.w) A (spliced (backTo pos (starEach (e :: l) env))) (fun vs s' => (s'.heap.get? f = some o ∧ o.data = .func fd) ∧ wpAny (model C.prog C.w) A (call (.ref f) ([] ++ vs) []) Q E s') E s :=
    ha A env ρ χ s _ E hA hE S fun vs s₁ ρ₁ P₁ hvs => ⟨⟨P₁.st.base f o ho, hdt⟩, wpAny_call (hc A env ρ₁ χ s₁ vs _ hA P₁.st hvs fun v s' P' hv => h v s' ρ₁ (P₁.trans P') hv)⟩
  rw [he env] at z
  exact Calls.callWith_function (by rw [he env]; exact Calls.evalArgs_plain z)

theorem ev_call_fn {x : Str} {p pos : Pos} {f : Addr} {e : Expr} {l : List Expr} {rs : List AV} {r : AV} (hx : sc.names.lookup x = some .globalImplicit) (hg : C.mg x = some (.ref f)) (hd : (x == ("__debug__" : Str)) = false)
    (hf : IsFn C f) (ha : EvL C sc n σ pos (e :: l) rs σ₁) (hp : plains rs = true) (hc : CallOk C n f [] rs r []) (hr : r.plain = true)
    (he : ∀ env, starEach (e :: l) env = (false, eval e env) :: starEach l env := by intro _; rfl) (hplain : ∀ env, (backTo pos (starEach l env)).any (·.1) = false := by intro _; rfl) :
    Ev C sc n σ (.Call (.Name x p) (e :: l) [] pos) r σ₁ :=
  call_fn hx hg hd hf ha he hplain fun A env ρ χ s vs R hA S hvs h =>
    hc A s [] (wide env.locals ρ χ) vs R hA ⟨S.size, S.base, S.gens, S.os, rfl, S.nod, (fun _ h => nomatch h), S.alc, fun k o hk => by simp at hk⟩ (AllIs.plain (fun _ h => h) hp hvs) fun v s' P hv =>
      h v s' (Post.ofKeep S (fun a o e => P.keep a o (fun h => nomatch h) e) P.gens P.os) (AV.Is.plain (fun _ h => h) hr hv)

/-- own lists lent for reading; a plain answer -/
theorem ev_call_lent {x : Str} {p pos : Pos} {f : Addr} {e : Expr} {l : List Expr} {rs rs' : List AV} {r : AV} (hx : sc.names.lookup x = some .globalImplicit) (hg : C.mg x = some (.ref f)) (hd : (x == ("__debug__" : Str)) = false)
    (hf : IsFn C f) (ha : EvL C sc n σ pos (e :: l) rs σ₁) (hv : ViewAll σ₁ rs rs') (hc : CallOk C n f [] rs' r []) (hr : scalar r = true)
    (he : ∀ env, starEach (e :: l) env = (false, eval e env) :: starEach l env := by intro _; rfl) (hplain : ∀ env, (backTo pos (starEach l env)).any (·.1) = false := by intro _; rfl) :
    Ev C sc n σ (.Call (.Name x p) (e :: l) [] pos) r σ₁ :=
  call_fn hx hg hd hf ha he hplain fun A env ρ χ s vs R hA S hvs h =>
    hc A s [] [] vs R hA ⟨S.size, S.base, S.gens, S.os, rfl, List.nodup_nil, (fun _ h => nomatch h), (fun _ h => nomatch h), fun k o hk => by simp at hk⟩ (hv.is S hvs) fun v s' P hv =>
      h v s' (Post.ofKeep S (fun a o e => P.keep a o (fun h => nomatch h) e) P.gens P.os) (scalar_is hr hv)

/-- an own list handed over, to be changed -/
theorem ev_call_own {x : Str} {p pos : Pos} {f : Addr} {e : Expr} {l : List Expr} {rs : List AV} {r : AV} {k : Nat} {xs ys : List AV} (hx : sc.names.lookup x = some .globalImplicit) (hg : C.mg x = some (.ref f)) (hd : (x == ("__debug__" : Str)) = false)
    (hf : IsFn C f) (ha : EvL C sc n σ pos (e :: l) (.own k :: rs) σ₁) (hk : σ₁.own[k]? = some (.list xs)) (hp : plains rs = true) (hxs : plains xs = true) (hys : plains ys = true)
    (hc : CallOk C n f [.list xs] (.own 0 :: rs) r [.list ys]) (hr : r.plain = true)
    (he : ∀ env, starEach (e :: l) env = (false, eval e env) :: starEach l env := by intro _; rfl) (hplain : ∀ env, (backTo pos (starEach l env)).any (·.1) = false := by intro _; rfl) :
    Ev C sc n σ (.Call (.Name x p) (e :: l) [] pos) r { σ₁ with own := σ₁.own.set k (.list ys) } :=
  call_fn hx hg hd hf ha he hplain fun A env ρ χ s vs R hA S hvs h => by
    simp only [AllIs] at hvs
    obtain ⟨v, vs', rfl, hv, hvs⟩ := hvs
    obtain ⟨a, us, rfl, hka, hl, hall⟩ := S.lo hk hv
    have hm : a ∈ ρ := List.mem_of_getElem? hka
    have hlt := (List.getElem?_eq_some_iff.mp hka).1
    have hperm : List.Perm ([a] ++ (env.locals :: (ρ.eraseIdx k ++ χ))) (wide env.locals ρ χ) := by
      have h1 : List.Perm ρ (a :: ρ.eraseIdx k) := by
        have e := (List.getElem?_eq_some_iff.mp hka).2
        rw [← e]
        exact (erase_perm hlt).symm
      have h2 : List.Perm (ρ ++ χ) (a :: (ρ.eraseIdx k ++ χ)) := h1.append_right χ
      exact ((List.Perm.swap ..).trans (List.Perm.cons _ h2.symm))
    have hsub : ∀ b, b ∈ [a] ++ (env.locals :: (ρ.eraseIdx k ++ χ)) ↔ b ∈ wide env.locals ρ χ := fun b => hperm.mem_iff
    refine hc A s [a] (env.locals :: (ρ.eraseIdx k ++ χ)) _ R hA ⟨S.size, S.base, S.gens, S.os, rfl, hperm.nodup_iff.mpr S.nod, (fun b hb => S.out b (List.mem_cons_of_mem _ (by rw [List.mem_singleton.mp hb]; exact hm))),
      (fun b hb => S.alc b ((hsub b).mp hb)), fun j o hj => ?_⟩ ?_ fun v s' P hv => ?_
    · cases j with
      | zero => simp at hj; subst hj; exact ⟨a, rfl, us, hl, AllIs.plain (fun b hb => (hsub b).mp hb) hxs hall⟩
      | succ j => simp at hj
    · simp only [AllIs]
      exact ⟨_, vs', rfl, ⟨a, rfl, rfl⟩, AllIs.plain (fun b hb => (hsub b).mp hb) hp hvs⟩
    · obtain ⟨a', ha', us', hl', hall'⟩ := P.own 0 _ rfl
      simp at ha'; subst ha'
      have Q := S.update (t := s.toks) (h' := s'.heap) (o' := .list ys) hka (fun b o hb e => P.keep b o (fun z => hb (List.mem_singleton.mp z)) e) ⟨us', hl', AllIs.plain (fun b hb => (hsub b).mpr hb) hys hall'⟩
      exact h v s' ⟨Q.st.reshape rfl P.gens P.os, Q.evo, Q.pre⟩ (AV.Is.plain (fun b hb => (hsub b).mpr hb) hr hv)
end Mine
namespace Mine
variable {C : Base} {sc : Scope} {n p : Nat} {σ σ₁ σ₂ σ₃ σ' : AS}

/-- names are forgotten -/
theorem St.forget {env : Env} {ρ χ : List Addr} {s : Shared} (S : St C env σ ρ χ s) {ls' : List (Str × AV)} (h : List.Sublist ls' σ.ls) : St C env { σ with ls := ls' } ρ χ s := by
  obtain ⟨a, b, c, d, e, f, g, i, ⟨m, hm, hl⟩, k, l, q⟩ := S
  exact ⟨a, b, c, d, e, f, g, i, ⟨m, hm, fun p hp => hl p (h.subset hp)⟩, (h.map _).nodup k, l, q⟩
theorem ex_forget {l : List Stmt} {f : Fl} {ls' : List (Str × AV)} (h : Ex C sc n p σ l f σ') (hs : List.Sublist ls' σ'.ls) : Ex C sc n p σ l f { σ' with ls := ls' } := fun A env ρ χ s Q E hA hE S hp k =>
  h A env ρ χ s Q E hA hE S hp fun x s' ρ' P hx => k x s' ρ' ⟨P.st.forget hs, P.evo, P.pre, P.le⟩ hx

def WT (C : Base) (sc : Scope) (n p : Nat) (t : Expr) (body : List Stmt) (σ : AS) (f : Fl) (σ' : AS) : Prop := ∃ k, WhileTo C sc n p t body k σ f σ'
section
variable {t : Expr} {body : List Stmt}
theorem wt_done (h : EvT C sc n σ t false σ') : WT C sc n p t body σ .next σ' := ⟨_, .done h⟩
theorem wt_next {f : Fl} (h : EvT C sc n σ t true σ₁) (hb : Ex C sc n p σ₁ body .next σ₂) (hw : WT C sc n p t body σ₂ f σ') : WT C sc n p t body σ f σ' := hw.elim fun _ hw => ⟨_, .turn h hb (.inl rfl) hw⟩
theorem wt_cont {f : Fl} (h : EvT C sc n σ t true σ₁) (hb : Ex C sc n p σ₁ body .cont σ₂) (hw : WT C sc n p t body σ₂ f σ') : WT C sc n p t body σ f σ' := hw.elim fun _ hw => ⟨_, .turn h hb (.inr rfl) hw⟩
theorem wt_brk (h : EvT C sc n σ t true σ₁) (hb : Ex C sc n p σ₁ body .brk σ') : WT C sc n p t body σ .next σ' := ⟨_, .brk h hb⟩
theorem wt_ret {r : AV} (h : EvT C sc n σ t true σ₁) (hb : Ex C sc n p σ₁ body (.ret r) σ') : WT C sc n p t body σ (.ret r) σ' := ⟨_, .ret h hb⟩
theorem ex_wt {f : Fl} {pos : Pos} (h : WT C sc n p t body σ f σ') : Ex1 C sc n p σ (.While t body [] pos) f σ' := h.elim fun _ h => ex_while h
theorem wt_forget {f : Fl} {ls' : List (Str × AV)} (h : WT C sc n p t body { σ with ls := ls' } f σ') (hs : List.Sublist ls' σ.ls) : WT C sc n p t body σ f σ' := by
  obtain ⟨k, h⟩ := h
  have ev : ∀ {b σ₁}, EvT C sc n { σ with ls := ls' } t b σ₁ → EvT C sc n σ t b σ₁ := fun h A env ρ χ s Q E hA hE S k => h A env ρ χ s Q E hA hE (S.forget hs) fun x s' ρ' P hx => k x s' ρ' P hx
  cases h with
  | done h => exact ⟨_, .done (ev h)⟩
  | turn h hb hg hw => exact ⟨_, .turn (ev h) hb hg hw⟩
  | brk h hb => exact ⟨_, .brk (ev h) hb⟩
  | ret h hb => exact ⟨_, .ret (ev h) hb⟩
theorem ex_forget0 {l : List Stmt} {f : Fl} {ls' : List (Str × AV)} (h : Ex C sc n p { σ with ls := ls' } l f σ') (hs : List.Sublist ls' σ.ls) : Ex C sc n p σ l f σ' := fun A env ρ χ s Q E hA hE S hp k =>
  h A env ρ χ s Q E hA hE (S.forget hs) hp k
end

abbrev KX (C : Base) : Prop := (hd.heap_39 C.w.params).In C.H

local macro_rules | `(tactic| lcg_sub) => `(tactic| ((try dsimp only); repeat (first | (with_reducible exact List.mem_cons_self) | (with_reducible apply List.mem_cons_of_mem))))
local macro_rules | `(tactic| lcg_src) => `(tactic| repeat (first | (with_reducible exact List.nil_sublist _) | (with_reducible apply List.Sublist.cons_cons) | (with_reducible apply List.Sublist.cons)))
local macro_rules | `(tactic| lcg_off) => `(tactic| first | (with_reducible exact SetL.nil) | (with_reducible exact SetL.hit) | (with_reducible exact SetL.miss (by decide +kernel) (by lcg_off)) | (dsimp only; first | (with_reducible exact SetL.nil) | (with_reducible exact SetL.hit) | (with_reducible exact SetL.miss (by decide +kernel) (by lcg_off))))

theorem evt_eq {e : Expr} {b b' : Bool} (h : EvT C sc n σ e b σ') (hb : b = b') : EvT C sc n σ e b' σ' := hb ▸ h
theorem ev_eq {e : Expr} {r r' : AV} (h : Ev C sc n σ e r σ') (hr : r = r') : Ev C sc n σ e r' σ' := hr ▸ h
theorem ex_ff {t : Expr} {a b : List Stmt} {pos : Pos} {f : Fl} (h₁ : EvT C sc n σ t false σ₁) (h₂ : Ex C sc n p σ₁ b f σ₂) : Ex1 C sc n p σ (.If t a b pos) f σ₂ := ex_if h₁ h₂
theorem ex_tt {t : Expr} {a b : List Stmt} {pos : Pos} {f : Fl} (h₁ : EvT C sc n σ t true σ₁) (h₂ : Ex C sc n p σ₁ a f σ₂) : Ex1 C sc n p σ (.If t a b pos) f σ₂ := ex_if h₁ h₂

def zs (l : List Int) : List AV := l.map .int
theorem zs_get {l : List Int} {i : Nat} (h : i < l.length) : (zs l)[i]? = some (.int (l.getD i 0)) := by
  unfold zs
  rw [List.getElem?_map, List.getElem?_eq_getElem h]
  simp [List.getD, List.getElem?_eq_getElem h]
theorem zs_set {l : List Int} {i : Nat} {x : Int} : (zs l).set i (.int x) = zs (l.set i x) := by
  unfold zs; rw [List.map_set]
theorem zs_length {l : List Int} : (zs l).length = l.length := by simp [zs]
theorem zs_append {l m : List Int} : zs l ++ zs m = zs (l ++ m) := by simp [zs]
theorem zs_plain {l : List Int} : plains (zs l) = true := plains_ints l
theorem ev_zget {value slice : Expr} {pos : Pos} {r : AV} {l : List Int} {i : Nat} (hv : Ev C sc n σ value r σ₁) (hi : Ev C sc n σ₁ slice (.int i) σ₂) (hl : LstOf σ₂ r (zs l)) (hx : i < l.length) (hz : l.length ≤ 1000) :
    Ev C sc n σ (.Subscript value slice pos) (.int (l.getD i 0)) σ₂ := ev_item hv hi hl (Int.natCast_nonneg i) (zs_get hx) (by rw [zs_length]; omega)
theorem ex_zset {o i e : Expr} {pos' pos : Pos} {x : Int} {k j : Nat} {l : List Int} (he : Ev C sc n σ e (.int x) σ₁) (ho : Ev C sc n σ₁ o (.own k) σ₂) (hi : Ev C sc n σ₂ i (.int j) σ₃) (hk : σ₃.own[k]? = some (.list (zs l)))
    (h1 : j < l.length) (hz : l.length ≤ 1000) (hs : ∀ env, swapsWith e (some (.Subscript o i pos')) pos.line env = pure false := by intro _; rfl) :
    Ex1 C sc n p σ (.Assign [.Subscript o i pos'] e pos) .next { σ₃ with own := σ₃.own.set k (.list (zs (l.set j x))) } := by
  have h := ex_setitem (n := n) (p := p) (pos' := pos') (pos := pos) he ho hi hk (Int.natCast_nonneg j) (by rw [zs_length]; exact Int.ofNat_lt.mpr h1) (by rw [zs_length]; omega) hs
  rw [show (zs l).set (j : Int).toNat (.int x) = zs (l.set j x) from zs_set] at h
  exact h

/-! heapq._siftdown, as a function -/
def sdl (start : Nat) (x : Int) : Nat → Nat → List Int → List Int × Nat
  | 0, pos, h => (h, pos)
  | f + 1, pos, h => if start < pos then (if x < h.getD ((pos - 1) / 2) 0 then sdl start x f ((pos - 1) / 2) (h.set pos (h.getD ((pos - 1) / 2) 0)) else (h, pos)) else (h, pos)
def sd (start : Nat) (x : Int) (pos : Nat) (h : List Int) : List Int := (sdl start x pos pos h).1.set (sdl start x pos pos h).2 x
theorem sdl_facts {start : Nat} {x : Int} : ∀ {f pos : Nat} {h : List Int}, pos < h.length → (sdl start x f pos h).1.length = h.length ∧ (sdl start x f pos h).2 < h.length
  | 0, pos, h, hp => ⟨rfl, hp⟩
  | f + 1, pos, h, hp => by
    simp only [sdl]
    split
    · split
      · have := sdl_facts (start := start) (x := x) (f := f) (pos := (pos - 1) / 2) (h := h.set pos (h.getD ((pos - 1) / 2) 0)) (by rw [List.length_set]; omega)
        rw [List.length_set] at this
        exact this
      · exact ⟨rfl, hp⟩
    · exact ⟨rfl, hp⟩
theorem sd_length {start : Nat} {x : Int} {pos : Nat} {h : List Int} (hp : pos < h.length) : (sd start x pos h).length = h.length := by
  unfold sd; rw [List.length_set]; exact (sdl_facts hp).1

theorem siftdown_ok (X : KX C) {h : List Int} {start pos : Nat} (hp : pos < h.length) (hz : h.length ≤ 1000) :
    CallOk C (n + 1) 44 [.list (zs h)] [.own 0, .int start, .int pos] .none [.list (zs (sd start (h.getD pos 0) pos h))] := by
  refine call_entry (σ' := ⟨[], [], [.list (zs (sd start (h.getD pos 0) pos h))]⟩) (own := [.list (zs h)]) (args' := [.own 0, .int start, .int pos]) (names := ["heap", "startpos", "pos"]) ⟨⟨_, X 44 _ rfl, rfl⟩, codeRec_of X rfl, rfl, rfl, rfl⟩
    (by decide) (by decide +kernel) (by decide +kernel) rfl (fun s vs ρ W hb hvs => ?_) ?_ (.inl ⟨rfl, rfl⟩) ?_
  · simp only [AllIs] at hvs
    obtain ⟨a, _, rfl, ha, b, _, rfl, hb', c, _, rfl, hc, rfl⟩ := hvs
    exact ⟨[a, b, c], by simp only [AllIs]; exact ⟨a, _, rfl, ha, b, _, rfl, hb', c, _, rfl, hc, rfl⟩, BindsTo.of_eq rfl⟩
  · refine ex_forget (σ' := ⟨?ls, [], _⟩) ?_ (List.nil_sublist _)
    case ls => exact [("heap", .own 0), ("startpos", .int start), ("pos", .int (sdl start (h.getD pos 0) pos pos h).2), ("newitem", .int (h.getD pos 0))]
    show Ex C _ n _ ⟨[("heap", .own 0), ("startpos", .int start), ("pos", .int pos)], [], [.list (zs h)]⟩ _ _ _
    refine ex_cons (ex_assign (ev_zget (ev_local (by lcg_sub)) (ev_local (by lcg_sub)) (.own rfl) hp hz) (by lcg_off) (by decide +kernel) (by decide +kernel)) ?_
    generalize h.getD pos 0 = x
    obtain ⟨f1, f2⟩ := sdl_facts (start := start) (x := x) (f := pos) hp
    refine ex_cons (ex_wt ((?_ : ∀ (f q : Nat) (g : List Int), q ≤ f → q < g.length → g.length ≤ 1000 → WT C _ n _ _ _ ⟨[("heap", .own 0), ("startpos", .int start), ("pos", .int q), ("newitem", .int x)], [], [.list (zs g)]⟩ .next
      ⟨[("heap", .own 0), ("startpos", .int start), ("pos", .int (sdl start x f q g).2), ("newitem", .int x)], [], [.list (zs (sdl start x f q g).1)]⟩) pos pos h (Nat.le_refl _) hp hz))
      (ex_cons (ex_zset (ev_local (by lcg_sub)) (ev_local (by lcg_sub)) (ev_local (by lcg_sub)) rfl (by rw [f1]; exact f2) (by rw [f1]; exact hz)) ex_nil)
    intro f
    induction f with
    | zero =>
      intro q g hq hl hz
      exact wt_done (evt_eq (evt_cmp (ev_local (by lcg_sub)) (ev_local (by lcg_sub)) cmp_gt) (decide_eq_false (by omega)))
    | succ f ih =>
      intro q g hq hl hz
      by_cases hs : start < q
      · have hpar : (((q : Int) - 1) / 2) = (((q - 1) / 2 : Nat) : Int) := by omega
        by_cases hx : x < g.getD ((q - 1) / 2) 0
        · rw [show sdl start x (f + 1) q g = sdl start x f ((q - 1) / 2) (g.set q (g.getD ((q - 1) / 2) 0)) by simp only [sdl, if_pos hs, if_pos hx]]
          refine wt_cont (evt_eq (evt_cmp (ev_local (by lcg_sub)) (ev_local (by lcg_sub)) cmp_gt) (decide_eq_true (by omega)))
            (ex_forget (σ' := ⟨[("heap", .own 0), ("startpos", .int start), ("pos", .int (((q - 1) / 2 : Nat) : Int)), ("newitem", .int x), ("parentpos", .int (((q - 1) / 2 : Nat) : Int)), ("parent", .int (g.getD ((q - 1) / 2) 0))], [], [.list (zs (g.set q (g.getD ((q - 1) / 2) 0)))]⟩) ?_
              (by lcg_src))
            (ih ((q - 1) / 2) _ (by omega) (by rw [List.length_set]; omega) (by rw [List.length_set]; exact hz))
          refine ex_cons (ex_assign (ev_eq (ev_bin (ev_bin (ev_local (by lcg_sub)) ev_int bin_sub) ev_int (bin_rshift1 (by omega))) (congrArg AV.int hpar)) (by lcg_off) (by decide +kernel) (by decide +kernel)) ?_
          refine ex_cons (ex_assign (ev_zget (ev_local (by lcg_sub)) (ev_local (by lcg_sub)) (.own rfl) (by omega) hz) (by lcg_off) (by decide +kernel) (by decide +kernel)) ?_
          refine ex_stop (ex_tt (evt_eq (evt_cmp (ev_local (by lcg_sub)) (ev_local (by lcg_sub)) cmp_lt) (decide_eq_true hx)) ?_) (by nofun)
          refine ex_cons (ex_zset (ev_local (by lcg_sub)) (ev_local (by lcg_sub)) (ev_local (by lcg_sub)) rfl hl hz) ?_
          refine ex_cons (ex_assign (ev_local (by lcg_sub)) (by lcg_off) (by decide +kernel) (by decide +kernel)) ?_
          exact ex_stop ex_continue (by nofun)
        · rw [show sdl start x (f + 1) q g = (g, q) by simp only [sdl, if_pos hs, if_neg hx]]
          refine wt_brk (evt_eq (evt_cmp (ev_local (by lcg_sub)) (ev_local (by lcg_sub)) cmp_gt) (decide_eq_true (by omega)))
            (ex_forget (σ' := ⟨[("heap", .own 0), ("startpos", .int start), ("pos", .int q), ("newitem", .int x), ("parentpos", .int (((q - 1) / 2 : Nat) : Int)), ("parent", .int (g.getD ((q - 1) / 2) 0))], [], [.list (zs g)]⟩) ?_
              (by lcg_src))
          refine ex_cons (ex_assign (ev_eq (ev_bin (ev_bin (ev_local (by lcg_sub)) ev_int bin_sub) ev_int (bin_rshift1 (by omega))) (congrArg AV.int hpar)) (by lcg_off) (by decide +kernel) (by decide +kernel)) ?_
          refine ex_cons (ex_assign (ev_zget (ev_local (by lcg_sub)) (ev_local (by lcg_sub)) (.own rfl) (by omega) hz) (by lcg_off) (by decide +kernel) (by decide +kernel)) ?_
          refine ex_cons (ex_ff (evt_eq (evt_cmp (ev_local (by lcg_sub)) (ev_local (by lcg_sub)) cmp_lt) (decide_eq_false hx)) ex_nil) ?_
          exact ex_stop ex_break (by nofun)
      · rw [show sdl start x (f + 1) q g = (g, q) by simp only [sdl, if_neg hs]]
        exact wt_done (evt_eq (evt_cmp (ev_local (by lcg_sub)) (ev_local (by lcg_sub)) cmp_gt) (decide_eq_false (by omega)))
  · intro o ho
    simp at ho
    subst ho
    exact plains_ints _
end Mine
namespace Mine
variable {C : Base} {sc : Scope} {n p : Nat} {σ σ₁ σ₂ σ₃ σ' : AS}
local macro_rules | `(tactic| lcg_sub) => `(tactic| ((try dsimp only); repeat (first | (with_reducible exact List.mem_cons_self) | (with_reducible apply List.mem_cons_of_mem))))
local macro_rules | `(tactic| lcg_src) => `(tactic| repeat (first | (with_reducible exact List.nil_sublist _) | (with_reducible apply List.Sublist.cons_cons) | (with_reducible apply List.Sublist.cons)))
local macro_rules | `(tactic| lcg_off) => `(tactic| first | (with_reducible exact SetL.nil) | (with_reducible exact SetL.hit) | (with_reducible exact SetL.miss (by decide +kernel) (by lcg_off)) | (dsimp only; first | (with_reducible exact SetL.nil) | (with_reducible exact SetL.hit) | (with_reducible exact SetL.miss (by decide +kernel) (by lcg_off))))

theorem g44 (X : KX C) : C.mg "_siftdown" = some (.ref 44) := mg_of X C.g rfl
theorem g51 (X : KX C) : C.mg "_siftup" = some (.ref 51) := mg_of X C.g rfl
theorem f44 (X : KX C) : IsFn C 44 := ⟨_, _, X 44 _ rfl, rfl⟩
theorem f51 (X : KX C) : IsFn C 51 := ⟨_, _, X 51 _ rfl, rfl⟩
theorem glen (X : KX C) : C.mg "len" = none := mg_none_of X C.g rfl

/-! heapq._siftup, as a function -/
def pick (c : Nat) (h : List Int) : Nat := if c + 1 < h.length ∧ ¬ h.getD c 0 < h.getD (c + 1) 0 then c + 1 else c
def sul : Nat → Nat → List Int → List Int × Nat
  | 0, pos, h => (h, pos)
  | f + 1, pos, h => if 2 * pos + 1 < h.length then sul f (pick (2 * pos + 1) h) (h.set pos (h.getD (pick (2 * pos + 1) h) 0)) else (h, pos)
def su (pos : Nat) (h : List Int) : List Int := let r := sul h.length pos h; let g := r.1.set r.2 (h.getD pos 0); sd pos (g.getD r.2 0) r.2 g
theorem pick_lt {c : Nat} {h : List Int} (hc : c < h.length) : pick c h < h.length ∧ c ≤ pick c h := by
  unfold pick; split <;> omega
theorem sul_facts : ∀ {f pos : Nat} {h : List Int}, pos < h.length → (sul f pos h).1.length = h.length ∧ (sul f pos h).2 < h.length
  | 0, pos, h, hp => ⟨rfl, hp⟩
  | f + 1, pos, h, hp => by
    simp only [sul]
    split
    · rename_i hc
      have := sul_facts (f := f) (pos := pick (2 * pos + 1) h) (h := h.set pos (h.getD (pick (2 * pos + 1) h) 0)) (by rw [List.length_set]; exact (pick_lt hc).1)
      rw [List.length_set] at this
      exact this
    · exact ⟨rfl, hp⟩
theorem su_length {pos : Nat} {h : List Int} (hp : pos < h.length) : (su pos h).length = h.length := by
  obtain ⟨f1, f2⟩ := sul_facts (f := h.length) hp
  unfold su
  simp only
  rw [sd_length (by rw [List.length_set, f1]; exact f2), List.length_set, f1]

theorem siftup_ok (X : KX C) {h : List Int} {pos : Nat} (hp : pos < h.length) (hz : h.length ≤ 1000) :
    CallOk C (n + 2) 51 [.list (zs h)] [.own 0, .int pos] .none [.list (zs (su pos h))] := by
  refine call_entry (σ' := ⟨[], [], [.list (zs (su pos h))]⟩) (own := [.list (zs h)]) (args' := [.own 0, .int pos]) (names := ["heap", "pos"]) ⟨⟨_, X 51 _ rfl, rfl⟩, codeRec_of X rfl, rfl, rfl, rfl⟩
    (by decide) (by decide +kernel) (by decide +kernel) rfl (fun s vs ρ W hb hvs => ?_) ?_ (.inl ⟨rfl, rfl⟩) ?_
  · simp only [AllIs] at hvs
    obtain ⟨a, _, rfl, ha, b, _, rfl, hb', rfl⟩ := hvs
    exact ⟨[a, b], by simp only [AllIs]; exact ⟨a, _, rfl, ha, b, _, rfl, hb', rfl⟩, BindsTo.of_eq rfl⟩
  · refine ex_forget (σ' := ⟨?ls, [], _⟩) ?_ (List.nil_sublist _)
    case ls => exact [("heap", .own 0), ("pos", .int (sul h.length pos h).2), ("endpos", .int h.length), ("startpos", .int pos), ("newitem", .int (h.getD pos 0)), ("childpos", .int ((2 * (sul h.length pos h).2 + 1 : Nat) : Int))]
    show Ex C _ (n + 1) _ ⟨[("heap", .own 0), ("pos", .int pos)], [], [.list (zs h)]⟩ _ _ _
    obtain ⟨f1, f2⟩ := sul_facts (f := h.length) hp
    refine ex_cons (ex_assign (ev_eq (ev_call_bi (by decide +kernel) (glen X) (by decide +kernel) (by decide +kernel) boot_len (.builtin _) (evl_cons (ev_local (by lcg_sub)) evl_nil) (callr_len (.own rfl) (by rw [zs_length]; omega))) (by rw [zs_length])) (by lcg_off) (by decide +kernel) (by decide +kernel)) ?_
    refine ex_cons (ex_assign (ev_local (by lcg_sub)) (by lcg_off) (by decide +kernel) (by decide +kernel)) ?_
    refine ex_cons (ex_assign (ev_zget (ev_local (by lcg_sub)) (ev_local (by lcg_sub)) (.own rfl) hp hz) (by lcg_off) (by decide +kernel) (by decide +kernel)) ?_
    refine ex_cons (ex_assign (ev_eq (ev_bin (ev_bin ev_int (ev_local (by lcg_sub)) (bin_mul (IntMulOk.of_left (by decide +kernel)))) ev_int bin_add) (r' := .int ((2 * pos + 1 : Nat) : Int)) (by congr 1)) (by lcg_off) (by decide +kernel) (by decide +kernel)) ?_
    generalize hx : h.getD pos 0 = x
    refine ex_cons (ex_wt ((?_ : ∀ (f q : Nat) (g : List Int), g.length - q ≤ f → q < g.length → g.length = h.length → WT C _ (n + 1) _ _ _
      ⟨[("heap", .own 0), ("pos", .int q), ("endpos", .int h.length), ("startpos", .int pos), ("newitem", .int x), ("childpos", .int ((2 * q + 1 : Nat) : Int))], [], [.list (zs g)]⟩ .next
      ⟨[("heap", .own 0), ("pos", .int (sul f q g).2), ("endpos", .int h.length), ("startpos", .int pos), ("newitem", .int x), ("childpos", .int ((2 * (sul f q g).2 + 1 : Nat) : Int))], [], [.list (zs (sul f q g).1)]⟩) h.length pos h (by omega) hp rfl))
      (ex_cons (ex_zset (ev_local (by lcg_sub)) (ev_local (by lcg_sub)) (ev_local (by lcg_sub)) rfl (by rw [f1]; exact f2) (by rw [f1]; exact hz))
        (ex_cons (ex_expr (ev_call_own (f := 44) (by decide +kernel) (g44 X) (by decide +kernel) (f44 X) (evl_cons (ev_local (by lcg_sub)) (evl_cons (ev_local (by lcg_sub)) (evl_cons (ev_local (by lcg_sub)) evl_nil))) rfl rfl zs_plain zs_plain
          (siftdown_ok X (by rw [List.length_set, f1]; exact f2) (by rw [List.length_set, f1]; exact hz)) rfl)) ?fin))
    case fin =>
      have e : sd pos ((((sul h.length pos h).1.set (sul h.length pos h).2 x)).getD (sul h.length pos h).2 0) (sul h.length pos h).2 ((sul h.length pos h).1.set (sul h.length pos h).2 x) = su pos h := by
        rw [← hx]; rfl
      show Ex C _ (n + 1) _ ⟨_, _, [.list (zs (sd pos _ _ _))]⟩ [] .next _
      rw [e]
      exact ex_nil
    intro f
    induction f with
    | zero => intro q g hq hl he; omega
    | succ f ih =>
      intro q g hq hl he
      by_cases hc : 2 * q + 1 < g.length
      · obtain ⟨p1, p2⟩ := pick_lt hc
        rw [show sul (f + 1) q g = sul f (pick (2 * q + 1) g) (g.set q (g.getD (pick (2 * q + 1) g) 0)) by simp only [sul, if_pos hc]]
        refine wt_next (evt_eq (evt_cmp (ev_local (by lcg_sub)) (ev_local (by lcg_sub)) cmp_lt) (decide_eq_true (by omega)))
          (ex_forget (σ' := ⟨[("heap", .own 0), ("pos", .int (pick (2 * q + 1) g)), ("endpos", .int h.length), ("startpos", .int pos), ("newitem", .int x), ("childpos", .int ((2 * (pick (2 * q + 1) g) + 1 : Nat) : Int)), ("rightpos", .int ((2 * q + 1 + 1 : Nat) : Int))], [], [.list (zs (g.set q (g.getD (pick (2 * q + 1) g) 0)))]⟩) ?_ (by lcg_src))
          (ih (pick (2 * q + 1) g) _ (by rw [List.length_set]; omega) (by rw [List.length_set]; exact p1) (by rw [List.length_set]; exact he))
        refine ex_cons (ex_assign (ev_eq (ev_bin (ev_local (by lcg_sub)) ev_int bin_add) (r' := .int ((2 * q + 1 + 1 : Nat) : Int)) (by congr 1)) (by lcg_off) (by decide +kernel) (by decide +kernel)) ?_
        refine ex_cons (σ₁ := ⟨[("heap", .own 0), ("pos", .int q), ("endpos", .int h.length), ("startpos", .int pos), ("newitem", .int x), ("childpos", .int (pick (2 * q + 1) g)), ("rightpos", .int ((2 * q + 1 + 1 : Nat) : Int))], [], [.list (zs g)]⟩) ?_ ?_
        · by_cases hr : 2 * q + 1 + 1 < g.length
          · by_cases hlt : g.getD (2 * q + 1) 0 < g.getD (2 * q + 1 + 1) 0
            · rw [show pick (2 * q + 1) g = 2 * q + 1 by unfold pick; rw [if_neg (by intro z; exact z.2 hlt)]]
              exact ex_ff (evt_bool (eva_and_tt (evt_eq (evt_cmp (ev_local (by lcg_sub)) (ev_local (by lcg_sub)) cmp_lt) (decide_eq_true (by omega)))
                (eva_and_ff (evt_eq (evt_not (evt_cmp (ev_zget (ev_local (by lcg_sub)) (ev_local (by lcg_sub)) (.own rfl) hc (by omega)) (ev_zget (ev_local (by lcg_sub)) (ev_local (by lcg_sub)) (.own rfl) hr (by omega)) cmp_lt)) (by rw [decide_eq_true hlt]; rfl))))) ex_nil
            · rw [show pick (2 * q + 1) g = 2 * q + 1 + 1 by unfold pick; rw [if_pos ⟨hr, hlt⟩]]
              exact ex_tt (evt_bool (eva_and_tt (evt_eq (evt_cmp (ev_local (by lcg_sub)) (ev_local (by lcg_sub)) cmp_lt) (decide_eq_true (by omega)))
                (eva_and_tt (evt_eq (evt_not (evt_cmp (ev_zget (ev_local (by lcg_sub)) (ev_local (by lcg_sub)) (.own rfl) hc (by omega)) (ev_zget (ev_local (by lcg_sub)) (ev_local (by lcg_sub)) (.own rfl) hr (by omega)) cmp_lt)) (by rw [decide_eq_false hlt]; rfl)) eva_and_nil)))
                (ex_cons (ex_assign (ev_local (by lcg_sub)) (by lcg_off) (by decide +kernel) (by decide +kernel)) ex_nil)
          · rw [show pick (2 * q + 1) g = 2 * q + 1 by unfold pick; rw [if_neg (by intro z; exact hr z.1)]]
            exact ex_ff (evt_bool (eva_and_ff (evt_eq (evt_cmp (ev_local (by lcg_sub)) (ev_local (by lcg_sub)) cmp_lt) (decide_eq_false (by omega))))) ex_nil
        · refine ex_cons (ex_zset (ev_zget (ev_local (by lcg_sub)) (ev_local (by lcg_sub)) (.own rfl) p1 (by omega)) (ev_local (by lcg_sub)) (ev_local (by lcg_sub)) rfl hl (by omega)) ?_
          refine ex_cons (ex_assign (ev_local (by lcg_sub)) (by lcg_off) (by decide +kernel) (by decide +kernel)) ?_
          exact ex_cons (ex_assign (ev_eq (ev_bin (ev_bin ev_int (ev_local (by lcg_sub)) (bin_mul (IntMulOk.of_left (by decide +kernel)))) ev_int bin_add) (r' := .int ((2 * (pick (2 * q + 1) g) + 1 : Nat) : Int)) (by congr 1)) (by lcg_off) (by decide +kernel) (by decide +kernel)) ex_nil
      · rw [show sul (f + 1) q g = (g, q) by simp only [sul, if_neg hc]]
        exact wt_done (evt_eq (evt_cmp (ev_local (by lcg_sub)) (ev_local (by lcg_sub)) cmp_lt) (decide_eq_false (by omega)))
  · intro o ho
    simp at ho
    subst ho
    exact plains_ints _
end Mine
namespace Mine
variable {C : Base} {sc : Scope} {n p : Nat} {σ σ₁ σ₂ σ₃ σ' : AS}
local macro_rules | `(tactic| lcg_sub) => `(tactic| ((try dsimp only); repeat (first | (with_reducible exact List.mem_cons_self) | (with_reducible apply List.mem_cons_of_mem))))
local macro_rules | `(tactic| lcg_src) => `(tactic| repeat (first | (with_reducible exact List.nil_sublist _) | (with_reducible apply List.Sublist.cons_cons) | (with_reducible apply List.Sublist.cons)))
local macro_rules | `(tactic| lcg_off) => `(tactic| first | (with_reducible exact SetL.nil) | (with_reducible exact SetL.hit) | (with_reducible exact SetL.miss (by decide +kernel) (by lcg_off)) | (dsimp only; first | (with_reducible exact SetL.nil) | (with_reducible exact SetL.hit) | (with_reducible exact SetL.miss (by decide +kernel) (by lcg_off))))

theorem bin_fdiv {i j : Int} (hj : j ≠ 0) (hs : j.natAbs < 1073741824) : BinR C .FloorDiv (.int i) (.int j) (.int (i.fdiv j)) := fun _ _ _ _ ρ _ s _ _ _ _ _ S ⟨_, hv⟩ ⟨_, hw⟩ h => by
  subst hv hw; exact floordiv_int hj (h _ _ (Post.toks S _) ⟨_, rfl⟩) (.inl (PyProof.noPylong_small hs))
theorem cmp_is_tt : CmpR C .Is .none .none true := fun _ _ _ _ ρ _ s v w _ _ _ S hv hw h => by
  have hv' : v = .none := hv
  have hw' : w = .none := hw
  subst hv' hw'; exact is_none (h _ (Post.refl S))
theorem cmp_is_int {i : Int} : CmpR C .Is (.int i) .none false := fun _ _ _ _ ρ _ s v w _ _ _ S ⟨t, hv⟩ hw h => by
  have hw' : w = .none := hw
  subst hv hw'; exact is_none (h _ (Post.refl S))
theorem cmp_slt {x y : Str} : CmpR C .Lt (.str x) (.str y) (decide (x.cps.toList < y.cps.toList)) := fun _ _ _ _ ρ _ s _ _ _ _ _ S ⟨_, hv⟩ ⟨_, hw⟩ h => by
  subst hv hw; exact P.lt_str (h _ (Post.refl S))
theorem cmp_seq {x y : Str} : CmpR C .Eq (.str x) (.str y) (x.cps.toList == y.cps.toList) := fun _ _ _ _ ρ _ s _ _ _ _ _ S ⟨_, hv⟩ ⟨_, hw⟩ h => by
  subst hv hw; exact P.eq_str (h _ (Post.refl S))

theorem ev_zappend {o e : Expr} {apos pos : Pos} {x : Int} {k : Nat} {l : List Int} (ho : Ev C sc n σ o (.own k) σ₁) (hk₁ : ∃ ys, σ₁.own[k]? = some (.list ys)) (he : EvL C sc n σ₁ pos [e] [.int x] σ₂) (hk : σ₂.own[k]? = some (.list (zs l))) (hz : l.length ≤ 1000)
    (hbase : ∀ env, attributeBase o "append" env (eval o env) = eval o env := by intro _; rfl) (hline : (apos.endLine == pos.line) = true := by rfl) (hs : ∀ env, starEach [e] env = [(false, eval e env)] := by intro _; rfl) :
    Ev C sc n σ (.Call (.Attribute o "append" apos) [e] [] pos) .none { σ₂ with own := σ₂.own.set k (.list (zs (l ++ [x]))) } := by
  have h := ev_append ho hk₁ he hk (by rw [zs_length]; omega) hbase hline hs
  rw [show zs l ++ [AV.int x] = zs (l ++ [x]) from zs_append (m := [x])] at h
  exact h

/-! heapq.heappush, heapreplace -/
def push (h : List Int) (x : Int) : List Int := sd 0 x h.length (h ++ [x])
theorem push_length {h : List Int} {x : Int} : (push h x).length = h.length + 1 := by
  unfold push; rw [sd_length (by simp)]; simp
theorem g30 (X : KX C) : C.mg "heappush" = some (.ref 30) := mg_of X C.g rfl
theorem g37 (X : KX C) : C.mg "heapreplace" = some (.ref 37) := mg_of X C.g rfl
theorem g23 (X : KX C) : C.mg "bisect_right" = some (.ref 23) := mg_of X C.g rfl
theorem f30 (X : KX C) : IsFn C 30 := ⟨_, _, X 30 _ rfl, rfl⟩
theorem f37 (X : KX C) : IsFn C 37 := ⟨_, _, X 37 _ rfl, rfl⟩
theorem f23 (X : KX C) : IsFn C 23 := ⟨_, _, X 23 _ rfl, rfl⟩

theorem heappush_ok (X : KX C) {h : List Int} {x : Int} (hz : h.length ≤ 500) :
    CallOk C (n + 2) 30 [.list (zs h)] [.own 0, .int x] .none [.list (zs (push h x))] := by
  refine call_entry (σ' := ⟨[], [], [.list (zs (push h x))]⟩) (own := [.list (zs h)]) (args' := [.own 0, .int x]) (names := ["heap", "item"]) ⟨⟨_, X 30 _ rfl, rfl⟩, codeRec_of X rfl, rfl, rfl, rfl⟩
    (by decide) (by decide +kernel) (by decide +kernel) rfl (fun s vs ρ W hb hvs => ?_) ?_ (.inl ⟨rfl, rfl⟩) ?_
  · simp only [AllIs] at hvs
    obtain ⟨a, _, rfl, ha, b, _, rfl, hb', rfl⟩ := hvs
    exact ⟨[a, b], by simp only [AllIs]; exact ⟨a, _, rfl, ha, b, _, rfl, hb', rfl⟩, BindsTo.of_eq rfl⟩
  · refine ex_forget (σ' := ⟨?ls, [], _⟩) ?_ (List.nil_sublist _)
    case ls => exact [("heap", .own 0), ("item", .int x)]
    show Ex C _ (n + 1) _ ⟨[("heap", .own 0), ("item", .int x)], [], [.list (zs h)]⟩ _ _ _
    refine ex_cons (ex_expr (ev_zappend (ev_local (by lcg_sub)) ⟨_, rfl⟩ (evl_cons (ev_local (by lcg_sub)) evl_nil) rfl (by omega))) ?_
    refine ex_cons (ex_expr (ev_call_own (f := 44) (by decide +kernel) (g44 X) (by decide +kernel) (f44 X) (evl_cons (ev_local (by lcg_sub)) (evl_cons ev_int (evl_cons (ev_eq (ev_bin
      (ev_call_bi (by decide +kernel) (glen X) (by decide +kernel) (by decide +kernel) boot_len (.builtin _) (evl_cons (ev_local (by lcg_sub)) evl_nil) (callr_len (.own rfl) (by rw [zs_length]; simp; omega))) ev_int bin_sub) (r' := .int (h.length : Int)) (by rw [zs_length]; congr 1; simp)) evl_nil))) rfl rfl zs_plain zs_plain
      (siftdown_ok (start := 0) X (by simp) (by simp; omega)) rfl)) ?fin
    have e : sd 0 ((h ++ [x]).getD h.length 0) h.length (h ++ [x]) = push h x := by
      unfold push; simp [List.getD]
    show Ex C _ (n + 1) _ ⟨_, _, [.list (zs (sd 0 _ _ _))]⟩ [] .next _
    rw [e]
    exact ex_nil
  · intro o ho
    simp at ho
    subst ho
    exact plains_ints _

def repl (h : List Int) (x : Int) : List Int := su 0 (h.set 0 x)
theorem repl_length {h : List Int} {x : Int} (hp : 0 < h.length) : (repl h x).length = h.length := by
  unfold repl; rw [su_length (by rw [List.length_set]; exact hp), List.length_set]
theorem heapreplace_ok (X : KX C) {h : List Int} {x : Int} (hp : 0 < h.length) (hz : h.length ≤ 1000) :
    CallOk C (n + 3) 37 [.list (zs h)] [.own 0, .int x] (.int (h.getD 0 0)) [.list (zs (repl h x))] := by
  refine call_entry (σ' := ⟨[], [], [.list (zs (repl h x))]⟩) (fl := .ret (.int (h.getD 0 0))) (own := [.list (zs h)]) (args' := [.own 0, .int x]) (names := ["heap", "item"]) ⟨⟨_, X 37 _ rfl, rfl⟩, codeRec_of X rfl, rfl, rfl, rfl⟩
    (by decide) (by decide +kernel) (by decide +kernel) rfl (fun s vs ρ W hb hvs => ?_) ?_ (.inr ⟨_, rfl, .plain rfl⟩) ?_
  · simp only [AllIs] at hvs
    obtain ⟨a, _, rfl, ha, b, _, rfl, hb', rfl⟩ := hvs
    exact ⟨[a, b], by simp only [AllIs]; exact ⟨a, _, rfl, ha, b, _, rfl, hb', rfl⟩, BindsTo.of_eq rfl⟩
  · refine ex_forget (σ' := ⟨?ls, [], _⟩) ?_ (List.nil_sublist _)
    case ls => exact [("heap", .own 0), ("item", .int x), ("returnitem", .int (h.getD 0 0))]
    show Ex C _ (n + 2) _ ⟨[("heap", .own 0), ("item", .int x)], [], [.list (zs h)]⟩ _ _ _
    refine ex_cons (ex_assign (ev_zget (i := 0) (ev_local (by lcg_sub)) ev_int (.own rfl) hp hz) (by lcg_off) (by decide +kernel) (by decide +kernel)) ?_
    refine ex_cons (ex_zset (j := 0) (ev_local (by lcg_sub)) (ev_local (by lcg_sub)) ev_int rfl hp hz) ?_
    refine ex_cons (ex_expr (ev_call_own (f := 51) (by decide +kernel) (g51 X) (by decide +kernel) (f51 X) (evl_cons (ev_local (by lcg_sub)) (evl_cons ev_int evl_nil)) rfl rfl zs_plain zs_plain
      (siftup_ok (pos := 0) X (by rw [List.length_set]; exact hp) (by rw [List.length_set]; exact hz)) rfl)) ?_
    exact ex_stop (ex_return (ev_local (by lcg_sub))) (by nofun)
  · intro o ho
    simp at ho
    subst ho
    exact plains_ints _

/-! bisect.bisect_right, as a function of what is below what -/
def bis (below : Nat → Bool) : Nat → Nat → Nat → Nat
  | 0, lo, _ => lo
  | f + 1, lo, hi => if lo < hi then (if below ((lo + hi) / 2) then bis below f lo ((lo + hi) / 2) else bis below f ((lo + hi) / 2 + 1) hi) else lo
theorem bis_le {below : Nat → Bool} : ∀ {f lo hi : Nat}, lo ≤ hi → bis below f lo hi ≤ hi
  | 0, lo, hi, h => h
  | f + 1, lo, hi, h => by
    simp only [bis]
    split
    · split
      · have := bis_le (below := below) (f := f) (lo := lo) (hi := (lo + hi) / 2) (by omega); omega
      · exact bis_le (by omega)
    · exact h

theorem bisect_ok (X : KX C) {xs : List AV} {x : AV} {below : Nat → Bool} (hz : xs.length ≤ 1000) (hpx : x.plain = true) (hps : plains xs = true) (hlt : ∀ i y, xs[i]? = some y → CmpR C .Lt x y (below i)) :
    CallOk C (n + 1) 23 [] [.lst xs, x] (.int (bis below xs.length 0 xs.length)) [] := by
  refine call_entry (σ' := ⟨[], [], []⟩) (fl := .ret (.int (bis below xs.length 0 xs.length))) (own := []) (args' := [.lst xs, x, .int 0, .none, .none]) (names := ["a", "x", "lo", "hi", "key"]) ⟨⟨_, X 23 _ rfl, rfl⟩, codeRec_of X rfl, rfl, rfl, rfl⟩
    (by decide) (by decide +kernel) (by decide +kernel) rfl (fun s vs ρ W hb hvs => ?_) ?_ (.inr ⟨_, rfl, .plain rfl⟩) (fun o ho => by simp at ho)
  · simp only [AllIs] at hvs
    obtain ⟨a, _, rfl, ha, b, _, rfl, hb', rfl⟩ := hvs
    have X' : (hd.heap_39 C.w.params).In s.heap := fun a o e => hb a o (X a o e)
    refine ⟨[a, b, .int 0 _, .none, .none], ?_, kp_binds X' fun S => rfl⟩
    simp only [AllIs]
    exact ⟨a, _, rfl, ha, b, _, rfl, hb', _, _, rfl, ⟨_, rfl⟩, _, _, rfl, rfl, _, _, rfl, rfl, rfl⟩
  · refine ex_forget (σ' := ⟨?ls, [], _⟩) ?_ (List.nil_sublist _)
    case ls => exact [("a", .lst xs), ("x", x), ("lo", .int (bis below xs.length 0 xs.length : Nat)), ("hi", .int (bis below xs.length 0 xs.length : Nat)), ("key", .none)]
    show Ex C _ n _ ⟨[("a", .lst xs), ("x", x), ("lo", .int 0), ("hi", .none), ("key", .none)], [], []⟩ _ _ _
    refine ex_cons (ex_ff (evt_eq (evt_cmp (ev_local (by lcg_sub)) ev_int cmp_lt) (by decide)) ex_nil) ?_
    refine ex_cons (ex_tt (evt_cmp (ev_local (by lcg_sub)) ev_none cmp_is_tt)
      (ex_cons (ex_assign (ev_call_bi (by decide +kernel) (glen X) (by decide +kernel) (by decide +kernel) boot_len (.builtin _) (evl_cons (ev_local (by lcg_sub)) evl_nil) (callr_len .frozen (by omega))) (by lcg_off) (by decide +kernel) (by decide +kernel)) ex_nil)) ?_
    refine ex_cons (ex_tt (evt_cmp (ev_local (by lcg_sub)) ev_none cmp_is_tt) ?_) (ex_stop (ex_return (ev_local (by lcg_sub))) (by nofun))
    refine ex_cons (ex_wt ((?_ : ∀ (f lo hi : Nat), hi - lo ≤ f → lo ≤ hi → hi ≤ xs.length → WT C _ n _ _ _ ⟨[("a", .lst xs), ("x", x), ("lo", .int lo), ("hi", .int hi), ("key", .none)], [], []⟩ .next
      ⟨[("a", .lst xs), ("x", x), ("lo", .int (bis below f lo hi)), ("hi", .int (bis below f lo hi)), ("key", .none)], [], []⟩) xs.length 0 xs.length (by omega) (Nat.zero_le _) (Nat.le_refl _))) ex_nil
    intro f
    induction f with
    | zero =>
      intro lo hi h1 h2 h3
      have e : lo = hi := by omega
      subst e
      exact wt_done (evt_eq (evt_cmp (ev_local (by lcg_sub)) (ev_local (by lcg_sub)) cmp_lt) (decide_eq_false (by omega)))
    | succ f ih =>
      intro lo hi h1 h2 h3
      by_cases hc : lo < hi
      · have hget : ∃ y, xs[(lo + hi) / 2]? = some y := ⟨xs[(lo + hi) / 2]'(by omega), List.getElem?_eq_getElem (by omega)⟩
        obtain ⟨y, hy⟩ := hget
        have hmid : (((lo : Int) + hi).fdiv 2) = (((lo + hi) / 2 : Nat) : Int) := by
          rw [Int.fdiv_eq_ediv_of_nonneg _ (by decide)]; omega
        have hy' : xs[((((lo + hi) / 2 : Nat) : Int)).toNat]? = some y := hy
        cases hb : below ((lo + hi) / 2) with
        | true =>
          rw [show bis below (f + 1) lo hi = bis below f lo ((lo + hi) / 2) by simp only [bis, if_pos hc, hb, if_true]]
          refine wt_next (evt_eq (evt_cmp (ev_local (by lcg_sub)) (ev_local (by lcg_sub)) cmp_lt) (decide_eq_true (by omega)))
            (ex_forget (σ' := ⟨[("a", .lst xs), ("x", x), ("lo", .int lo), ("hi", .int (((lo + hi) / 2 : Nat) : Int)), ("key", .none), ("mid", .int (((lo + hi) / 2 : Nat) : Int))], [], []⟩) ?_ (by lcg_src))
            (ih lo ((lo + hi) / 2) (by omega) (by omega) (by omega))
          refine ex_cons (ex_assign (ev_eq (ev_bin (ev_bin (ev_local (by lcg_sub)) (ev_local (by lcg_sub)) bin_add) ev_int (bin_fdiv (by decide) (by decide))) (congrArg AV.int hmid)) (by lcg_off) (by decide +kernel) (by decide +kernel)) ?_
          refine ex_cons (ex_tt (evt_eq (evt_cmp (ev_local (by lcg_sub)) (ev_item (ev_local (by lcg_sub)) (ev_local (by lcg_sub)) .frozen (Int.natCast_nonneg _) hy' (by omega)) (hlt _ _ hy)) hb) ?_) ex_nil
          exact ex_cons (ex_assign (ev_local (by lcg_sub)) (by lcg_off) (by decide +kernel) (by decide +kernel)) ex_nil
        | false =>
          rw [show bis below (f + 1) lo hi = bis below f ((lo + hi) / 2 + 1) hi by simp only [bis, if_pos hc, hb]; rfl]
          refine wt_next (evt_eq (evt_cmp (ev_local (by lcg_sub)) (ev_local (by lcg_sub)) cmp_lt) (decide_eq_true (by omega)))
            (ex_forget (σ' := ⟨[("a", .lst xs), ("x", x), ("lo", .int (((lo + hi) / 2 + 1 : Nat) : Int)), ("hi", .int hi), ("key", .none), ("mid", .int (((lo + hi) / 2 : Nat) : Int))], [], []⟩) ?_ (by lcg_src))
            (ih ((lo + hi) / 2 + 1) hi (by omega) (by omega) (by omega))
          refine ex_cons (ex_assign (ev_eq (ev_bin (ev_bin (ev_local (by lcg_sub)) (ev_local (by lcg_sub)) bin_add) ev_int (bin_fdiv (by decide) (by decide))) (congrArg AV.int hmid)) (by lcg_off) (by decide +kernel) (by decide +kernel)) ?_
          refine ex_cons (ex_ff (evt_eq (evt_cmp (ev_local (by lcg_sub)) (ev_item (ev_local (by lcg_sub)) (ev_local (by lcg_sub)) .frozen (Int.natCast_nonneg _) hy' (by omega)) (hlt _ _ hy)) hb) ?_) ex_nil
          exact ex_cons (ex_assign (ev_eq (ev_bin (ev_local (by lcg_sub)) ev_int bin_add) (r' := .int (((lo + hi) / 2 + 1 : Nat) : Int)) (by congr 1)) (by lcg_off) (by decide +kernel) (by decide +kernel)) ex_nil
      · have e : lo = hi := by omega
        subst e
        rw [show bis below (f + 1) lo lo = lo by simp only [bis, if_neg hc]]
        exact wt_done (evt_eq (evt_cmp (ev_local (by lcg_sub)) (ev_local (by lcg_sub)) cmp_lt) (decide_eq_false (by omega)))
end Mine
namespace Mine
variable {C : Base} {sc : Scope} {n p : Nat} {σ σ₁ σ₂ σ₃ σ' : AS}

/-! ## going through -/
def Item (W : List Addr) (h : Heap) (v : Value) : AV → Prop
  | .tup xs => ∃ T vs, v = .ref T ∧ h.IsTuple T (List.toArray vs) ∧ AllIs [] W h xs vs
  | x => AV.Is [] W h x v

theorem Evo.step {P ρ : List Addr} {h : Heap} {ρ' : List Addr} {h' : Heap} {L : Addr} {ρ'' : List Addr} {h'' : Heap} (x : Evo P ρ h ρ' h') (y : Evo (L :: ρ') ρ' h' ρ'' h'') (hP : ∀ a ∈ L :: ρ, a ∈ P) : Evo P ρ h ρ'' h'' := by
  refine ⟨fun a o ha e => y.keep a o (fun hm => ?_) (x.keep a o ha e), fun a o e => ?_, fun a ha => ?_⟩
  · rcases List.mem_cons.mp hm with rfl | hm
    · exact ha (hP _ List.mem_cons_self)
    · rcases x.new a hm with q | q
      · exact ha (hP _ (List.mem_cons_of_mem _ q))
      · rw [q] at e; cases e
  · obtain ⟨o', e'⟩ := x.live a o e
    exact y.live a o' e'
  · rcases y.new a ha with q | q
    · exact x.new a q
    · cases hq : h.get? a with
      | none => exact .inr rfl
      | some o =>
        obtain ⟨o', e'⟩ := x.live a o hq
        rw [q] at e'; cases e'
theorem Evo.off {P ρ wr : List Addr} {h : Heap} {ρ' : List Addr} {h' h'' : Heap} (x : Evo P ρ h ρ' h') (hk : ∀ b o, b ∉ wr → h'.get? b = some o → h''.get? b = some o) (hl : ∀ b ∈ wr, ∃ o, h''.get? b = some o)
    (hP : ∀ b ∈ wr, b ∈ P ∨ h.get? b = none) : Evo P ρ h ρ' h'' := by
  refine ⟨fun a o ha e => hk a o (fun hm => ?_) (x.keep a o ha e), fun a o e => ?_, x.new⟩
  · rcases hP a hm with q | q
    · exact ha q
    · rw [q] at e; cases e
  · obtain ⟨o', e'⟩ := x.live a o e
    by_cases hm : a ∈ wr
    · exact hl a hm
    · exact ⟨o', hk a o' hm e'⟩
/-- off the fresh: nothing need live -/
theorem Evo.offFresh {P ρ wr : List Addr} {h : Heap} {ρ' : List Addr} {h' h'' : Heap} (x : Evo P ρ h ρ' h') (hk : ∀ b o, b ∉ wr → h'.get? b = some o → h''.get? b = some o)
    (hP : ∀ b ∈ wr, h.get? b = none) : Evo P ρ h ρ' h'' := by
  have hn : ∀ a o, h.get? a = some o → a ∉ wr := fun a o e hm => by rw [hP a hm] at e; cases e
  exact ⟨fun a o ha e => hk a o (hn a o e) (x.keep a o ha e), fun a o e => let ⟨o', e'⟩ := x.live a o e; ⟨o', hk a o' (hn a o e) e'⟩, x.new⟩

section
variable {env : Env} {ρ χ wr : List Addr} {s : Shared}
theorem nodup_mid {L : Addr} {ρ wr χ : List Addr} (h : (wide L ρ (wr ++ χ)).Nodup) : (wide L ρ χ).Nodup ∧ ∀ b ∈ wr, b ∉ wide L ρ χ := by
  have hp : List.Perm (wide L ρ (wr ++ χ)) (wr ++ wide L ρ χ) := by
    have h1 : List.Perm (ρ ++ (wr ++ χ)) (wr ++ (ρ ++ χ)) := by
      rw [← List.append_assoc, ← List.append_assoc]
      exact List.perm_append_comm.append_right χ
    exact (h1.cons L).trans List.perm_middle.symm
  have h' := hp.nodup_iff.mp h
  rw [List.nodup_append] at h'
  exact ⟨h'.2.1, fun b hb hm => h'.2.2 b hb b hm rfl⟩
/-- what is reserved changes -/
theorem St.off (S : St C env σ ρ (wr ++ χ) s) {h' : Heap} {t : Nat} (hC : ∀ b ∈ wr, C.H.get? b = none) (hx : ∀ q ∈ σ.cx, ∀ a, env.cells.lookup q.1 = some a → a ∉ wr)
    (hk : ∀ b o, b ∉ wr → s.heap.get? b = some o → h'.get? b = some o) (hl : ∀ b ∈ wr, ∃ o, h'.get? b = some o) : St C env σ ρ (wr ++ χ) { s with heap := h', toks := t } := by
  have hoff := (nodup_mid S.nod).2
  have hW : ∀ a, a ∉ wide env.locals ρ (wr ++ χ) → a ∉ wr := fun a ha hm => ha (List.mem_cons_of_mem _ (List.mem_append_right _ (List.mem_append_left _ hm)))
  have keep : ∀ a o, a ∉ wide env.locals ρ (wr ++ χ) → s.heap.get? a = some o → h'.get? a = some o := fun a o ha e => hk a o (hW a ha) e
  have new : ∀ a ∈ wide env.locals ρ (wr ++ χ), a ∈ wide env.locals ρ (wr ++ χ) ∨ s.heap.get? a = none := fun a h => .inl h
  have own : ∀ a ∈ ρ, a ∉ wr := fun a ha hm => hoff a hm (List.mem_cons_of_mem _ (List.mem_append_left _ ha))
  have loc : env.locals ∉ wr := fun hm => hoff _ hm List.mem_cons_self
  refine ⟨fun a o e => ?_, S.gens, S.os, S.len, S.nod, S.out, S.above, fun a ha => ?_, ?_, S.keys, fun p hp => ?_, fun k o hk' => ?_⟩
  · exact hk a o (fun hm => by rw [hC a hm] at e; cases e) (S.base a o e)
  · by_cases hm : a ∈ wr
    · exact hl a hm
    · obtain ⟨o, e⟩ := S.alc a ha; exact ⟨o, hk a o hm e⟩
  · obtain ⟨m, hm, hl'⟩ := S.ns
    exact ⟨m, hm.at' fun o e => hk _ o loc e, fun p hp => let ⟨a, b, v, hv, hi⟩ := hl' p hp; ⟨a, b, v, hv, hi.evo keep new (List.prefix_refl _)⟩⟩
  · obtain ⟨a, b, c, d, hd, he⟩ := S.cx p hp
    refine ⟨a, b, c, d, hd, ?_⟩
    cases hq : p.2 with
    | own k => rw [hq] at he; exact he
    | cap r =>
      rw [hq] at he
      obtain ⟨h1, v, ⟨o, ho, hc⟩, hi⟩ := he
      exact ⟨h1, v, ⟨o, hk d o (hx p hp d hd) ho, hc⟩, hi.evo keep new (List.prefix_refl _)⟩
  · obtain ⟨a, ha, hi⟩ := S.own k o hk'
    exact ⟨a, ha, hi.evo keep new (List.prefix_refl _) fun o e => hk a o (own a (List.mem_of_getElem? ha)) e⟩
/-- what is reserved changes, and is reserved no more -/
theorem St.offDrop (S : St C env σ ρ (wr ++ χ) s) {h' : Heap} {t : Nat} (hC : ∀ b ∈ wr, C.H.get? b = none) (hx : ∀ q ∈ σ.cx, ∀ a, env.cells.lookup q.1 = some a → a ∉ wr)
    (hk : ∀ b o, b ∉ wr → s.heap.get? b = some o → h'.get? b = some o) : St C env σ ρ χ { s with heap := h', toks := t } := by
  have hoff := (nodup_mid S.nod).2
  have hW : ∀ a, a ∉ wide env.locals ρ (wr ++ χ) → a ∉ wr := fun a ha hm => ha (List.mem_cons_of_mem _ (List.mem_append_right _ (List.mem_append_left _ hm)))
  have keep : ∀ a o, a ∉ wide env.locals ρ (wr ++ χ) → s.heap.get? a = some o → h'.get? a = some o := fun a o ha e => hk a o (hW a ha) e
  have sub : ∀ a ∈ wide env.locals ρ χ, a ∈ wide env.locals ρ (wr ++ χ) := fun a ha => by
    rcases List.mem_cons.mp ha with h | h
    · exact List.mem_cons.mpr (.inl h)
    · refine List.mem_cons_of_mem _ ?_
      rcases List.mem_append.mp h with h | h
      · exact List.mem_append_left _ h
      · exact List.mem_append_right _ (List.mem_append_right _ h)
  have new : ∀ a ∈ wide env.locals ρ χ, a ∈ wide env.locals ρ (wr ++ χ) ∨ s.heap.get? a = none := fun a h => .inl (sub a h)
  have offW : ∀ a ∈ wide env.locals ρ χ, a ∉ wr := fun a ha hm => hoff a hm ha
  refine ⟨fun a o e => ?_, S.gens, S.os, S.len, (nodup_mid S.nod).1, S.out, S.above, fun a ha => ?_, ?_, S.keys, fun p hp => ?_, fun k o hk' => ?_⟩
  · exact hk a o (fun hm => by rw [hC a hm] at e; cases e) (S.base a o e)
  · obtain ⟨o, e⟩ := S.alc a (sub a ha); exact ⟨o, hk a o (offW a ha) e⟩
  · obtain ⟨m, hm, hl'⟩ := S.ns
    exact ⟨m, hm.at' fun o e => hk _ o (offW _ List.mem_cons_self) e, fun p hp => let ⟨a, b, v, hv, hi⟩ := hl' p hp; ⟨a, b, v, hv, hi.evo keep new (List.prefix_refl _)⟩⟩
  · obtain ⟨a, b, c, d, hd, he⟩ := S.cx p hp
    refine ⟨a, b, c, d, hd, ?_⟩
    cases hq : p.2 with
    | own k => rw [hq] at he; exact he
    | cap r =>
      rw [hq] at he
      obtain ⟨h1, v, ⟨o, ho, hc⟩, hi⟩ := he
      exact ⟨h1, v, ⟨o, hk d o (hx p hp d hd) ho, hc⟩, hi.evo keep new (List.prefix_refl _)⟩
  · obtain ⟨a, ha, hi⟩ := S.own k o hk'
    exact ⟨a, ha, hi.evo keep new (List.prefix_refl _) fun o e => hk a o (offW a (List.mem_cons_of_mem _ (List.mem_append_left _ (List.mem_of_getElem? ha)))) e⟩
/-- new addresses are reserved -/
theorem St.resv (S : St C env σ ρ χ s) {h' : Heap} {t : Nat} (hn : (wide env.locals ρ (wr ++ χ)).Nodup) (hf : ∀ b ∈ wr, s.heap.get? b = none) (hl : ∀ b ∈ wr, ∃ o, h'.get? b = some o)
    (hk : ∀ b o, s.heap.get? b = some o → h'.get? b = some o) : St C env σ ρ (wr ++ χ) { s with heap := h', toks := t } := by
  have keep : ∀ a o, a ∉ wide env.locals ρ χ → s.heap.get? a = some o → h'.get? a = some o := fun a o _ e => hk a o e
  have new : ∀ a ∈ wide env.locals ρ (wr ++ χ), a ∈ wide env.locals ρ χ ∨ s.heap.get? a = none := fun a ha => by
    rcases List.mem_cons.mp ha with h | h
    · exact .inl (List.mem_cons.mpr (.inl h))
    · rcases List.mem_append.mp h with h | h
      · exact .inl (List.mem_cons_of_mem _ (List.mem_append_left _ h))
      · rcases List.mem_append.mp h with h | h
        · exact .inr (hf a h)
        · exact .inl (List.mem_cons_of_mem _ (List.mem_append_right _ h))
  refine ⟨fun a o e => hk a o (S.base a o e), S.gens, S.os, S.len, hn, S.out, S.above, fun a ha => ?_, ?_, S.keys, fun p hp => ?_, fun k o hk' => ?_⟩
  · rcases List.mem_cons.mp ha with h | h
    · obtain ⟨o, e⟩ := S.alc a (List.mem_cons.mpr (.inl h)); exact ⟨o, hk a o e⟩
    · rcases List.mem_append.mp h with h | h
      · obtain ⟨o, e⟩ := S.alc a (List.mem_cons_of_mem _ (List.mem_append_left _ h)); exact ⟨o, hk a o e⟩
      · rcases List.mem_append.mp h with h | h
        · exact hl a h
        · obtain ⟨o, e⟩ := S.alc a (List.mem_cons_of_mem _ (List.mem_append_right _ h)); exact ⟨o, hk a o e⟩
  · obtain ⟨m, hm, hl'⟩ := S.ns
    exact ⟨m, hm.at' fun o e => hk _ o e, fun p hp => let ⟨a, b, v, hv, hi⟩ := hl' p hp; ⟨a, b, v, hv, hi.evo keep new (List.prefix_refl _)⟩⟩
  · obtain ⟨a, b, c, d, hd, he⟩ := S.cx p hp
    refine ⟨a, b, c, d, hd, ?_⟩
    cases hq : p.2 with
    | own k => rw [hq] at he; exact he
    | cap r =>
      rw [hq] at he
      obtain ⟨h1, v, ⟨o, ho, hc⟩, hi⟩ := he
      exact ⟨h1, v, ⟨o, hk d o ho, hc⟩, hi.evo keep new (List.prefix_refl _)⟩
  · obtain ⟨a, ha, hi⟩ := S.own k o hk'
    exact ⟨a, ha, hi.evo keep new (List.prefix_refl _) fun o e => hk a o e⟩
theorem St.cellOld (S : St C env σ ρ χ s) : ∀ q ∈ σ.cx, ∀ a, env.cells.lookup q.1 = some a → ∃ o, s.heap.get? a = some o := fun q hq a ha => by
  obtain ⟨_, _, _, d, hd, he⟩ := S.cx q hq
  rw [ha] at hd; cases hd
  cases h : q.2 with
  | own k => rw [h] at he; exact S.alc a (List.mem_cons_of_mem _ (List.mem_append_left _ (List.mem_of_getElem? he)))
  | cap r => rw [h] at he; obtain ⟨_, v, ⟨o, ho, _⟩, _⟩ := he; exact ⟨o, ho⟩
end

/-- what a thing gone through gives, turn by turn -/
structure ItData (C : Base) (A : Around) (target : Expr) (xs : List AV) (W : List Addr) (h : Heap) (I : Addr) (fp wr : List Addr) (P Md : Nat → Value → Heap → Prop) (Stt : Nat → Heap → Prop) : Prop where
  turns : KTurns C.prog C.w A target I fp wr xs.length P Md Stt
  self : ∀ i (s : Shared) (Q : Value → Shared → Prop) (E : Value → Shared → Prop), Stt i s.heap → Q (.ref I) s → wpAny (model C.prog C.w) A (pyIter (.ref I)) Q E s
  start : Stt 0 h
  live : ∀ i h, Stt i h → ∀ b ∈ wr, ∃ o, h.get? b = some o
  foot : ∀ b ∈ fp, b ∉ wr → b ∉ W ∧ ∃ o, h.get? b = some o
  item : ∀ i x v h' W', xs[i]? = some x → P i v h' → (∀ a o, a ∉ W → h.get? a = some o → h'.get? a = some o) → (∀ a ∈ W', a ∈ W ∨ h.get? a = none) → Item W' h' v x

def EvI (C : Base) (sc : Scope) (n : Nat) (σ : AS) (target e : Expr) (xs : List AV) (σ' : AS) : Prop :=
  ∀ (A : Around) (env : Env) (ρ χ : List Addr) (s : Shared) (Q : Value → Shared → Prop) (E : Value → Shared → Prop), Ok n A → EnvOk sc env → St C env σ ρ χ s →
    (∀ I s' ρ' fp wr P Md Stt, St C env σ' ρ' (wr ++ χ) s' → Evo (env.locals :: ρ) ρ s.heap ρ' s'.heap → ρ <+: ρ' → (∀ b ∈ wr, s.heap.get? b = none) → (∀ q ∈ σ'.cx, ∀ a, env.cells.lookup q.1 = some a → a ∉ wr) →
      ItData C A target xs (wide env.locals ρ' (wr ++ χ)) s'.heap I fp wr P Md Stt → Q (.ref I) s') →
    wpAny (model C.prog C.w) A (eval e env) (fun v s₁ => wpAny (model C.prog C.w) A (pyIter v) Q E s₁) E s

def Bind (C : Base) (sc : Scope) (n : Nat) (target : Expr) (x : AV) (σ σ' : AS) : Prop :=
  ∀ (A : Around) (env : Env) (ρ χ : List Addr) (s : Shared) (v : Value) (Q : Unit → Shared → Prop) (E : Value → Shared → Prop), Ok n A → EnvOk sc env → St C env σ ρ χ s → Item (wide env.locals ρ χ) s.heap v x →
    (∀ s', Post C env σ' ρ χ s ρ s' → Q () s') → wpAny (model C.prog C.w) A (assign target env v) Q E s

inductive ForTo (C : Base) (sc : Scope) (n p : Nat) (target : Expr) (body : List Stmt) : List AV → AS → AS → Prop
  | done {σ : AS} : ForTo C sc n p target body [] σ σ
  | turn {x : AV} {xs : List AV} {σ σ₁ σ₂ σ' : AS} {g : Fl} : Bind C sc n target x σ σ₁ → Ex C sc n p σ₁ body g σ₂ → (g = .next ∨ g = .cont) → σ₂.cx = σ.cx → ForTo C sc n p target body xs σ₂ σ' → ForTo C sc n p target body (x :: xs) σ σ'
theorem ForTo.next {target : Expr} {body : List Stmt} {x : AV} {xs : List AV} {σ σ₁ σ₂ σ' : AS} (h₁ : Bind C sc n target x σ σ₁) (h₂ : Ex C sc n p σ₁ body .next σ₂) (h₃ : ForTo C sc n p target body xs σ₂ σ') (hc : σ₂.cx = σ.cx := by rfl) :
    ForTo C sc n p target body (x :: xs) σ σ' := .turn h₁ h₂ (.inl rfl) hc h₃

theorem ItData.fr {A : Around} {target : Expr} {xs : List AV} {L : Addr} {ρ χ fp wr : List Addr} {h : Heap} {I : Addr} {P Md : Nat → Value → Heap → Prop} {Stt : Nat → Heap → Prop} (D : ItData C A target xs (wide L ρ (wr ++ χ)) h I fp wr P Md Stt)
    {L' : Addr} {ρ' χ' : List Addr} {h₁ h₂ : Heap} {i : Nat} (hs : Stt i h₁) (hk : ∀ a o, a ∉ L' :: ρ' → h₁.get? a = some o → h₂.get? a = some o) (hn : ∀ a ∈ L' :: ρ', a ∈ wide L ρ (wr ++ χ) ∨ h.get? a = none) (hw : ∀ a ∈ L' :: ρ', a ∉ wr)
    (hold : ∀ a o, a ∉ wide L ρ (wr ++ χ) → h.get? a = some o → h₁.get? a = some o) : Stt i h₂ := by
  refine D.turns.frame i h₁ h₂ hs fun b hb o e => hk b o (fun hm => ?_) e
  by_cases hbw : b ∈ wr
  · exact hw b hm hbw
  · obtain ⟨hf, o', ho'⟩ := D.foot b hb hbw
    rcases hn b hm with q | q
    · exact hf q
    · rw [q] at ho'; cases ho'

theorem ex_for {target iter : Expr} {body : List Stmt} {pos : Pos} {xs : List AV} (hi : EvI C sc n σ target iter xs σ₁) (hw : ForTo C sc n p target body xs σ₁ σ') (hs : ∀ env x, foldedSetIterable iter env x = pure x := by intro _ _; rfl) :
    Ex1 C sc n p σ (.For target iter body [] pos) .next σ' := fun A env ρ χ s Q E hA hE S hp h => by
  refine wpAny_For (hi A env ρ χ s _ E hA hE S fun I s₂ ρ₂ fp wr P Md Stt S₂ E₂ pre₂ fresh hcx D => ?_) (hs env)
  have hC : ∀ b ∈ wr, C.H.get? b = none := fun b hb => by
    cases e : C.H.get? b with
    | none => rfl
    | some o => have e' := S.base b o e; rw [fresh b hb] at e'; cases e'
  have hnod := nodup_mid S₂.nod
  have hLw : env.locals ∉ wr := fun hm => hnod.2 _ hm List.mem_cons_self
  refine codeAny_forLoop_any (fun k s' => ∃ i σᵢ ρᵢ, k = xs.length - i ∧ i ≤ xs.length ∧ ForTo C sc n p target body (xs.drop i) σᵢ σ' ∧ σᵢ.cx = σ₁.cx ∧ St C env σᵢ ρᵢ (wr ++ χ) s' ∧ Evo (env.locals :: ρ) ρ s.heap ρᵢ s'.heap ∧
      Evo (wide env.locals ρ₂ (wr ++ χ)) ρ₂ s₂.heap ρᵢ s'.heap ∧ ρᵢ.take p = ρ.take p ∧ p ≤ ρᵢ.length ∧ Stt i s'.heap) ?_ xs.length
    ⟨0, σ₁, ρ₂, rfl, Nat.zero_le _, hw, rfl, S₂, E₂, ⟨fun _ _ _ e => e, fun _ o e => ⟨o, e⟩, fun _ h => .inl h⟩, ?_, ?_, D.start⟩
  · rintro k s' ⟨i, σᵢ, ρᵢ, rfl, hi, hf, hcxi, Sᵢ, Eᵢ, Wᵢ, tk, hle, hst⟩
    have hcxi' : ∀ q ∈ σᵢ.cx, ∀ a, env.cells.lookup q.1 = some a → a ∉ wr := by rw [hcxi]; exact hcx
    have hW : ∀ b ∈ wr, b ∈ wide env.locals ρ₂ (wr ++ χ) := fun b hb => List.mem_cons_of_mem _ (List.mem_append_right _ (List.mem_append_left _ hb))
    by_cases hlt : i < xs.length
    · obtain ⟨x, hx⟩ : ∃ x, xs[i]? = some x := ⟨_, List.getElem?_eq_getElem hlt⟩
      have hdrop : xs.drop i = x :: xs.drop (i + 1) := by
        rw [List.drop_eq_getElem_cons hlt]; congr 1; exact ((List.getElem?_eq_some_iff.mp hx).2)
      rw [hdrop] at hf
      refine D.turns.item i _ _ _ hlt hst fun v h₁ t₁ hMd hk₁ => ?_
      refine D.turns.go i v _ _ _ hMd fun h₂ hP hst₂ hk₂ => ?_
      have hk : ∀ b o, b ∉ wr → s'.heap.get? b = some o → h₂.get? b = some o := fun b o hb e => hk₂ b o hb (hk₁ b o hb e)
      have hl₂ := D.live _ _ hst₂
      have S' : St C env σᵢ ρᵢ (wr ++ χ) { s' with heap := h₂, toks := t₁ } := Sᵢ.off hC hcxi' hk hl₂
      have W' : Evo (wide env.locals ρ₂ (wr ++ χ)) ρ₂ s₂.heap ρᵢ h₂ := Wᵢ.off hk hl₂ fun b hb => .inl (hW b hb)
      have E' : Evo (env.locals :: ρ) ρ s.heap ρᵢ h₂ := Eᵢ.offFresh hk fresh
      have newW : ∀ a ∈ wide env.locals ρᵢ (wr ++ χ), a ∈ wide env.locals ρ₂ (wr ++ χ) ∨ s₂.heap.get? a = none := fun a ha => by
        rcases List.mem_cons.mp ha with h | h
        · exact .inl (List.mem_cons.mpr (.inl h))
        · rcases List.mem_append.mp h with h | h
          · rcases Wᵢ.new a h with q | q
            · exact .inl (List.mem_cons_of_mem _ (List.mem_append_left _ q))
            · exact .inr q
          · exact .inl (List.mem_cons_of_mem _ (List.mem_append_right _ h))
      have hitem : Item (wide env.locals ρᵢ (wr ++ χ)) h₂ v x := D.item i x v h₂ _ hx hP W'.keep newW
      cases hf with
      | turn hb hbody hg hcx₂ hrest =>
        rename_i σa σb g
        refine hb A env ρᵢ (wr ++ χ) _ v _ _ hA hE S' hitem fun s₃ P₃ => ?_
        have P₃' := P₃.toS (p := p) hle
        refine hbody A env ρᵢ (wr ++ χ) s₃ _ _ hA hE P₃.st hle fun fl s₄ ρ₄ P₄ hfl => ?_
        have PP := P₃'.trans P₄
        have fin : ∃ m, m < xs.length - i ∧ ∃ i' σᵢ ρᵢ, m = xs.length - i' ∧ i' ≤ xs.length ∧ ForTo C sc n p target body (xs.drop i') σᵢ σ' ∧ σᵢ.cx = σ₁.cx ∧ St C env σᵢ ρᵢ (wr ++ χ) s₄ ∧ Evo (env.locals :: ρ) ρ s.heap ρᵢ s₄.heap ∧
            Evo (wide env.locals ρ₂ (wr ++ χ)) ρ₂ s₂.heap ρᵢ s₄.heap ∧ ρᵢ.take p = ρ.take p ∧ p ≤ ρᵢ.length ∧ Stt i' s₄.heap := by
          refine ⟨xs.length - (i + 1), by omega, i + 1, _, ρ₄, rfl, hlt, hrest, hcx₂.trans hcxi, PP.st, E'.trans PP.evo, W'.step PP.evo fun a ha => ?_, PP.pre.trans tk, PP.le, ?_⟩
          · rcases List.mem_cons.mp ha with h | h
            · exact List.mem_cons.mpr (.inl h)
            · exact List.mem_cons_of_mem _ (List.mem_append_left _ h)
          · refine D.fr (L' := env.locals) (ρ' := ρᵢ) (χ' := χ) hst₂ PP.evo.keep (fun a ha => newW a ?_) (fun a ha hm => ?_) W'.keep
            · rcases List.mem_cons.mp ha with h | h
              · exact List.mem_cons.mpr (.inl h)
              · exact List.mem_cons_of_mem _ (List.mem_append_left _ h)
            · refine (nodup_mid Sᵢ.nod).2 a hm ?_
              rcases List.mem_cons.mp ha with h | h
              · exact List.mem_cons.mpr (.inl h)
              · exact List.mem_cons_of_mem _ (List.mem_append_left _ h)
        rcases hg with rfl | rfl
        · have e : fl = .next := hfl
          subst e; exact fin
        · have e : fl = .cont := hfl
          subst e; exact fin
    · obtain rfl : i = xs.length := Nat.le_antisymm hi (Nat.not_lt.mp hlt)
      rw [List.drop_length] at hf
      cases hf
      refine D.turns.done _ _ _ hst fun h₁ t₁ hk₁ => ?_
      refine wpAny_execs_nil ?_
      exact h _ _ ρᵢ ⟨Sᵢ.offDrop hC hcxi' hk₁, Eᵢ.offFresh hk₁ fresh, tk, hle⟩ rfl
  · obtain ⟨t, rfl⟩ := pre₂
    rw [List.take_append_of_le_length hp]
  · obtain ⟨t, rfl⟩ := pre₂
    rw [List.length_append]; omega
end Mine
namespace Mine
variable {C : Base} {sc : Scope} {n p : Nat} {σ σ₁ σ₂ σ₃ σ' : AS}

theorem call_bi_raw {x : Str} {p pos : Pos} {f : Value} {e : Expr} {l : List Expr} {rs : List AV} (hx : sc.names.lookup x = some .globalImplicit) (hg : C.mg x = none) (hn : x ≠ "__name__") (hd : (x == ("__debug__" : Str)) = false)
    (hb : bootBuiltins x = some f) (hf : Mach f) (ha : EvL C sc n σ pos (e :: l) rs σ₁) (he : ∀ env, starEach (e :: l) env = (false, eval e env) :: starEach l env) (hplain : ∀ env, (backTo pos (starEach l env)).any (·.1) = false)
    {A : Around} {env : Env} {ρ χ : List Addr} {s : Shared} {Q : Value → Shared → Prop} {E : Value → Shared → Prop} (hA : Ok n A) (hE : EnvOk sc env) (S : St C env σ ρ χ s)
    (hr : ∀ vs s₁ ρ₁, Post C env σ₁ ρ χ s ρ₁ s₁ → AllIs ρ₁ (wide env.locals ρ₁ χ) s₁.heap rs vs → wpAny (model C.prog C.w) A (call f vs) Q E s₁) :
    wpAny (model C.prog C.w) A (eval (.Call (.Name x p) (e :: l) [] pos) env) Q E s := by
  show wpAny _ A (eval (.Name x p) env >>= fun f => callWith pos f [] (backTo pos (starEach (e :: l) env)) (backToKw pos (keywordEach [] env))) Q E s
  refine wpAny_bind (name_builtin hE S hx hg hn hd hb ?_)
  have z : wpAny (model C.prog C.w) A (spliced (backTo pos (starEach (e :: l) env))) (fun vs s' => wpAny (model C.prog C.w) A (call f ([] ++ vs) []) Q E s') E s :=
    ha A env ρ χ s _ E hA hE S fun vs s₁ ρ₁ P₁ hvs => hr vs s₁ ρ₁ P₁ hvs
  have hany : (backTo pos (starEach (e :: l) env)).any (·.1) = false := by
    rw [he env]; show (false || (backTo pos (starEach l env)).any (·.1)) = false; rw [hplain env]; rfl
  rw [he env] at z
  cases hf with
  | builtin id => exact Calls.callWith_builtin hany (by rw [he env]; exact Calls.evalArgs_plain z)
  | type T => exact PySem.callWith_type hany (by rw [he env]; exact Calls.evalArgs_plain z)

section
variable {env : Env} {ρ χ wr : List Addr} {s : Shared}
theorem Item.ofIs {W : List Addr} {h : Heap} {x : AV} {v : Value} (e : x.Is [] W h v) : Item W h v x := by
  cases x with
  | tup xs =>
    simp only [AV.Is] at e
    obtain ⟨a, vs, rfl, _, hl, r⟩ := e
    exact ⟨a, vs, rfl, hl, r⟩
  | none => exact e
  | bool b => exact e
  | int i => exact e
  | str x => exact e
  | lst xs => exact e
  | own k => exact e
  | rng a b c => exact e
theorem newRes (S : St C env σ ρ χ s) {h' : Heap} (hf : ∀ b ∈ wr, s.heap.get? b = none) (hl : ∀ b ∈ wr, ∃ o, h'.get? b = some o) (hnd : wr.Nodup)
    (hk : ∀ b o, s.heap.get? b = some o → h'.get? b = some o) (t : Nat) : St C env σ ρ (wr ++ χ) { s with heap := h', toks := t } := by
  refine S.resv ?_ hf hl hk
  have hp : List.Perm (wr ++ wide env.locals ρ χ) (wide env.locals ρ (wr ++ χ)) := by
    have h1 : List.Perm (ρ ++ (wr ++ χ)) (wr ++ (ρ ++ χ)) := by
      rw [← List.append_assoc, ← List.append_assoc]
      exact List.perm_append_comm.append_right χ
    exact ((h1.cons env.locals).trans List.perm_middle.symm).symm
  refine hp.nodup_iff.mp (List.nodup_append.mpr ⟨hnd, S.nod, fun a ha b hb e => ?_⟩)
  subst e
  obtain ⟨o, ho⟩ := S.alc a hb
  rw [hf a ha] at ho; cases ho

/-- the thing gone through is laid -/
theorem evi_fin {s₁ : Shared} {ρ₁ : List Addr} {A : Around} {target : Expr} {xs : List AV} {I : Addr} {fp : List Addr} {P Md : Nat → Value → Heap → Prop} {Stt : Nat → Heap → Prop} {Q : Value → Shared → Prop} {h' : Heap} {t : Nat}
    (P₁ : Post C env σ' ρ χ s ρ₁ s₁) (hf : ∀ b ∈ wr, s₁.heap.get? b = none) (hl : ∀ b ∈ wr, ∃ o, h'.get? b = some o) (hnd : wr.Nodup) (hk : ∀ b o, s₁.heap.get? b = some o → h'.get? b = some o)
    (D : ItData C A target xs (wide env.locals ρ₁ (wr ++ χ)) h' I fp wr P Md Stt)
    (hQ : ∀ I s' ρ' fp wr P Md Stt, St C env σ' ρ' (wr ++ χ) s' → Evo (env.locals :: ρ) ρ s.heap ρ' s'.heap → ρ <+: ρ' → (∀ b ∈ wr, s.heap.get? b = none) → (∀ q ∈ σ'.cx, ∀ a, env.cells.lookup q.1 = some a → a ∉ wr) →
      ItData C A target xs (wide env.locals ρ' (wr ++ χ)) s'.heap I fp wr P Md Stt → Q (.ref I) s') : Q (.ref I) { s₁ with heap := h', toks := t } := by
  refine hQ I _ ρ₁ fp wr P Md Stt (newRes P₁.st hf hl hnd hk t) (P₁.evo.offFresh (wr := []) (fun b o _ e => hk b o e) (fun _ h => nomatch h)) P₁.pre (fun b hb => ?_) (fun q hq a ha hm => ?_) D
  · cases e : s.heap.get? b with
    | none => rfl
    | some o => obtain ⟨o', e'⟩ := P₁.evo.live b o e; rw [hf b hb] at e'; cases e'
  · obtain ⟨o, ho⟩ := P₁.st.cellOld q hq a ha
    rw [hf a hm] at ho; cases ho

/-- out of the library's walks, one name a turn -/
theorem itd_walks {A : Around} {x : Str} {tp : Pos} {xs : List AV} {W : List Addr} {h : Heap} {I : Addr} {fp : List Addr} {P : Nat → Value → Prop} {Stt : Nat → Heap → Prop} (Wk : Walks C.prog C.w A I fp [I] xs.length P Stt) (h0 : Stt 0 h)
    (hlive : ∀ i h, Stt i h → ∃ o, h.get? I = some o) (hfoot : ∀ b ∈ fp, b ≠ I → b ∉ W ∧ ∃ o, h.get? b = some o)
    (hitem : ∀ i x v h' W', xs[i]? = some x → P i v → (∀ a o, a ∉ W → h.get? a = some o → h'.get? a = some o) → (∀ a ∈ W', a ∈ W ∨ h.get? a = none) → Item W' h' v x) :
    ItData C A (.Name x tp) xs W h I fp [I] (fun i v _ => P i v) (fun i v h => P i v ∧ Stt (i + 1) h) Stt :=
  ⟨.ofWalks Wk fun _ _ _ _ _ _ hq => wpAny_of_eq rfl hq, Wk.self, h0, fun i h hs b hb => by rw [List.mem_singleton.mp hb]; exact hlive i h hs, fun b hb hw => hfoot b hb fun e => hw (List.mem_singleton.mpr e),
    fun i x v h' W' hx hP hk hn => hitem i x v h' W' hx hP hk hn⟩

/-- an item of a frozen list stays what it is -/
theorem item_stays {ρ₁ : List Addr} {h₁ h₂ h' : Heap} {L : Addr} {W' : List Addr} {xs : List AV} {vs : List Value} {i : Nat} {x : AV} {v : Value} (hall : AllIs ρ₁ (wide L ρ₁ χ) h₁ xs vs) (hp : plains xs = true) (hx : xs[i]? = some x) (hv : vs[i]? = some v)
    (hf : ∀ b ∈ wr, h₁.get? b = none) (hk : ∀ b o, h₁.get? b = some o → h₂.get? b = some o) (hk' : ∀ a o, a ∉ wide L ρ₁ (wr ++ χ) → h₂.get? a = some o → h'.get? a = some o) (hn : ∀ a ∈ W', a ∈ wide L ρ₁ (wr ++ χ) ∨ h₂.get? a = none) : AV.Is [] W' h' x v := by
  obtain ⟨v', hv', hI⟩ := hall.get hx
  rw [hv] at hv'; cases hv'
  have hxp : x.plain = true := by
    clear hall hv hI
    induction xs generalizing i with
    | nil => simp at hx
    | cons y ys ih =>
      simp only [plains, Bool.and_eq_true] at hp
      cases i with
      | zero => simp only [List.getElem?_cons_zero, Option.some.injEq] at hx; rw [← hx]; exact hp.1
      | succ i => simp only [List.getElem?_cons_succ] at hx; exact ih hp.2 hx
  refine AV.Is.plain (fun _ h => h) hxp (AV.Is.evo (ρ' := ρ₁) (W' := W') (h' := h') (fun a o ha e => hk' a o (fun hm => ?_) (hk a o e)) (fun a ha => ?_) (List.prefix_refl _) hI)
  · rcases List.mem_cons.mp hm with h | h
    · exact ha (List.mem_cons.mpr (.inl h))
    · rcases List.mem_append.mp h with h | h
      · exact ha (List.mem_cons_of_mem _ (List.mem_append_left _ h))
      · rcases List.mem_append.mp h with h | h
        · rw [hf a h] at e; cases e
        · exact ha (List.mem_cons_of_mem _ (List.mem_append_right _ h))
  · rcases hn a ha with h | h
    · rcases List.mem_cons.mp h with h | h
      · exact .inl (List.mem_cons.mpr (.inl h))
      · rcases List.mem_append.mp h with h | h
        · exact .inl (List.mem_cons_of_mem _ (List.mem_append_left _ h))
        · rcases List.mem_append.mp h with h | h
          · exact .inr (hf a h)
          · exact .inl (List.mem_cons_of_mem _ (List.mem_append_right _ h))
    · refine .inr ?_
      cases e : h₁.get? a with
      | none => rfl
      | some o => have e' := hk a o e; rw [h] at e'; cases e'
theorem off_res {L a : Addr} {ρ χ wr : List Addr} {h : Heap} {o : Obj} (ha : a ∉ wide L ρ χ) (ho : h.get? a = some o) (hf : ∀ b ∈ wr, h.get? b = none) : a ∉ wide L ρ (wr ++ χ) := fun hm => by
  rcases List.mem_cons.mp hm with h | h
  · exact ha (List.mem_cons.mpr (.inl h))
  · rcases List.mem_append.mp h with h | h
    · exact ha (List.mem_cons_of_mem _ (List.mem_append_left _ h))
    · rcases List.mem_append.mp h with h | h
      · rw [hf a h] at ho; cases ho
      · exact ha (List.mem_cons_of_mem _ (List.mem_append_right _ h))
end

theorem fresh1 {h : Heap} : ∀ b ∈ [h.objs.size], h.get? b = none := fun b hb => by rw [List.mem_singleton.mp hb]; exact noneSize h
theorem live1 {h : Heap} {o : Obj} (hf : o.isFreed = false) : ∀ b ∈ [h.objs.size], ∃ o', (h.push o).get? b = some o' := fun b hb => by rw [List.mem_singleton.mp hb]; exact ⟨_, Heap.get?_push_size _ hf⟩

theorem evi_list {e : Expr} {x : Str} {tp : Pos} {xs : List AV} (he : Ev C sc n σ e (.lst xs) σ') (hp : plains xs = true) : EvI C sc n σ (.Name x tp) e xs σ' := fun A env ρ χ s Q E hA hE S h =>
  he A env ρ χ s _ E hA hE S fun v s₁ ρ₁ P₁ hv => by
    simp only [AV.Is] at hv
    obtain ⟨a, vs, rfl, ha, hl, hall⟩ := hv
    obtain ⟨o, ho, hr⟩ := id hl
    have hne : a ≠ s₁.heap.objs.size := fun q => by rw [q, noneSize] at ho; cases ho
    have hlen : (List.toArray vs).size = xs.length := by rw [List.size_toArray, hall.length]
    refine wpAny_pyIter_list hl (evi_fin (t := s₁.toks) P₁ fresh1 (live1 rfl) (List.pairwise_singleton _ _) (fun b o e => Heap.get?_push_of_some _ e) (itd_walks (hlen ▸ Walks.list hA.handled _ a hne _) ⟨⟨_, Heap.get?_push_size _ rfl, rfl, rfl⟩, ⟨o, Heap.get?_push_of_some _ ho, hr⟩⟩
      (fun i h hs => let ⟨o, ho, _⟩ := hs.1; ⟨o, ho⟩) (fun b hb hne' => ?_) fun i x v h' W' hx hP hk hn => Item.ofIs (item_stays hall hp hx (by simpa using hP) fresh1 (fun b o e => Heap.get?_push_of_some _ e) hk hn)) h)
    simp only [List.mem_cons, List.not_mem_nil, or_false] at hb
    rcases hb with rfl | rfl
    · exact absurd rfl hne'
    · exact ⟨off_res ha ho fresh1, o, Heap.get?_push_of_some _ ho⟩

theorem evi_tuple {e : Expr} {x : Str} {tp : Pos} {xs : List AV} (he : Ev C sc n σ e (.tup xs) σ') (hp : plains xs = true) : EvI C sc n σ (.Name x tp) e xs σ' := fun A env ρ χ s Q E hA hE S h =>
  he A env ρ χ s _ E hA hE S fun v s₁ ρ₁ P₁ hv => by
    simp only [AV.Is] at hv
    obtain ⟨a, vs, rfl, ha, hl, hall⟩ := hv
    have hl : s₁.heap.IsTuple a (List.toArray vs) := hl
    obtain ⟨o, ho, hr⟩ := id hl
    have hne : a ≠ s₁.heap.objs.size := fun q => by rw [q, noneSize] at ho; cases ho
    have hlen : (List.toArray vs).size = xs.length := by rw [List.size_toArray, hall.length]
    refine wpAny_pyIter_tuple hl (evi_fin (t := s₁.toks) P₁ fresh1 (live1 rfl) (List.pairwise_singleton _ _) (fun b o e => Heap.get?_push_of_some _ e) (itd_walks (hlen ▸ Walks.tuple hA.handled _ a hne _) ⟨⟨_, Heap.get?_push_size _ rfl, rfl, rfl⟩, ⟨o, Heap.get?_push_of_some _ ho, hr⟩⟩
      (fun i h hs => let ⟨o, ho, _⟩ := hs.1; ⟨o, ho⟩) (fun b hb hne' => ?_) fun i x v h' W' hx hP hk hn => Item.ofIs (item_stays hall hp hx (by simpa using hP) fresh1 (fun b o e => Heap.get?_push_of_some _ e) hk hn)) h)
    simp only [List.mem_cons, List.not_mem_nil, or_false] at hb
    rcases hb with rfl | rfl
    · exact absurd rfl hne'
    · exact ⟨off_res ha ho fresh1, o, Heap.get?_push_of_some _ ho⟩

def signs (x : Str) : List AV := x.cps.toList.map fun c => .str ⟨#[c]⟩
theorem evi_str {e : Expr} {x : Str} {tp : Pos} {y : Str} (he : Ev C sc n σ e (.str y) σ') : EvI C sc n σ (.Name x tp) e (signs y) σ' := fun A env ρ χ s Q E hA hE S h =>
  he A env ρ χ s _ E hA hE S fun v s₁ ρ₁ P₁ hv => by
    simp only [AV.Is] at hv
    obtain ⟨t, rfl⟩ := hv
    have hlen : y.cps.size = (signs y).length := by simp [signs]
    refine wpAny_pyIter_strU (evi_fin (t := s₁.toks) (fp := [s₁.heap.objs.size]) P₁ fresh1 (live1 rfl) (List.pairwise_singleton _ _) (fun b o e => Heap.get?_push_of_some _ e) (itd_walks (P := SignAt y) (Stt := fun i h => h.IsStrIter s₁.heap.objs.size (strIterType y) y t i) ?_ ⟨_, Heap.get?_push_size _ rfl, rfl, rfl⟩
      (fun i h hs => let ⟨o, ho, _⟩ := hs; ⟨o, ho⟩) (fun b hb hne' => absurd (List.mem_singleton.mp hb) hne') fun i x v h' W' hx hP hk hn => ?_) h)
    · rw [← hlen]
      unfold strIterType
      split
      · exact Walks.strAscii hA.handled _ y t
      · exact Walks.strWide hA.handled _ y t
    · obtain ⟨c, u, hc, rfl⟩ := hP
      unfold signs at hx
      rw [List.getElem?_map] at hx
      have hc' : y.cps.toList[i]? = some c := by simpa using hc
      rw [hc'] at hx
      simp only [Option.map_some, Option.some.injEq] at hx
      subst hx
      exact ⟨u, rfl⟩
end Mine
namespace Mine
variable {C : Base} {sc : Scope} {n p : Nat} {σ σ₁ σ₂ σ₃ σ' : AS}

/-! range -/
theorem callr_range1 {b : Int} : CallR C σ (.type "range") [.int b] (.rng 0 b 1) := fun n A env ρ χ s vs Q E hA S hvs h => by
  simp only [AllIs] at hvs
  obtain ⟨v, vs', rfl, ⟨t, rfl⟩, rfl⟩ := hvs
  exact call_range_1 (h _ _ (Post.push S _ _) ⟨_, _, _, _, rfl, S.freshSize, Heap.get?_push_size _ rfl⟩)
theorem callr_range2 {a b : Int} : CallR C σ (.type "range") [.int a, .int b] (.rng a b 1) := fun n A env ρ χ s vs Q E hA S hvs h => by
  simp only [AllIs] at hvs
  obtain ⟨v, vs', rfl, ⟨t, rfl⟩, w, vs'', rfl, ⟨u, rfl⟩, rfl⟩ := hvs
  exact call_range_2 (h _ _ (Post.push S _ _) ⟨_, _, _, _, rfl, S.freshSize, Heap.get?_push_size _ rfl⟩)
theorem callr_range3 {a b c : Int} (hc : c ≠ 0) (hs : c.natAbs < 1073741824) : CallR C σ (.type "range") [.int a, .int b, .int c] (.rng a b c) := fun n A env ρ χ s vs Q E hA S hvs h => by
  simp only [AllIs] at hvs
  obtain ⟨v, vs', rfl, ⟨t, rfl⟩, w, vs'', rfl, ⟨u, rfl⟩, x, vs₃, rfl, ⟨y, rfl⟩, rfl⟩ := hvs
  exact call_range_3 hc (h _ _ (Post.push S _ _) ⟨_, _, _, _, rfl, S.freshSize, Heap.get?_push_size _ rfl⟩) (.inl (PyProof.noPylong_small hs))

def intsFrom (a : Int) (k : Nat) : List AV := (List.range k).map fun (i : Nat) => AV.int (a + (i : Int))
theorem intsFrom_length {a : Int} {k : Nat} : (intsFrom a k).length = k := by simp [intsFrom]
theorem evi_range {e : Expr} {x : Str} {tp : Pos} {a b : Int} {k : Nat} (he : Ev C sc n σ e (.rng a b 1) σ') (hk : k = (b - a).toNat) (h₁ : -(2 ^ 62) ≤ a) (h₂ : a < 2 ^ 62) (h₃ : -(2 ^ 62) ≤ b) (h₄ : b < 2 ^ 62) :
    EvI C sc n σ (.Name x tp) e (intsFrom a k) σ' := fun A env ρ χ s Q E hA hE S h =>
  he A env ρ χ s _ E hA hE S fun v s₁ ρ₁ P₁ hv => by
    simp only [AV.Is] at hv
    obtain ⟨r, t, u, w, rfl, ha, hr⟩ := hv
    have hsz : Builtin.Range.rangeSize a b 1 = (k : Int) := by
      unfold Builtin.Range.rangeSize
      rw [if_pos (by decide)]
      split <;> omega
    refine wpAny_pyIter_range hr (small_one h₁ h₂ h₃ h₄) (evi_fin (t := s₁.toks) (fp := [s₁.heap.objs.size]) P₁ fresh1 (live1 rfl) (List.pairwise_singleton _ _) (fun b o e => Heap.get?_push_of_some _ e) (itd_walks
      (P := fun i v => ∃ t, v = .int (a + i * 1) t) (Stt := fun i h => IsRangeIter h s₁.heap.objs.size (a + (i : Nat) * 1) ((k : Int) - (i : Nat)) 1) ?_ ?_ (fun i h hs => ⟨_, hs⟩) (fun b hb hne' => absurd (List.mem_singleton.mp hb) hne') fun i x v h' W' hx hP hk hn => ?_) h)
    · rw [intsFrom_length]; exact Walks.range hA.handled _ a 1 k
    · show IsRangeIter _ _ _ _ _
      rw [hsz]
      simp only [Int.natCast_zero, Int.zero_mul, Int.add_zero, Int.sub_zero]
      exact Heap.get?_push_size _ rfl
    · obtain ⟨t, rfl⟩ := hP
      unfold intsFrom at hx
      rw [List.getElem?_map] at hx
      cases hi : (List.range k)[i]? with
      | none => rw [hi] at hx; cases hx
      | some j =>
        rw [hi] at hx
        obtain ⟨hlt, rfl⟩ := List.getElem?_eq_some_iff.mp hi
        simp only [Option.map_some, Option.some.injEq, List.getElem_range] at hx
        subst hx
        exact ⟨t, by rw [Int.mul_one]⟩

/-- list(range(a, b, c)) as an own list -/
theorem ev_list_range {x : Str} {p pos : Pos} {e : Expr} {a b c : Int} {k : Nat} (hx : sc.names.lookup x = some .globalImplicit) (hg : C.mg x = none) (hn : x ≠ "__name__") (hd : (x == ("__debug__" : Str)) = false)
    (hb : bootBuiltins x = some (.type "list")) (ha : EvL C sc n σ pos [e] [.rng a b c] σ₁) (hsmall : Builtin.Range.small a b c = true) (hk : Builtin.Range.rangeSize a b c = (k : Int)) (hz : k ≤ 2 ^ 24)
    (he : ∀ env, starEach [e] env = [(false, eval e env)] := by intro _; rfl) :
    Ev C sc n σ (.Call (.Name x p) [e] [] pos) (.own σ₁.own.length) { σ₁ with own := σ₁.own ++ [.list (zs (rangeInts a c k))] } := fun A env ρ χ s Q E hA hE S h => by
  refine call_bi_raw hx hg hn hd hb (.type _) ha (fun env => (he env).trans rfl) (fun _ => rfl) hA hE S fun vs s₁ ρ₁ P₁ hvs => ?_
  simp only [AllIs, AV.Is] at hvs
  obtain ⟨v, vs', rfl, ⟨r, t, u, w, rfl, hr, hro⟩, rfl⟩ := hvs
  refine call_list_range hA.handled hro hsmall hk hz fun h' tk acc' c' hkeep hl hacc => ?_
  obtain ⟨m, hm, _⟩ := P₁.st.ns
  have hints : AllIs (ρ₁ ++ [s₁.heap.objs.size]) (wide env.locals (ρ₁ ++ [s₁.heap.objs.size]) χ) h' (zs (rangeInts a c k)) acc'.toList := by
    refine allIs_ints ?_
    have hget : ∀ (l : List Value) (j : Nat), (∀ i v, l[i]? = some v → ∃ t, v = Value.int (a + ((j + i : Nat) : Int) * c) t) → IntsAre l ((List.range l.length).map fun i => a + ((j + i : Nat) : Int) * c) := by
      intro l
      induction l with
      | nil => intro j _; exact .nil
      | cons v l ih =>
        intro j hj
        obtain ⟨t, rfl⟩ := hj 0 v rfl
        have e1 : (List.range (Value.int (a + ((j + 0 : Nat) : Int) * c) t :: l).length).map (fun i => a + ((j + i : Nat) : Int) * c) = (a + ((j + 0 : Nat) : Int) * c) :: (List.range l.length).map fun i => a + ((j + 1 + i : Nat) : Int) * c := by
          rw [List.length_cons, List.range_succ_eq_map, List.map_cons, List.map_map]
          congr 1
          apply List.map_congr_left
          intro i _
          show a + ((j + (i + 1) : Nat) : Int) * c = _
          rw [show j + (i + 1) = j + 1 + i by omega]
        rw [e1]
        refine .cons _ _ (ih (j + 1) fun i v hi => ?_)
        have := hj (i + 1) v hi
        rw [show j + 1 + i = j + (i + 1) by omega]
        exact this
    have := hget acc'.toList 0 (fun i v hi => by
      have hi' : acc'[i]? = some v := by simpa using hi
      have z := hacc.2 i v hi'
      rw [Nat.zero_add]; exact z)
    rw [show acc'.toList.length = k by rw [Array.length_toList]; exact hacc.1] at this
    simpa [rangeInts] using this
  have hnone : s₁.heap.get? s₁.heap.objs.size = none := noneSize _
  have P' := St.alloc (t := tk) (a := s₁.heap.objs.size) (o' := .list (zs (rangeInts a c k))) P₁.st hm (hm.keeps hkeep) (fun b o _ e => hkeep b o e) hnone ⟨acc'.toList, ⟨c', by simpa using hl⟩, hints⟩
  exact h _ _ _ (P₁.trans P') ⟨_, rfl, by rw [← P₁.st.len]; simp⟩

/-! reversed -/
theorem evi_reversed {y : Str} {p pos tp : Pos} {e : Expr} {x : Str} {xs : List AV} (hx : sc.names.lookup y = some .globalImplicit) (hg : C.mg y = none) (hn : y ≠ "__name__") (hd : (y == ("__debug__" : Str)) = false)
    (hb : bootBuiltins y = some (.type "reversed")) (ha : EvL C sc n σ pos [e] [.lst xs] σ') (hp : plains xs = true) (he : ∀ env, starEach [e] env = [(false, eval e env)] := by intro _; rfl) :
    EvI C sc n σ (.Name x tp) (.Call (.Name y p) [e] [] pos) xs.reverse σ' := fun A env ρ χ s Q E hA hE S h => by
  refine call_bi_raw hx hg hn hd hb (.type _) ha (fun env => (he env).trans rfl) (fun _ => rfl) hA hE S fun us s₁ ρ₁ P₁ hvs => ?_
  simp only [AllIs, AV.Is] at hvs
  obtain ⟨v, vs', rfl, ⟨a, vs, rfl, ha, hl, hall⟩, rfl⟩ := hvs
  obtain ⟨o, ho, hr⟩ := id hl
  have hne : a ≠ s₁.heap.objs.size := fun q => by rw [q, noneSize] at ho; cases ho
  have hlen : (List.toArray vs).size = xs.length := by rw [List.size_toArray, hall.length]
  have hlen' : (List.toArray vs).size = xs.reverse.length := by rw [List.length_reverse]; exact hlen
  have hrev : Heap.IsRevIter (s₁.heap.push (revObj a (((List.toArray vs).size : Int) - 1))) s₁.heap.objs.size a (((List.toArray vs).size : Int) - 1) := ⟨_, Heap.get?_push_size _ rfl, rfl, rfl⟩
  refine call_reversed_list hl (wpAny_pyIter_revIter hrev (evi_fin (t := s₁.toks) P₁ fresh1 (live1 rfl) (List.pairwise_singleton _ _) (fun b o e => Heap.get?_push_of_some _ e)
    (itd_walks (hlen' ▸ Walks.listRev hA.handled _ a hne _) ⟨Nat.zero_le _, by simpa [hall.length] using hrev, ⟨o, Heap.get?_push_of_some _ ho, hr⟩⟩
    (fun i h hs => let ⟨o, ho, _⟩ := hs.2.1; ⟨o, ho⟩) (fun b hb hne' => ?_) fun i x v h' W' hx hP hk hn => ?_) h))
  · simp only [List.mem_cons, List.not_mem_nil, or_false] at hb
    rcases hb with rfl | rfl
    · exact absurd rfl hne'
    · exact ⟨off_res ha ho fresh1, o, Heap.get?_push_of_some _ ho⟩
  · have hi : i < xs.length := by have := (List.getElem?_eq_some_iff.mp hx).1; rwa [List.length_reverse] at this
    rw [List.getElem?_reverse hi] at hx
    have hP' : vs[xs.length - 1 - i]? = some v := by rw [List.length_reverse] at hP; simpa using hP
    exact Item.ofIs (item_stays hall hp hx hP' fresh1 (fun b o e => Heap.get?_push_of_some _ e) hk hn)

/-! ### what a turn's item is bound to -/
theorem Item.is {ρ W : List Addr} {h : Heap} {v : Value} {x : AV} (e : AV.Is [] W h x v) : AV.Is ρ W h x v := e.evo (fun _ _ _ e => e) (fun _ h => .inl h) (List.nil_prefix)
theorem bind_local {x : Str} {pos : Pos} {r : AV} {ls' : List (Str × AV)} (hset : SetL x r σ.ls ls') (hx : sc.names.lookup x = some .local) (hd : (x == ("__debug__" : Str)) = false) (hi : ∀ W h v, Item W h v r → AV.Is [] W h r v := by intro _ _ _ h; exact h) :
    Bind C sc n (.Name x pos) r σ { σ with ls := ls' } := fun A env ρ χ s v Q E hA hE S hv h =>
  wpAny_assign_Name (store_local hE S hset hx hd (Item.is (hi _ _ _ hv)) h)
theorem bind_cell {x : Str} {pos : Pos} {r : AV} {k : Nat} {o : Option AV} (hx : (x, CV.own k) ∈ σ.cx) (hk : sc.names.lookup x = some .cell) (ho : σ.own[k]? = some (.cell o)) (hi : ∀ W h v, Item W h v r → AV.Is [] W h r v := by intro _ _ _ h; exact h) :
    Bind C sc n (.Name x pos) r σ { σ with own := σ.own.set k (.cell (some r)) } := fun A env ρ χ s v Q E hA hE S hv h =>
  wpAny_assign_Name (store_cell hE S hx hk ho (Item.is (hi _ _ _ hv)) h)
/-- one store of several -/
def Sto (C : Base) (sc : Scope) (n : Nat) (target : Expr) (r : AV) (σ σ' : AS) : Prop :=
  ∀ (A : Around) (env : Env) (ρ χ : List Addr) (s : Shared) (v : Value) (Q : Unit → Shared → Prop) (E : Value → Shared → Prop), Ok n A → EnvOk sc env → St C env σ ρ χ s → r.Is ρ (wide env.locals ρ χ) s.heap v →
    (∀ s', Post C env σ' ρ χ s ρ s' → Q () s') → wpAny (model C.prog C.w) A (assign target env v) Q E s
theorem sto_local {x : Str} {pos : Pos} {r : AV} {ls' : List (Str × AV)} (hset : SetL x r σ.ls ls') (hx : sc.names.lookup x = some .local) (hd : (x == ("__debug__" : Str)) = false) : Sto C sc n (.Name x pos) r σ { σ with ls := ls' } :=
  fun A env ρ χ s v Q E hA hE S hv h => wpAny_assign_Name (store_local hE S hset hx hd hv h)
theorem sto_cell {x : Str} {pos : Pos} {r : AV} {k : Nat} {o : Option AV} (hx : (x, CV.own k) ∈ σ.cx) (hk : sc.names.lookup x = some .cell) (ho : σ.own[k]? = some (.cell o)) : Sto C sc n (.Name x pos) r σ { σ with own := σ.own.set k (.cell (some r)) } :=
  fun A env ρ χ s v Q E hA hE S hv h => wpAny_assign_Name (store_cell hE S hx hk ho hv h)
theorem sto_pair {t₁ t₂ : Expr} {k : Nat} {pos : Pos} {r₁ r₂ : AV} {A : Around} {env : Env} {ρ χ : List Addr} {s : Shared} {T : Addr} {vs : List Value} {Q : Unit → Shared → Prop} {E : Value → Shared → Prop} (hA : Ok n A) (hE : EnvOk sc env) (S : St C env σ ρ χ s)
    (hT : s.heap.IsTuple T (List.toArray vs)) (hvs : AllIs ρ (wide env.locals ρ χ) s.heap [r₁, r₂] vs) (h₁ : Sto C sc n t₁ r₁ σ σ₁) (h₂ : Sto C sc n t₂ r₂ σ₁ σ₂)
    (he : assignEach [t₁, t₂] env = [(false, assign t₁ env), (false, assign t₂ env)]) (h : ∀ s', Post C env σ₂ ρ χ s ρ s' → Q () s') : wpAny (model C.prog C.w) A (assign (.Tuple [t₁, t₂] k pos) env (.ref T)) Q E s := by
  simp only [AllIs] at hvs
  obtain ⟨v₁, _, rfl, hv₁, v₂, _, rfl, hv₂, rfl⟩ := hvs
  refine wpAny_assign_Tuple hA.handled hT (by rw [he]; rfl) (by rw [he]; rfl) fun h' hk => ?_
  rw [he]
  have P₀ := Post.grown (t := s.toks) S (h' := h') fun b o e => hk b o (fun z => by rw [z, noneSize] at e; cases e) e
  refine wpAny_assignInOrder_more ?_
  refine h₁ A env ρ χ _ v₁ _ E hA hE P₀.st (P₀.is hv₁) fun s₁ P₁ => ?_
  refine wpAny_assignInOrder_more ?_
  refine h₂ A env ρ χ s₁ v₂ _ E hA hE P₁.st (P₁.is (P₀.is hv₂)) fun s₂ P₂ => ?_
  exact wpAny_assignInOrder_none (h s₂ ((P₀.trans P₁).trans P₂))
theorem allIs_rho {ρ W : List Addr} {h : Heap} {xs : List AV} {vs : List Value} (e : AllIs [] W h xs vs) : AllIs ρ W h xs vs := e.evo (fun _ _ _ e => e) (fun _ h => .inl h) (List.nil_prefix)
theorem bind_pair {t₁ t₂ : Expr} {k : Nat} {pos : Pos} {r₁ r₂ : AV} (h₁ : Sto C sc n t₁ r₁ σ σ₁) (h₂ : Sto C sc n t₂ r₂ σ₁ σ₂) (he : ∀ env, assignEach [t₁, t₂] env = [(false, assign t₁ env), (false, assign t₂ env)] := by intro _; rfl) :
    Bind C sc n (.Tuple [t₁, t₂] k pos) (.tup [r₁, r₂]) σ σ₂ := fun A env ρ χ s v Q E hA hE S ⟨T, vs, hv, hT, hvs⟩ h => by
  subst hv
  exact sto_pair hA hE S hT (allIs_rho hvs) h₁ h₂ (he env) h
theorem ex_unpack {t₁ t₂ e : Expr} {k : Nat} {tpos pos : Pos} {r₁ r₂ : AV} (hv : Ev C sc n σ e (.tup [r₁, r₂]) σ₁) (h₁ : Sto C sc n t₁ r₁ σ₁ σ₂) (h₂ : Sto C sc n t₂ r₂ σ₂ σ₃) (he : ∀ env, assignEach [t₁, t₂] env = [(false, assign t₁ env), (false, assign t₂ env)] := by intro _; rfl)
    (hs : ∀ env, swapsWithSole [.Tuple [t₁, t₂] k tpos] e pos.line env = pure false := by intro _; rfl) (hw : ∀ env, swappedStores [.Tuple [t₁, t₂] k tpos] e env = pure none := by intro _; rfl) :
    Ex1 C sc n p σ (.Assign [.Tuple [t₁, t₂] k tpos] e pos) .next σ₃ := fun A env ρ χ s Q E hA hE S hp h =>
  Assign_Tuple (hv A env ρ χ s _ E hA hE S fun v s₁ ρ₁ P₁ hI => by
    simp only [AV.Is] at hI
    obtain ⟨a, vs, rfl, _, hT, hall⟩ := hI
    exact sto_pair hA hE P₁.st hT hall h₁ h₂ (he env) fun s' P' => h _ s' ρ₁ ((P₁.trans P').toS hp) rfl) (hs env) (hw env)
end Mine
namespace Mine
variable {C : Base} {sc : Scope} {n p : Nat} {σ σ₁ σ₂ σ₃ σ' : AS}

def enumFrom : Nat → List AV → List AV
  | _, [] => []
  | i, x :: xs => AV.tup [AV.int (i : Int), x] :: enumFrom (i + 1) xs
theorem enumFrom_length : ∀ {xs : List AV} {j : Nat}, (enumFrom j xs).length = xs.length
  | [], _ => rfl
  | _ :: xs, j => by simp [enumFrom, enumFrom_length (xs := xs)]
theorem enumFrom_get : ∀ {xs : List AV} {j i : Nat} {y : AV}, (enumFrom j xs)[i]? = some y → ∃ x, xs[i]? = some x ∧ y = .tup [.int ((j + i : Nat) : Int), x]
  | [], _, _, _, h => by simp [enumFrom] at h
  | x :: xs, j, 0, y, h => by simp only [enumFrom, List.getElem?_cons_zero, Option.some.injEq] at h; exact ⟨x, rfl, h.symm⟩
  | x :: xs, j, i + 1, y, h => by
    simp only [enumFrom, List.getElem?_cons_succ] at h ⊢
    obtain ⟨x', hx, rfl⟩ := enumFrom_get h
    exact ⟨x', hx, by rw [show j + 1 + i = j + (i + 1) by omega]⟩

/-- out of the library's walks of pairs -/
theorem itd_pairs {A : Around} {elts : List Expr} {k : Nat} {pos : Pos} {xs : List AV} {W : List Addr} {h : Heap} {I : Addr} {fp wr : List Addr} {Pt : Nat → Array Value → Prop} {Stt : Nat → Heap → Prop} {Mid : Nat → Addr → Heap → Prop}
    (Wk : WalksT C.prog C.w A I fp wr xs.length Pt Stt Mid) (h0 : Stt 0 h)
    (hlive : ∀ i h, Stt i h → ∀ b ∈ wr, ∃ o, h.get? b = some o) (hfoot : ∀ b ∈ fp, b ∉ wr → b ∉ W ∧ ∃ o, h.get? b = some o)
    (hitem : ∀ i x T vals h' W', xs[i]? = some x → Pt i vals → h'.IsTuple T vals → (∀ a o, a ∉ W → h.get? a = some o → h'.get? a = some o) → (∀ a ∈ W', a ∈ W ∨ h.get? a = none) → Item W' h' (.ref T) x) :
    ItData C A (.Tuple elts k pos) xs W h I fp wr (fun i v h => ∃ T vals, v = .ref T ∧ Pt i vals ∧ h.IsTuple T vals) (fun i v h => ∃ T vals, v = .ref T ∧ Pt i vals ∧ h.IsTuple T vals ∧ Mid i T h) Stt :=
  ⟨.ofWalksU Wk.toU, Wk.self, h0, hlive, hfoot, fun i x v h' W' hx hP hk hn => by
    obtain ⟨T, vals, rfl, hP, hT⟩ := hP
    exact hitem i x T vals h' W' hx hP hT hk hn⟩

theorem none_ge {h : Heap} {k : Nat} (hk : h.objs.size ≤ k) : h.get? k = none := by
  cases e : h.get? k with
  | none => rfl
  | some o => exact absurd (Heap.lt_size e) (Nat.not_lt.mpr hk)
theorem zapart {z a b : Nat} (h₁ : a < z) (h₂ : b < z) : ZipApart (z + 4) (z + 2) (z + 3) z (z + 1) a b := by
  constructor <;> (show @Ne Nat _ _; omega)
theorem evi_enum {y : Str} {p pos tp : Pos} {e : Expr} {elts : List Expr} {kk : Nat} {xs : List AV} (hx : sc.names.lookup y = some .globalImplicit) (hg : C.mg y = none) (hn : y ≠ "__name__") (hd : (y == ("__debug__" : Str)) = false)
    (hb : bootBuiltins y = some (.type "enumerate")) (ha : EvL C sc n σ pos [e] [.lst xs] σ') (hp : plains xs = true) (he : ∀ env, starEach [e] env = [(false, eval e env)] := by intro _; rfl) :
    EvI C sc n σ (.Tuple elts kk tp) (.Call (.Name y p) [e] [] pos) (enumFrom 0 xs) σ' := fun A env ρ χ s Q E hA hE S h => by
  refine call_bi_raw hx hg hn hd hb (.type _) ha (fun env => (he env).trans rfl) (fun _ => rfl) hA hE S fun us s₁ ρ₁ P₁ hvs => ?_
  simp only [AllIs, AV.Is] at hvs
  obtain ⟨v, vs', rfl, ⟨a, vs, rfl, ha, hl, hall⟩, rfl⟩ := hvs
  obtain ⟨o, ho, hr⟩ := id hl
  have hlt : a < s₁.heap.objs.size := Heap.lt_size ho
  have hlen : (List.toArray vs).size = (enumFrom 0 xs).length := by rw [List.size_toArray, hall.length, enumFrom_length]
  have fr1 : s₁.heap.get? (s₁.heap.objs.size + 1) = none := none_ge (Nat.le_succ _)
  refine call_enumerate_list hl fun h' hen hit hsz hk => ?_
  have hf : ∀ b ∈ [s₁.heap.objs.size + 1, s₁.heap.objs.size], s₁.heap.get? b = none := fun b hb => by
    simp only [List.mem_cons, List.not_mem_nil, or_false] at hb
    rcases hb with rfl | rfl
    · exact fr1
    · exact noneSize _
  have hlist : h'.IsList a (List.toArray vs) := ⟨o, hk _ _ ho, hr⟩
  refine wpAny_pyIter_enum (show IsEnum h' _ _ _ _ from hen) (evi_fin (t := s₁.toks) P₁ hf (fun b hb => ?_) (by simp) hk
    (itd_pairs (hlen ▸ WalksT.enumerate hA.handled (s₁.heap.objs.size + 1) s₁.heap.objs.size a (Nat.succ_ne_self _) (Nat.ne_of_lt (Nat.lt_succ_of_lt hlt)) (Nat.ne_of_lt hlt) (List.toArray vs)) ⟨⟨_, hen⟩, hit, hlist⟩
      (fun i h hs b hb => ?_) (fun b hb hw => ?_) fun i x T vals h'' W' hx hP hT hk' hn => ?_) h)
  · simp only [List.mem_cons, List.not_mem_nil, or_false] at hb
    rcases hb with rfl | rfl
    · exact ⟨_, hen⟩
    · exact ⟨_, hit.choose_spec.1⟩
  · obtain ⟨⟨old, h1⟩, h2, _⟩ := hs
    simp only [List.mem_cons, List.not_mem_nil, or_false] at hb
    rcases hb with rfl | rfl
    · exact ⟨_, h1⟩
    · exact ⟨_, h2.choose_spec.1⟩
  · simp only [List.mem_cons, List.not_mem_nil, or_false] at hb hw
    rcases hb with rfl | rfl | rfl
    · exact absurd (.inl rfl) hw
    · exact absurd (.inr rfl) hw
    · exact ⟨off_res ha ho hf, o, hk _ _ ho⟩
  · obtain ⟨y, hy, rfl⟩ := enumFrom_get hx
    obtain ⟨t, v, hv, rfl⟩ := hP
    have hv' : vs[i]? = some v := by simpa using hv
    refine ⟨T, [.int i t, v], rfl, hT, ?_⟩
    simp only [AllIs]
    exact ⟨_, _, rfl, ⟨t, by rw [Nat.zero_add]⟩, _, _, rfl, item_stays hall hp hy hv' hf hk hk' hn, rfl⟩

theorem evi_zip {y : Str} {p pos tp : Pos} {e₁ e₂ : Expr} {elts : List Expr} {kk : Nat} {xs ys : List AV} (hx : sc.names.lookup y = some .globalImplicit) (hg : C.mg y = none) (hn : y ≠ "__name__") (hd : (y == ("__debug__" : Str)) = false)
    (hb : bootBuiltins y = some (.type "zip")) (ha : EvL C sc n σ pos [e₁, e₂] [.lst xs, .lst ys] σ') (hp : plains xs = true) (hq : plains ys = true) (he : ∀ env, starEach [e₁, e₂] env = (false, eval e₁ env) :: starEach [e₂] env := by intro _; rfl)
    (hplain : ∀ env, (backTo pos (starEach [e₂] env)).any (·.1) = false := by intro _; rfl) :
    EvI C sc n σ (.Tuple elts kk tp) (.Call (.Name y p) [e₁, e₂] [] pos) (List.zipWith (fun x y => AV.tup [x, y]) xs ys) σ' := fun A env ρ χ s Q E hA hE S h => by
  refine call_bi_raw hx hg hn hd hb (.type _) ha he hplain hA hE S fun us s₁ ρ₁ P₁ hvs => ?_
  simp only [AllIs, AV.Is] at hvs
  obtain ⟨v, vs', rfl, ⟨a, vs, rfl, ha, hl, hall⟩, v', vs'', rfl, ⟨b, ws, rfl, hb, hm, hall'⟩, rfl⟩ := hvs
  obtain ⟨o, ho, hr⟩ := id hl
  obtain ⟨o', ho', hr'⟩ := id hm
  have hlt : a < s₁.heap.objs.size := Heap.lt_size ho
  have hlt' : b < s₁.heap.objs.size := Heap.lt_size ho'
  generalize hz : s₁.heap.objs.size = z at *
  have hlen : min (List.toArray vs).size (List.toArray ws).size = (List.zipWith (fun x y => AV.tup [x, y]) xs ys).length := by simp [hall.length, hall'.length]
  have fr : ∀ k : Nat, z ≤ k → s₁.heap.get? k = none := fun k hk => none_ge (by rw [hz]; exact hk)
  refine call_zip_2 hl hm fun h' hZ hTI hTO h1 h2 hsz hk => ?_
  rw [hz] at hZ hTI hTO h1 h2 hsz ⊢
  have hf : ∀ c ∈ [z + 4, z + 3, z, z + 1], s₁.heap.get? c = none := fun c hc => by
    simp only [List.mem_cons, List.not_mem_nil, or_false] at hc
    rcases hc with rfl | rfl | rfl | rfl <;> exact fr _ (by omega)
  have hlist : h'.IsList a (List.toArray vs) := ⟨o, hk _ _ ho, hr⟩
  have hlist' : h'.IsList b (List.toArray ws) := ⟨o', hk _ _ ho', hr'⟩
  have D : ZipApart (z + 4) (z + 2) (z + 3) z (z + 1) a b := zapart hlt hlt'
  refine wpAny_pyIter_zip (show IsZip h' _ _ _ _ from hZ) (evi_fin (t := s₁.toks) P₁ hf (fun c hc => ?_) (by simp) hk
    (itd_pairs (hlen ▸ WalksT.zip2 hA.handled (z + 4) (z + 2) (z + 3) z (z + 1) a b D (List.toArray vs) (List.toArray ws)) ⟨hZ, hTI, ⟨_, _, hTO⟩, h1, h2, hlist, hlist'⟩
      (fun i h hs c hc => ?_) (fun c hc hw => ?_) fun i x T vals h'' W' hx hP hT hk' hn => ?_) h)
  · simp only [List.mem_cons, List.not_mem_nil, or_false] at hc
    rcases hc with rfl | rfl | rfl | rfl
    · exact ⟨_, hZ⟩
    · exact ⟨_, hTO⟩
    · exact ⟨_, h1.choose_spec.1⟩
    · exact ⟨_, h2.choose_spec.1⟩
  · obtain ⟨hZ, hTI, ⟨_, _, hTO⟩, h1, h2, _⟩ := hs
    simp only [List.mem_cons, List.not_mem_nil, or_false] at hc
    rcases hc with rfl | rfl | rfl | rfl
    · exact ⟨_, hZ⟩
    · exact ⟨_, hTO⟩
    · exact ⟨_, h1.choose_spec.1⟩
    · exact ⟨_, h2.choose_spec.1⟩
  · simp only [List.mem_cons, List.not_mem_nil, or_false] at hc hw
    rcases hc with rfl | rfl | rfl | rfl | rfl | rfl | rfl
    · exact absurd (.inl rfl) hw
    · refine ⟨fun hm => ?_, _, hTI⟩
      have hn := newRes (t := s₁.toks) (h' := h') P₁.st hf ?_ (by simp) hk
      · have hnew : z + 2 ∉ wide env.locals ρ₁ χ := fun q => by obtain ⟨o, e⟩ := P₁.st.alc _ q; rw [fr (z + 2) (by omega)] at e; cases e
        rcases List.mem_cons.mp hm with q | q
        · exact hnew (List.mem_cons.mpr (.inl q))
        · rcases List.mem_append.mp q with q | q
          · exact hnew (List.mem_cons_of_mem _ (List.mem_append_left _ q))
          · rcases List.mem_append.mp q with q | q
            · revert q; simp
            · exact hnew (List.mem_cons_of_mem _ (List.mem_append_right _ q))
      · intro c hc
        simp only [List.mem_cons, List.not_mem_nil, or_false] at hc
        rcases hc with rfl | rfl | rfl | rfl
        · exact ⟨_, hZ⟩
        · exact ⟨_, hTO⟩
        · exact ⟨_, h1.choose_spec.1⟩
        · exact ⟨_, h2.choose_spec.1⟩
    · exact absurd (.inr (.inl rfl)) hw
    · exact absurd (.inr (.inr (.inl rfl))) hw
    · exact absurd (.inr (.inr (.inr rfl))) hw
    · exact ⟨off_res ha ho hf, o, hk _ _ ho⟩
    · exact ⟨off_res hb ho' hf, o', hk _ _ ho'⟩
  · obtain ⟨u, u', hu, hu', rfl⟩ := hP
    have hu₁ : vs[i]? = some u := by simpa using hu
    have hu₂ : ws[i]? = some u' := by simpa using hu'
    rw [List.getElem?_zipWith] at hx
    cases hxi : xs[i]? with
    | none => rw [hxi] at hx; cases hx
    | some x₁ =>
      cases hyi : ys[i]? with
      | none => rw [hxi, hyi] at hx; cases hx
      | some y₁ =>
        rw [hxi, hyi] at hx
        simp only [Option.some.injEq] at hx
        subst hx
        refine ⟨T, [u, u'], rfl, hT, ?_⟩
        simp only [AllIs]
        exact ⟨_, _, rfl, item_stays hall hp hxi hu₁ hf hk hk' hn, _, _, rfl, item_stays hall' hq hyi hu₂ hf hk hk' hn, rfl⟩
end Mine
namespace Mine
variable {C : Base} {sc : Scope} {n p : Nat} {σ σ₁ σ₂ σ₃ σ' : AS}

section
variable {env : Env} {ρ χ ws : List Addr} {s : Shared}
theorem res_off {L : Addr} {ρ χ : List Addr} {b : Addr} (h : (wide L ρ χ).Nodup) (hb : b ∈ χ) : b ∉ L :: ρ := fun hm => by
  have hp : List.Perm (wide L ρ χ) (χ ++ (L :: ρ)) := (List.perm_append_comm (l₁ := L :: ρ) (l₂ := χ))
  have h' := hp.nodup_iff.mp h
  rw [List.nodup_append] at h'
  exact h'.2.2 b hb b hm rfl
/-- what is reserved changes -/
theorem St.offs (S : St C env σ ρ χ s) {h' : Heap} {t : Nat} (hw : ∀ b ∈ ws, b ∈ χ) (hC : ∀ b ∈ ws, C.H.get? b = none) (hx : ∀ q ∈ σ.cx, ∀ a, env.cells.lookup q.1 = some a → a ∉ ws)
    (hk : ∀ b o, b ∉ ws → s.heap.get? b = some o → h'.get? b = some o) (hl : ∀ b ∈ ws, ∃ o, h'.get? b = some o) : St C env σ ρ χ { s with heap := h', toks := t } := by
  have hoff : ∀ b ∈ ws, b ∉ env.locals :: ρ := fun b hb => res_off S.nod (hw b hb)
  have hW : ∀ a, a ∉ wide env.locals ρ χ → a ∉ ws := fun a ha hm => ha (List.mem_cons_of_mem _ (List.mem_append_right _ (hw a hm)))
  have keep : ∀ a o, a ∉ wide env.locals ρ χ → s.heap.get? a = some o → h'.get? a = some o := fun a o ha e => hk a o (hW a ha) e
  have new : ∀ a ∈ wide env.locals ρ χ, a ∈ wide env.locals ρ χ ∨ s.heap.get? a = none := fun a h => .inl h
  have own : ∀ a ∈ env.locals :: ρ, a ∉ ws := fun a ha hm => hoff a hm ha
  refine ⟨fun a o e => ?_, S.gens, S.os, S.len, S.nod, S.out, S.above, fun a ha => ?_, ?_, S.keys, fun p hp => ?_, fun k o hk' => ?_⟩
  · exact hk a o (fun hm => by rw [hC a hm] at e; cases e) (S.base a o e)
  · by_cases hm : a ∈ ws
    · exact hl a hm
    · obtain ⟨o, e⟩ := S.alc a ha; exact ⟨o, hk a o hm e⟩
  · obtain ⟨m, hm, hl'⟩ := S.ns
    exact ⟨m, hm.at' fun o e => hk _ o (own _ List.mem_cons_self) e, fun p hp => let ⟨a, b, v, hv, hi⟩ := hl' p hp; ⟨a, b, v, hv, hi.evo keep new (List.prefix_refl _)⟩⟩
  · obtain ⟨a, b, c, d, hd, he⟩ := S.cx p hp
    refine ⟨a, b, c, d, hd, ?_⟩
    cases hq : p.2 with
    | own k => rw [hq] at he; exact he
    | cap r =>
      rw [hq] at he
      obtain ⟨h1, v, ⟨o, ho, hc⟩, hi⟩ := he
      exact ⟨h1, v, ⟨o, hk d o (hx p hp d hd) ho, hc⟩, hi.evo keep new (List.prefix_refl _)⟩
  · obtain ⟨a, ha, hi⟩ := S.own k o hk'
    exact ⟨a, ha, hi.evo keep new (List.prefix_refl _) fun o e => hk a o (own a (List.mem_cons_of_mem _ (List.mem_of_getElem? ha))) e⟩
end

/-! ### cells -/
def cellNames (names : List (Str × NameKind)) : List Str := (names.filter (·.2 == .cell)).map (·.1)
theorem cf_free {x : Str} : ∀ {names : List (Str × NameKind)} {k : Nat} {acc : List (Str × Addr)}, x ∉ cellNames names → (cellsFrom k names acc).lookup x = acc.lookup x
  | [], _, _, _ => rfl
  | (nm, kd) :: r, k, acc, h => by
    unfold cellsFrom
    cases hk : kd == NameKind.cell with
    | true =>
      simp only [if_true]
      have h' : ¬ (x = nm ∨ x ∈ cellNames r) := by
        intro z; apply h
        show x ∈ (((nm, kd) :: r).filter (·.2 == .cell)).map (·.1)
        rw [List.filter_cons_of_pos (by exact hk)]
        rcases z with rfl | z
        · exact List.mem_cons_self
        · exact List.mem_cons_of_mem _ z
      rw [cf_free (fun z => h' (.inr z)), List.lookup_cons]
      have : (x == nm) = false := by
        cases q : x == nm with
        | false => rfl
        | true => exact absurd (.inl (beq_iff_eq.mp q)) h'
      rw [this]
    | false =>
      simp only [Bool.false_eq_true, if_false]
      refine cf_free fun z => h ?_
      show x ∈ (((nm, kd) :: r).filter (·.2 == .cell)).map (·.1)
      rw [List.filter_cons_of_neg (by simp [hk])]
      exact z
theorem cf_own {x : Str} : ∀ {names : List (Str × NameKind)} {k j : Nat} {acc : List (Str × Addr)}, (cellNames names).Nodup → (cellNames names)[j]? = some x → (cellsFrom k names acc).lookup x = some (k + j)
  | [], _, _, _, _, h => by simp [cellNames] at h
  | (nm, kd) :: r, k, j, acc, hn, h => by
    unfold cellsFrom
    cases hk : kd == NameKind.cell with
    | true =>
      have e : cellNames ((nm, kd) :: r) = nm :: cellNames r := by
        show (((nm, kd) :: r).filter (·.2 == .cell)).map (·.1) = _
        rw [List.filter_cons_of_pos (by exact hk)]; rfl
      rw [e] at hn h
      simp only [if_true]
      cases j with
      | zero =>
        simp only [List.getElem?_cons_zero, Option.some.injEq] at h
        subst h
        rw [cf_free (List.nodup_cons.mp hn).1, List.lookup_cons, beq_self_eq_true]
        rfl
      | succ j =>
        simp only [List.getElem?_cons_succ] at h
        rw [cf_own (List.nodup_cons.mp hn).2 h]
        congr 1
        show (k + 1 + j : Nat) = k + (j + 1)
        omega
    | false =>
      have e : cellNames ((nm, kd) :: r) = cellNames r := by
        show (((nm, kd) :: r).filter (·.2 == .cell)).map (·.1) = _
        rw [List.filter_cons_of_neg (by simp [hk])]; rfl
      rw [e] at hn h
      simp only [Bool.false_eq_true, if_false]
      exact cf_own hn h
theorem pc_cell : ∀ {names : List (Str × NameKind)} {h : Heap} {j : Nat}, j < (cellNames names).length → (pushCells h names).IsCell (h.objs.size + j) none
  | [], _, _, hj => by simp [cellNames] at hj
  | (nm, kd) :: r, h, j, hj => by
    unfold pushCells
    cases hk : kd == NameKind.cell with
    | true =>
      have e : cellNames ((nm, kd) :: r) = nm :: cellNames r := by
        show (((nm, kd) :: r).filter (·.2 == .cell)).map (·.1) = _
        rw [List.filter_cons_of_pos (by exact hk)]; rfl
      rw [e] at hj
      simp only [if_true]
      cases j with
      | zero => exact ⟨_, pushCells_keeps r _ _ _ (Heap.get?_push_size _ rfl), rfl⟩
      | succ j =>
        have := pc_cell (names := r) (h := h.push { cls := .type "cell", data := .cell none }) (j := j) (by simpa using hj)
        rw [Heap.size_push] at this
        rw [show h.objs.size + (j + 1) = h.objs.size + 1 + j by omega]
        exact this
    | false =>
      have e : cellNames ((nm, kd) :: r) = cellNames r := by
        show (((nm, kd) :: r).filter (·.2 == .cell)).map (·.1) = _
        rw [List.filter_cons_of_neg (by simp [hk])]; rfl
      rw [e] at hj
      simp only [Bool.false_eq_true, if_false]
      exact pc_cell hj

def closList (cells : List (Str × Addr)) : List (Str × NameKind) → List (Str × Addr) → List (Str × Addr)
  | [], acc => acc
  | (x, k) :: r, acc => closList cells r (if k == .free then (x, (cells.lookup x).getD 0) :: acc else acc)
theorem clos_eq {env : Env} {scope : Scope} (h : ∀ x, (x, NameKind.free) ∈ scope.names → (env.cells.lookup x).isSome = true) : closureFor scope env = pure (closList env.cells scope.names []) := by
  unfold closureFor
  have key : ∀ (names : List (Str × NameKind)) (acc : List (Str × Addr)), (∀ x, (x, NameKind.free) ∈ names → (env.cells.lookup x).isSome = true) →
      (forIn names acc fun (x : Str × NameKind) (cs : List (Str × Addr)) => (if (x.2 == NameKind.free) = true then (do let a ← cellOf env x.1; pure (ForInStep.yield ((x.1, a) :: cs))) else pure (ForInStep.yield cs) : Sem (ForInStep (List (Str × Addr))))) = pure (closList env.cells names acc) := by
    intro names
    induction names with
    | nil => intro acc _; rfl
    | cons p r ih =>
      intro acc h
      obtain ⟨x, k⟩ := p
      rw [List.forIn_cons]
      cases hk : k == NameKind.free with
      | true =>
        have hx := h x (by rw [beq_iff_eq.mp hk]; exact List.mem_cons_self)
        obtain ⟨a, ha⟩ := Option.isSome_iff_exists.mp hx
        have hc : cellOf env x = pure a := by unfold cellOf; rw [ha]
        simp only [if_true, hc]
        show (forIn r _ _ : Sem _) = _
        rw [ih _ fun y hy => h y (List.mem_cons_of_mem _ hy)]
        rw [closList, hk, ha]; rfl
      | false =>
        simp only [Bool.false_eq_true, if_false]
        show (forIn r acc _ : Sem _) = _
        rw [ih _ fun y hy => h y (List.mem_cons_of_mem _ hy)]
        rw [closList, hk]; rfl
  have := key scope.names [] h
  rw [show ∀ t : Sem (List (Str × Addr)), (t >>= fun x => pure x) = t from bind_pure]
  exact this
theorem clos_lookup {cells : List (Str × Addr)} {x : Str} : ∀ {names : List (Str × NameKind)} {acc : List (Str × Addr)}, (x, NameKind.free) ∈ names → (cells.lookup x).isSome = true → (closList cells names acc).lookup x = cells.lookup x := by
  have keep : ∀ (names : List (Str × NameKind)) (acc : List (Str × Addr)), (cells.lookup x).isSome = true → acc.lookup x = cells.lookup x → (closList cells names acc).lookup x = cells.lookup x := by
    intro names
    induction names with
    | nil => intro acc _ h; exact h
    | cons p r ih =>
      intro acc hs h
      obtain ⟨y, k⟩ := p
      unfold closList
      refine ih _ hs ?_
      split
      · rw [List.lookup_cons]
        cases q : x == y with
        | false => exact h
        | true =>
          obtain ⟨a, ha⟩ := Option.isSome_iff_exists.mp hs
          rw [← beq_iff_eq.mp q, ha]; rfl
      · exact h
  intro names
  induction names with
  | nil => intro acc h; cases h
  | cons p r ih =>
    intro acc h hs
    obtain ⟨y, k⟩ := p
    unfold closList
    rcases List.mem_cons.mp h with e | h
    · cases e
      refine keep r _ hs ?_
      rw [if_pos (by rfl), List.lookup_cons, beq_self_eq_true]
      obtain ⟨a, ha⟩ := Option.isSome_iff_exists.mp hs
      rw [ha]; rfl
    · exact ih h hs

/-- the scope of a block in a function of scope `sc` -/
def rsc (scope sc : Scope) : Scope := { scope with names := scope.names.map fun (n, k) => if (k == .free && sc.kind == .function && sc.names.lookup n == some .cell) then (n, .cell) else (n, k) }
theorem relabel_eq {scope : Scope} {env : Env} (hE : EnvOk sc env) : relabel scope env = rsc scope sc := by
  have hk := hE.kind
  unfold relabel rsc
  rw [hE.scope]
  simp only [hk]
end Mine
namespace Mine
variable {C : Base} {sc : Scope} {n p : Nat} {σ σ₁ σ₂ σ₃ σ' τ τ₁ τ₂ τ₃ τ' : AS}

inductive Tst (C : Base) (sc : Scope) (n : Nat) : List Expr → AS → Bool → AS → Prop
  | nil {τ : AS} : Tst C sc n [] τ true τ
  | one {c : Expr} {τ τ' : AS} {b : Bool} : EvT C sc n τ c b τ' → Tst C sc n [c] τ b τ'

def Emit (C : Base) (sc : Scope) (n : Nat) (emit : Value → Env → Sem Unit) (τ : AS) (rs : List AV) (τ' : AS) : Prop :=
  ∀ (A : Around) (env : Env) (ρ χ : List Addr) (acc : Addr) (s : Shared) (ys : List Value) (ws : List AV) (Q : Unit → Shared → Prop) (E : Value → Shared → Prop), Ok n A → EnvOk sc env → St C env τ ρ χ s →
    acc ∈ χ → C.H.get? acc = none → (∀ q ∈ τ.cx, ∀ a, env.cells.lookup q.1 = some a → a ≠ acc) → ws.length + rs.length ≤ 2 ^ 20 → Lo s.heap acc ys → AllIs [] (wide env.locals ρ χ) s.heap ws ys →
    (∀ s' ρ' ys', St C env τ' ρ' χ s' → Evo (acc :: env.locals :: ρ) ρ s.heap ρ' s'.heap → ρ <+: ρ' → Lo s'.heap acc ys' → AllIs [] (wide env.locals ρ' χ) s'.heap (ws ++ rs) ys' → Q () s') →
    wpAny (model C.prog C.w) A (emit (.ref acc) env) Q E s

inductive CompTo (C : Base) (sc : Scope) (n : Nat) (target : Expr) (ifs : List Expr) (emit : Value → Env → Sem Unit) : List AV → AS → List AV → AS → Prop
  | done {τ : AS} : CompTo C sc n target ifs emit [] τ [] τ
  | keep {x : AV} {xs r rs : List AV} {τ τ₁ τ₂ τ₃ τ' : AS} : Bind C sc n target x τ τ₁ → Tst C sc n ifs τ₁ true τ₂ → Emit C sc n emit τ₂ r τ₃ → τ₂.cx = τ.cx → τ₃.cx = τ.cx → CompTo C sc n target ifs emit xs τ₃ rs τ' → CompTo C sc n target ifs emit (x :: xs) τ (r ++ rs) τ'
  | drop {x : AV} {xs rs : List AV} {τ τ₁ τ₂ τ' : AS} : Bind C sc n target x τ τ₁ → Tst C sc n ifs τ₁ false τ₂ → τ₂.cx = τ.cx → CompTo C sc n target ifs emit xs τ₂ rs τ' → CompTo C sc n target ifs emit (x :: xs) τ rs τ'

theorem Evo.mono {P P' ρ : List Addr} {h : Heap} {ρ' : List Addr} {h' : Heap} (x : Evo P ρ h ρ' h') (hP : ∀ a ∈ P, a ∈ P') : Evo P' ρ h ρ' h' := ⟨fun a o ha e => x.keep a o (fun hm => ha (hP a hm)) e, x.live, x.new⟩
/-- steps one after another, all off `P` -/
theorem Evo.then {P P' ρ : List Addr} {h : Heap} {ρ' : List Addr} {h' : Heap} {ρ'' : List Addr} {h'' : Heap} (x : Evo P ρ h ρ' h') (y : Evo P' ρ' h' ρ'' h'') (hP : ∀ a ∈ P', a ∈ P ∨ h.get? a = none) : Evo P ρ h ρ'' h'' := by
  refine ⟨fun a o ha e => y.keep a o (fun hm => ?_) (x.keep a o ha e), fun a o e => ?_, fun a ha => ?_⟩
  · rcases hP a hm with q | q
    · exact ha q
    · rw [q] at e; cases e
  · obtain ⟨o', e'⟩ := x.live a o e
    exact y.live a o' e'
  · rcases y.new a ha with q | q
    · exact x.new a q
    · cases hq : h.get? a with
      | none => exact .inr rfl
      | some o =>
        obtain ⟨o', e'⟩ := x.live a o hq
        rw [q] at e'; cases e'

section
variable {env : Env} {ρ χ : List Addr} {s : Shared}
theorem Lo.at' {h h' : Heap} {a : Addr} {vs : List Value} (x : Lo h a vs) (e : ∀ o, h.get? a = some o → h'.get? a = some o) : Lo h' a vs := let ⟨n, ho⟩ := x; ⟨n, e _ ho⟩
theorem St.newW (S : St C env σ ρ χ s) {ρ' : List Addr} (hn : ∀ a ∈ ρ', a ∈ ρ ∨ s.heap.get? a = none) : ∀ a ∈ wide env.locals ρ' χ, a ∈ wide env.locals ρ χ ∨ s.heap.get? a = none := fun a ha => by
  rcases List.mem_cons.mp ha with h | h
  · exact .inl (List.mem_cons.mpr (.inl h))
  · rcases List.mem_append.mp h with h | h
    · rcases hn a h with q | q
      · exact .inl (List.mem_cons_of_mem _ (List.mem_append_left _ q))
      · exact .inr q
    · exact .inl (List.mem_cons_of_mem _ (List.mem_append_right _ h))
end

theorem emit_elt {elt : Expr} {r : AV} (h₁ : Ev C sc n τ elt r τ') (hr : r.plain = true) (hcx : τ'.cx = τ.cx := by rfl) :
    Emit C sc n (fun acc env => do let _ ← call (.builtin "list.append") [acc, ← eval elt env]) τ [r] τ' := fun A env ρ χ acc s ys ws Q E hA hE S hacc hC hx hz hlo hall h => by
  show wpAny _ A (eval elt env >>= fun x => call (.builtin "list.append") [.ref acc, x] >>= fun _ => pure ()) Q E s
  refine wpAny_bind (h₁ A env ρ χ s _ E hA hE S fun v s₁ ρ₁ P₁ hv => ?_)
  have hoff := res_off S.nod hacc
  have hlo₁ : Lo s₁.heap acc ys := hlo.at' fun o e => P₁.evo.keep acc o hoff e
  have hall₁ : AllIs [] (wide env.locals ρ₁ χ) s₁.heap ws ys := hall.evo (fun a o ha e => P₁.evo.keep a o (fun hm => ha (by
    rcases List.mem_cons.mp hm with q | q
    · exact List.mem_cons.mpr (.inl q)
    · exact List.mem_cons_of_mem _ (List.mem_append_left _ q))) e) (S.newW P₁.evo.new) (List.prefix_refl _)
  obtain ⟨m₁, hl₁⟩ := id hlo₁
  refine wpAny_bind (call_meets slot_list_append ⟨_, hl₁, rfl⟩ entry_list_append (args_list_append _ _) (PySem.list_append acc _ m₁ v (by rw [List.size_toArray, hall₁.length]; unfold sizeLine; simp only [List.length_cons, List.length_nil] at hz; omega)) ⟨hl₁, ?_⟩)
  refine wpAny_pure ?_
  have hs : Heap.SameBut acc s₁.heap (s₁.heap.update acc (Obj.mapSeq (·.push v))) := Heap.SameBut.update ..
  have hlo₂ : Lo (s₁.heap.update acc (Obj.mapSeq (·.push v))) acc (ys ++ [v]) := hlo₁.update (us := ys ++ [v]) (by simp)
  have hcx' : ∀ q ∈ τ'.cx, ∀ a, env.cells.lookup q.1 = some a → a ∉ [acc] := fun q hq a ha hm => hx q (hcx ▸ hq) a ha (List.mem_singleton.mp hm)
  have hk : ∀ b o, b ∉ [acc] → s₁.heap.get? b = some o → (s₁.heap.update acc (Obj.mapSeq (·.push v))).get? b = some o := fun b o hb e => hs.extBut b o (fun q => hb (List.mem_singleton.mpr q)) e
  have hl : ∀ b ∈ [acc], ∃ o, (s₁.heap.update acc (Obj.mapSeq (·.push v))).get? b = some o := fun b hb => by rw [List.mem_singleton.mp hb]; exact ⟨_, hlo₂.choose_spec⟩
  have hW : ∀ a, a ∉ wide env.locals ρ₁ χ → a ∉ [acc] := fun a ha hm => ha (by rw [List.mem_singleton.mp hm]; exact List.mem_cons_of_mem _ (List.mem_append_right _ hacc))
  refine h _ ρ₁ (ys ++ [v]) (P₁.st.offs (ws := [acc]) (t := s₁.toks) (fun b hb => by rw [List.mem_singleton.mp hb]; exact hacc) (fun b hb => by rw [List.mem_singleton.mp hb]; exact hC) hcx' hk hl) ?_ P₁.pre hlo₂ ?_
  · refine ⟨fun a o ha e => hk a o (fun hm => ha (by rw [List.mem_singleton.mp hm]; exact List.mem_cons_self)) (P₁.evo.keep a o (fun hm => ha (List.mem_cons_of_mem _ hm)) e), fun a o e => ?_, P₁.evo.new⟩
    obtain ⟨o', e'⟩ := P₁.evo.live a o e
    by_cases hm : a ∈ [acc]
    · exact hl a hm
    · exact ⟨o', hk a o' hm e'⟩
  · refine (hall₁.append (AllIs.one (AV.Is.plain (fun _ h => h) hr hv))).evo (fun a o ha e => hk a o (hW a ha) e) (fun a ha => .inl ha) (List.prefix_refl _)

/-- the turn of a block, whatever it gives out -/
def turnOf (ip : Pos) (target : Expr) (ifs : List Expr) (it : Value) (env : Env) (emit : Sem Unit) (next : Sem Fin) : Sem Fin := do
  standAt ip
  match ← pyNext it with
  | none => pure (.done .next)
  | some v =>
    letOwnedTupleGo target it v
    assign target env v
    let mut ok := true
    for c in ifs do
      if ok then ok ← isTrue c env (eval c env)
    if ok then emit
    next

theorem turn_one (elt target iter : Expr) (ifs : List Expr) (scope : Scope) (pos : Pos) (it acc : Value) (env : Env) :
    compTurn (.ListComp elt [⟨target, iter, ifs, 0⟩] scope pos) 0 it acc env =
      turnOf iter.pos target ifs it env (do let _ ← call (.builtin "list.append") [acc, ← eval elt env]) (again (.compLoop (.ListComp elt [⟨target, iter, ifs, 0⟩] scope pos) 0 it acc env)) := by rfl
theorem turn_in (elt t₁ i₁ target iter : Expr) (ifs₁ ifs : List Expr) (scope : Scope) (pos : Pos) (it acc : Value) (env : Env) :
    compTurn (.ListComp elt [⟨t₁, i₁, ifs₁, 0⟩, ⟨target, iter, ifs, 0⟩] scope pos) 1 it acc env =
      turnOf iter.pos target ifs it env (do let _ ← call (.builtin "list.append") [acc, ← eval elt env]) (again (.compLoop (.ListComp elt [⟨t₁, i₁, ifs₁, 0⟩, ⟨target, iter, ifs, 0⟩] scope pos) 1 it acc env)) := by rfl
theorem turn_out (elt target iter t₂ i₂ : Expr) (ifs ifs₂ : List Expr) (scope : Scope) (pos : Pos) (it acc : Value) (env : Env) :
    compTurn (.ListComp elt [⟨target, iter, ifs, 0⟩, ⟨t₂, i₂, ifs₂, 0⟩] scope pos) 0 it acc env =
      turnOf iter.pos target ifs it env (do
        let x ← eval i₂ env
        standAt i₂.pos
        let x ← foldedSetIterable i₂ env x
        let _ ← runOwn (.compStart (.ListComp elt [⟨target, iter, ifs, 0⟩, ⟨t₂, i₂, ifs₂, 0⟩] scope pos) 1 (← holding [x] (pyIter x)) acc env) env)
        (again (.compLoop (.ListComp elt [⟨target, iter, ifs, 0⟩, ⟨t₂, i₂, ifs₂, 0⟩] scope pos) 0 it acc env)) := by
  have h : compTurn (.ListComp elt [⟨target, iter, ifs, 0⟩, ⟨t₂, i₂, ifs₂, 0⟩] scope pos) 0 it acc env = (do
      standAt iter.pos
      match ← pyNext it with
      | none => pure (.done .next)
      | some v =>
        letOwnedTupleGo target it v
        assign target env v
        let mut ok := true
        for c in ifs do
          if ok then ok ← isTrue c env (eval c env)
        if ok then
          let x ← eval i₂ env
          standAt i₂.pos
          let x ← foldedSetIterable i₂ env x
          let _ ← runOwn (.compStart (.ListComp elt [⟨target, iter, ifs, 0⟩, ⟨t₂, i₂, ifs₂, 0⟩] scope pos) 1 (← holding [x] (pyIter x)) acc env) env
        again (.compLoop (.ListComp elt [⟨target, iter, ifs, 0⟩, ⟨t₂, i₂, ifs₂, 0⟩] scope pos) 0 it acc env)) := by rfl
  rw [h]
  unfold turnOf
  congr 1
  funext _
  congr 1
  funext r
  cases r with
  | none => rfl
  | some v =>
    dsimp only
    congr 1
    funext _
    congr 1
    funext _
    congr 1
    funext ok
    cases ok with
    | false => rfl
    | true => simp only [if_true, bind_assoc, pure_bind]
end Mine
namespace Mine
variable {C : Base} {sc : Scope} {n p : Nat} {σ σ₁ σ₂ σ₃ σ' τ τ₁ τ₂ τ₃ τ' : AS}

theorem tst_run {ifs : List Expr} {b : Bool} {A : Around} {env : Env} {ρ χ : List Addr} {s : Shared} {Q : Bool → Shared → Prop} {E : Value → Shared → Prop} (h : Tst C sc n ifs τ b τ') (hA : Ok n A) (hE : EnvOk sc env) (S : St C env τ ρ χ s)
    (k : ∀ s' ρ', Post C env τ' ρ χ s ρ' s' → Q b s') :
    wpAny (model C.prog C.w) A (forIn ifs true fun c r => if r = true then do let ok ← isTrue c env (eval c env); pure (ForInStep.yield ok) else pure (ForInStep.yield r)) Q E s := by
  cases h with
  | nil => exact wpAny_tests_nil (k s ρ (Post.refl S))
  | one h => exact wpAny_tests_one (h A env ρ χ s _ E hA hE S fun c s' ρ' P hc => by subst hc; exact k s' ρ' P)

theorem comp_loop {elt : Expr} {gens : List Comprehension} {scope : Scope} {pos ip : Pos} {d : Nat} {target : Expr} {ifs : List Expr} {emit : Value → Env → Sem Unit}
    (hturn : ∀ it acc env, compTurn (.ListComp elt gens scope pos) d it acc env = turnOf ip target ifs it env (emit acc env) (again (.compLoop (.ListComp elt gens scope pos) d it acc env)))
    {A : Around} {env : Env} {ρ χ : List Addr} {s : Shared} {xs rs ws : List AV} {ys : List Value} {W : List Addr} {h₀ : Heap} {I acc : Addr} {fp wr : List Addr} {P Md : Nat → Value → Heap → Prop} {Stt : Nat → Heap → Prop} {R : Result → Shared → Prop}
    (hA : Ok n A) (hE : EnvOk sc env) (D : ItData C A target xs W h₀ I fp wr P Md Stt) (S : St C env τ ρ (wr ++ χ) s) (hacc : acc ∈ χ) (hCa : C.H.get? acc = none) (hxa : ∀ q ∈ τ.cx, ∀ a, env.cells.lookup q.1 = some a → a ≠ acc)
    (hC : ∀ b ∈ wr, C.H.get? b = none) (hx : ∀ q ∈ τ.cx, ∀ a, env.cells.lookup q.1 = some a → a ∉ wr) (c1 : ∀ a ∈ wide env.locals ρ (wr ++ χ), a ∈ W ∨ h₀.get? a = none)
    (c2 : ∀ a o, a ∉ W → h₀.get? a = some o → s.heap.get? a = some o) (c2' : ∀ a o, h₀.get? a = some o → ∃ o', s.heap.get? a = some o') (c3 : Stt 0 s.heap)
    (hw : CompTo C sc n target ifs emit xs τ rs τ') (hlo : Lo s.heap acc ys) (hall : AllIs [] (wide env.locals ρ (wr ++ χ)) s.heap ws ys) (hz : ws.length + rs.length ≤ 2 ^ 20)
    (h : ∀ s' ρ' ys' hm, St C env τ' ρ' χ s' → Evo (wide env.locals ρ (wr ++ [acc])) ρ s.heap ρ' hm → (∀ b o, b ∉ wr → hm.get? b = some o → s'.heap.get? b = some o) → ρ <+: ρ' → Lo s'.heap acc ys' → AllIs [] (wide env.locals ρ' χ) s'.heap (ws ++ rs) ys' → R (.ok .next) s') :
    codeAny (model C.prog C.w) A (.compLoop (.ListComp elt gens scope pos) d (.ref I) (.ref acc) env) R s := by
  have haw : acc ∉ wr := fun hm => (nodup_mid S.nod).2 acc hm (List.mem_cons_of_mem _ (List.mem_append_right _ hacc))
  have haχ : acc ∈ wr ++ χ := List.mem_append_right _ hacc
  have hPW : ∀ a ∈ wide env.locals ρ (wr ++ [acc]), a ∈ wide env.locals ρ (wr ++ χ) := fun a ha => by
    rcases List.mem_cons.mp ha with q | q
    · exact List.mem_cons.mpr (.inl q)
    · refine List.mem_cons_of_mem _ ?_
      rcases List.mem_append.mp q with q | q
      · exact List.mem_append_left _ q
      · refine List.mem_append_right _ ?_
        rcases List.mem_append.mp q with q | q
        · exact List.mem_append_left _ q
        · rw [List.mem_singleton.mp q]; exact haχ
  have hwP : ∀ b ∈ wr, b ∈ wide env.locals ρ (wr ++ [acc]) := fun b hb => List.mem_cons_of_mem _ (List.mem_append_right _ (List.mem_append_left _ hb))
  have haP : acc ∈ wide env.locals ρ (wr ++ [acc]) := List.mem_cons_of_mem _ (List.mem_append_right _ (List.mem_append_right _ List.mem_cons_self))
  have fromD : ∀ (h' : Heap) (ρ' : List Addr), Evo (wide env.locals ρ (wr ++ [acc])) ρ s.heap ρ' h' → (∀ a o, a ∉ W → h₀.get? a = some o → h'.get? a = some o) ∧ (∀ a ∈ wide env.locals ρ' (wr ++ χ), a ∈ W ∨ h₀.get? a = none) := fun h' ρ' Ev => by
    refine ⟨fun a o ha e => Ev.keep a o (fun hm => ?_) (c2 a o ha e), fun a ha => ?_⟩
    · rcases c1 a (hPW a hm) with q | q
      · exact ha q
      · rw [q] at e; cases e
    · rcases S.newW Ev.new a ha with q | q
      · exact c1 a q
      · refine .inr ?_
        cases e : h₀.get? a with
        | none => rfl
        | some o => obtain ⟨o', e'⟩ := c2' a o e; rw [q] at e'; cases e'
  have stKeep : ∀ (h₁ h₂ : Heap) (ρ' : List Addr) (i : Nat) (bad : List Addr), Stt i h₁ → Evo (wide env.locals ρ (wr ++ [acc])) ρ s.heap ρ' h₁ → (∀ b ∈ bad, b ∈ acc :: env.locals :: ρ') → (wide env.locals ρ' (wr ++ χ)).Nodup →
      (∀ a o, a ∉ bad → h₁.get? a = some o → h₂.get? a = some o) → Stt i h₂ := fun h₁ h₂ ρ' i bad hs Ev hb hnd hk => by
    obtain ⟨f1, f2⟩ := fromD h₁ ρ' Ev
    refine D.turns.frame i h₁ h₂ hs fun b hbf o e => hk b o (fun hm => ?_) e
    have hin : b ∈ wide env.locals ρ' (wr ++ χ) := by
      rcases List.mem_cons.mp (hb b hm) with q | q
      · rw [q]; exact List.mem_cons_of_mem _ (List.mem_append_right _ haχ)
      · rcases List.mem_cons.mp q with q | q
        · exact List.mem_cons.mpr (.inl q)
        · exact List.mem_cons_of_mem _ (List.mem_append_left _ q)
    by_cases hbw : b ∈ wr
    · rcases List.mem_cons.mp (hb b hm) with q | q
      · exact haw (q ▸ hbw)
      · exact res_off hnd (List.mem_append_left _ hbw) q
    · obtain ⟨g1, o', ho'⟩ := D.foot b hbf hbw
      rcases f2 b hin with q | q
      · exact g1 q
      · rw [q] at ho'; cases ho'
  refine codeAny_loop rfl (fun k s' => ∃ i τᵢ ρᵢ ysᵢ wsᵢ rsᵢ, k = xs.length - i ∧ i ≤ xs.length ∧ CompTo C sc n target ifs emit (xs.drop i) τᵢ rsᵢ τ' ∧ τᵢ.cx = τ.cx ∧ wsᵢ ++ rsᵢ = ws ++ rs ∧ St C env τᵢ ρᵢ (wr ++ χ) s' ∧
      Evo (wide env.locals ρ (wr ++ [acc])) ρ s.heap ρᵢ s'.heap ∧ ρ <+: ρᵢ ∧ Lo s'.heap acc ysᵢ ∧ AllIs [] (wide env.locals ρᵢ (wr ++ χ)) s'.heap wsᵢ ysᵢ ∧ Stt i s'.heap) ?_ xs.length
    ⟨0, τ, ρ, ys, ws, rs, rfl, Nat.zero_le _, hw, rfl, rfl, S, ⟨fun _ _ _ e => e, fun _ o e => ⟨o, e⟩, fun _ h => .inl h⟩, List.prefix_refl _, hlo, hall, c3⟩
  rintro k s' ⟨i, τᵢ, ρᵢ, ysᵢ, wsᵢ, rsᵢ, rfl, hi, hf, hcxi, hrs, Sᵢ, Eᵢ, preᵢ, loᵢ, allᵢ, hst⟩
  show wpAny _ A ((compTurn (.ListComp elt gens scope pos) d (.ref I) (.ref acc) env).onRaise (fun x => do noteFrame x env; theTreesLotGoes x)) _ _ s'
  refine wpAny_noted ?_
  rw [hturn]
  unfold turnOf
  have hxi : ∀ q ∈ τᵢ.cx, ∀ a, env.cells.lookup q.1 = some a → a ∉ wr := by rw [hcxi]; exact hx
  by_cases hlt : i < xs.length
  · obtain ⟨x, hxx⟩ : ∃ x, xs[i]? = some x := ⟨_, List.getElem?_eq_getElem hlt⟩
    have hdrop : xs.drop i = x :: xs.drop (i + 1) := by
      rw [List.drop_eq_getElem_cons hlt]; congr 1; exact ((List.getElem?_eq_some_iff.mp hxx).2)
    rw [hdrop] at hf
    refine wpAny_bind (wpAny_standAt (wpAny_bind (D.turns.item i _ _ _ hlt hst fun v h₁ t₁ hMd hk₁ => ?_)))
    refine wpAny_bind (D.turns.go i v _ _ _ hMd fun h₂ hP hst₂ hk₂ => ?_)
    have hk : ∀ b o, b ∉ wr → s'.heap.get? b = some o → h₂.get? b = some o := fun b o hb e => hk₂ b o hb (hk₁ b o hb e)
    have hl₂ := D.live _ _ hst₂
    have S' : St C env τᵢ ρᵢ (wr ++ χ) { s' with heap := h₂, toks := t₁ } := Sᵢ.off hC hxi hk hl₂
    have E' : Evo (wide env.locals ρ (wr ++ [acc])) ρ s.heap ρᵢ h₂ := Eᵢ.off hk hl₂ fun b hb => .inl (hwP b hb)
    obtain ⟨f1, f2⟩ := fromD h₂ ρᵢ E'
    have lo' : Lo h₂ acc ysᵢ := loᵢ.at' fun o e => hk acc o haw e
    have all' : AllIs [] (wide env.locals ρᵢ (wr ++ χ)) h₂ wsᵢ ysᵢ := allᵢ.evo (fun a o ha e => hk a o (fun hm => ha (List.mem_cons_of_mem _ (List.mem_append_right _ (List.mem_append_left _ hm)))) e) (fun _ h => .inl h) (List.prefix_refl _)
    have hitem : Item (wide env.locals ρᵢ (wr ++ χ)) h₂ v x := D.item i x v h₂ _ hxx hP f1 f2
    -- what follows upon the item is bound
    have after : ∀ {τ₁ τ₂ : AS} {b : Bool} {Q : Bool → Shared → Prop} {E : Value → Shared → Prop}, Bind C sc n target x τᵢ τ₁ → Tst C sc n ifs τ₁ b τ₂ →
        (∀ s₄ ρ₄, St C env τ₂ ρ₄ (wr ++ χ) s₄ → Evo (wide env.locals ρ (wr ++ [acc])) ρ s.heap ρ₄ s₄.heap → ρ <+: ρ₄ → Lo s₄.heap acc ysᵢ → AllIs [] (wide env.locals ρ₄ (wr ++ χ)) s₄.heap wsᵢ ysᵢ → Stt (i + 1) s₄.heap → Q b s₄) →
        wpAny (model C.prog C.w) A (assign target env v) (fun _ s₃ => wpAny (model C.prog C.w) A (forIn ifs true fun c r => if r = true then do let ok ← isTrue c env (eval c env); pure (ForInStep.yield ok) else pure (ForInStep.yield r)) Q E s₃) E { s' with heap := h₂, toks := t₁ } := by
      intro τ₁ τ₂ b Q E hb ht k
      refine hb A env ρᵢ (wr ++ χ) _ v _ _ hA hE S' hitem fun s₃ P₃ => ?_
      refine tst_run ht hA hE P₃.st fun s₄ ρ₄ P₄ => ?_
      have PP := P₃.trans P₄
      refine k s₄ ρ₄ PP.st (E'.step PP.evo fun a ha => ?_) (preᵢ.trans PP.pre) (lo'.at' fun o e => PP.evo.keep acc o (res_off Sᵢ.nod haχ) e) (all'.evo (fun a o ha e => PP.evo.keep a o (fun hm => ha ?_) e) (S'.newW PP.evo.new) (List.prefix_refl _))
        (stKeep h₂ s₄.heap ρᵢ (i + 1) (env.locals :: ρᵢ) hst₂ E' (fun b hb => List.mem_cons_of_mem _ hb) Sᵢ.nod PP.evo.keep)
      · rcases List.mem_cons.mp ha with q | q
        · exact List.mem_cons.mpr (.inl q)
        · exact List.mem_cons_of_mem _ (List.mem_append_left _ q)
      · rcases List.mem_cons.mp hm with q | q
        · exact List.mem_cons.mpr (.inl q)
        · exact List.mem_cons_of_mem _ (List.mem_append_left _ q)
    cases hf with
    | @keep _ _ r rs' _ τa τb τc _ hb ht hem hcxb hcxc hrest =>
      refine wpAny_bind (wpAny_mono (after hb ht fun s₄ ρ₄ S₄ E₄ pre₄ lo₄ all₄ st₄ => (?_ : (fun (b : Bool) s₄ => wpAny (model C.prog C.w) A (if b = true then (emit (.ref acc) env >>= fun _ => again (.compLoop (.ListComp elt gens scope pos) d (.ref I) (.ref acc) env)) else again (.compLoop (.ListComp elt gens scope pos) d (.ref I) (.ref acc) env)) _ _ s₄) true s₄)) (fun _ s₃ h₃ => wpAny_bind h₃) fun _ _ e => e)
      simp only [if_true]
      have hlen : wsᵢ.length + r.length ≤ 2 ^ 20 := by
        have := congrArg List.length hrs
        simp only [List.length_append] at this
        omega
      refine wpAny_bind (hem A env ρ₄ (wr ++ χ) acc s₄ ysᵢ wsᵢ _ _ hA hE S₄ haχ hCa (by rw [hcxb, hcxi]; exact hxa) hlen lo₄ all₄ fun s₅ ρ₅ ys₅ S₅ E₅ pre₅ lo₅ all₅ => ?_)
      refine wpAny_pure ⟨rfl, ?_⟩
      refine ⟨xs.length - (i + 1), by omega, i + 1, _, ρ₅, ys₅, wsᵢ ++ r, rs', rfl, hlt, hrest, hcxc.trans hcxi, by rw [List.append_assoc]; exact hrs, S₅, E₄.then E₅ (fun a ha => ?_), pre₄.trans pre₅, lo₅, all₅, ?_⟩
      · rcases List.mem_cons.mp ha with q | q
        · exact .inl (q ▸ haP)
        · rcases List.mem_cons.mp q with q | q
          · exact .inl (List.mem_cons.mpr (.inl q))
          · rcases E₄.new a q with q | q
            · exact .inl (List.mem_cons_of_mem _ (List.mem_append_left _ q))
            · exact .inr q
      · exact stKeep s₄.heap s₅.heap ρ₄ (i + 1) (acc :: env.locals :: ρ₄) st₄ E₄ (fun b hb => hb) S₄.nod E₅.keep
    | @drop _ _ _ _ τa τb _ hb ht hcxb hrest =>
      refine wpAny_bind (wpAny_mono (after hb ht fun s₄ ρ₄ S₄ E₄ pre₄ lo₄ all₄ st₄ => (?_ : (fun (b : Bool) s₄ => wpAny (model C.prog C.w) A (if b = true then (emit (.ref acc) env >>= fun _ => again (.compLoop (.ListComp elt gens scope pos) d (.ref I) (.ref acc) env)) else again (.compLoop (.ListComp elt gens scope pos) d (.ref I) (.ref acc) env)) _ _ s₄) false s₄)) (fun _ s₃ h₃ => wpAny_bind h₃) fun _ _ e => e)
      simp only [Bool.false_eq_true, if_false]
      refine wpAny_pure ⟨rfl, ?_⟩
      exact ⟨xs.length - (i + 1), by omega, i + 1, _, ρ₄, ysᵢ, wsᵢ, rsᵢ, rfl, hlt, hrest, hcxb.trans hcxi, hrs, S₄, E₄, pre₄, lo₄, all₄, st₄⟩
  · obtain rfl : i = xs.length := Nat.le_antisymm hi (Nat.not_lt.mp hlt)
    rw [List.drop_length] at hf
    cases hf
    rw [List.append_nil] at hrs
    subst hrs
    refine wpAny_bind (wpAny_standAt (wpAny_bind (D.turns.done _ _ _ hst fun h₁ t₁ hk₁ => ?_)))
    refine wpAny_pure ?_
    refine h _ ρᵢ ysᵢ s'.heap (Sᵢ.offDrop hC hxi hk₁) Eᵢ hk₁ preᵢ (loᵢ.at' fun o e => hk₁ acc o haw e) (allᵢ.evo (fun a o ha e => hk₁ a o (fun hm => ha (List.mem_cons_of_mem _ (List.mem_append_right _ (List.mem_append_left _ hm)))) e) (fun a ha => .inl ?_) (List.prefix_refl _))
    rcases List.mem_cons.mp ha with q | q
    · exact List.mem_cons.mpr (.inl q)
    · refine List.mem_cons_of_mem _ ?_
      rcases List.mem_append.mp q with q | q
      · exact List.mem_append_left _ q
      · exact List.mem_append_right _ (List.mem_append_right _ q)
end Mine
namespace Mine
variable {C : Base} {sc : Scope} {n p : Nat} {σ σ₁ σ₂ σ₃ σ' τ τ₁ τ₂ τ₃ τ' : AS}

theorem codeAny_compStart_any {prog : Program} {w : World} {A : Around} {R : Result → Shared → Prop} {s : Shared} {elt : Expr} {gens : List Comprehension} {g : Comprehension} {scope : Scope} {pos : Pos} {d : Nat} {it acc : Value} {env : Env}
    (hg : gens[d]? = some g) (ha : g.is_async = 0)
    (h0 : codeAny (model prog w) A (.compLoop (.ListComp elt gens scope pos) d it acc env) R s)
    (h : wpAny (model prog w) A (pyIter it) (fun it' s' => codeAny (model prog w) A (.compLoop (.ListComp elt gens scope pos) d it' acc env) R s')
      (notedBy (model prog w) A env fun x s' => R (.error x) s') s) :
    codeAny (model prog w) A (.compStart (.ListComp elt gens scope pos) d it acc env) R s := by
  refine codeAny_of_tree ?_
  show wpAny _ _ ((compStart (.ListComp elt gens scope pos) d it acc env).onRaise (fun x => do noteFrame x env; standAt theWindowsPlace)) _ _ s
  refine wpAny_notedAt ?_
  unfold compStart
  have e1 : (clausesOf (.ListComp elt gens scope pos))[d]? = some g := hg
  rw [e1]
  have e2 : (some g).elim false (fun x => x.is_async != 0) = false := by show (g.is_async != 0) = false; rw [ha]; rfl
  rw [e2]
  simp only [Bool.false_eq_true, if_false]
  show wpAny _ _ (ask >>= _) _ _ s
  refine wpAny_bind (wpAny_askSetting (wpAny_ite ?_))
  split
  · first
      | exact wpAny_bind (wpAny_pure (wpAny_pure (And.intro rfl h0)))
      | exact wpAny_pure (And.intro rfl h0)
  · first
      | exact wpAny_bind (wpAny_rule (wpAny_bind (wpAny_standAt (wpAny_bind (wpAny_mono h (fun it' s' h' => wpAny_pure (And.intro rfl h')) fun _ _ x => x)))))
      | (refine wpAny_bind (wpAny_rule ?_); show wpAny _ _ (standAt g.iter.pos >>= _) _ _ s; exact wpAny_bind (wpAny_standAt (wpAny_bind (wpAny_mono h (fun it' s' h' => wpAny_pure (And.intro rfl h')) fun _ _ x => x))))

/-- an inner clause -/
theorem emit_nest {elt : Expr} {gens : List Comprehension} {g : Comprehension} {scope : Scope} {pos ip : Pos} {d : Nat} {ifs : List Expr} {emit : Value → Env → Sem Unit} {target iter : Expr} {xs rs : List AV}
    (hturn : ∀ it acc env, compTurn (.ListComp elt gens scope pos) d it acc env = turnOf ip target ifs it env (emit acc env) (again (.compLoop (.ListComp elt gens scope pos) d it acc env))) (hg : gens[d]? = some g) (ha : g.is_async = 0)
    (hi : EvI C sc n τ target iter xs τ₁) (hw : CompTo C sc n target ifs emit xs τ₁ rs τ') (hcx : τ₁.cx = τ.cx) (hs : ∀ env x, foldedSetIterable iter env x = pure x := by intro _ _; rfl) :
    Emit C sc n (fun acc env => do
        let x ← eval iter env
        standAt iter.pos
        let x ← foldedSetIterable iter env x
        let _ ← runOwn (.compStart (.ListComp elt gens scope pos) d (← holding [x] (pyIter x)) acc env) env) τ rs τ' := fun A env ρ χ acc s ys ws Q E hA hE S hacc hCa hxa hz hlo hall h => by
  refine wpAny_bind (wpAny_mono (hi A env ρ χ s (fun it s₂ => wpAny (model C.prog C.w) A (runOwn (.compStart (.ListComp elt gens scope pos) d it (.ref acc) env) env) (fun _ s' => Q () s') E s₂) E hA hE S fun I s₂ ρ₂ fp wr P Md Stt S₂ E₂ pre₂ fresh hx D => ?_) (fun x s₁ h₁ => ?_) fun _ _ e => e)
  · have hC : ∀ b ∈ wr, C.H.get? b = none := fun b hb => by
      cases e : C.H.get? b with
      | none => rfl
      | some o => have e' := S.base b o e; rw [fresh b hb] at e'; cases e'
    have hoff := res_off S.nod hacc
    have lo₂ : Lo s₂.heap acc ys := hlo.at' fun o e => E₂.keep acc o hoff e
    have all₂ : AllIs [] (wide env.locals ρ₂ (wr ++ χ)) s₂.heap ws ys := hall.evo (fun a o ha e => E₂.keep a o (fun hm => ha (by
      rcases List.mem_cons.mp hm with q | q
      · exact List.mem_cons.mpr (.inl q)
      · exact List.mem_cons_of_mem _ (List.mem_append_left _ q))) e) (fun a ha => by
        rcases List.mem_cons.mp ha with q | q
        · exact .inl (List.mem_cons.mpr (.inl q))
        · rcases List.mem_append.mp q with q | q
          · rcases E₂.new a q with q | q
            · exact .inl (List.mem_cons_of_mem _ (List.mem_append_left _ q))
            · exact .inr q
          · rcases List.mem_append.mp q with q | q
            · exact .inr (fresh a q)
            · exact .inl (List.mem_cons_of_mem _ (List.mem_append_right _ q))) (List.prefix_refl _)
    have fin : codeAny (model C.prog C.w) A (.compLoop (.ListComp elt gens scope pos) d (.ref I) (.ref acc) env) (fun r s' => match r with | .ok f => Q () s' | .error e => cameBackBy (model C.prog C.w) A env E e s') s₂ := by
      refine comp_loop hturn hA hE D S₂ hacc hCa (by rw [hcx]; exact hxa) hC hx (fun a ha => .inl ha) (fun _ _ _ e => e) (fun _ o e => ⟨o, e⟩) D.start hw lo₂ all₂ hz fun s' ρ' ys' hm S' E' hk pre' lo' all' => ?_
      refine h s' ρ' ys' S' (Evo.offFresh (wr := wr) ((E₂.mono (P' := acc :: env.locals :: ρ) fun a ha => List.mem_cons_of_mem _ ha).then E' fun a ha => ?_) hk fresh) (pre₂.trans pre') lo' all'
      rcases List.mem_cons.mp ha with q | q
      · exact .inl (List.mem_cons_of_mem _ (List.mem_cons.mpr (.inl q)))
      · rcases List.mem_append.mp q with q | q
        · rcases E₂.new a q with q | q
          · exact .inl (List.mem_cons_of_mem _ (List.mem_cons_of_mem _ q))
          · exact .inr q
        · rcases List.mem_append.mp q with q | q
          · exact .inr (fresh a q)
          · rw [List.mem_singleton.mp q]; exact .inl List.mem_cons_self
    exact wpAny_runOwn (codeAny_compStart_any hg ha fin (D.self 0 _ _ _ D.start fin))
  · refine wpAny_bind (wpAny_standAt (wpAny_bind (wpAny_of_eq (hs env x) (wpAny_bind (wpAny_holding (wpAny_mono h₁ (fun it s₂ h₂ => ?_) fun _ _ e => e))))))
    exact wpAny_bind (wpAny_mono h₂ (fun _ s' h' => wpAny_pure h') fun _ _ e => e)

/-! the block's own ground -/
theorem newEnv_comp {M : Model} {A : Around} {E : Value → Shared → Prop} {s : Shared} {scope : Scope} {globals : Addr} {closure : List (Str × Addr)} {qual : Str} {outer : Env} {Q : Env → Shared → Prop}
    (h : Q { scope, locals := s.heap.objs.size, globals, cells := cellsFrom (s.heap.objs.size + 1) scope.names closure, qual, func := none, code := outer.code, frame := outer.frame, builtins := outer.builtins }
      { s with heap := pushCells (s.heap.push { cls := .type "dict", data := .dict #[] }) scope.names }) :
    wpAny M A (newFunctionEnv scope globals closure [] qual none .none (some outer)) Q E s := by
  simp only [newFunctionEnv, Option.isSome_some, if_true]
  refine wpAny_bind (wpAny_alloc ?_)
  refine wpAny_bind (wpAny_layCells _ (fun name kind cells => by cases hkc : kind == NameKind.cell <;> simp [hkc]) _ _ _ _ ?_)
  rw [show ({ s with heap := s.heap.push { cls := .type "dict", data := .dict #[] } } : Shared).heap.objs.size = s.heap.objs.size + 1 from Heap.size_push ..]
  simp only [List.forIn_nil]
  exact wpAny_bind (wpAny_pure (wpAny_pure h))

/-- what is reserved changes, and part of it is reserved no more -/
theorem St.down {env : Env} {ρ χ χ' ws : List Addr} {s : Shared} (S : St C env σ ρ χ s) {h' : Heap} {t : Nat} (hsub : List.Sublist χ' χ) (hw : ∀ b ∈ ws, b ∈ χ) (hC : ∀ b ∈ ws, C.H.get? b = none) (hx : ∀ q ∈ σ.cx, ∀ a, env.cells.lookup q.1 = some a → a ∉ ws)
    (hk : ∀ b o, b ∉ ws → s.heap.get? b = some o → h'.get? b = some o) (hl : ∀ b ∈ ws, b ∈ χ' → ∃ o, h'.get? b = some o) : St C env σ ρ χ' { s with heap := h', toks := t } := by
  have hoff : ∀ b ∈ ws, b ∉ env.locals :: ρ := fun b hb => res_off S.nod (hw b hb)
  have hW : ∀ a, a ∉ wide env.locals ρ χ → a ∉ ws := fun a ha hm => ha (List.mem_cons_of_mem _ (List.mem_append_right _ (hw a hm)))
  have hsub' : List.Sublist (wide env.locals ρ χ') (wide env.locals ρ χ) := (hsub.append_left ρ).cons_cons _
  have keep : ∀ a o, a ∉ wide env.locals ρ χ → s.heap.get? a = some o → h'.get? a = some o := fun a o ha e => hk a o (hW a ha) e
  have new : ∀ a ∈ wide env.locals ρ χ', a ∈ wide env.locals ρ χ ∨ s.heap.get? a = none := fun a h => .inl (hsub'.subset h)
  have own : ∀ a ∈ env.locals :: ρ, a ∉ ws := fun a ha hm => hoff a hm ha
  refine ⟨fun a o e => ?_, S.gens, S.os, S.len, hsub'.nodup S.nod, S.out, S.above, fun a ha => ?_, ?_, S.keys, fun p hp => ?_, fun k o hk' => ?_⟩
  · exact hk a o (fun hm => by rw [hC a hm] at e; cases e) (S.base a o e)
  · by_cases hm : a ∈ ws
    · refine hl a hm ?_
      rcases List.mem_cons.mp ha with q | q
      · exact absurd (List.mem_cons.mpr (.inl q)) (hoff a hm)
      · rcases List.mem_append.mp q with q | q
        · exact absurd (List.mem_cons_of_mem _ q) (hoff a hm)
        · exact q
    · obtain ⟨o, e⟩ := S.alc a (hsub'.subset ha); exact ⟨o, hk a o hm e⟩
  · obtain ⟨m, hm, hl'⟩ := S.ns
    exact ⟨m, hm.at' fun o e => hk _ o (own _ List.mem_cons_self) e, fun p hp => let ⟨a, b, v, hv, hi⟩ := hl' p hp; ⟨a, b, v, hv, hi.evo keep new (List.prefix_refl _)⟩⟩
  · obtain ⟨a, b, c, d, hd, he⟩ := S.cx p hp
    refine ⟨a, b, c, d, hd, ?_⟩
    cases hq : p.2 with
    | own k => rw [hq] at he; exact he
    | cap r =>
      rw [hq] at he
      obtain ⟨h1, v, ⟨o, ho, hc⟩, hi⟩ := he
      exact ⟨h1, v, ⟨o, hk d o (hx p hp d hd) ho, hc⟩, hi.evo keep new (List.prefix_refl _)⟩
  · obtain ⟨a, ha, hi⟩ := S.own k o hk'
    exact ⟨a, ha, hi.evo keep new (List.prefix_refl _) fun o e => hk a o (own a (List.mem_cons_of_mem _ (List.mem_of_getElem? ha))) e⟩

inductive CapOf (σ : AS) (lend : Bool) : Str → AV → Prop
  | own {x : Str} {k : Nat} {r : AV} : (x, CV.own k) ∈ σ.cx → σ.own[k]? = some (.cell (some r)) → r.plain = true → CapOf σ lend x r
  | cap {x : Str} {r : AV} : (x, CV.cap r) ∈ σ.cx → r.plain = true → CapOf σ lend x r
  | lent {x : Str} {k j : Nat} {ls : List AV} : (x, CV.own k) ∈ σ.cx → σ.own[k]? = some (.cell (some (.own j))) → σ.own[j]? = some (.list ls) → plains ls = true → lend = true → CapOf σ lend x (.lst ls)
inductive CapAll (σ : AS) (lend : Bool) : List (Str × AV) → Prop
  | nil : CapAll σ lend []
  | cons {x : Str} {r : AV} {l : List (Str × AV)} : CapOf σ lend x r → CapAll σ lend l → CapAll σ lend ((x, r) :: l)
theorem CapAll.mem {lend : Bool} : ∀ {l : List (Str × AV)}, CapAll σ lend l → ∀ p ∈ l, CapOf σ lend p.1 p.2
  | _, .nil, _, h => nomatch h
  | _, .cons h hs, p, hp => by
    rcases List.mem_cons.mp hp with rfl | hp
    · exact h
    · exact hs.mem p hp
def scalars (l : List AV) : Bool := l.all scalar
def subCx (caps : List (Str × AV)) (ocs : List Str) : List (Str × CV) := caps.map (fun p => (p.1, CV.cap p.2)) ++ ocs.zipIdx.map (fun p => (p.1, CV.own p.2))
def subOwn (ocs : List Str) : List AO := ocs.map fun _ => AO.cell none
end Mine
namespace Mine
variable {C : Base} {sc : Scope} {n p : Nat} {σ σ₁ σ₂ σ₃ σ' τ τ₁ τ₂ τ₃ τ' : AS}

def cellAddrs (L : Nat) (k : Nat) : List Addr := (List.range k).map fun j => L + 1 + j
theorem cellAddrs_length {L k : Nat} : (cellAddrs L k).length = k := by simp [cellAddrs]
theorem cellAddrs_get {L k j : Nat} (h : j < k) : (cellAddrs L k)[j]? = some (L + 1 + j) := by
  unfold cellAddrs; rw [List.getElem?_map, List.getElem?_range h]; rfl
theorem cellAddrs_gt {L k : Nat} {a : Addr} (h : a ∈ cellAddrs L k) : L < a := by
  unfold cellAddrs at h
  obtain ⟨j, _, rfl⟩ := List.mem_map.mp h
  show L < L + 1 + j
  omega
theorem cellAddrs_mem {L k : Nat} {a : Addr} (h : a ∈ cellAddrs L k) : ∃ j, j < k ∧ a = L + 1 + j := by
  unfold cellAddrs at h
  obtain ⟨j, hj, rfl⟩ := List.mem_map.mp h
  exact ⟨j, List.mem_range.mp hj, rfl⟩
theorem cellAddrs_nodup {L k : Nat} : (cellAddrs L k).Nodup := by
  unfold cellAddrs
  refine List.Pairwise.map _ (fun a b hab e => hab ?_) List.nodup_range
  have e' : L + 1 + a = L + 1 + b := e
  omega

def lendχ (lend : Bool) (L : Addr) (ρ χ : List Addr) : List Addr := if lend then [] else wide L ρ χ

theorem scalars_is {ρ W ρ' W' : List Addr} {h h' : Heap} : ∀ {xs : List AV} {vs : List Value}, scalars xs = true → AllIs ρ W h xs vs → AllIs ρ' W' h' xs vs
  | [], _, _, e => by simp only [AllIs] at e ⊢; exact e
  | x :: xs, _, hp, e => by
    simp only [AllIs] at e ⊢
    have hp' : scalar x = true ∧ scalars xs = true := by simpa [scalars] using hp
    obtain ⟨v, vs', rfl, hx, r⟩ := e
    exact ⟨v, vs', rfl, scalar_is hp'.1 hx, scalars_is hp'.2 r⟩

theorem comp_core {elt : Expr} {gens : List Comprehension} {g : Comprehension} {scope : Scope} {pos ip : Pos} {target : Expr} {ifs : List Expr} {emit : Value → Env → Sem Unit} {xs rs : List AV} {caps : List (Str × AV)} {lend : Bool}
    (hturn : ∀ it acc env, compTurn (.ListComp elt gens scope pos) 0 it acc env = turnOf ip target ifs it env (emit acc env) (again (.compLoop (.ListComp elt gens scope pos) 0 it acc env)))
    (hg : gens[0]? = some g) (hga : g.is_async = 0) (hkind : scope.kind = .function)
    (hcaps : CapAll σ₁ lend caps) (hfree : ∀ p ∈ caps, (p.1, NameKind.free) ∈ scope.names ∧ p.1 ∉ cellNames scope.names) (hnd : (cellNames scope.names).Nodup)
    (hkc : ∀ p ∈ subCx caps (cellNames scope.names), ((rsc scope sc).names.lookup p.1 = some .cell ∨ (rsc scope sc).names.lookup p.1 = some .free) ∧ (p.1 == ("__classdict__" : Str)) = false ∧ (p.1 == ("__debug__" : Str)) = false)
    (hw : CompTo C (rsc scope sc) n target ifs emit xs ⟨[], subCx caps (cellNames scope.names), subOwn (cellNames scope.names)⟩ rs τ') (hrs : plains rs = true) (hsc : lend = true → scalars rs = true) (hz : rs.length ≤ 2 ^ 20)
    {A : Around} {env : Env} {ρ₂ χ : List Addr} {s₂ : Shared} {I : Addr} {fp wr : List Addr} {P Md : Nat → Value → Heap → Prop} {Stt : Nat → Heap → Prop} {RR : Value → Addr → Result → Shared → Prop} {E : Value → Shared → Prop}
    (hA : Ok n A) (hE : EnvOk sc env) (S₂ : St C env σ₁ ρ₂ (wr ++ χ) s₂) (D : ItData C A target xs (wide env.locals ρ₂ (wr ++ χ)) s₂.heap I fp wr P Md Stt) (hC : ∀ b ∈ wr, C.H.get? b = none) (hx : ∀ q ∈ σ₁.cx, ∀ a, env.cells.lookup q.1 = some a → a ∉ wr)
    (hRR : ∀ D' L' s', St C env σ₁ ρ₂ ([L'] ++ χ) s' → (∃ m, s'.heap.Ns L' m) → (∀ b o, b ∉ wr → s₂.heap.get? b = some o → s'.heap.get? b = some o) → s₂.heap.get? L' = none → (AV.lst rs).Is ρ₂ (wide env.locals ρ₂ ([L'] ++ χ)) s'.heap (.ref D') → RR (.ref D') L' (.ok .next) s') :
    wpAny (model C.prog C.w) A (newList []) (fun acc s₃ => wpAny (model C.prog C.w) A (newFunctionEnv scope env.globals (closList env.cells scope.names []) [] env.qual none .none (some env)) (fun cenv s₄ =>
      codeAny (model C.prog C.w) A (.compStart (.ListComp elt gens scope pos) 0 (.ref I) acc { cenv with scope := relabel scope env }) (RR acc cenv.locals) s₄) E s₃) E s₂ := by
  refine wpAny_newObj_type (newEnv_comp ?_)
  rw [relabel_eq hE]
  dsimp only
  have hocs : ∃ ocs, ocs = cellNames scope.names := ⟨_, rfl⟩
  obtain ⟨ocs, hocs⟩ := hocs
  rw [← hocs] at hkc hw hnd hfree
  generalize hH1 : s₂.heap.push { cls := .type "list", dict := none, data := .seq ([] : List Value).toArray } = H1
  have hL : H1.objs.size = s₂.heap.objs.size + 1 := by rw [← hH1, Heap.size_push]
  generalize hh5 : pushCells (H1.push { cls := .type "dict", data := .dict #[] }) scope.names = h₅
  have kp1 : ∀ b o, H1.get? b = some o → h₅.get? b = some o := fun b o e => hh5 ▸ pushCells_keeps _ _ b o (Heap.get?_push_of_some _ e)
  have kp5 : ∀ b o, s₂.heap.get? b = some o → h₅.get? b = some o := fun b o e => kp1 b o (hH1 ▸ Heap.get?_push_of_some _ e)
  have hacc : h₅.get? s₂.heap.objs.size = some { cls := .type "list", dict := none, data := .seq ([] : List Value).toArray } := kp1 _ _ (hH1 ▸ Heap.get?_push_size _ rfl)
  have hns : h₅.Ns H1.objs.size (fun _ => none) := hh5 ▸ (Heap.Ns.new H1 (.type "dict")).keeps (pushCells_keeps _ _)
  have hcell : ∀ j, j < ocs.length → h₅.IsCell (H1.objs.size + 1 + j) none := fun j hj => by
    have := pc_cell (names := scope.names) (h := H1.push { cls := .type "dict", data := .dict #[] }) (j := j) (hocs ▸ hj)
    rw [Heap.size_push, hh5] at this
    exact this
  generalize hLL : H1.objs.size = L' at *
  generalize hDD : s₂.heap.objs.size = acc at *
  have fr : ∀ a : Nat, acc ≤ a → s₂.heap.get? a = none := fun a ha => none_ge (by rw [hDD]; exact ha)
  have frA : s₂.heap.get? acc = none := fr acc (Nat.le_refl _)
  have frL : s₂.heap.get? L' = none := fr L' (by rw [hL]; exact Nat.le_succ _)
  have frR : ∀ a ∈ cellAddrs L' ocs.length, s₂.heap.get? a = none := fun a ha => fr a (Nat.le_trans (by rw [hL]; exact Nat.le_succ _) (Nat.le_of_lt (cellAddrs_gt ha)))
  have aL : acc ≠ L' := by rw [hL]; exact (Nat.succ_ne_self _).symm
  have aR : acc ∉ cellAddrs L' ocs.length := fun hm => by have := cellAddrs_gt hm; rw [hL] at this; exact absurd (Nat.lt_trans (Nat.lt_succ_self acc) this) (Nat.lt_irrefl _)
  have LR : L' ∉ cellAddrs L' ocs.length := fun hm => Nat.lt_irrefl _ (cellAddrs_gt hm)
  have old : ∀ a ∈ wide env.locals ρ₂ (wr ++ χ), ∃ o, s₂.heap.get? a = some o := S₂.alc
  have hno : ∀ a ∈ wide env.locals ρ₂ (wr ++ χ), a ≠ acc ∧ a ≠ L' ∧ a ∉ cellAddrs L' ocs.length := fun a ha => by
    obtain ⟨o, e⟩ := old a ha
    exact ⟨fun q => (by rw [q, frA] at e; cases e), fun q => (by rw [q, frL] at e; cases e), fun q => (by rw [frR a q] at e; cases e)⟩
  -- what the block reserves of its surroundings
  obtain ⟨hχn, hχs⟩ : (wr ++ lendχ lend env.locals ρ₂ χ).Nodup ∧ ∀ a ∈ wr ++ lendχ lend env.locals ρ₂ χ, a ∈ wide env.locals ρ₂ (wr ++ χ) := by
    have hp : List.Perm (wr ++ wide env.locals ρ₂ χ) (wide env.locals ρ₂ (wr ++ χ)) := by
      have h1 : List.Perm (ρ₂ ++ (wr ++ χ)) (wr ++ (ρ₂ ++ χ)) := by
        rw [← List.append_assoc, ← List.append_assoc]
        exact List.perm_append_comm.append_right χ
      exact ((h1.cons env.locals).trans List.perm_middle.symm).symm
    have hn := hp.nodup_iff.mpr S₂.nod
    cases lend with
    | true =>
      simp only [lendχ, if_true, List.append_nil]
      exact ⟨(List.nodup_append.mp hn).1, fun a ha => hp.subset (List.mem_append_left _ ha)⟩
    | false =>
      simp only [lendχ, Bool.false_eq_true, if_false]
      exact ⟨hn, fun a ha => hp.subset ha⟩
  generalize hχp : lendχ lend env.locals ρ₂ χ = χp at *
  have hEc : EnvOk (rsc scope sc) { scope := rsc scope sc, locals := L', globals := env.globals, cells := cellsFrom (L' + 1) scope.names (closList env.cells scope.names []), qual := env.qual, func := none, code := env.code, frame := env.frame, builtins := env.builtins } :=
    ⟨rfl, hkind, hE.glob, hE.blt⟩
  have capAt : ∀ q ∈ caps, ∃ a, env.cells.lookup q.1 = some a ∧ (∃ cv, (q.1, cv) ∈ σ₁.cx) ∧ a ∉ L' :: cellAddrs L' ocs.length ∧ a ≠ acc ∧ ∃ v, h₅.IsCell a (some v) ∧ q.2.Is (cellAddrs L' ocs.length) (wide L' (cellAddrs L' ocs.length) (wr ++ (acc :: χp))) h₅ v := by
    intro q hq
    have newW : ∀ a ∈ wide L' (cellAddrs L' ocs.length) (wr ++ (acc :: χp)), a ∈ wide env.locals ρ₂ (wr ++ χ) ∨ s₂.heap.get? a = none := fun a ha => by
      rcases List.mem_cons.mp ha with z | z
      · exact .inr (z ▸ frL)
      · rcases List.mem_append.mp z with z | z
        · exact .inr (frR a z)
        · rcases List.mem_append.mp z with z | z
          · exact .inl (hχs a (List.mem_append_left _ z))
          · rcases List.mem_cons.mp z with z | z
            · exact .inr (z ▸ frA)
            · exact .inl (hχs a (List.mem_append_right _ z))
    have conv : ∀ {r : AV} {v : Value}, r.plain = true → r.Is ρ₂ (wide env.locals ρ₂ (wr ++ χ)) s₂.heap v → r.Is (cellAddrs L' ocs.length) (wide L' (cellAddrs L' ocs.length) (wr ++ (acc :: χp))) h₅ v := fun hp h =>
      AV.Is.plain (fun _ h => h) hp (h.evo (ρ' := ρ₂) (fun a o _ e => kp5 a o e) newW (List.prefix_refl _))
    have off : ∀ {a : Addr} {o : Obj}, s₂.heap.get? a = some o → a ∉ L' :: cellAddrs L' ocs.length ∧ a ≠ acc := fun {a o} e => by
      refine ⟨fun hm => ?_, fun z => by rw [z, frA] at e; cases e⟩
      rcases List.mem_cons.mp hm with z | z
      · rw [z, frL] at e; cases e
      · rw [frR a z] at e; cases e
    have ownAt : ∀ {k : Nat} {r : AV}, (q.1, CV.own k) ∈ σ₁.cx → σ₁.own[k]? = some (.cell (some r)) → ∃ a v o, env.cells.lookup q.1 = some a ∧ s₂.heap.get? a = some o ∧ o.data = .cell (some v) ∧ r.Is ρ₂ (wide env.locals ρ₂ (wr ++ χ)) s₂.heap v := fun {k r} hm ho => by
      obtain ⟨_, _, _, a, ha, hak⟩ := S₂.cx _ hm
      obtain ⟨a', ha', v, ⟨o, hO, hdt⟩, hr⟩ := S₂.own k _ ho
      have hak' : ρ₂[k]? = some a := hak
      rw [hak'] at ha'; cases ha'
      exact ⟨a, v, o, ha, hO, hdt, hr⟩
    have hcq := hcaps.mem q hq
    obtain ⟨qx, qr⟩ := q
    dsimp only at hcq ownAt ⊢
    cases hcq with
    | own hm ho hp =>
      obtain ⟨a, v, o, ha, hO, hdt, hr⟩ := ownAt hm ho
      exact ⟨a, ha, ⟨_, hm⟩, (off hO).1, (off hO).2, v, ⟨o, kp5 _ _ hO, hdt⟩, conv hp hr⟩
    | cap hm hp =>
      obtain ⟨_, _, _, a, ha, h1, v, ⟨o, hO, hdt⟩, hr⟩ := S₂.cx _ hm
      exact ⟨a, ha, ⟨_, hm⟩, (off hO).1, (off hO).2, v, ⟨o, kp5 _ _ hO, hdt⟩, conv hp hr⟩
    | lent hm ho hj hp hl =>
      obtain ⟨a, v, o, ha, hO, hdt, hr⟩ := ownAt hm ho
      obtain ⟨b, us, rfl, hb, hlo, hall⟩ := S₂.lo hj hr
      obtain ⟨ob, hob, hobr⟩ := hlo.isList
      refine ⟨a, ha, ⟨_, hm⟩, (off hO).1, (off hO).2, _, ⟨o, kp5 _ _ hO, hdt⟩, ?_⟩
      simp only [AV.Is]
      refine ⟨b, us, rfl, fun hmem => ?_, ⟨ob, kp5 _ _ hob, hobr⟩, AllIs.plain (fun _ h => h) hp (hall.evo (ρ' := ρ₂) (fun a o _ e => kp5 a o e) newW (List.prefix_refl _))⟩
      have hbρ : b ∈ ρ₂ := List.mem_of_getElem? hb
      rcases List.mem_cons.mp hmem with z | z
      · exact (off hob).1 (List.mem_cons.mpr (.inl z))
      · rcases List.mem_append.mp z with z | z
        · exact (off hob).1 (List.mem_cons_of_mem _ z)
        · rcases List.mem_append.mp z with z | z
          · exact (nodup_mid S₂.nod).2 b z (List.mem_cons_of_mem _ (List.mem_append_left _ hbρ))
          · rcases List.mem_cons.mp z with z | z
            · exact (off hob).2 z
            · rw [← hχp, hl] at z
              simp [lendχ] at z
  have cellFree : ∀ q ∈ caps, (cellsFrom (L' + 1) scope.names (closList env.cells scope.names [])).lookup q.1 = env.cells.lookup q.1 := fun q hq => by
    obtain ⟨h1, h2⟩ := hfree q hq
    obtain ⟨a, ha, _⟩ := capAt q hq
    rw [cf_free (hocs ▸ h2), clos_lookup h1 (by rw [ha]; rfl)]
  have hnod : (wide L' (cellAddrs L' ocs.length) (wr ++ (acc :: χp))).Nodup := by
    have hmem : ∀ a ∈ wr ++ (acc :: χp), a = acc ∨ a ∈ wide env.locals ρ₂ (wr ++ χ) := fun a ha => by
      rcases List.mem_append.mp ha with z | z
      · exact .inr (hχs a (List.mem_append_left _ z))
      · rcases List.mem_cons.mp z with z | z
        · exact .inl z
        · exact .inr (hχs a (List.mem_append_right _ z))
    refine List.nodup_cons.mpr ⟨fun hm => ?_, List.nodup_append.mpr ⟨cellAddrs_nodup, ?_, fun a ha b hb e => ?_⟩⟩
    · rcases List.mem_append.mp hm with z | z
      · exact LR z
      · rcases hmem _ z with z | z
        · exact aL z.symm
        · exact (hno _ z).2.1 rfl
    · have hp : List.Perm (wr ++ (acc :: χp)) (acc :: (wr ++ χp)) := List.perm_middle
      refine hp.nodup_iff.mpr (List.nodup_cons.mpr ⟨fun hm => (hno _ (hχs _ hm)).1 rfl, hχn⟩)
    · subst e
      rcases hmem _ hb with z | z
      · exact aR (z ▸ ha)
      · exact (hno _ z).2.2 ha
  have Sc : St C { scope := rsc scope sc, locals := L', globals := env.globals, cells := cellsFrom (L' + 1) scope.names (closList env.cells scope.names []), qual := env.qual, func := none, code := env.code, frame := env.frame, builtins := env.builtins }
      ⟨[], subCx caps ocs, subOwn ocs⟩ (cellAddrs L' ocs.length) (wr ++ (acc :: χp)) { s₂ with heap := h₅ } := by
    refine ⟨fun a o e => kp5 a o (S₂.base a o e), S₂.gens, S₂.os, by simp [cellAddrs, subOwn], hnod, fun a ha => ?_, ?_, fun a ha => ?_, ⟨_, hns, fun p hp => (nomatch hp)⟩, List.nodup_nil, fun q hq => ?_, fun k o hk => ?_⟩
    · cases e : C.H.get? a with
      | none => rfl
      | some o =>
        have e' := S₂.base a o e
        rcases List.mem_cons.mp ha with z | z
        · rw [z] at e'; have e2 : s₂.heap.get? L' = some o := e'; rw [frL] at e2; cases e2
        · rw [frR a z] at e'; cases e'
    · show C.H.objs.size ≤ L'
      have := S₂.size
      rw [hDD] at this
      rw [hL]; exact Nat.le_succ_of_le this
    · rcases List.mem_cons.mp ha with z | z
      · rw [z]; exact Ns.there hns
      · rcases List.mem_append.mp z with z | z
        · obtain ⟨j, hj, rfl⟩ := cellAddrs_mem z
          obtain ⟨o, ho, _⟩ := hcell j hj
          exact ⟨o, ho⟩
        · rcases List.mem_append.mp z with z | z
          · obtain ⟨o, e⟩ := old a (hχs a (List.mem_append_left _ z)); exact ⟨o, kp5 a o e⟩
          · rcases List.mem_cons.mp z with z | z
            · exact ⟨_, z ▸ hacc⟩
            · obtain ⟨o, e⟩ := old a (hχs a (List.mem_append_right _ z)); exact ⟨o, kp5 a o e⟩
    · obtain ⟨k1, k2, k3⟩ := hkc q hq
      refine ⟨?_, k2, k3, ?_⟩
      · rw [hEc.kind]; exact k1
      · rcases List.mem_append.mp hq with z | z
        · obtain ⟨q', hq', rfl⟩ := List.mem_map.mp z
          obtain ⟨a, ha, _, h1, _, v, hc, hI⟩ := capAt q' hq'
          exact ⟨a, (cellFree q' hq').trans ha, h1, v, hc, hI⟩
        · obtain ⟨⟨x, j⟩, hq', rfl⟩ := List.mem_map.mp z
          have hj : ocs[j]? = some x := by
            have := List.mem_zipIdx_iff_getElem?.mp hq'
            simpa using this
          have hlt := (List.getElem?_eq_some_iff.mp hj).1
          refine ⟨L' + 1 + j, cf_own (hocs ▸ hnd) (hocs ▸ hj), cellAddrs_get hlt⟩
    · unfold subOwn at hk
      rw [List.getElem?_map] at hk
      cases hj : ocs[k]? with
      | none => rw [hj] at hk; cases hk
      | some x =>
        rw [hj] at hk
        simp only [Option.map_some, Option.some.injEq] at hk
        subst hk
        have hlt := (List.getElem?_eq_some_iff.mp hj).1
        exact ⟨_, cellAddrs_get hlt, hcell k hlt⟩
  have hCa : C.H.get? acc = none := by
    cases e : C.H.get? acc with
    | none => rfl
    | some o => have e' := S₂.base acc o e; rw [frA] at e'; cases e'
  have cellsOff : ∀ q ∈ subCx caps ocs, ∀ a, (cellsFrom (L' + 1) scope.names (closList env.cells scope.names [])).lookup q.1 = some a → a ≠ acc ∧ a ∉ wr := fun q hq a ha => by
    rcases List.mem_append.mp hq with z | z
    · obtain ⟨q', hq', rfl⟩ := List.mem_map.mp z
      obtain ⟨a', ha', ⟨cv, hcv⟩, _, h2, _⟩ := capAt q' hq'
      have ha2 := (cellFree q' hq').symm.trans ha
      rw [ha'] at ha2; cases ha2
      exact ⟨h2, hx _ hcv _ ha'⟩
    · obtain ⟨⟨x, j⟩, hq', rfl⟩ := List.mem_map.mp z
      have hj : ocs[j]? = some x := by
        have := List.mem_zipIdx_iff_getElem?.mp hq'
        simpa using this
      have hlt := (List.getElem?_eq_some_iff.mp hj).1
      have e2 := cf_own (k := L' + 1) (acc := closList env.cells scope.names []) (hocs ▸ hnd) (hocs ▸ hj)
      have e3 : some (L' + 1 + j) = some a := e2.symm.trans ha
      cases e3
      have hmem : (L' + 1 + j : Nat) ∈ cellAddrs L' ocs.length := List.mem_of_getElem? (cellAddrs_get hlt)
      exact ⟨fun z => aR (z ▸ hmem), fun z => (hno _ (List.mem_cons_of_mem _ (List.mem_append_right _ (List.mem_append_left _ z)))).2.2 hmem⟩
  have fin : codeAny (model C.prog C.w) A (.compLoop (.ListComp elt gens scope pos) 0 (.ref I) (.ref acc) { scope := rsc scope sc, locals := L', globals := env.globals, cells := cellsFrom (L' + 1) scope.names (closList env.cells scope.names []), qual := env.qual, func := none, code := env.code, frame := env.frame, builtins := env.builtins })
      (RR (.ref acc) L') { s₂ with heap := h₅ } := by
    refine comp_loop hturn hA hEc D Sc List.mem_cons_self hCa (fun q hq a ha => (cellsOff q hq a ha).1) hC (fun q hq a ha => (cellsOff q hq a ha).2) (fun a ha => ?_) (fun a o _ e => kp5 a o e) (fun a o e => ⟨o, kp5 a o e⟩)
      (D.turns.frame 0 _ _ D.start fun b _ o e => kp5 b o e) hw (ys := []) (ws := []) ⟨_, hacc⟩ (by simp [AllIs]) (by simpa using hz) fun s' ρ' ys' hm S' E' hk pre' lo' all' => ?_
    · rcases List.mem_cons.mp ha with z | z
      · exact .inr (z ▸ frL)
      · rcases List.mem_append.mp z with z | z
        · exact .inr (frR a z)
        · rcases List.mem_append.mp z with z | z
          · exact .inl (hχs a (List.mem_append_left _ z))
          · rcases List.mem_cons.mp z with z | z
            · exact .inr (z ▸ frA)
            · exact .inl (hχs a (List.mem_append_right _ z))
    · have live' : ∃ m, s'.heap.Ns L' m := let ⟨m, h, _⟩ := S'.ns; ⟨m, h⟩
      have hkeep : ∀ b o, b ∉ wide L' (cellAddrs L' ocs.length) (wr ++ [acc]) → h₅.get? b = some o → s'.heap.get? b = some o := fun b o hb e => hk b o (fun hm => hb (List.mem_cons_of_mem _ (List.mem_append_right _ (List.mem_append_left _ hm)))) (E'.keep b o hb e)
      have kp : ∀ b o, b ∉ wr → s₂.heap.get? b = some o → s'.heap.get? b = some o := fun b o hb e => hkeep b o (fun hm => by
        rcases List.mem_cons.mp hm with z | z
        · rw [z, frL] at e; cases e
        · rcases List.mem_append.mp z with z | z
          · rw [frR b z] at e; cases e
          · rcases List.mem_append.mp z with z | z
            · exact hb z
            · rw [List.mem_singleton.mp z, frA] at e; cases e) (kp5 b o e)
      -- the surroundings, all that is new reserved
      have S₅ : St C env σ₁ ρ₂ ([L'] ++ (wr ++ χ)) { s₂ with heap := h₅ } := newRes (t := s₂.toks) S₂ (fun b hb => by rw [List.mem_singleton.mp hb]; exact frL) (fun b hb => by rw [List.mem_singleton.mp hb]; exact Ns.there hns) (List.pairwise_singleton _ _) kp5
      have hL₀ : C.H.get? L' = none := Sc.out _ List.mem_cons_self
      have hxL : ∀ q ∈ σ₁.cx, ∀ a, env.cells.lookup q.1 = some a → a ≠ L' ∧ a ∉ wr := fun q hq a ha => by
        obtain ⟨o, ho⟩ := S₂.cellOld q hq a ha
        exact ⟨fun z => (by rw [z, frL] at ho; cases ho), hx q hq a ha⟩
      -- first everything but L' and the iterator's, as growth; then those
      have S₆ : St C env σ₁ ρ₂ ([L'] ++ χ) s' := by
        have R₆ : St C env σ₁ ρ₂ (([L'] ++ cellAddrs L' ocs.length ++ [acc]) ++ (wr ++ χ)) { s₂ with heap := h₅ } := newRes (t := s₂.toks) S₂ (fun b hb => by
            rcases List.mem_append.mp hb with z | z
            · rcases List.mem_append.mp z with z | z
              · rw [List.mem_singleton.mp z]; exact frL
              · exact frR b z
            · rw [List.mem_singleton.mp z]; exact frA) (fun b hb => Sc.alc b (by
            rcases List.mem_append.mp hb with z | z
            · rcases List.mem_append.mp z with z | z
              · rw [List.mem_singleton.mp z]; exact List.mem_cons_self
              · exact List.mem_cons_of_mem _ (List.mem_append_left _ z)
            · rw [List.mem_singleton.mp z]; exact List.mem_cons_of_mem _ (List.mem_append_right _ (List.mem_append_right _ List.mem_cons_self)))) (by
            refine List.nodup_append.mpr ⟨List.nodup_append.mpr ⟨List.pairwise_singleton _ _, cellAddrs_nodup, fun a ha b hb e => ?_⟩, List.pairwise_singleton _ _, fun a ha b hb e => ?_⟩
            · subst e; rw [List.mem_singleton.mp ha] at hb; exact LR hb
            · subst e
              rw [List.mem_singleton.mp hb] at ha
              rcases List.mem_append.mp ha with z | z
              · exact aL (List.mem_singleton.mp z)
              · exact aR z) kp5
        have hd := R₆.down (χ' := [L'] ++ χ) (ws := wide L' (cellAddrs L' ocs.length) (wr ++ [acc])) (h' := s'.heap) (t := s'.toks) ?_ (fun b hb => ?_) (fun b hb => ?_) (fun q hq a ha hm => ?_) hkeep (fun b hb hb' => ?_)
        · exact hd.reshape rfl S'.gens S'.os
        · show List.Sublist (L' :: χ) (L' :: ((cellAddrs L' ocs.length ++ [acc]) ++ (wr ++ χ)))
          exact (((List.sublist_append_right wr χ).trans (List.sublist_append_right _ _))).cons_cons _
        · rcases List.mem_cons.mp hb with z | z
          · rw [z]; exact List.mem_append_left _ (List.mem_append_left _ List.mem_cons_self)
          · rcases List.mem_append.mp z with z | z
            · exact List.mem_append_left _ (List.mem_append_left _ (List.mem_cons_of_mem _ z))
            · rcases List.mem_append.mp z with z | z
              · exact List.mem_append_right _ (List.mem_append_left _ z)
              · exact List.mem_append_left _ (List.mem_append_right _ z)
        · rcases List.mem_cons.mp hb with z | z
          · rw [z]; exact hL₀
          · rcases List.mem_append.mp z with z | z
            · exact Sc.out _ (List.mem_cons_of_mem _ z)
            · rcases List.mem_append.mp z with z | z
              · exact hC b z
              · rw [List.mem_singleton.mp z]; exact hCa
        · obtain ⟨o, ho⟩ := S₂.cellOld q hq a ha
          rcases List.mem_cons.mp hm with z | z
          · exact (hxL q hq a ha).1 z
          · rcases List.mem_append.mp z with z | z
            · rw [frR a z] at ho; cases ho
            · rcases List.mem_append.mp z with z | z
              · exact (hxL q hq a ha).2 z
              · rw [List.mem_singleton.mp z, frA] at ho; cases ho
        · rcases List.mem_append.mp hb' with z | z
          · rw [List.mem_singleton.mp z]; obtain ⟨m, hm⟩ := live'; exact Ns.there hm
          · have hbχ : b ∈ wide env.locals ρ₂ χ := List.mem_cons_of_mem _ (List.mem_append_right _ z)
            obtain ⟨o, ho⟩ := S₂.alc b (List.mem_cons_of_mem _ (List.mem_append_right _ (List.mem_append_right _ z)))
            exact ⟨o, kp b o (fun hm => (nodup_mid S₂.nod).2 b hm hbχ) ho⟩
      refine hRR acc L' s' S₆ live' kp frL ?_
      simp only [AV.Is]
      refine ⟨acc, ys', rfl, fun hm => ?_, lo'.isList, ?_⟩
      · rcases List.mem_cons.mp hm with z | z
        · exact (hno _ (List.mem_cons.mpr (.inl z))).1 rfl
        · rcases List.mem_append.mp z with z | z
          · exact (hno _ (List.mem_cons_of_mem _ (List.mem_append_left _ z))).1 rfl
          · rcases List.mem_append.mp z with z | z
            · exact aL (List.mem_singleton.mp z)
            · exact (hno _ (List.mem_cons_of_mem _ (List.mem_append_right _ (List.mem_append_right _ z)))).1 rfl
      · cases hl : lend with
        | true => exact scalars_is (hsc hl) all'
        | false =>
          refine AllIs.plain (fun a ha => ?_) hrs all'
          rw [← hχp, hl]
          simp only [lendχ, Bool.false_eq_true, if_false]
          rcases List.mem_cons.mp ha with z | z
          · exact List.mem_cons_of_mem _ (List.mem_append_right _ (List.mem_cons_of_mem _ (List.mem_cons.mpr (.inl z))))
          · rcases List.mem_append.mp z with z | z
            · exact List.mem_cons_of_mem _ (List.mem_append_right _ (List.mem_cons_of_mem _ (List.mem_cons_of_mem _ (List.mem_append_left _ z))))
            · rcases List.mem_append.mp z with z | z
              · rw [List.mem_singleton.mp z]; exact List.mem_cons_self
              · exact List.mem_cons_of_mem _ (List.mem_append_right _ (List.mem_cons_of_mem _ (List.mem_cons_of_mem _ (List.mem_append_right _ z))))
  exact codeAny_compStart_any hg hga fin (D.self 0 _ _ _ (D.turns.frame 0 _ _ D.start fun b _ o e => kp5 b o e) fin)
end Mine
namespace Mine
variable {C : Base} {sc : Scope} {n p : Nat} {σ σ₁ σ₂ σ₃ σ' τ τ₁ τ₂ τ₃ τ' : AS}

/-- a block as it is written, and what it comes to -/
structure Block (C : Base) (sc : Scope) (n : Nat) (σ : AS) (elt target iter : Expr) (ifs : List Expr) (rest : List Comprehension) (scope : Scope) (pos : Pos) (rs : List AV) (σ₁ : AS) : Prop where
  kind : scope.kind = .function
  names : ∀ x ∈ scope.names, x.2 = .local → scope.names.lookup x.1 = some .local
  nd : (cellNames scope.names).Nodup
  fr : ∀ p ∈ scope.names, p.2 = .free → p.1 ∈ σ.cx.map (·.1)
  plain : plains rs = true
  size : rs.length ≤ 2 ^ 20
  run : ∃ (lend : Bool) (caps : List (Str × AV)) (xs : List AV) (ip : Pos) (emit : Value → Env → Sem Unit) (τ' : AS), EvI C sc n σ target iter xs σ₁ ∧ CapAll σ₁ lend caps ∧
    (∀ x ∈ caps.map (·.1), (x, NameKind.free) ∈ scope.names ∧ x ∉ cellNames scope.names) ∧
    (∀ x ∈ caps.map (·.1) ++ cellNames scope.names, ((rsc scope sc).names.lookup x = some .cell ∨ (rsc scope sc).names.lookup x = some .free) ∧ (x == ("__classdict__" : Str)) = false ∧ (x == ("__debug__" : Str)) = false) ∧
    CompTo C (rsc scope sc) n target ifs emit xs ⟨[], subCx caps (cellNames scope.names), subOwn (cellNames scope.names)⟩ rs τ' ∧ (lend = true → scalars rs = true) ∧
    (∀ it acc env, compTurn (.ListComp elt (⟨target, iter, ifs, 0⟩ :: rest) scope pos) 0 it acc env = turnOf ip target ifs it env (emit acc env) (again (.compLoop (.ListComp elt (⟨target, iter, ifs, 0⟩ :: rest) scope pos) 0 it acc env)))

section
variable {elt target iter : Expr} {ifs : List Expr} {rest : List Comprehension} {scope : Scope} {pos : Pos} {rs : List AV}
theorem Block.go (B : Block C sc n σ elt target iter ifs rest scope pos rs σ₁) {A : Around} {env : Env} {ρ χ : List Addr} {s : Shared} {E : Value → Shared → Prop} {use : Option (Value → Sem Unit)} {Q : Value → Shared → Prop} (hA : Ok n A) (hE : EnvOk sc env) (S : St C env σ ρ χ s)
    (hs : ∀ x, foldedSetIterable iter env x = pure x)
    (k : ∀ D' L' ρ₂ s', St C env σ₁ ρ₂ ([L'] ++ χ) s' → (∃ m, s'.heap.Ns L' m) → Evo (env.locals :: ρ) ρ s.heap ρ₂ s'.heap → ρ <+: ρ₂ → s.heap.get? L' = none → C.H.get? L' = none → (∀ q ∈ σ₁.cx, ∀ a, env.cells.lookup q.1 = some a → a ∉ [L']) →
      (AV.lst rs).Is ρ₂ (wide env.locals ρ₂ ([L'] ++ χ)) s'.heap (.ref D') → compPost (model C.prog C.w) A E use Q (.ref D') L' (.ok .next) s') :
    wpAny (model C.prog C.w) A (comprehension (.ListComp elt (⟨target, iter, ifs, 0⟩ :: rest) scope pos) scope env (firstIterPos (⟨target, iter, ifs, 0⟩ :: rest) pos) (newList []) false (eval iter env) use) Q E s := by
  obtain ⟨lend, caps, xs, ip, emit, τ', hi, hcaps, hfree, hkc, hw, hsc, hturn⟩ := B.run
  refine wpAny_comprehension_free (g := ⟨target, iter, ifs, 0⟩) (gs := rest) rfl hs (clos_eq fun x hx => ?_) B.kind B.names (hi A env ρ χ s _ E hA hE S fun I s₂ ρ₂ fp wr P Md Stt S₂ E₂ pre₂ fresh hcx D => ?_)
  · obtain ⟨q, hq, e⟩ := List.mem_map.mp (B.fr _ hx rfl)
    obtain ⟨_, _, _, a, ha, _⟩ := S.cx q hq
    rw [show x = q.1 from e.symm, ha]; rfl
  · have hC : ∀ b ∈ wr, C.H.get? b = none := fun b hb => by
      cases e : C.H.get? b with
      | none => rfl
      | some o => have e' := S.base b o e; rw [fresh b hb] at e'; cases e'
    refine comp_core (g := ⟨target, iter, ifs, 0⟩) (RR := compPost (model C.prog C.w) A E use Q) hturn rfl rfl B.kind hcaps (fun q hq => hfree _ (List.mem_map_of_mem hq)) B.nd (fun q hq => ?_) hw B.plain hsc B.size hA hE S₂ D hC hcx fun D' L' s' S' hns kp frL hI => ?_
    · refine hkc q.1 ?_
      rcases List.mem_append.mp hq with z | z
      · obtain ⟨q', hq', rfl⟩ := List.mem_map.mp z
        exact List.mem_append_left _ (List.mem_map_of_mem hq')
      · obtain ⟨⟨x, j⟩, hq', rfl⟩ := List.mem_map.mp z
        refine List.mem_append_right _ ?_
        have := List.mem_zipIdx_iff_getElem?.mp hq'
        exact List.mem_of_getElem? (i := j) (by simpa using this)
    · have frs : s.heap.get? L' = none := by
        cases e : s.heap.get? L' with
        | none => rfl
        | some o => obtain ⟨o', e'⟩ := E₂.live _ _ e; rw [frL] at e'; cases e'
      refine k D' L' ρ₂ s' S' hns (E₂.offFresh kp fresh) pre₂ frs ?_ (fun q hq a ha hm => ?_) hI
      · cases e : C.H.get? L' with
        | none => rfl
        | some o => have e' := S.base _ o e; rw [frs] at e'; cases e'
      · obtain ⟨o, ho⟩ := S₂.cellOld q hq a ha
        rw [List.mem_singleton.mp hm, frL] at ho; cases ho

theorem ev_block (B : Block C sc n σ elt target iter ifs rest scope pos rs σ₁) (hs : ∀ env x, foldedSetIterable iter env x = pure x := by intro _ _; rfl) :
    Ev C sc n σ (.ListComp elt (⟨target, iter, ifs, 0⟩ :: rest) scope pos) (.lst rs) σ₁ := fun A env ρ χ s Q E hA hE S h => by
  show wpAny _ A (eval _ env) Q E s
  rw [eval_ListComp]
  refine B.go (use := none) hA hE S (hs env) fun D' L' ρ₂ s' S' hns Ev pre frs frC hx hI => ?_
  obtain ⟨m, hm⟩ := hns
  refine ⟨m, hm, fun h' hb => ?_⟩
  have hk : ∀ b o, b ∉ [L'] → s'.heap.get? b = some o → h'.get? b = some o := fun b o hb' e => hb.extBut b o (fun z => hb' (List.mem_singleton.mpr z)) e
  refine h _ _ ρ₂ ⟨S'.offDrop (wr := [L']) (t := s'.toks) (fun b hb => by rw [List.mem_singleton.mp hb]; exact frC) hx hk, Ev.offFresh hk (fun b hb => by rw [List.mem_singleton.mp hb]; exact frs), pre⟩ ?_
  refine hI.evo (fun a o ha e => hk a o (fun z => ha ?_) e) (fun a ha => .inl ?_) (List.prefix_refl _)
  · exact List.mem_cons_of_mem _ (List.mem_append_right _ (List.mem_append_left _ z))
  · rcases List.mem_cons.mp ha with z | z
    · exact List.mem_cons.mpr (.inl z)
    · rcases List.mem_append.mp z with z | z
      · exact List.mem_cons_of_mem _ (List.mem_append_left _ z)
      · exact List.mem_cons_of_mem _ (List.mem_append_right _ (List.mem_append_right _ z))

/-- a block told to a local name of the same row -/
theorem ex_block {y : Str} {py spos : Pos} {ls' : List (Str × AV)} (B : Block C sc n σ elt target iter ifs rest scope pos rs σ₁) (hset : SetL y (.lst rs) σ₁.ls ls') (hy : sc.names.lookup y = some .local) (hd : (y == ("__debug__" : Str)) = false)
    (hsw : ∀ env, EnvOk sc env → swapsWith (.ListComp elt (⟨target, iter, ifs, 0⟩ :: rest) scope pos) (some (.Name y py)) spos.line env = pure true) (hs : ∀ env x, foldedSetIterable iter env x = pure x := by intro _ _; rfl) :
    Ex1 C sc n p σ (.Assign [.Name y py] (.ListComp elt (⟨target, iter, ifs, 0⟩ :: rest) scope pos) spos) .next { σ₁ with ls := ls' } := fun A env ρ χ s Q E hA hE S hp h => by
  show wpAny _ A (exec _ env) Q E s
  rw [exec_Assign_Name_used _ _ _ _ (hsw env hE)]
  refine wpAny_bind (wpAny_standAt (wpAny_bind ?_))
  show wpAny _ A (do let _ ← comprehension (.ListComp elt (⟨target, iter, ifs, 0⟩ :: rest) scope pos) scope env _ (newList []) false (eval iter env) (some (assign (.Name y py) env))) _ _ s
  refine wpAny_bind (wpAny_mono (B.go (use := some (assign (.Name y py) env)) (Q := fun _ s' => Q .next s') hA hE S (hs env) fun D' L' ρ₂ s' S' hns Ev pre frs frC hx hI => ?_) (fun _ s' hq => wpAny_pure (wpAny_pure hq)) fun _ _ e => e)
  refine wpAny_assign_Name (store_local hE S' hset hy hd hI fun s'' P' => ?_)
  obtain ⟨m, hm⟩ := hns
  have hL : L' ∉ env.locals :: ρ₂ := res_off S'.nod (List.mem_append_left _ List.mem_cons_self)
  refine ⟨m, hm.at' fun o e => P'.evo.keep _ o hL e, fun h' hb => ?_⟩
  have hk : ∀ b o, b ∉ [L'] → s''.heap.get? b = some o → h'.get? b = some o := fun b o hb' e => hb.extBut b o (fun z => hb' (List.mem_singleton.mpr z)) e
  have PP : Post C env { σ₁ with ls := ls' } ρ χ s ρ₂ { s'' with heap := h' } := ⟨P'.st.offDrop (wr := [L']) (t := s''.toks) (fun b hb => by rw [List.mem_singleton.mp hb]; exact frC) hx hk,
    (Ev.trans P'.evo).offFresh hk (fun b hb => by rw [List.mem_singleton.mp hb]; exact frs), pre⟩
  exact h _ _ ρ₂ (PP.toS hp) rfl
end
end Mine
namespace Mine
variable {C : Base} {sc : Scope} {n p : Nat} {σ σ₁ σ₂ σ₃ σ₄ σ' : AS}

/-! ### names of the text -/
theorem ev_gint {x : Str} {pos : Pos} {i : Int} (hx : sc.names.lookup x = some .globalImplicit) (hg : ∃ t, C.mg x = some (.int i t)) (hd : (x == ("__debug__" : Str)) = false) : Ev C sc n σ (.Name x pos) (.int i) σ := fun A env ρ χ s Q E hA hE S h => by
  obtain ⟨t, hg⟩ := hg
  exact name_global hE S hx hg hd (h _ s ρ (Post.refl S) ⟨t, rfl⟩)

/-! ### x += e -/
def InR (C : Base) (op : Operator) (a b r : AV) : Prop :=
  ∀ (n : Nat) (A : Around) (env : Env) (σ : AS) (ρ χ : List Addr) (s : Shared) (v w : Value) (Q : Value → Shared → Prop) (E : Value → Shared → Prop), Ok n A → St C env σ ρ χ s →
    a.Is ρ (wide env.locals ρ χ) s.heap v → b.Is ρ (wide env.locals ρ χ) s.heap w →
    (∀ x s', Post C env σ ρ χ s ρ s' → r.Is ρ (wide env.locals ρ χ) s'.heap x → Q x s') → wpAny (model C.prog C.w) A (inplaceOp op v w) Q E s
theorem inr_add {i j : Int} : InR C .Add (.int i) (.int j) (.int (i + j)) := fun _ _ _ _ ρ _ s _ _ _ _ _ S ⟨_, hv⟩ ⟨_, hw⟩ h => by
  subst hv hw; exact wpAny_iadd_int (h _ _ (Post.toks S _) ⟨_, rfl⟩)
theorem inr_sub {i j : Int} : InR C .Sub (.int i) (.int j) (.int (i - j)) := fun _ _ _ _ ρ _ s _ _ _ _ _ S ⟨_, hv⟩ ⟨_, hw⟩ h => by
  subst hv hw; exact PyProof.Rows.isub_int (h _ _ (Post.toks S _) ⟨_, rfl⟩)
theorem ex_aug {x : Str} {pos' pos : Pos} {op : Operator} {e : Expr} {a b r : AV} {ls' : List (Str × AV)} (hl : (x, a) ∈ σ.ls) (he : Ev C sc n σ e b σ₁) (ho : InR C op a b r) (hset : SetL x r σ₁.ls ls') (hx : sc.names.lookup x = some .local) (hd : (x == ("__debug__" : Str)) = false) :
    Ex1 C sc n p σ (.AugAssign (.Name x pos') op e pos) .next { σ₁ with ls := ls' } := fun A env ρ χ s Q E hA hE S hp h =>
  wpAny_AugAssign_Name (load_local hE S hl fun v hv => he A env ρ χ s _ E hA hE S fun w s₁ ρ₁ P₁ hw => ho n A env σ₁ ρ₁ χ s₁ v w _ E hA P₁.st (P₁.is hv) hw fun y s₂ P₂ hy =>
    store_local hE P₂.st hset hx hd hy fun s₃ P₃ => h _ s₃ ρ₁ (((P₁.trans P₂).trans P₃).toS hp) rfl)
theorem ex_aug_cell {x : Str} {pos' pos : Pos} {op : Operator} {e : Expr} {a b r : AV} {k : Nat} {o : Option AV} (hl : (x, CV.own k) ∈ σ.cx) (hk : σ.own[k]? = some (.cell (some a))) (he : Ev C sc n σ e b σ₁) (ho : InR C op a b r)
    (hl₁ : (x, CV.own k) ∈ σ₁.cx) (hx : sc.names.lookup x = some .cell) (hk₁ : σ₁.own[k]? = some (.cell o)) :
    Ex1 C sc n p σ (.AugAssign (.Name x pos') op e pos) .next { σ₁ with own := σ₁.own.set k (.cell (some r)) } := fun A env ρ χ s Q E hA hE S hp h =>
  wpAny_AugAssign_Name (load_cell hE S hl hk fun v hv => he A env ρ χ s _ E hA hE S fun w s₁ ρ₁ P₁ hw => ho n A env σ₁ ρ₁ χ s₁ v w _ E hA P₁.st (P₁.is hv) hw fun y s₂ P₂ hy =>
    store_cell hE P₂.st hl₁ hx hk₁ hy fun s₃ P₃ => h _ s₃ ρ₁ (((P₁.trans P₂).trans P₃).toS hp) rfl)

/-! ### lists -/
theorem bin_ladd {xs ys : List AV} (hz : xs.length + ys.length ≤ 2 ^ 20 := by simp) : BinR C .Add (.lst xs) (.lst ys) (.lst (xs ++ ys)) := fun _ A env σ ρ χ s v w _ _ hA S hv hw h => by
  simp only [AV.Is] at hv hw
  obtain ⟨a, vs, rfl, _, hl, hx⟩ := hv
  obtain ⟨b, us, rfl, _, hl', hy⟩ := hw
  obtain ⟨m, hns, _⟩ := S.ns
  refine add_lists (S.fr hns) St.news hl hl' (fun h' F' N' => ?_) (by rw [hx.length, hy.length]; unfold sizeLine; omega)
  have key := newLst_of (t := s.toks) (a := s.heap.objs.size) (h' := h') (xs := xs ++ ys) (vs := vs ++ us) S (hx.append hy) hns F'.ns (keeps_of (more := [(s.heap.objs.size, { cls := .type "list", data := .seq (vs ++ us).toArray })]) (S.fr hns) F' N') (noneSize _) ⟨_, (N' _ List.mem_cons_self).1, rfl, _, rfl⟩
  exact h _ _ key.1 key.2

/-! slices -/
def EvP (C : Base) (sc : Scope) (n : Nat) (σ : AS) (e : Option Expr) (i : Option Int) (σ' : AS) : Prop := Run C sc n σ (evalPart e) (fun _ _ _ v => IsPart v i) σ'
theorem evp_none : EvP C sc n σ none none σ := fun _ _ _ _ s _ _ _ _ S h => evalPart_none_step (h _ _ _ (Post.refl S) .none)
theorem evp_int {e : Expr} {i : Int} (h₁ : Ev C sc n σ e (.int i) σ') : EvP C sc n σ (some e) (some i) σ' := fun A env ρ χ s Q E hA hE S h =>
  evalPart_some_step (h₁ A env ρ χ s _ E hA hE S fun v s' ρ' P ⟨t, hv⟩ => h v s' ρ' P (hv ▸ .int i t))
theorem evp_no {e : Expr} (h₁ : Ev C sc n σ e .none σ') : EvP C sc n σ (some e) none σ' := fun A env ρ χ s Q E hA hE S h =>
  evalPart_some_step (h₁ A env ρ χ s _ E hA hE S fun v s' ρ' P hv => by
    have hv' : v = .none := hv
    exact h v s' ρ' P (hv' ▸ .none))
def pickAV (xs : List AV) (lo hi st : Option Int) : List AV := (sliceRange (sliceBounds lo hi st xs.length).1 (sliceBounds lo hi st xs.length).2.1 (sliceBounds lo hi st xs.length).2.2).filterMap (xs[·]?)
theorem AllIs.places {ρ W : List Addr} {h : Heap} {xs : List AV} {vs : List Value} (e : AllIs ρ W h xs vs) : ∀ js : List Nat, AllIs ρ W h (js.filterMap (xs[·]?)) (js.filterMap (vs[·]?))
  | [] => by simp [AllIs]
  | j :: js => by
    have ih := AllIs.places e js
    cases hx : xs[j]? with
    | some x =>
      obtain ⟨v, hv, hI⟩ := e.get hx
      simp only [List.filterMap_cons, hx, hv, AllIs]
      exact ⟨v, _, rfl, hI, ih⟩
    | none =>
      have hv : vs[j]? = none := by
        rw [List.getElem?_eq_none_iff] at hx ⊢
        rw [e.length]; exact hx
      simp only [List.filterMap_cons, hx, hv]
      exact ih
theorem AllIs.pick {ρ W : List Addr} {h : Heap} {xs : List AV} {vs : List Value} (e : AllIs ρ W h xs vs) (lo hi st : Option Int) : AllIs ρ W h (pickAV xs lo hi st) (slicePick vs.toArray lo hi st).toList := by
  have q : (slicePick vs.toArray lo hi st).toList = (sliceRange (sliceBounds lo hi st xs.length).1 (sliceBounds lo hi st xs.length).2.1 (sliceBounds lo hi st xs.length).2.2).filterMap (vs[·]?) := by
    simp [slicePick, e.length]
  rw [q]
  exact e.places _
theorem ev_lslice {value : Expr} {lo up st : Option Expr} {p pos : Pos} {r : AV} {xs : List AV} {l u k : Option Int} (hv : Ev C sc n σ value r σ₁) (hl : EvP C sc n σ₁ lo l σ₂) (hu : EvP C sc n σ₂ up u σ₃) (hk : EvP C sc n σ₃ st k σ₄) (hr : LstOf σ₄ r xs) (h0 : k ≠ some 0 := by nofun)
    (hz : xs.length ≤ 2 ^ 20 := by simp) : Ev C sc n σ (.Subscript value (.Slice lo up st p) pos) (.lst (pickAV xs l u k)) σ₄ := fun A env ρ χ s Q E hA hE S h =>
  Subscript_ (hv A env ρ χ s _ E hA hE S fun v s₁ ρ₁ P₁ hI => wpAny_Slice (hl A env ρ₁ χ s₁ _ E hA hE P₁.st fun vl s₂ ρ₂ P₂ hvl => hu A env ρ₂ χ s₂ _ E hA hE P₂.st fun vu s₃ ρ₃ P₃ hvu => hk A env ρ₃ χ s₃ _ E hA hE P₃.st fun vk s₄ ρ₄ P₄ hvk => by
    have PP := P₂.trans (P₃.trans P₄)
    obtain ⟨a, vs, rfl, hl', hx⟩ := hr.get P₄.st (PP.is hI)
    have P₅ := Post.push P₄.st { cls := .type "slice", data := .fields #[vl, vu, vk] } s₄.toks
    refine sub_tail (Heap.IsList.typeIs (s := { s₄ with heap := s₄.heap.push { cls := .type "slice", data := .fields #[vl, vu, vk] } }) (hl'.push _)) list_getitem_lookup
      (wpAny_getItem_list_slice (hl'.push _) (Heap.IsSliceOf.new ..) hvl hvu hvk h0 ?_ (by rw [List.size_toArray, hx.length]; unfold sizeLine; omega))
    have hx5 := (P₅.all hx).pick l u k
    obtain ⟨P6, I6⟩ := newLst (xs := pickAV xs l u k) (vs := (slicePick vs.toArray l u k).toList) P₅.st hx5 s₄.toks
    simp only [Array.toArray_toList] at P6 I6
    exact h _ _ ρ₄ (((P₁.trans PP).trans P₅).trans P6) I6))

/-! equality -/
theorem cmp_leq {ns ms : List Int} : CmpR C .Eq (.lst (zs ns)) (.lst (zs ms)) (decide (ns = ms)) := fun _ A env σ ρ χ s v w _ _ hA S hv hw h => by
  simp only [AV.Is] at hv hw
  obtain ⟨a, vs, rfl, _, hl, hx⟩ := hv
  obtain ⟨b, us, rfl, _, hl', hy⟩ := hw
  exact ke_eq_ints hl hl' (ints_allIs hx) (ints_allIs hy) (by have := hA.line; omega) (h _ (Post.refl S))
theorem cmp_lne {ns ms : List Int} : CmpR C .NotEq (.lst (zs ns)) (.lst (zs ms)) (!decide (ns = ms)) := fun _ A env σ ρ χ s v w _ _ hA S hv hw h => by
  simp only [AV.Is] at hv hw
  obtain ⟨a, vs, rfl, _, hl, hx⟩ := hv
  obtain ⟨b, us, rfl, _, hl', hy⟩ := hw
  exact ke_ne_ints hl hl' (ints_allIs hx) (ints_allIs hy) (by have := hA.line; omega) (h _ (Post.refl S))
theorem cmp_tne {i j i' j' : Int} (h₁ : i = i') (h₂ : j = j') : CmpR C .NotEq (.tup [.int i, .int j]) (.tup [.int i', .int j']) false := fun _ A env σ ρ χ s v w _ E hA S hv hw h => by
  subst h₁ h₂
  simp only [AV.Is, AllIs] at hv hw
  obtain ⟨a, vs, rfl, _, hl, x, _, rfl, ⟨t, rfl⟩, y, _, rfl, ⟨t', rfl⟩, rfl⟩ := hv
  obtain ⟨b, us, rfl, _, hl', x', _, rfl, ⟨u, rfl⟩, y', _, rfl, ⟨u', rfl⟩, rfl⟩ := hw
  have hl : s.heap.IsTuple a [Value.int i t, Value.int j t'].toArray := hl
  have hl' : s.heap.IsTuple b [Value.int i u, Value.int j u'].toArray := hl'
  refine SeqAt.RcNeAt.tuples (e := fun _ => true) hl hl' (by have := hA.line; omega) (fun k h1 h2 => ?_) C.prog C.w E _ (h _ (Post.refl S))
  have hk : k < 2 := h1
  match k, hk with
  | 0, _ =>
    have := SeqAt.EqAt.int_int (A := A.in1) (s := s) i t i u
    simpa using this
  | 1, _ =>
    have := SeqAt.EqAt.int_int (A := A.in1) (s := s) j t' j u'
    simpa using this
theorem cmp_ge {i j : Int} : CmpR C .GtE (.int i) (.int j) (decide (i ≥ j)) := fun _ _ _ _ ρ _ s _ _ _ _ _ S ⟨_, hv⟩ ⟨_, hw⟩ h => by
  subst hv hw; exact P.ge_int (h _ (Post.refl S))
end Mine
namespace Mine
variable {C : Base} {sc : Scope} {n p : Nat} {σ σ₁ σ₂ σ₃ σ₄ σ' : AS}

/-! ### words as lists of codes -/
def st (l : List Nat) : Str := ⟨l.toArray⟩
theorem st_length {l : List Nat} : (st l).length = l.length := by show l.toArray.size = _; simp
theorem st_cps {l : List Nat} : (st l).cps = l.toArray := rfl

theorem picked {α : Type} (l : List α) (a m : Nat) : ((List.range m).map (a + ·)).filterMap (fun i => l[i]?) = (l.drop a).take m := by
  induction m with
  | zero => simp
  | succ m ih =>
    rw [List.range_succ, List.map_append, List.filterMap_append, ih, List.take_add_one]
    congr 1
    simp only [List.map_cons, List.map_nil, List.filterMap_cons, List.filterMap_nil, List.getElem?_drop]
    cases l[a + m]? <;> rfl
theorem txt_slice {l : List Nat} {lo hi : Option Int} {a b : Nat} (h : Builtin.Str.strSliceIndices lo hi 1 l.length = (List.range (b - a)).map (a + ·)) (hb : b ≤ l.length) : Txt.slice (st l) lo hi = st ((l.drop a).take (b - a)) := by
  unfold Txt.slice
  rw [st_length, h]
  by_cases hc : b - a = l.length
  · rw [if_pos (by simp [hc])]
    by_cases h0 : l.length = 0
    · have : l = [] := List.length_eq_zero_iff.mp h0
      subst this; simp
    · have ha : a = 0 := by omega
      subst ha
      rw [List.drop_zero, List.take_of_length_le (by omega)]
  · rw [if_neg (by simp [hc])]
    show (⟨_⟩ : Str) = ⟨_⟩
    congr 1
    rw [← picked l a (b - a)]
    have e : (fun i : Nat => (st l).cps[i]?) = fun i : Nat => l[i]? := by
      funext i
      show l.toArray[i]? = l[i]?
      simp
    rw [e]
theorem slice_from {l : List Nat} {i : Nat} : Txt.slice (st l) (some (i : Int)) none = st (l.drop i) := by
  by_cases hi : i ≤ l.length
  · rw [txt_slice (a := i) (b := l.length) ?_ (Nat.le_refl _), List.take_of_length_le (by simp)]
    unfold Builtin.Str.strSliceIndices
    simp only [show (1 : Int) > 0 by decide, if_true]
    rw [if_neg (by omega), show max (0 : Int) (min (i : Int) (l.length : Int)) = (i : Int) by omega]
    exact sliceRange_one _ _
  · rw [txt_slice (a := l.length) (b := l.length) ?_ (Nat.le_refl _)]
    · congr 1
      rw [List.drop_eq_nil_of_le (Nat.le_refl _), List.drop_eq_nil_of_le (by omega), List.take_nil]
    · unfold Builtin.Str.strSliceIndices
      simp only [show (1 : Int) > 0 by decide, if_true]
      rw [if_neg (by omega), show max (0 : Int) (min (i : Int) (l.length : Int)) = (l.length : Int) by omega]
      exact sliceRange_one _ _
theorem slice_all {l : List Nat} : Txt.slice (st l) none none = st l := by
  rw [txt_slice (a := 0) (b := l.length) ?_ (Nat.le_refl _), List.drop_zero, List.take_of_length_le (by simp)]
  unfold Builtin.Str.strSliceIndices
  simp only [show (1 : Int) > 0 by decide, if_true]
  exact sliceRange_one 0 _
theorem slice_upto {l : List Nat} {k : Nat} (hk : 0 < k) : Txt.slice (st l) none (some (-(k : Int))) = st (l.take (l.length - k)) := by
  rw [txt_slice (a := 0) (b := l.length - k) ?_ (by omega), List.drop_zero, Nat.sub_zero]
  unfold Builtin.Str.strSliceIndices
  simp only [show (1 : Int) > 0 by decide, if_true]
  rw [if_pos (by omega), show max (0 : Int) (min (-(k : Int) + (l.length : Int)) (l.length : Int)) = ((l.length - k : Nat) : Int) by omega]
  exact sliceRange_one 0 _

/-! rules -/
theorem ev_sitem {value slice : Expr} {pos : Pos} {l : List Nat} {i : Int} {c : Nat} (hv : Ev C sc n σ value (.str (st l)) σ₁) (hi : Ev C sc n σ₁ slice (.int i) σ₂) (hc : (seqIndex? i l.length).bind (l[·]?) = some c) (h₁ : -1000 ≤ i) (h₂ : i ≤ 1000) :
    Ev C sc n σ (.Subscript value slice pos) (.str (st [c])) σ₂ := fun A env ρ χ s Q E hA hE S h =>
  Subscript_ (hv A env ρ χ s _ E hA hE S fun v s₁ ρ₁ P₁ ⟨t, hv'⟩ => hi A env ρ₁ χ s₁ _ E hA hE P₁.st fun w s₂ ρ₂ P₂ ⟨u, hw⟩ => by
    subst hv' hw
    refine sub_tail (typeIs_str _ _ _) F.slot_str_getitem.lookup (P.getItem_str (c := c) (by simp only [Bool.or_eq_false_iff, decide_eq_false_iff_not]; omega) ?_ (h _ _ ρ₂ ((P₁.trans P₂).trans (Post.toks P₂.st _)) ⟨_, rfl⟩))
    rw [st_length]
    simpa [st_cps] using hc)
theorem ev_sslice {value : Expr} {lo up : Option Expr} {p pos : Pos} {x : Str} {l u : Option Int} (hv : Ev C sc n σ value (.str x) σ₁) (hl : EvP C sc n σ₁ lo l σ₂) (hu : EvP C sc n σ₂ up u σ₃) (hz : x.length ≤ 2 ^ 20) :
    Ev C sc n σ (.Subscript value (.Slice lo up none p) pos) (.str (Txt.slice x l u)) σ₃ := fun A env ρ χ s Q E hA hE S h =>
  Subscript_ (hv A env ρ χ s _ E hA hE S fun v s₁ ρ₁ P₁ ⟨t, hI⟩ => wpAny_Slice (hl A env ρ₁ χ s₁ _ E hA hE P₁.st fun vl s₂ ρ₂ P₂ hvl => hu A env ρ₂ χ s₂ _ E hA hE P₂.st fun vu s₃ ρ₃ P₃ hvu => evalPart_none_step (by
    subst hI
    have PP := (P₁.trans P₂).trans P₃
    have hsz : x.length ≤ sizeLine := by unfold sizeLine; omega
    have hK : KeptH fun h' => ∀ b o, s₃.heap.get? b = some o → h'.get? b = some o := fun h ob k b o e => Heap.get?_push_of_some _ (k b o e)
    have fin : ∀ h' t' k, (∀ b o, s₃.heap.get? b = some o → h'.get? b = some o) → Q (.str (Txt.slice x l u) t') { s₃ with heap := h', toks := k } := fun h' t' k hk => h _ _ ρ₃ (PP.trans (Post.grown P₃.st hk)) ⟨_, rfl⟩
    have key : ItemOn (model C.prog C.w) A E (.str x t) (.ref s₃.heap.objs.size) Q { s₃ with heap := s₃.heap.push { cls := .type "slice", data := .fields #[vl, vu, .none] } } := by
      cases hvl with
      | none =>
        cases hvu with
        | none => exact SBH.sliceItem_nn hK (fun _ _ e => e) fin hsz
        | int j uj => exact SBH.sliceItem_ns hK (fun _ _ e => e) fin hsz
      | int i ui =>
        cases hvu with
        | none => exact SBH.sliceItem_sn hK (fun _ _ e => e) fin hsz
        | int j uj => exact SBH.sliceItem_ss hK (fun _ _ e => e) fin hsz
    obtain ⟨T, id, hl', hT, hg⟩ := key
    exact sub_tail hT hl' hg)))
theorem evt_str {e : Expr} {x : Str} (h₁ : Ev C sc n σ e (.str x) σ') (hz : x.length ≤ 2 ^ 20) (he : ∀ env whole, isTrue e env whole = (do let v ← whole; standAt e.pos; holding [v] (truthy v)) := by intro _ _; rfl) :
    EvT C sc n σ e (x.length != 0) σ' := fun A env ρ χ s Q E hA hE S h =>
  wpAny_isTrue_value (h₁ A env ρ χ s _ E hA hE S fun v s₁ ρ₁ P₁ ⟨t, hv⟩ => by
    subst hv
    refine P.truthy_str (by omega) (h _ _ ρ₁ (P₁.trans (Post.toks P₁.st _)) ?_)
    cases hx : x.length with
    | zero => rfl
    | succ m => exact bne_iff_ne.mpr (by omega) |>.trans (by simp)) (he env _)
theorem ev_or_some {x y : Expr} {pos : Pos} {i : Int} (h₁ : Ev C sc n σ x (.int i) σ₁) (hi : i ≠ 0) : Ev C sc n σ (.BoolOp .Or [x, y] pos) (.int i) σ₁ := fun A env ρ χ s Q E hA hE S h =>
  wpAny_Or2 (h₁ A env ρ χ s _ E hA hE S fun v s₁ ρ₁ P₁ ⟨t, hv⟩ => by
    subst hv
    refine P.truthy_int ?_
    rw [show (i != 0) = true from bne_iff_ne.mpr hi]
    exact h _ s₁ ρ₁ P₁ ⟨t, rfl⟩)
theorem ev_or_none {x y : Expr} {pos : Pos} {r : AV} (h₁ : Ev C sc n σ x (.int 0) σ₁) (h₂ : Ev C sc n σ₁ y r σ₂) : Ev C sc n σ (.BoolOp .Or [x, y] pos) r σ₂ := fun A env ρ χ s Q E hA hE S h =>
  wpAny_Or2 (h₁ A env ρ χ s _ E hA hE S fun v s₁ ρ₁ P₁ ⟨t, hv⟩ => by
    subst hv
    refine P.truthy_int ?_
    exact h₂ A env ρ₁ χ s₁ Q E hA hE P₁.st fun w s₂ ρ₂ P₂ hw => h w s₂ ρ₂ (P₁.trans P₂) hw)
theorem bin_sadd {x y : Str} (hz : x.length + y.length ≤ 2 ^ 20) : BinR C .Add (.str x) (.str y) (.str (x ++ y)) := fun _ A env σ ρ χ s v w _ _ hA S ⟨t, hv⟩ ⟨u, hw⟩ h => by
  subst hv hw
  exact SB.add (fun t' k => h _ _ (Post.toks S _) ⟨_, rfl⟩) (by unfold sizeLine; omega)
theorem bin_smul {x : Str} {k : Int} (hm : MulOk x k) : BinR C .Mult (.str x) (.int k) (.str (Txt.mul x k)) := fun _ A env σ ρ χ s v w _ _ hA S ⟨t, hv⟩ ⟨u, hw⟩ h => by
  subst hv hw
  exact SB.mul hm fun t' k => h _ _ (Post.toks S _) ⟨_, rfl⟩
theorem ev_lower {o : Expr} {apos pos : Pos} {x y : Str} (ho : Ev C sc n σ o (.str x) σ₁) (hx : Txt.lower x = y) (hfit : Builtin.Str.tooLong (Txt.lower x).length = false) (hbase : ∀ env, attributeBase o "lower" env (eval o env) = eval o env := by intro _; rfl)
    (hline : (apos.endLine == pos.line) = true := by rfl) : Ev C sc n σ (.Call (.Attribute o "lower" apos) [] [] pos) (.str y) σ₁ := fun A env ρ χ s Q E hA hE S h =>
  wpAny_Call_method_lateS (hbase env) rfl hline (ho A env ρ χ s _ E hA hE S fun v s₁ ρ₁ P₁ ⟨t, hv⟩ => by
    subst hv
    exact SB.lower hfit (h _ _ ρ₁ (P₁.trans (Post.toks P₁.st _)) ⟨_, by rw [hx]⟩))
end Mine
namespace Mine
variable {C : Base} {sc : Scope} {n p : Nat} {σ σ₁ σ₂ σ₃ σ' : AS}
local macro_rules | `(tactic| lcg_sub) => `(tactic| ((try dsimp only); repeat (first | (with_reducible exact List.mem_cons_self) | (with_reducible apply List.mem_cons_of_mem))))
local macro_rules | `(tactic| lcg_src) => `(tactic| repeat (first | (with_reducible exact List.nil_sublist _) | (with_reducible apply List.Sublist.cons_cons) | (with_reducible apply List.Sublist.cons)))
local macro_rules | `(tactic| lcg_off) => `(tactic| first | (with_reducible exact SetL.nil) | (with_reducible exact SetL.hit) | (with_reducible exact SetL.miss (by decide +kernel) (by lcg_off)) | (dsimp only; first | (with_reducible exact SetL.nil) | (with_reducible exact SetL.hit) | (with_reducible exact SetL.miss (by decide +kernel) (by lcg_off))))

theorem gcase (X : KX C) : ∃ t, C.mg "_CASE_COST" = some (.int 1 t) := ⟨_, mg_of X C.g rfl⟩
theorem gmove (X : KX C) : ∃ t, C.mg "_MOVE_COST" = some (.int 2 t) := ⟨_, mg_of X C.g rfl⟩
theorem gmaxs (X : KX C) : ∃ t, C.mg "_MAX_STRING_SIZE" = some (.int 40 t) := ⟨_, mg_of X C.g rfl⟩
theorem g58 (X : KX C) : C.mg "_substitution_cost" = some (.ref 58) := mg_of X C.g rfl
theorem f58 (X : KX C) : IsFn C 58 := ⟨_, _, X 58 _ rfl, rfl⟩

def sub (c d : Nat) : Nat := if c = d then 0 else 1
def Ab (c : Nat) : Prop := c = 97 ∨ c = 65
theorem st_eq {l m : List Nat} : ((st l).cps.toList == (st m).cps.toList) = decide (l = m) := by
  rw [st_cps, st_cps]
  by_cases h : l = m
  · subst h; simp
  · rw [decide_eq_false h]; simpa using h
theorem lower_a : Txt.lower (st [97]) = st [97] := by decide +kernel
theorem lower_A : Txt.lower (st [65]) = st [97] := by decide +kernel
theorem lower_ab {c : Nat} (h : Ab c) : Txt.lower (st [c]) = st [97] := by
  rcases h with rfl | rfl
  · exact lower_a
  · exact lower_A

theorem subst_ok (X : KX C) {c d : Nat} (hc : Ab c) (hd : Ab d) : CallOk C (n + 1) 58 [] [.str (st [c]), .str (st [d])] (.int (sub c d)) [] := by
  refine call_entry (σ' := ⟨[], [], []⟩) (fl := .ret (.int (sub c d))) (own := []) (args' := [.str (st [c]), .str (st [d])]) (names := ["ch_a", "ch_b"]) ⟨⟨_, X 58 _ rfl, rfl⟩, codeRec_of X rfl, rfl, rfl, rfl⟩
    (by decide) (by decide +kernel) (by decide +kernel) rfl (fun s vs ρ W hb hvs => ?_) ?_ (.inr ⟨_, rfl, .plain rfl⟩) (fun o ho => by simp at ho)
  · simp only [AllIs] at hvs
    obtain ⟨a, _, rfl, ha, b, _, rfl, hb', rfl⟩ := hvs
    exact ⟨[a, b], by simp only [AllIs]; exact ⟨a, _, rfl, ha, b, _, rfl, hb', rfl⟩, BindsTo.of_eq rfl⟩
  · refine ex_forget (σ' := ⟨?ls, [], _⟩) ?_ (List.nil_sublist _)
    case ls => exact [("ch_a", .str (st [c])), ("ch_b", .str (st [d]))]
    show Ex C _ n _ ⟨[("ch_a", .str (st [c])), ("ch_b", .str (st [d]))], [], []⟩ _ _ _
    by_cases h : c = d
    · rw [show sub c d = 0 by unfold sub; rw [if_pos h]]
      refine ex_stop (ex_tt (evt_eq (evt_cmp (ev_local (by lcg_sub)) (ev_local (by lcg_sub)) cmp_seq) (by rw [st_eq]; exact decide_eq_true (by rw [h]))) ?_) (by nofun)
      exact ex_stop (ex_return ev_int) (by nofun)
    · rw [show sub c d = 1 by unfold sub; rw [if_neg h]]
      refine ex_cons (ex_ff (evt_eq (evt_cmp (ev_local (by lcg_sub)) (ev_local (by lcg_sub)) cmp_seq) (by rw [st_eq]; exact decide_eq_false (by simpa using h))) ex_nil) ?_
      refine ex_stop (ex_tt (evt_eq (evt_cmp (ev_lower (ev_local (by lcg_sub)) (lower_ab hc) (by rw [lower_ab hc]; decide +kernel)) (ev_lower (ev_local (by lcg_sub)) (lower_ab hd) (by rw [lower_ab hd]; decide +kernel)) cmp_seq) (by simp)) ?_) (by nofun)
      exact ex_stop (ex_return (ev_gint (by decide +kernel) (gcase X) (by decide +kernel))) (by nofun)
end Mine
namespace Mine
variable {C : Base} {sc : Scope} {n p : Nat} {σ σ₁ σ₂ σ₃ σ' : AS}
local macro_rules | `(tactic| lcg_sub) => `(tactic| ((try dsimp only); repeat (first | (with_reducible exact List.mem_cons_self) | (with_reducible apply List.mem_cons_of_mem))))
local macro_rules | `(tactic| lcg_src) => `(tactic| repeat (first | (with_reducible exact List.nil_sublist _) | (with_reducible apply List.Sublist.cons_cons) | (with_reducible apply List.Sublist.cons)))
local macro_rules | `(tactic| lcg_off) => `(tactic| first | (with_reducible exact SetL.nil) | (with_reducible exact SetL.hit) | (with_reducible exact SetL.miss (by decide +kernel) (by lcg_off)) | (dsimp only; first | (with_reducible exact SetL.nil) | (with_reducible exact SetL.hit) | (with_reducible exact SetL.miss (by decide +kernel) (by lcg_off))))

theorem ex_assign2 {x y : Str} {px py pos : Pos} {e : Expr} {r : AV} {ls₁ ls₂ : List (Str × AV)} (h₁ : Ev C sc n σ e r σ₁) (hset : SetL x r σ₁.ls ls₁) (hset' : SetL y r ls₁ ls₂) (hx : sc.names.lookup x = some .local) (hd : (x == ("__debug__" : Str)) = false)
    (hy : sc.names.lookup y = some .local) (hd' : (y == ("__debug__" : Str)) = false)
    (hs : ∀ env, swapsWithSole [.Name x px, .Name y py] e pos.line env = pure false := by intro _; rfl) (hw : ∀ env, swappedStores [.Name x px, .Name y py] e env = pure none := by intro _; rfl)
    (he : ∀ env, assignEach [.Name x px, .Name y py] env = [(false, assign (.Name x px) env), (false, assign (.Name y py) env)] := by intro _; rfl) :
    Ex1 C sc n p σ (.Assign [.Name x px, .Name y py] e pos) .next { σ₁ with ls := ls₂ } := fun A env ρ χ s Q E hA hE S hp h => by
  show wpAny _ A (exec _ env) Q E s
  rw [exec_Assign]
  refine wpAny_bind (wpAny_standAt ?_)
  rw [hs env]
  refine wpAny_bind (wpAny_pure ?_)
  rw [if_neg (by decide)]
  refine wpAny_bind (h₁ A env ρ χ s _ E hA hE S fun v s₁ ρ₁ P₁ hv => ?_)
  rw [hw env, he env]
  refine wpAny_bind (wpAny_pure ?_)
  show wpAny _ A (do assignAll v [assign (.Name x px) env, assign (.Name y py) env]; pure .next) Q E s₁
  refine wpAny_bind ?_
  show wpAny _ A (do holding [v] (assign (.Name x px) env v); assign (.Name y py) env v) _ E s₁
  refine wpAny_bind (wpAny_holding (wpAny_assign_Name (store_local hE P₁.st hset hx hd hv fun s₂ P₂ => ?_)))
  refine wpAny_assign_Name (store_local hE P₂.st hset' hy hd' (P₂.is hv) fun s₃ P₃ => wpAny_pure ?_)
  exact h _ s₃ ρ₁ (((P₁.trans P₂).trans P₃).toS hp) rfl

/-! traceback._levenshtein_distance, as a function -/
def prun (eq : Nat → Bool) : Nat → Nat → Nat
  | 0, i => i
  | f + 1, i => if eq i then prun eq f (i + 1) else i
def preEq (a b : List Nat) (i : Nat) : Bool := decide (i < a.length) && decide (a.getD i 0 = b.getD i 0)
def sufEq (a b : List Nat) (k : Nat) : Bool := decide (k < a.length) && decide (a.getD (a.length - 1 - k) 0 = b.getD (a.length - 1 - k) 0)
structure LS where
  row : List Int
  dist : Int
  res : Int
  mini : Int
def lstep (bc ac i : Nat) (s : LS) : LS :=
  let sb := s.dist + sub bc ac
  let d := s.row.getD i 0
  let ins := (if d < s.res then d else s.res) + 2
  let r := if sb < ins then sb else ins
  ⟨s.row.set i r, d, r, if r < s.mini then r else s.mini⟩
def linner (bc : Nat) (a : List Nat) : Nat → Nat → LS → LS
  | 0, _, s => s
  | f + 1, i, s => linner bc a f (i + 1) (lstep bc (a.getD i 0) i s)
def louter (m : Int) (a b : List Nat) : Nat → Nat → List Int → Int → Option (List Int × Int)
  | 0, _, row, r => some (row, r)
  | f + 1, j, row, _ =>
    let s := linner (b.getD j 0) a a.length 0 ⟨row, 2 * j, 2 * j, 9223372036854775807⟩
    if m < s.mini then none else louter m a b f (j + 1) s.row s.res
def levQ (m : Int) (a b : List Nat) : Option (List Int × Int) :=
  let i := prun (preEq a b) a.length 0
  let a₁ := a.drop i
  let b₁ := b.drop i
  let k := prun (sufEq a₁ b₁) a₁.length 0
  let a₂ := a₁.take (a₁.length - k)
  let b₂ := b₁.take (a₁.length - k)
  if a₂.length = 0 then none else louter m a₂ b₂ b₂.length 0 (rangeInts 2 2 a₂.length) 0
def levP (m : Int) (a b : List Nat) : Option Int := if a = b then some 0 else (levQ m a b).map (·.2)

theorem lstep_row {bc ac i : Nat} {s : LS} : (lstep bc ac i s).row.length = s.row.length := by unfold lstep; simp
theorem linner_row {bc : Nat} {a : List Nat} : ∀ {f i : Nat} {s : LS}, (linner bc a f i s).row.length = s.row.length
  | 0, _, _ => rfl
  | f + 1, i, s => by unfold linner; rw [linner_row (f := f), lstep_row]

theorem intsFrom_succ {a : Int} {k : Nat} : intsFrom a (k + 1) = .int a :: intsFrom (a + 1) k := by
  unfold intsFrom
  rw [List.range_succ_eq_map, List.map_cons, List.map_map]
  congr 1
  · simp
  · apply List.map_congr_left
    intro i _
    show AV.int (a + ((i + 1 : Nat) : Int)) = AV.int (a + 1 + (i : Int))
    congr 1; omega

section
variable {value : Expr} {p pos : Pos}
theorem ev_from {lo : Expr} {l : List Nat} {i : Nat} (hv : Ev C sc n σ value (.str (st l)) σ₁) (hl : Ev C sc n σ₁ lo (.int i) σ₂) (hz : l.length ≤ 1000) : Ev C sc n σ (.Subscript value (.Slice (some lo) none none p) pos) (.str (st (l.drop i))) σ₂ :=
  ev_eq (ev_sslice hv (evp_int hl) evp_none (by rw [st_length]; omega)) (congrArg AV.str slice_from)
theorem ev_upto {x y : Expr} {px : Pos} {l : List Nat} {k : Nat} (hv : Ev C sc n σ value (.str (st l)) σ₁) (hx : Ev C sc n σ₁ x (.int (-(k : Int))) σ₂) (hy : Ev C sc n σ₂ y .none σ₂) (hz : l.length ≤ 1000) :
    Ev C sc n σ (.Subscript value (.Slice none (some (.BoolOp .Or [x, y] px)) none p) pos) (.str (st (l.take (l.length - k)))) σ₂ := by
  by_cases hk : k = 0
  · subst hk
    refine ev_eq (ev_sslice hv evp_none (evp_no (ev_or_none hx hy)) (by rw [st_length]; omega)) (congrArg AV.str ?_)
    rw [slice_all, Nat.sub_zero, List.take_of_length_le (Nat.le_refl _)]
  · refine ev_eq (ev_sslice hv evp_none (evp_int (ev_or_some hx (by omega))) (by rw [st_length]; omega)) (congrArg AV.str (slice_upto (by omega)))
end
theorem ab_get {l : List Nat} (h : ∀ c ∈ l, Ab c) {i : Nat} (hi : i < l.length) : Ab (l.getD i 0) := by
  have : l.getD i 0 = l[i] := by simp [List.getD, List.getElem?_eq_getElem hi]
  rw [this]
  exact h _ (List.getElem_mem hi)
theorem item_pos {l : List Nat} {i : Nat} (hi : i < l.length) : (seqIndex? (i : Int) l.length).bind (l[·]?) = some (l.getD i 0) := by
  have e1 : (if (i : Int) < 0 then (i : Int) + (l.length : Int) else (i : Int)) = (i : Int) := if_neg (by omega)
  have e2 : (decide (0 ≤ (i : Int)) && decide ((i : Int) < (l.length : Int))) = true := by simp only [Bool.and_eq_true, decide_eq_true_eq]; omega
  unfold seqIndex?
  simp only [e1, e2, if_true]
  simp [List.getD, List.getElem?_eq_getElem hi]
theorem item_neg {l : List Nat} {k : Nat} (hk : k < l.length) : (seqIndex? (-(k : Int) - 1) l.length).bind (l[·]?) = some (l.getD (l.length - 1 - k) 0) := by
  have e1 : (if (-(k : Int) - 1) < 0 then (-(k : Int) - 1) + (l.length : Int) else (-(k : Int) - 1)) = (-(k : Int) - 1 + (l.length : Int)) := if_pos (by omega)
  have e2 : (decide (0 ≤ (-(k : Int) - 1 + (l.length : Int))) && decide ((-(k : Int) - 1 + (l.length : Int)) < (l.length : Int))) = true := by simp only [Bool.and_eq_true, decide_eq_true_eq]; omega
  unfold seqIndex?
  simp only [e1, e2, if_true]
  have e : (-(k : Int) - 1 + (l.length : Int)).toNat = l.length - 1 - k := by omega
  rw [e]
  have hi : l.length - 1 - k < l.length := by omega
  simp [List.getD, List.getElem?_eq_getElem hi]
theorem ne_zero {m : Nat} : (m != 0) = decide (0 < m) := by
  cases m with
  | zero => rfl
  | succ m => simp
theorem prun_le {eq : Nat → Bool} {N : Nat} (h : ∀ i, eq i = true → i < N) : ∀ {f i : Nat}, i ≤ N → prun eq f i ≤ N
  | 0, i, hi => hi
  | f + 1, i, hi => by
    unfold prun
    split
    · rename_i e; exact prun_le h (h i e)
    · exact hi
end Mine
namespace Mine
variable {C : Base} {sc : Scope} {n p : Nat} {σ σ₁ σ₂ σ₃ σ' : AS}
local macro_rules | `(tactic| lcg_sub) => `(tactic| ((try dsimp only); repeat (first | (with_reducible exact List.mem_cons_self) | (with_reducible apply List.mem_cons_of_mem))))
local macro_rules | `(tactic| lcg_src) => `(tactic| repeat (first | (with_reducible exact List.nil_sublist _) | (with_reducible apply List.Sublist.cons_cons) | (with_reducible apply List.Sublist.cons)))
local macro_rules | `(tactic| lcg_off) => `(tactic| first | (with_reducible exact SetL.nil) | (with_reducible exact SetL.hit) | (with_reducible exact SetL.miss (by decide +kernel) (by lcg_off)) | (dsimp only; first | (with_reducible exact SetL.nil) | (with_reducible exact SetL.hit) | (with_reducible exact SetL.miss (by decide +kernel) (by lcg_off))))

theorem grange (X : KX C) : C.mg "range" = none := mg_none_of X C.g rfl
theorem glist (X : KX C) : C.mg "list" = none := mg_none_of X C.g rfl
theorem gmin (X : KX C) : C.mg "min" = none := mg_none_of X C.g rfl
theorem evt_word {e : Expr} {l : List Nat} (h₁ : Ev C sc n σ e (.str (st l)) σ') (hz : l.length ≤ 1000) (he : ∀ env whole, isTrue e env whole = (do let v ← whole; standAt e.pos; holding [v] (truthy v)) := by intro _ _; rfl) : EvT C sc n σ e (decide (0 < l.length)) σ' :=
  evt_eq (evt_str h₁ (by rw [st_length]; omega) he) (by rw [st_length]; exact ne_zero)
theorem inr_succ {i : Nat} : InR C .Add (.int i) (.int 1) (.int ((i + 1 : Nat) : Int)) := inr_add
theorem inr_pred {k : Nat} : InR C .Sub (.int (-(k : Int))) (.int 1) (.int (-((k + 1 : Nat) : Int))) := by
  have h := inr_sub (C := C) (i := -(k : Int)) (j := 1)
  rw [show -(k : Int) - 1 = -((k + 1 : Nat) : Int) by omega] at h
  exact h

set_option maxRecDepth 2000 in
theorem small_two {b k : Int} (h : Builtin.Range.rangeSize 2 b 2 = k) (hb : 0 ≤ b) (hb' : b < 100000) (hk : 0 ≤ k) (hk' : k < 100000) : Builtin.Range.small 2 b 2 = true := by
  unfold Builtin.Range.small
  rw [h]
  simp only [Builtin.Range.rangeFitsLong, Bool.and_eq_true, Bool.or_eq_true, decide_eq_true_eq, beq_iff_eq, show (2 : Int) > 0 by decide, if_true]
  omega
theorem slice_st_eq {l l' : List Nat} (h : l = l') : AV.str (st l) = AV.str (st l') := by rw [h]
set_option maxHeartbeats 4000000 in
theorem lev_ok (X : KX C) {a b : List Nat} {m : Nat} {r : Int} (ha : ∀ c ∈ a, Ab c) (hb : ∀ c ∈ b, Ab c) (hab : a.length = b.length) (hz : a.length ≤ 30) (hm : m ≤ 1000) (h : levP m a b = some r) :
    CallOk C (n + 2) 65 [] [.str (st a), .str (st b), .int m] (.int r) [] := by
  have bind : ∀ (s : Shared) (vs : List Value) (ρ W : List Addr), (∀ a o, C.H.get? a = some o → s.heap.get? a = some o) → AllIs ρ W s.heap [.str (st a), .str (st b), .int m] vs → ∃ a' b' c', vs = [a', b', c'] ∧ AllIs ρ W s.heap [.str (st a), .str (st b), .int m] [a', b', c'] := fun s vs ρ W hb hvs => by
    simp only [AllIs] at hvs
    obtain ⟨a, _, rfl, ha, b, _, rfl, hb', c, _, rfl, hc, rfl⟩ := hvs
    exact ⟨a, b, c, rfl, by simp only [AllIs]; exact ⟨a, _, rfl, ha, b, _, rfl, hb', c, _, rfl, hc, rfl⟩⟩
  by_cases hne : a = b
  · subst hne
    have hr : r = 0 := by unfold levP at h; rw [if_pos rfl] at h; exact (Option.some.inj h).symm
    subst hr
    refine call_entry (σ' := ⟨[("a", .str (st a)), ("b", .str (st a)), ("max_cost", .int m)], [], []⟩) (fl := .ret (.int 0)) (own := []) (args' := [.str (st a), .str (st a), .int m]) (names := ["a", "b", "max_cost"]) ⟨⟨_, X 65 _ rfl, rfl⟩, codeRec_of X rfl, rfl, rfl, rfl⟩
      (by decide) (by decide +kernel) (by decide +kernel) rfl (fun s vs ρ W hb hvs => ?_) ?_ (.inr ⟨_, rfl, .plain rfl⟩) (fun o ho => by simp at ho)
    · obtain ⟨a', b', c', rfl, hall⟩ := bind s vs ρ W hb hvs
      exact ⟨[a', b', c'], hall, BindsTo.of_eq rfl⟩
    · show Ex C _ (n + 1) _ ⟨[("a", .str (st a)), ("b", .str (st a)), ("max_cost", .int m)], [], []⟩ _ _ _
      exact ex_stop (ex_tt (evt_eq (evt_cmp (ev_local (by lcg_sub)) (ev_local (by lcg_sub)) cmp_seq) (by rw [st_eq]; exact decide_eq_true rfl)) (ex_stop (ex_return ev_int) (by nofun))) (by nofun)
  · unfold levP at h
    rw [if_neg hne, Option.map_eq_some_iff] at h
    obtain ⟨⟨row', r'⟩, h, rfl⟩ := h
    unfold levQ at h
    dsimp only at h
    split at h
    · cases h
    rename_i hk0
    generalize hi : prun (preEq a b) a.length 0 = i at h hk0
    have hile : i ≤ a.length := hi ▸ prun_le (N := a.length) (fun i hi => by unfold preEq at hi; simp only [Bool.and_eq_true, decide_eq_true_eq] at hi; exact hi.1) (Nat.zero_le _)
    generalize hk : prun (sufEq (a.drop i) (b.drop i)) (a.drop i).length 0 = k at h hk0
    have hl₁ : (a.drop i).length = (b.drop i).length := by simp [hab]
    have ha₁ : ∀ c ∈ a.drop i, Ab c := fun c hc => ha c (List.mem_of_mem_drop hc)
    have hb₁ : ∀ c ∈ b.drop i, Ab c := fun c hc => hb c (List.mem_of_mem_drop hc)
    have hz₁ : (a.drop i).length ≤ 30 := by simp; omega
    generalize ha1 : a.drop i = a₁ at *
    generalize hb1 : b.drop i = b₁ at *
    generalize ha2 : a₁.take (a₁.length - k) = a₂ at *
    generalize hb2 : b₁.take (a₁.length - k) = b₂ at *
    have hl₂ : a₂.length = b₂.length := by rw [← ha2, ← hb2]; simp [hl₁]
    have hz₂ : a₂.length ≤ 30 := by rw [← ha2]; simp; omega
    have ha₂ : ∀ c ∈ a₂, Ab c := fun c hc => ha₁ c (List.mem_of_mem_take (ha2 ▸ hc))
    have hb₂ : ∀ c ∈ b₂, Ab c := fun c hc => hb₁ c (List.mem_of_mem_take (hb2 ▸ hc))
    refine call_entry (σ' := ⟨[("a", .str (st a₂)), ("b", .str (st b₂)), ("max_cost", .int m), ("pre", .int i), ("post", .int (-(k : Int))), ("row", .own 0), ("result", .int r')], [], [.list (zs row')]⟩) (fl := .ret (.int r')) (own := []) (args' := [.str (st a), .str (st b), .int m]) (names := ["a", "b", "max_cost"]) ⟨⟨_, X 65 _ rfl, rfl⟩, codeRec_of X rfl, rfl, rfl, rfl⟩
      (by decide) (by decide +kernel) (by decide +kernel) rfl (fun s vs ρ W hb hvs => ?_) ?_ (.inr ⟨_, rfl, .plain rfl⟩) (fun o ho => by simp at ho)
    · obtain ⟨a', b', c', rfl, hall⟩ := bind s vs ρ W hb hvs
      exact ⟨[a', b', c'], hall, BindsTo.of_eq rfl⟩
    show Ex C _ (n + 1) _ ⟨[("a", .str (st a)), ("b", .str (st b)), ("max_cost", .int m)], [], []⟩ _ _ _
    refine ex_cons (ex_ff (evt_eq (evt_cmp (ev_local (by lcg_sub)) (ev_local (by lcg_sub)) cmp_seq) (by rw [st_eq]; exact decide_eq_false hne)) ex_nil) ?_
    refine ex_cons (ex_assign ev_int (by lcg_off) (by decide +kernel) (by decide +kernel)) ?_
    refine ex_cons (σ₁ := ⟨[("a", .str (st a)), ("b", .str (st b)), ("max_cost", .int m), ("pre", .int i)], [], []⟩) (ex_wt ?pre) ?_
    case pre =>
      rw [← hi]
      refine (?_ : ∀ (f j : Nat), a.length - j ≤ f → j ≤ a.length → WT C _ (n + 1) _ _ _ ⟨[("a", .str (st a)), ("b", .str (st b)), ("max_cost", .int m), ("pre", .int j)], [], []⟩ .next
        ⟨[("a", .str (st a)), ("b", .str (st b)), ("max_cost", .int m), ("pre", .int (prun (preEq a b) f j))], [], []⟩) a.length 0 (by omega) (Nat.zero_le _)
      intro f
      induction f with
      | zero =>
        intro j h1 h2
        exact wt_done (evt_bool (eva_and_ff (evt_eq (evt_word (ev_from (ev_local (by lcg_sub)) (ev_local (by lcg_sub)) (by omega)) (by rw [List.length_drop]; omega)) (decide_eq_false (by rw [List.length_drop]; omega)))))
      | succ f ih =>
        intro j h1 h2
        by_cases hj : j < a.length
        · by_cases he : a.getD j 0 = b.getD j 0
          · have hp : preEq a b j = true := by unfold preEq; simp only [Bool.and_eq_true, decide_eq_true_eq]; exact ⟨hj, he⟩
            rw [show prun (preEq a b) (f + 1) j = prun (preEq a b) f (j + 1) by simp only [prun, hp, if_true]]
            refine wt_next (evt_bool (eva_and_tt (evt_eq (b' := true) (evt_word (ev_from (ev_local (by lcg_sub)) (ev_local (by lcg_sub)) (by omega)) (by rw [List.length_drop]; omega)) (decide_eq_true (by rw [List.length_drop]; omega))) (eva_and_tt (evt_eq (b' := true) (evt_word (ev_from (ev_local (by lcg_sub)) (ev_local (by lcg_sub)) (by omega)) (by rw [List.length_drop]; omega)) (decide_eq_true (by rw [List.length_drop]; omega))) (eva_and_tt (evt_eq (evt_cmp (ev_sitem (ev_local (by lcg_sub)) (ev_local (by lcg_sub)) (item_pos hj) (by omega) (by omega)) (ev_sitem (ev_local (by lcg_sub)) (ev_local (by lcg_sub)) (item_pos (hab ▸ hj)) (by omega) (by omega)) cmp_seq)
              (by rw [st_eq]; exact decide_eq_true (by rw [he]))) eva_and_nil)))) ?_ (ih (j + 1) (by omega) (by omega))
            exact ex_cons (ex_aug (by lcg_sub) ev_int inr_succ (by lcg_off) (by decide +kernel) (by decide +kernel)) ex_nil
          · have hp : preEq a b j = false := by unfold preEq; rw [decide_eq_false he, Bool.and_false]
            rw [show prun (preEq a b) (f + 1) j = j by simp only [prun, hp]; rfl]
            exact wt_done (evt_bool (eva_and_tt (evt_eq (b' := true) (evt_word (ev_from (ev_local (by lcg_sub)) (ev_local (by lcg_sub)) (by omega)) (by rw [List.length_drop]; omega)) (decide_eq_true (by rw [List.length_drop]; omega))) (eva_and_tt (evt_eq (b' := true) (evt_word (ev_from (ev_local (by lcg_sub)) (ev_local (by lcg_sub)) (by omega)) (by rw [List.length_drop]; omega)) (decide_eq_true (by rw [List.length_drop]; omega))) (eva_and_ff (evt_eq (evt_cmp (ev_sitem (ev_local (by lcg_sub)) (ev_local (by lcg_sub)) (item_pos hj) (by omega) (by omega)) (ev_sitem (ev_local (by lcg_sub)) (ev_local (by lcg_sub)) (item_pos (hab ▸ hj)) (by omega) (by omega)) cmp_seq)
              (by rw [st_eq]; exact decide_eq_false (by simpa using he)))))))
        · have hp : preEq a b j = false := by unfold preEq; rw [decide_eq_false hj, Bool.false_and]
          rw [show prun (preEq a b) (f + 1) j = j by simp only [prun, hp]; rfl]
          exact wt_done (evt_bool (eva_and_ff (evt_eq (evt_word (ev_from (ev_local (by lcg_sub)) (ev_local (by lcg_sub)) (by omega)) (by rw [List.length_drop]; omega)) (decide_eq_false (by rw [List.length_drop]; omega)))))
    refine ex_cons (ex_assign (ev_eq (ev_from (ev_local (by lcg_sub)) (ev_local (by lcg_sub)) (by omega)) (slice_st_eq ha1)) (by lcg_off) (by decide +kernel) (by decide +kernel)) ?_
    refine ex_cons (ex_assign (ev_eq (ev_from (ev_local (by lcg_sub)) (ev_local (by lcg_sub)) (by omega)) (slice_st_eq hb1)) (by lcg_off) (by decide +kernel) (by decide +kernel)) ?_
    refine ex_cons (ex_assign ev_int (by lcg_off) (by decide +kernel) (by decide +kernel)) ?_
    refine ex_cons (σ₁ := ⟨[("a", .str (st a₁)), ("b", .str (st b₁)), ("max_cost", .int m), ("pre", .int i), ("post", .int (-(k : Int)))], [], []⟩) (ex_wt ?post) ?_
    case post =>
      rw [← hk]
      refine (?_ : ∀ (f j : Nat), a₁.length - j ≤ f → j ≤ a₁.length → WT C _ (n + 1) _ _ _ ⟨[("a", .str (st a₁)), ("b", .str (st b₁)), ("max_cost", .int m), ("pre", .int i), ("post", .int (-(j : Int)))], [], []⟩ .next
        ⟨[("a", .str (st a₁)), ("b", .str (st b₁)), ("max_cost", .int m), ("pre", .int i), ("post", .int (-(prun (sufEq a₁ b₁) f j : Int)))], [], []⟩) a₁.length 0 (by omega) (Nat.zero_le _)
      intro f
      induction f with
      | zero =>
        intro j h1 h2
        exact wt_done (evt_bool (eva_and_ff (evt_eq (b' := false) (evt_word (ev_upto (ev_local (by lcg_sub)) (ev_local (by lcg_sub)) ev_none (by omega)) (by rw [List.length_take]; omega)) (decide_eq_false (by rw [List.length_take]; omega)))))
      | succ f ih =>
        intro j h1 h2
        by_cases hj : j < a₁.length
        · by_cases he : a₁.getD (a₁.length - 1 - j) 0 = b₁.getD (a₁.length - 1 - j) 0
          · have hp : sufEq a₁ b₁ j = true := by unfold sufEq; simp only [Bool.and_eq_true, decide_eq_true_eq]; exact ⟨hj, he⟩
            rw [show prun (sufEq a₁ b₁) (f + 1) j = prun (sufEq a₁ b₁) f (j + 1) by simp only [prun, hp, if_true]]
            refine wt_next (evt_bool (eva_and_tt (evt_eq (b' := true) (evt_word (ev_upto (ev_local (by lcg_sub)) (ev_local (by lcg_sub)) ev_none (by omega)) (by rw [List.length_take]; omega)) (decide_eq_true (by rw [List.length_take]; omega))) (eva_and_tt (evt_eq (b' := true) (evt_word (ev_upto (ev_local (by lcg_sub)) (ev_local (by lcg_sub)) ev_none (by omega)) (by rw [List.length_take]; omega)) (decide_eq_true (by rw [List.length_take]; omega))) (eva_and_tt (evt_eq (evt_cmp (ev_sitem (ev_local (by lcg_sub)) (ev_bin (ev_local (by lcg_sub)) ev_int bin_sub) (item_neg hj) (by omega) (by omega)) (ev_eq (ev_sitem (ev_local (by lcg_sub)) (ev_bin (ev_local (by lcg_sub)) ev_int bin_sub) (item_neg (l := b₁) (k := j) (by omega)) (by omega) (by omega)) (by rw [← hl₁])) cmp_seq)
              (by rw [st_eq]; exact decide_eq_true (by rw [he]))) eva_and_nil)))) ?_ (ih (j + 1) (by omega) (by omega))
            exact ex_cons (ex_aug (by lcg_sub) ev_int inr_pred (by lcg_off) (by decide +kernel) (by decide +kernel)) ex_nil
          · have hp : sufEq a₁ b₁ j = false := by unfold sufEq; rw [decide_eq_false he, Bool.and_false]
            rw [show prun (sufEq a₁ b₁) (f + 1) j = j by simp only [prun, hp]; rfl]
            exact wt_done (evt_bool (eva_and_tt (evt_eq (b' := true) (evt_word (ev_upto (ev_local (by lcg_sub)) (ev_local (by lcg_sub)) ev_none (by omega)) (by rw [List.length_take]; omega)) (decide_eq_true (by rw [List.length_take]; omega))) (eva_and_tt (evt_eq (b' := true) (evt_word (ev_upto (ev_local (by lcg_sub)) (ev_local (by lcg_sub)) ev_none (by omega)) (by rw [List.length_take]; omega)) (decide_eq_true (by rw [List.length_take]; omega))) (eva_and_ff (evt_eq (evt_cmp (ev_sitem (ev_local (by lcg_sub)) (ev_bin (ev_local (by lcg_sub)) ev_int bin_sub) (item_neg hj) (by omega) (by omega)) (ev_eq (ev_sitem (ev_local (by lcg_sub)) (ev_bin (ev_local (by lcg_sub)) ev_int bin_sub) (item_neg (l := b₁) (k := j) (by omega)) (by omega) (by omega)) (by rw [← hl₁])) cmp_seq)
              (by rw [st_eq]; exact decide_eq_false (by simpa using he)))))))
        · have hp : sufEq a₁ b₁ j = false := by unfold sufEq; rw [decide_eq_false hj, Bool.false_and]
          rw [show prun (sufEq a₁ b₁) (f + 1) j = j by simp only [prun, hp]; rfl]
          exact wt_done (evt_bool (eva_and_ff (evt_eq (b' := false) (evt_word (ev_upto (ev_local (by lcg_sub)) (ev_local (by lcg_sub)) ev_none (by omega)) (by rw [List.length_take]; omega)) (decide_eq_false (by rw [List.length_take]; omega)))))
    refine ex_cons (ex_assign (ev_eq (ev_upto (ev_local (by lcg_sub)) (ev_local (by lcg_sub)) ev_none (by omega)) (slice_st_eq ha2)) (by lcg_off) (by decide +kernel) (by decide +kernel)) ?_
    refine ex_cons (ex_assign (ev_eq (ev_upto (ev_local (by lcg_sub)) (ev_local (by lcg_sub)) ev_none (by omega)) (slice_st_eq (l' := b₂) (by rw [← hl₁]; exact hb2))) (by lcg_off) (by decide +kernel) (by decide +kernel)) ?_
    have hpos : 0 < a₂.length := Nat.pos_of_ne_zero hk0
    have rsz : Builtin.Range.rangeSize 2 (2 * ((a₂.length : Int) + 1)) 2 = (a₂.length : Int) := by
      unfold Builtin.Range.rangeSize
      rw [if_pos (by decide), if_pos (by omega)]
      omega
    refine ex_cons (ex_ff (evt_bool (eva_or_ff (evt_eq (evt_not (evt_word (ev_local (by lcg_sub)) (by omega))) (by rw [decide_eq_true hpos]; rfl)) (eva_or_ff (evt_eq (evt_not (evt_word (ev_local (by lcg_sub)) (by omega))) (by rw [decide_eq_true (by omega)]; rfl)) eva_or_nil))) ex_nil) ?_
    refine ex_cons (ex_ff (evt_bool (eva_or_ff (evt_eq (evt_cmp (ev_eq (ev_call_bi (by decide +kernel) (glen X) (by decide +kernel) (by decide +kernel) boot_len (.builtin _) (evl_cons (ev_local (by lcg_sub)) evl_nil) (callr_len_str (by rw [st_length]; omega))) (congrArg AV.int (congrArg Nat.cast st_length))) (ev_gint (by decide +kernel) (gmaxs X) (by decide +kernel)) cmp_gt) (decide_eq_false (by omega))) (eva_or_ff (evt_eq (evt_cmp (ev_eq (ev_call_bi (by decide +kernel) (glen X) (by decide +kernel) (by decide +kernel) boot_len (.builtin _) (evl_cons (ev_local (by lcg_sub)) evl_nil) (callr_len_str (by rw [st_length]; omega))) (congrArg AV.int (congrArg Nat.cast st_length))) (ev_gint (by decide +kernel) (gmaxs X) (by decide +kernel)) cmp_gt) (decide_eq_false (by omega))) eva_or_nil))) ex_nil) ?_
    refine ex_cons (ex_ff (evt_eq (evt_cmp (ev_eq (ev_call_bi (by decide +kernel) (glen X) (by decide +kernel) (by decide +kernel) boot_len (.builtin _) (evl_cons (ev_local (by lcg_sub)) evl_nil) (callr_len_str (by rw [st_length]; omega))) (congrArg AV.int (congrArg Nat.cast st_length))) (ev_eq (ev_call_bi (by decide +kernel) (glen X) (by decide +kernel) (by decide +kernel) boot_len (.builtin _) (evl_cons (ev_local (by lcg_sub)) evl_nil) (callr_len_str (by rw [st_length]; omega))) (congrArg AV.int (congrArg Nat.cast st_length))) cmp_lt) (decide_eq_false (by omega))) ex_nil) ?_
    refine ex_cons (ex_ff (evt_eq (evt_cmp (ev_bin (ev_bin (ev_eq (ev_call_bi (by decide +kernel) (glen X) (by decide +kernel) (by decide +kernel) boot_len (.builtin _) (evl_cons (ev_local (by lcg_sub)) evl_nil) (callr_len_str (by rw [st_length]; omega))) (congrArg AV.int (congrArg Nat.cast st_length))) (ev_eq (ev_call_bi (by decide +kernel) (glen X) (by decide +kernel) (by decide +kernel) boot_len (.builtin _) (evl_cons (ev_local (by lcg_sub)) evl_nil) (callr_len_str (by rw [st_length]; omega))) (congrArg AV.int (congrArg Nat.cast st_length))) bin_sub) (ev_gint (by decide +kernel) (gmove X) (by decide +kernel)) (bin_mul (IntMulOk.of_right (by decide +kernel)))) (ev_local (by lcg_sub)) cmp_gt) (decide_eq_false (by omega))) ex_nil) ?_
    refine ex_cons (ex_assign (ev_list_range (k := a₂.length) (by decide +kernel) (glist X) (by decide +kernel) (by decide +kernel) PyProof.Rows.Boot.«list» (evl_cons (ev_call_bi (by decide +kernel) (grange X) (by decide +kernel) (by decide +kernel) boot_range (.type _)
      (evl_cons (ev_gint (by decide +kernel) (gmove X) (by decide +kernel)) (evl_cons (ev_bin (ev_gint (by decide +kernel) (gmove X) (by decide +kernel)) (ev_bin (ev_eq (ev_call_bi (by decide +kernel) (glen X) (by decide +kernel) (by decide +kernel) boot_len (.builtin _) (evl_cons (ev_local (by lcg_sub)) evl_nil) (callr_len_str (by rw [st_length]; omega))) (congrArg AV.int (congrArg Nat.cast st_length))) ev_int bin_add) (bin_mul (IntMulOk.of_left (by decide +kernel)))) (evl_cons (ev_gint (by decide +kernel) (gmove X) (by decide +kernel)) evl_nil))) (callr_range3 (by decide) (by decide))) evl_nil) ?small ?rsize (by omega)) (by lcg_off) (by decide +kernel) (by decide +kernel)) ?_
    case small => exact small_two rsz (by omega) (by omega) (by omega) (by omega)
    case rsize => exact rsz
    refine ex_cons (ex_assign ev_int (by lcg_off) (by decide +kernel) (by decide +kernel)) ?_
    refine ex_cons (σ₁ := ⟨[("a", .str (st a₂)), ("b", .str (st b₂)), ("max_cost", .int m), ("pre", .int i), ("post", .int (-(k : Int))), ("row", .own 0), ("result", .int r')], [], [.list (zs row')]⟩) (ex_for (evi_range (k := b₂.length) (ev_call_bi (by decide +kernel) (grange X) (by decide +kernel) (by decide +kernel) boot_range (.type _) (evl_cons (ev_eq (ev_call_bi (by decide +kernel) (glen X) (by decide +kernel) (by decide +kernel) boot_len (.builtin _) (evl_cons (ev_local (by lcg_sub)) evl_nil) (callr_len_str (by rw [st_length]; omega))) (congrArg AV.int (congrArg Nat.cast st_length))) evl_nil) callr_range1) (by omega) (by decide) (by decide) (by omega) (by omega)) ?outer) (ex_stop (ex_return (ev_local (by lcg_sub))) (by nofun))
    case outer =>
      refine (?_ : ∀ (f j : Nat) (row : List Int) (r₀ : Int), j + f = b₂.length → row.length = a₂.length → louter m a₂ b₂ f j row r₀ = some (row', r') → ForTo C _ (n + 1) _ _ _ (intsFrom j f) ⟨[("a", .str (st a₂)), ("b", .str (st b₂)), ("max_cost", .int m), ("pre", .int i), ("post", .int (-(k : Int))), ("row", .own 0), ("result", .int r₀)], [], [.list (zs row)]⟩ ⟨[("a", .str (st a₂)), ("b", .str (st b₂)), ("max_cost", .int m), ("pre", .int i), ("post", .int (-(k : Int))), ("row", .own 0), ("result", .int r')], [], [.list (zs row')]⟩)
        b₂.length 0 _ 0 (by omega) (rangeInts_length ..) h
      intro f
      induction f with
      | zero =>
        intro j row r₀ h1 h2 h3
        simp only [louter, Option.some.injEq, Prod.mk.injEq] at h3
        obtain ⟨rfl, rfl⟩ := h3
        exact .done
      | succ f ih =>
        intro j row r₀ h1 h2 h3
        rw [intsFrom_succ]
        unfold louter at h3
        dsimp only at h3
        split at h3
        · cases h3
        rename_i hmini
        have hrow : (linner (b₂.getD j 0) a₂ a₂.length 0 ⟨row, 2 * j, 2 * j, 9223372036854775807⟩).row.length = a₂.length := by rw [linner_row]; exact h2
        generalize hS : linner (b₂.getD j 0) a₂ a₂.length 0 ⟨row, 2 * j, 2 * j, 9223372036854775807⟩ = S at h3 hmini hrow
        have hj : j < b₂.length := by omega
        refine ForTo.next (bind_local (by lcg_off) (by decide +kernel) (by decide +kernel)) (ex_forget (σ' := ⟨[("a", .str (st a₂)), ("b", .str (st b₂)), ("max_cost", .int m), ("pre", .int i), ("post", .int (-(k : Int))), ("row", .own 0), ("result", .int (S.res)), ("bindex", .int j), ("bchar", .str (st [b₂.getD j 0])), ("distance", .int (S.dist)), ("minimum", .int (S.mini))], [], [.list (zs (S.row))]⟩) ?body (by lcg_src)) (ih (j + 1) _ _ (by omega) hrow h3)
        case body =>
          refine ex_cons (ex_assign (ev_sitem (ev_local (by lcg_sub)) (ev_local (by lcg_sub)) (item_pos hj) (by omega) (by omega)) (by lcg_off) (by decide +kernel) (by decide +kernel)) ?_
          refine ex_cons (ex_assign2 (ev_eq (ev_bin (ev_local (by lcg_sub)) (ev_gint (by decide +kernel) (gmove X) (by decide +kernel)) (bin_mul (IntMulOk.of_right (by decide +kernel)))) (congrArg AV.int (Int.mul_comm _ _))) (by lcg_off) (by lcg_off) (by decide +kernel) (by decide +kernel) (by decide +kernel) (by decide +kernel)) ?_
          refine ex_cons (ex_assign ev_int (by lcg_off) (by decide +kernel) (by decide +kernel)) ?_
          refine ex_cons (σ₁ := ⟨[("a", .str (st a₂)), ("b", .str (st b₂)), ("max_cost", .int m), ("pre", .int i), ("post", .int (-(k : Int))), ("row", .own 0), ("result", .int (S.res)), ("bindex", .int j), ("bchar", .str (st [b₂.getD j 0])), ("distance", .int (S.dist)), ("minimum", .int (S.mini))], [], [.list (zs (S.row))]⟩) (ex_for (evi_range (k := a₂.length) (ev_call_bi (by decide +kernel) (grange X) (by decide +kernel) (by decide +kernel) boot_range (.type _) (evl_cons (ev_eq (ev_call_bi (by decide +kernel) (glen X) (by decide +kernel) (by decide +kernel) boot_len (.builtin _) (evl_cons (ev_local (by lcg_sub)) evl_nil) (callr_len_str (by rw [st_length]; omega))) (congrArg AV.int (congrArg Nat.cast st_length))) evl_nil) callr_range1) (by omega) (by decide) (by decide) (by omega) (by omega)) ?inner)
            (ex_cons (ex_ff (evt_eq (evt_cmp (ev_local (by lcg_sub)) (ev_local (by lcg_sub)) cmp_gt) (decide_eq_false hmini)) ex_nil) ex_nil)
          rw [← hS]
          refine (?_ : ∀ (f q : Nat) (T : LS), q + f = a₂.length → T.row.length = a₂.length → ForTo C _ (n + 1) _ _ _ (intsFrom q f) ⟨[("a", .str (st a₂)), ("b", .str (st b₂)), ("max_cost", .int m), ("pre", .int i), ("post", .int (-(k : Int))), ("row", .own 0), ("result", .int (T.res)), ("bindex", .int j), ("bchar", .str (st [b₂.getD j 0])), ("distance", .int (T.dist)), ("minimum", .int (T.mini))], [], [.list (zs (T.row))]⟩ ⟨[("a", .str (st a₂)), ("b", .str (st b₂)), ("max_cost", .int m), ("pre", .int i), ("post", .int (-(k : Int))), ("row", .own 0), ("result", .int ((linner (b₂.getD j 0) a₂ f q T).res)), ("bindex", .int j), ("bchar", .str (st [b₂.getD j 0])), ("distance", .int ((linner (b₂.getD j 0) a₂ f q T).dist)), ("minimum", .int ((linner (b₂.getD j 0) a₂ f q T).mini))], [], [.list (zs ((linner (b₂.getD j 0) a₂ f q T).row))]⟩)
            a₂.length 0 ⟨row, 2 * j, 2 * j, 9223372036854775807⟩ (by omega) h2
          intro f
          induction f with
          | zero => intro q T h1 h2; exact .done
          | succ f ih =>
            intro q T h1 h2
            rw [intsFrom_succ]
            have hq : q < a₂.length := by omega
            refine ForTo.next (bind_local (by lcg_off) (by decide +kernel) (by decide +kernel)) (ex_forget (σ' := ⟨[("a", .str (st a₂)), ("b", .str (st b₂)), ("max_cost", .int m), ("pre", .int i), ("post", .int (-(k : Int))), ("row", .own 0), ("result", .int ((lstep (b₂.getD j 0) (a₂.getD q 0) q T).res)), ("bindex", .int j), ("bchar", .str (st [b₂.getD j 0])), ("distance", .int ((lstep (b₂.getD j 0) (a₂.getD q 0) q T).dist)), ("minimum", .int ((lstep (b₂.getD j 0) (a₂.getD q 0) q T).mini)), ("index", .int q), ("substitute", .int (T.dist + sub (b₂.getD j 0) (a₂.getD q 0))), ("insert_delete", .int ((if T.row.getD q 0 < T.res then T.row.getD q 0 else T.res) + 2))], [], [.list (zs ((lstep (b₂.getD j 0) (a₂.getD q 0) q T).row))]⟩) ?_ (by lcg_src)) (ih (q + 1) (lstep (b₂.getD j 0) (a₂.getD q 0) q T) (by omega) (by rw [lstep_row]; exact h2))
            refine ex_cons (ex_assign (ev_bin (ev_local (by lcg_sub)) (ev_call_fn (f := 58) (by decide +kernel) (g58 X) (by decide +kernel) (f58 X) (evl_cons (ev_local (by lcg_sub)) (evl_cons (ev_sitem (ev_local (by lcg_sub)) (ev_local (by lcg_sub)) (item_pos hq) (by omega) (by omega)) evl_nil)) rfl (subst_ok X (ab_get hb₂ hj) (ab_get ha₂ hq)) rfl) bin_add) (by lcg_off) (by decide +kernel) (by decide +kernel)) ?_
            refine ex_cons (ex_assign (ev_zget (ev_local (by lcg_sub)) (ev_local (by lcg_sub)) (.own rfl) (by omega) (by omega)) (by lcg_off) (by decide +kernel) (by decide +kernel)) ?_
            refine ex_cons (ex_assign (ev_bin (ev_call_bi (by decide +kernel) (gmin X) (by decide +kernel) (by decide +kernel) boot_min (.builtin _) (evl_cons (ev_local (by lcg_sub)) (evl_cons (ev_local (by lcg_sub)) evl_nil)) callr_min2) (ev_gint (by decide +kernel) (gmove X) (by decide +kernel)) bin_add) (by lcg_off) (by decide +kernel) (by decide +kernel)) ?_
            refine ex_cons (ex_assign (ev_call_bi (by decide +kernel) (gmin X) (by decide +kernel) (by decide +kernel) boot_min (.builtin _) (evl_cons (ev_local (by lcg_sub)) (evl_cons (ev_local (by lcg_sub)) evl_nil)) callr_min2) (by lcg_off) (by decide +kernel) (by decide +kernel)) ?_
            refine ex_cons (ex_zset (ev_local (by lcg_sub)) (ev_local (by lcg_sub)) (ev_local (by lcg_sub)) rfl (by omega) (by omega)) ?_
            unfold lstep
            dsimp only
            generalize (if T.dist + (sub (b₂.getD j 0) (a₂.getD q 0) : Int) < (if T.row.getD q 0 < T.res then T.row.getD q 0 else T.res) + 2 then T.dist + (sub (b₂.getD j 0) (a₂.getD q 0) : Int) else (if T.row.getD q 0 < T.res then T.row.getD q 0 else T.res) + 2) = rr
            by_cases hr : rr < T.mini
            · rw [if_pos hr]
              exact ex_cons (ex_tt (evt_eq (evt_cmp (ev_local (by lcg_sub)) (ev_local (by lcg_sub)) cmp_lt) (decide_eq_true hr)) (ex_cons (ex_assign (ev_local (by lcg_sub)) (by lcg_off) (by decide +kernel) (by decide +kernel)) ex_nil)) ex_nil
            · rw [if_neg hr]
              exact ex_cons (ex_ff (evt_eq (evt_cmp (ev_local (by lcg_sub)) (ev_local (by lcg_sub)) cmp_lt) (decide_eq_false hr)) ex_nil) ex_nil
end Mine
namespace Mine
variable {C : Base} {sc : Scope} {n p : Nat} {σ σ₁ σ₂ σ₃ σ' : AS}
local macro_rules | `(tactic| lcg_sub) => `(tactic| ((try dsimp only); repeat (first | (with_reducible exact List.mem_cons_self) | (with_reducible apply List.mem_cons_of_mem))))
local macro_rules | `(tactic| lcg_src) => `(tactic| repeat (first | (with_reducible exact List.nil_sublist _) | (with_reducible apply List.Sublist.cons_cons) | (with_reducible apply List.Sublist.cons)))
local macro_rules | `(tactic| lcg_off) => `(tactic| first | (with_reducible exact SetL.nil) | (with_reducible exact SetL.hit) | (with_reducible exact SetL.miss (by decide +kernel) (by lcg_off)) | (dsimp only; first | (with_reducible exact SetL.nil) | (with_reducible exact SetL.hit) | (with_reducible exact SetL.miss (by decide +kernel) (by lcg_off))))

theorem gsum (X : KX C) : C.mg "sum" = none := mg_none_of X C.g rfl
theorem gmax (X : KX C) : C.mg "max" = none := mg_none_of X C.g rfl
theorem greversed (X : KX C) : C.mg "reversed" = none := mg_none_of X C.g rfl

/-! _law_longest_rise -/
def ws (l : List Nat) : List AV := l.map fun c => .str (st [c])
theorem ws_length {l : List Nat} : (ws l).length = l.length := by simp [ws]
theorem ws_plain {l : List Nat} : plains (ws l) = true := by
  induction l with
  | nil => rfl
  | cons c l ih => show (true && plains (ws l)) = true; rw [ih]; rfl
theorem ws_signs {l : List Nat} : signs (st l) = ws l := by simp [signs, ws, st_cps, st]
def pstep (l : List Nat) (c : Nat) : List Nat :=
  let q := bis (fun i => decide (c < l.getD i 0)) l.length 0 l.length
  if q = l.length then l ++ [c] else l.set q c
def rise (w : List Nat) : Nat := (w.foldl pstep []).length
theorem pstep_length {l : List Nat} {c : Nat} : (pstep l c).length ≤ l.length + 1 := by
  unfold pstep
  dsimp only
  split
  · simp
  · rw [List.length_set]; omega
theorem lt_one {c d : Nat} : decide ([c] < [d]) = decide (c < d) := by
  by_cases h : c < d
  · rw [decide_eq_true h]; exact decide_eq_true (List.cons_lt_cons_iff.mpr (.inl h))
  · rw [decide_eq_false h]
    refine decide_eq_false fun z => ?_
    rcases List.cons_lt_cons_iff.mp z with z | ⟨_, z⟩
    · exact h z
    · exact absurd z (List.not_lt_nil _)

theorem ex1_to {st : Stmt} {f : Fl} {σ'' : AS} (h : Ex1 C sc n p σ st f σ') (e : σ' = σ'') : Ex1 C sc n p σ st f σ'' := e ▸ h
theorem bisect_words (X : KX C) {l : List Nat} {c : Nat} (hz : l.length ≤ 1000) : CallOk C (n + 1) 23 [] [.lst (ws l), .str (st [c])] (.int (bis (fun i => decide (c < l.getD i 0)) l.length 0 l.length)) [] := by
  have h := bisect_ok (n := n) X (xs := ws l) (x := .str (st [c])) (below := fun i => decide (c < l.getD i 0)) (by rw [ws_length]; exact hz) rfl ws_plain (fun i y hy => by
    unfold ws at hy
    rw [List.getElem?_map] at hy
    cases hl : l[i]? with
    | none => rw [hl] at hy; cases hy
    | some d =>
      rw [hl] at hy
      simp only [Option.map_some, Option.some.injEq] at hy
      subst hy
      have e : l.getD i 0 = d := by simp [List.getD, hl]
      have k := cmp_slt (C := C) (x := st [c]) (y := st [d])
      have e2 : decide ((st [c]).cps.toList < (st [d]).cps.toList) = decide (c < l.getD i 0) := by rw [e]; exact lt_one
      rw [e2] at k
      exact k)
  rw [ws_length] at h
  exact h
theorem bisect_ints (X : KX C) {l : List Int} {c : Int} (hz : l.length ≤ 1000) : CallOk C (n + 1) 23 [] [.lst (zs l), .int c] (.int (bis (fun i => decide (c < l.getD i 0)) l.length 0 l.length)) [] := by
  have h := bisect_ok (n := n) X (xs := zs l) (x := .int c) (below := fun i => decide (c < l.getD i 0)) (by rw [zs_length]; exact hz) rfl zs_plain (fun i y hy => by
    unfold zs at hy
    rw [List.getElem?_map] at hy
    cases hl : l[i]? with
    | none => rw [hl] at hy; cases hy
    | some d =>
      rw [hl] at hy
      simp only [Option.map_some, Option.some.injEq] at hy
      subst hy
      have e : l.getD i 0 = d := by simp [List.getD, hl]
      have k := cmp_lt (C := C) (i := c) (j := d)
      have e2 : decide (c < d) = decide (c < l.getD i 0) := by rw [e]
      rw [e2] at k
      exact k)
  rw [zs_length] at h
  exact h
theorem g86 (X : KX C) : C.mg "_law_longest_rise" = some (.ref 86) := mg_of X C.g rfl
theorem f86 (X : KX C) : IsFn C 86 := ⟨_, _, X 86 _ rfl, rfl⟩

theorem rise_ok (X : KX C) {w : List Nat} (hz : w.length ≤ 500) : CallOk C (n + 2) 86 [] [.str (st w)] (.int (rise w)) [] := by
  refine call_entry (σ' := ⟨[("word", .str (st w)), ("piles", .own 0)], [], [.list (ws (w.foldl pstep []))]⟩) (fl := .ret (.int (rise w))) (own := []) (args' := [.str (st w)]) (names := ["word"]) ⟨⟨_, X 86 _ rfl, rfl⟩, codeRec_of X rfl, rfl, rfl, rfl⟩
    (by decide) (by decide +kernel) (by decide +kernel) rfl (fun s vs ρ W hb hvs => ?_) ?_ (.inr ⟨_, rfl, .plain rfl⟩) (fun o ho => by simp at ho)
  · simp only [AllIs] at hvs
    obtain ⟨a, _, rfl, ha, rfl⟩ := hvs
    exact ⟨[a], by simp only [AllIs]; exact ⟨a, _, rfl, ha, rfl⟩, BindsTo.of_eq rfl⟩
  · show Ex C _ (n + 1) _ ⟨[("word", .str (st w))], [], []⟩ _ _ _
    refine ex_cons (ex_assign (ev_list_own evl_nil) (by lcg_off) (by decide +kernel) (by decide +kernel)) ?_
    have hsize : (w.foldl pstep []).length ≤ w.length := by
      have key : ∀ (v l : List Nat), (v.foldl pstep l).length ≤ l.length + v.length := by
        intro v
        induction v with
        | nil => intro l; simp
        | cons c v ih => intro l; have h1 := ih (pstep l c); have h2 := pstep_length (l := l) (c := c); simp only [List.foldl_cons, List.length_cons]; omega
      have := key w []
      simpa using this
    refine ex_cons (σ₁ := ⟨[("word", .str (st w)), ("piles", .own 0)], [], [.list (ws (w.foldl pstep []))]⟩) (ex_for (evi_str (ev_local (by lcg_sub))) ?loop)
      (ex_stop (ex_return (ev_eq (ev_call_bi (by decide +kernel) (glen X) (by decide +kernel) (by decide +kernel) boot_len (.builtin _) (evl_cons (ev_local (by lcg_sub)) evl_nil) (callr_len (.own rfl) (by rw [ws_length]; omega))) (by rw [ws_length]; rfl))) (by nofun))
    case loop =>
      rw [ws_signs]
      refine (?_ : ∀ (v l : List Nat), l.length + v.length ≤ 1000 → ForTo C _ (n + 1) _ _ _ (ws v) ⟨[("word", .str (st w)), ("piles", .own 0)], [], [.list (ws l)]⟩ ⟨[("word", .str (st w)), ("piles", .own 0)], [], [.list (ws (v.foldl pstep l))]⟩) w [] (by simp; omega)
      intro v
      induction v with
      | nil => intro l _; exact .done
      | cons c v ih =>
        intro l hl
        simp only [List.length_cons] at hl
        have hq := bis_le (below := fun i => decide (c < l.getD i 0)) (f := l.length) (lo := 0) (hi := l.length) (Nat.zero_le _)
        have hp := pstep_length (l := l) (c := c)
        refine ForTo.next (bind_local (by lcg_off) (by decide +kernel) (by decide +kernel)) (ex_forget (σ' := ⟨[("word", .str (st w)), ("piles", .own 0), ("sign", .str (st [c])), ("place", .int (bis (fun i => decide (c < l.getD i 0)) l.length 0 l.length))], [], [.list (ws (pstep l c))]⟩) ?_ (by lcg_src)) (ih (pstep l c) (by omega))
        refine ex_cons (ex_assign (ev_call_lent (f := 23) (by decide +kernel) (g23 X) (by decide +kernel) (f23 X) (evl_cons (ev_local (by lcg_sub)) (evl_cons (ev_local (by lcg_sub)) evl_nil)) (.cons (.own rfl ws_plain) (.cons (.plain rfl) .nil)) (bisect_words X (by omega)) rfl) (by lcg_off) (by decide +kernel) (by decide +kernel)) ?_
        generalize hqq : bis (fun i => decide (c < l.getD i 0)) l.length 0 l.length = q at hq
        by_cases hc : q = l.length
        · have e : pstep l c = l ++ [c] := by unfold pstep; dsimp only; rw [hqq, if_pos hc]
          rw [e]
          refine ex_cons (ex_tt (evt_eq (evt_cmp (ev_local (by lcg_sub)) (ev_eq (ev_call_bi (by decide +kernel) (glen X) (by decide +kernel) (by decide +kernel) boot_len (.builtin _) (evl_cons (ev_local (by lcg_sub)) evl_nil) (callr_len (.own rfl) (by rw [ws_length]; omega))) (congrArg AV.int (congrArg Nat.cast ws_length))) cmp_eq) (by rw [hc]; simp)) ?_) ex_nil
          exact ex_cons (ex1_to (ex_expr (ev_append (ev_local (by lcg_sub)) ⟨_, rfl⟩ (evl_cons (ev_local (by lcg_sub)) evl_nil) rfl (by rw [ws_length]; omega))) (by simp [ws])) ex_nil
        · have e : pstep l c = l.set q c := by unfold pstep; dsimp only; rw [hqq, if_neg hc]
          rw [e]
          refine ex_cons (ex_ff (evt_eq (evt_cmp (ev_local (by lcg_sub)) (ev_eq (ev_call_bi (by decide +kernel) (glen X) (by decide +kernel) (by decide +kernel) boot_len (.builtin _) (evl_cons (ev_local (by lcg_sub)) evl_nil) (callr_len (.own rfl) (by rw [ws_length]; omega))) (congrArg AV.int (congrArg Nat.cast ws_length))) cmp_eq) (by simp; omega)) ?_) ex_nil
          exact ex_cons (ex1_to (ex_setitem (ev_local (by lcg_sub)) (ev_local (by lcg_sub)) (ev_local (by lcg_sub)) rfl (Int.natCast_nonneg _) (by rw [ws_length]; omega) (by rw [ws_length]; omega)) (by simp [ws])) ex_nil
end Mine
namespace Mine
variable {C : Base} {sc : Scope} {n p : Nat} {σ σ₁ σ₂ σ₃ σ' : AS}
local macro_rules | `(tactic| lcg_sub) => `(tactic| ((try dsimp only); repeat (first | (with_reducible exact List.mem_cons_self) | (with_reducible apply List.mem_cons_of_mem))))
local macro_rules | `(tactic| lcg_src) => `(tactic| repeat (first | (with_reducible exact List.nil_sublist _) | (with_reducible apply List.Sublist.cons_cons) | (with_reducible apply List.Sublist.cons)))
local macro_rules | `(tactic| lcg_off) => `(tactic| first | (with_reducible exact SetL.nil) | (with_reducible exact SetL.hit) | (with_reducible exact SetL.miss (by decide +kernel) (by lcg_off)) | (dsimp only; first | (with_reducible exact SetL.nil) | (with_reducible exact SetL.hit) | (with_reducible exact SetL.miss (by decide +kernel) (by lcg_off))))

/-! _law_levels -/
theorem g72 (X : KX C) : C.mg "_law_levels" = some (.ref 72) := mg_of X C.g rfl
theorem f72 (X : KX C) : IsFn C 72 := ⟨_, _, X 72 _ rfl, rfl⟩
def gap (t d : Int) : Int := (t.fdiv d).fmod 5
def lv (t : Int) : List Int → Int → List Int → List Int
  | l, x, [] => l ++ [x]
  | l, x, d :: ds => lv t (l ++ [x]) (x + 1 + gap t d) ds
theorem callr_zsum {r : AV} {ns : List Int} (hl : LstOf σ r (zs ns)) : CallR C σ (.builtin "sum") [r] (.int ns.sum) := callr_sum hl
def levels (t : Int) : List Int := [0, 0 + 1 + gap t 1, 0 + 1 + gap t 1 + 1 + gap t 5, 0 + 1 + gap t 1 + 1 + gap t 5 + 1 + gap t 25]
theorem ev_zlast {value slice : Expr} {pos : Pos} {r : AV} {l : List Int} {x : Int} (hv : Ev C sc n σ value r σ₁) (hi : Ev C sc n σ₁ slice (.int (-1)) σ₂) (hl : LstOf σ₂ r (zs (l ++ [x]))) (hz : l.length ≤ 1000) :
    Ev C sc n σ (.Subscript value slice pos) (.int x) σ₂ := ev_item_neg hv hi hl (by decide) (by rw [zs_length]; simp; omega) (by
      rw [zs_length]
      have e : ((-1 : Int) + ((l ++ [x]).length : Int)).toNat = l.length := by simp; omega
      rw [e, zs_get (by simp)]
      simp [List.getD]) (by rw [zs_length]; simp; omega)

theorem levels_ok (X : KX C) {ns : List Int} : CallOk C (n + 1) 72 [] [.lst (zs ns)] (.lst (zs (levels (ns.sum.fmod 125)))) [] := by
  generalize ht : ns.sum.fmod 125 = t
  refine call_entry (σ' := ⟨[("script", .lst (zs ns)), ("total", .int t), ("levels", .own 0)], [], [.list (zs (levels t))]⟩) (fl := .ret (.own 0)) (own := []) (args' := [.lst (zs ns)]) (names := ["script"]) ⟨⟨_, X 72 _ rfl, rfl⟩, codeRec_of X rfl, rfl, rfl, rfl⟩
    (by decide) (by decide +kernel) (by decide +kernel) rfl (fun s vs ρ W hb hvs => ?_) ?_ (.inr ⟨_, rfl, .own (Nat.zero_le _) rfl zs_plain⟩) (fun o ho => by simp at ho)
  · simp only [AllIs] at hvs
    obtain ⟨a, _, rfl, ha, rfl⟩ := hvs
    exact ⟨[a], by simp only [AllIs]; exact ⟨a, _, rfl, ha, rfl⟩, BindsTo.of_eq rfl⟩
  · show Ex C _ n _ ⟨[("script", .lst (zs ns))], [], []⟩ _ _ _
    refine ex_cons (ex_assign (ev_eq (ev_bin (ev_call_bi (by decide +kernel) (gsum X) (by decide +kernel) (by decide +kernel) boot_sum (.builtin _) (evl_cons (ev_local (by lcg_sub)) evl_nil) (callr_zsum .frozen)) ev_int (bin_mod (by decide))) (congrArg AV.int ht)) (by lcg_off) (by decide +kernel) (by decide +kernel)) ?_
    refine ex_cons (ex_assign (ev_list_own (evl_cons ev_int evl_nil)) (by lcg_off) (by decide +kernel) (by decide +kernel)) ?_
    refine ex_cons (σ₁ := ⟨[("script", .lst (zs ns)), ("total", .int t), ("levels", .own 0)], [], [.list (zs (levels t))]⟩) (ex_for (evi_tuple (ev_tuple (evl_cons ev_int (evl_cons ev_int (evl_cons ev_int evl_nil)))) rfl) ?loop) (ex_stop (ex_return (ev_local (by lcg_sub))) (by nofun))
    case loop =>
      refine (?_ : ∀ (ds : List Int) (l : List Int) (x : Int), (∀ d ∈ ds, d ≠ 0 ∧ d.natAbs < 1000) → l.length + ds.length ≤ 10 →
        ForTo C _ n _ _ _ (zs ds) ⟨[("script", .lst (zs ns)), ("total", .int t), ("levels", .own 0)], [], [.list (zs (l ++ [x]))]⟩ ⟨[("script", .lst (zs ns)), ("total", .int t), ("levels", .own 0)], [], [.list (zs (lv t l x ds))]⟩) [1, 5, 25] [] 0 (by decide) (by decide)
      intro ds
      induction ds with
      | nil => intro l x _ _; exact .done
      | cons d ds ih =>
        intro l x hd hl
        obtain ⟨h1, h2⟩ := hd d List.mem_cons_self
        simp only [List.length_cons] at hl
        refine ForTo.next (bind_local (by lcg_off) (by decide +kernel) (by decide +kernel)) (ex_forget (σ' := ⟨[("script", .lst (zs ns)), ("total", .int t), ("levels", .own 0), ("part", .int d)], [], [.list (zs ((l ++ [x]) ++ [x + 1 + gap t d]))]⟩) ?_ (by lcg_src)) (ih (l ++ [x]) (x + 1 + gap t d) (fun d hd' => hd d (List.mem_cons_of_mem _ hd')) (by simp; omega))
        exact ex_cons (ex_expr (ev_zappend (ev_local (by lcg_sub)) ⟨_, rfl⟩ (evl_cons (ev_bin (ev_bin (ev_zlast (ev_local (by lcg_sub)) (ev_neg ev_int) (.own rfl) (by omega)) ev_int bin_add) (ev_bin (ev_bin (ev_local (by lcg_sub)) (ev_local (by lcg_sub)) (bin_fdiv h1 (by omega))) ev_int (bin_mod (by decide))) bin_add) evl_nil) rfl (by simp; omega))) ex_nil
end Mine
namespace Mine
variable {C : Base} {sc : Scope} {n p : Nat} {σ σ₁ σ₂ σ₃ σ' : AS}
local macro_rules | `(tactic| lcg_sub) => `(tactic| ((try dsimp only); repeat (first | (with_reducible exact List.mem_cons_self) | (with_reducible apply List.mem_cons_of_mem))))
local macro_rules | `(tactic| lcg_src) => `(tactic| repeat (first | (with_reducible exact List.nil_sublist _) | (with_reducible apply List.Sublist.cons_cons) | (with_reducible apply List.Sublist.cons)))
local macro_rules | `(tactic| lcg_off) => `(tactic| first | (with_reducible exact SetL.nil) | (with_reducible exact SetL.hit) | (with_reducible exact SetL.miss (by decide +kernel) (by lcg_off)) | (dsimp only; first | (with_reducible exact SetL.nil) | (with_reducible exact SetL.hit) | (with_reducible exact SetL.miss (by decide +kernel) (by lcg_off))))

/-! the last own list is let go -/
inductive Frz (k : Nat) (xs : List AV) : AV → AV → Prop
  | plain {r : AV} : r.plain = true → Frz k xs r r
  | own {j : Nat} : j < k → Frz k xs (.own j) (.own j)
  | hit : Frz k xs (.own k) (.lst xs)
inductive FrzL (k : Nat) (xs : List AV) : List (Str × AV) → List (Str × AV) → Prop
  | nil : FrzL k xs [] []
  | cons {x : Str} {r r' : AV} {l l' : List (Str × AV)} : Frz k xs r r' → FrzL k xs l l' → FrzL k xs ((x, r) :: l) ((x, r') :: l')
theorem FrzL.mem {k : Nat} {xs : List AV} : ∀ {l l' : List (Str × AV)}, FrzL k xs l l' → ∀ p ∈ l', ∃ r, (p.1, r) ∈ l ∧ Frz k xs r p.2
  | _, _, .nil, _, h => nomatch h
  | _, _, .cons h hs, p, hp => by
    rcases List.mem_cons.mp hp with rfl | hp
    · exact ⟨_, List.mem_cons_self, h⟩
    · obtain ⟨r, hr, hf⟩ := hs.mem p hp
      exact ⟨r, List.mem_cons_of_mem _ hr, hf⟩
theorem FrzL.keys {k : Nat} {xs : List AV} : ∀ {l l' : List (Str × AV)}, FrzL k xs l l' → l'.map (·.1) = l.map (·.1)
  | _, _, .nil => rfl
  | _, _, .cons h hs => by simp only [List.map_cons, hs.keys]

theorem St.freeze {env : Env} {ls ls' : List (Str × AV)} {own : List AO} {xs : List AV} {ρ χ : List Addr} {s : Shared} (S : St C env ⟨ls, [], own ++ [.list xs]⟩ ρ χ s) (hl : FrzL own.length xs ls ls') (hx : plains xs = true) (ho : ∀ o ∈ own, OwnPlain o) :
    ∃ ρ₀ a, ρ = ρ₀ ++ [a] ∧ St C env ⟨ls', [], own⟩ ρ₀ χ s := by
  have hlen := S.len
  simp only [List.length_append, List.length_cons, List.length_nil] at hlen
  obtain ⟨ρ₀, a, rfl⟩ : ∃ ρ₀ a, ρ = ρ₀ ++ [a] := by
    have hne : ρ ≠ [] := fun e => by rw [e] at hlen; simp at hlen
    exact ⟨ρ.dropLast, ρ.getLast hne, (List.dropLast_concat_getLast hne).symm⟩
  have hl₀ : ρ₀.length = own.length := by simpa using hlen
  have hsub : List.Sublist (wide env.locals ρ₀ χ) (wide env.locals (ρ₀ ++ [a]) χ) := ((List.sublist_append_left ρ₀ [a]).append_right χ).cons_cons _
  have sub : ∀ b ∈ wide env.locals ρ₀ χ, b ∈ wide env.locals (ρ₀ ++ [a]) χ := fun b hb => hsub.subset hb
  have haW : a ∉ wide env.locals ρ₀ χ := fun hm => by
    have hp : List.Perm (wide env.locals (ρ₀ ++ [a]) χ) (a :: wide env.locals ρ₀ χ) := by
      show List.Perm (env.locals :: ((ρ₀ ++ [a]) ++ χ)) (a :: env.locals :: (ρ₀ ++ χ))
      rw [List.append_assoc]
      exact (List.perm_middle.cons _).trans (List.Perm.swap ..)
    exact (List.nodup_cons.mp (hp.nodup_iff.mp S.nod)).1 hm
  have ownAt : ∀ (j : Nat), j < own.length → (ρ₀ ++ [a])[j]? = ρ₀[j]? := fun j hj => List.getElem?_append_left (by omega)
  refine ⟨ρ₀, a, rfl, S.base, S.gens, S.os, hl₀, hsub.nodup S.nod, fun b hb => S.out b ?_, S.above, fun b hb => S.alc b (sub b hb), ?_, ?_, fun p hp => (nomatch hp), fun k o hk => ?_⟩
  · rcases List.mem_cons.mp hb with q | q
    · exact List.mem_cons.mpr (.inl q)
    · exact List.mem_cons_of_mem _ (List.mem_append_left _ q)
  · obtain ⟨m, hm, hls⟩ := S.ns
    refine ⟨m, hm, fun p hp => ?_⟩
    obtain ⟨r, hr, hf⟩ := hl.mem p hp
    obtain ⟨h1, h2, v, hv, hi⟩ := hls _ hr
    refine ⟨h1, h2, v, hv, ?_⟩
    obtain ⟨px, pr⟩ := p
    dsimp only at hf hi ⊢
    cases hf with
    | plain hpl => exact AV.Is.plain sub hpl hi
    | own hj =>
      simp only [AV.Is] at hi ⊢
      obtain ⟨b, rfl, hb⟩ := hi
      exact ⟨b, rfl, by rw [← ownAt _ hj]; exact hb⟩
    | hit =>
      obtain ⟨b, us, rfl, hb, hlo, hall⟩ := S.lo (k := own.length) (xs := xs) (by simp) hi
      have e : b = a := by
        have : (ρ₀ ++ [a])[own.length]? = some a := by rw [← hl₀]; simp
        rw [this] at hb; exact (Option.some.inj hb).symm
      subst e
      simp only [AV.Is]
      exact ⟨b, us, rfl, haW, hlo.isList, AllIs.plain sub hx hall⟩
  · show (ls'.map (·.1)).Nodup
    rw [hl.keys]; exact S.keys
  · have hlt := (List.getElem?_eq_some_iff.mp hk).1
    obtain ⟨b, hb, hI⟩ := S.own k o (by show (own ++ [AO.list xs])[k]? = some o; rw [List.getElem?_append_left hlt]; exact hk)
    rw [ownAt k hlt] at hb
    exact ⟨b, hb, hI.plain sub (ho o (List.mem_of_getElem? hk))⟩

theorem ex_freeze {l : List Stmt} {f : Fl} {ls ls' : List (Str × AV)} {own : List AO} {xs : List AV} (h : Ex C sc n p ⟨ls', [], own⟩ l f σ') (hl : FrzL own.length xs ls ls') (hx : plains xs = true) (ho : ∀ o ∈ own, OwnPlain o) (hp : p ≤ own.length) :
    Ex C sc n p ⟨ls, [], own ++ [.list xs]⟩ l f σ' := fun A env ρ χ s Q E hA hE S hpl k => by
  obtain ⟨ρ₀, a, rfl, S₀⟩ := S.freeze hl hx ho
  have hl₀ : ρ₀.length = own.length := S₀.len
  refine h A env ρ₀ χ s Q E hA hE S₀ (by omega) fun x s' ρ' P hx' => k x s' ρ' ⟨P.st, ⟨fun b o hb e => P.evo.keep b o (fun hm => hb ?_) e, P.evo.live, fun b hb => ?_⟩, ?_, P.le⟩ hx'
  · rcases List.mem_cons.mp hm with q | q
    · exact List.mem_cons.mpr (.inl q)
    · exact List.mem_cons_of_mem _ (List.mem_append_left _ q)
  · rcases P.evo.new b hb with q | q
    · exact .inl (List.mem_append_left _ q)
    · exact .inr q
  · rw [List.take_append_of_le_length (by omega)]; exact P.pre

/-! slices of lists -/
theorem pick_run {xs : List AV} {lo hi : Option Int} {a b : Nat} (h : sliceBounds lo hi none xs.length = ((a : Int), (b : Int), 1)) : pickAV xs lo hi none = (xs.drop a).take (b - a) := by
  unfold pickAV
  rw [h]
  dsimp only
  rw [sliceRange_one, ← picked xs a (b - a)]
theorem pick_upto {xs : List AV} {k : Nat} : pickAV xs none (some (k : Int)) none = xs.take k := by
  rw [pick_run (a := 0) (b := min k xs.length)]
  · rw [List.drop_zero, Nat.sub_zero]
    rcases Nat.le_total k xs.length with h | h
    · rw [Nat.min_eq_left h]
    · rw [Nat.min_eq_right h, List.take_of_length_le (Nat.le_refl _), List.take_of_length_le h]
  · unfold sliceBounds
    simp only [Option.getD_none, show (1 : Int) > 0 by decide, if_true]
    rw [if_neg (by omega)]
    simp only [Prod.mk.injEq, and_true]
    refine ⟨rfl, ?_⟩
    omega
theorem pick_last {xs : List AV} : pickAV xs (some (-1)) none none = xs.drop (xs.length - 1) := by
  rw [pick_run (a := xs.length - 1) (b := xs.length)]
  · rw [List.take_of_length_le (by simp)]
  · unfold sliceBounds
    simp only [Option.getD_none, show (1 : Int) > 0 by decide, if_true]
    rw [if_pos (by decide)]
    simp only [Prod.mk.injEq, and_true]
    omega
end Mine
namespace Mine
variable {C : Base} {sc : Scope} {n p : Nat} {σ σ₁ σ₂ σ₃ σ' : AS}
local macro_rules | `(tactic| lcg_sub) => `(tactic| ((try dsimp only); repeat (first | (with_reducible exact List.mem_cons_self) | (with_reducible apply List.mem_cons_of_mem))))
local macro_rules | `(tactic| lcg_src) => `(tactic| repeat (first | (with_reducible exact List.nil_sublist _) | (with_reducible apply List.Sublist.cons_cons) | (with_reducible apply List.Sublist.cons)))
local macro_rules | `(tactic| lcg_off) => `(tactic| first | (with_reducible exact SetL.nil) | (with_reducible exact SetL.hit) | (with_reducible exact SetL.miss (by decide +kernel) (by lcg_off)) | (dsimp only; first | (with_reducible exact SetL.nil) | (with_reducible exact SetL.hit) | (with_reducible exact SetL.miss (by decide +kernel) (by lcg_off))))

theorem g79 (X : KX C) : C.mg "_law_off_a_heap" = some (.ref 79) := mg_of X C.g rfl
theorem f79 (X : KX C) : IsFn C 79 := ⟨_, _, X 79 _ rfl, rfl⟩
structure OS where
  h : List Int
  t : Int
  tops : List Int
def offStep (y : Int) (s : OS) : OS := ⟨repl (push s.h (-y)) (-y), s.t - (push s.h (-y)).getD 0 0 - y, s.tops ++ [-((repl (push s.h (-y)) (-y)).getD 0 0)]⟩
def offRun : List Int → OS → OS
  | [], s => s
  | y :: ys, s => offRun ys (offStep y s)
def fitM (t : Int) : List Int → Int
  | [] => t
  | f :: _ => if f < t then f else t
def fitRun : List Int → List Int → List Int
  | [], fit => fit
  | t :: ts, fit => fitRun ts (fitM t fit :: fit)
def offToll (ys : List Int) : Int := (offRun ys ⟨[], 0, []⟩).t
def offFit (ys : List Int) : List Int := fitRun (offRun ys ⟨[], 0, []⟩).tops.reverse []
theorem offStep_len {y : Int} {s : OS} : (offStep y s).h.length = s.h.length + 1 ∧ (offStep y s).tops.length = s.tops.length + 1 := by
  unfold offStep
  refine ⟨?_, by simp⟩
  rw [repl_length (by rw [push_length]; omega), push_length]
theorem offRun_len : ∀ {ys : List Int} {s : OS}, (offRun ys s).tops.length = s.tops.length + ys.length
  | [], s => rfl
  | y :: ys, s => by unfold offRun; rw [offRun_len (ys := ys), offStep_len.2]; simp; omega
theorem fitM_mem {t : Int} {fit : List Int} : fitM t fit ∈ t :: fit.take 1 ∧ ∀ a ∈ t :: fit.take 1, fitM t fit ≤ a := by
  cases fit with
  | nil => simp [fitM]
  | cons f r =>
    simp only [fitM, List.take_succ_cons, List.take_zero]
    split
    · refine ⟨by simp, fun a ha => ?_⟩
      simp only [List.mem_cons, List.not_mem_nil, or_false] at ha
      rcases ha with rfl | rfl <;> omega
    · refine ⟨by simp, fun a ha => ?_⟩
      simp only [List.mem_cons, List.not_mem_nil, or_false] at ha
      rcases ha with rfl | rfl <;> omega
theorem callr_zmin {r : AV} {ns : List Int} {M : Int} (hl : LstOf σ r (zs ns)) (hm : M ∈ ns) (hle : ∀ a ∈ ns, M ≤ a) : CallR C σ (.builtin "min") [r] (.int M) := callr_min hl hm hle
theorem zs_reverse {l : List Int} : (zs l).reverse = zs l.reverse := by simp [zs]

set_option maxHeartbeats 2000000 in
theorem off_ok (X : KX C) {ys : List Int} (hz : ys.length ≤ 100) : CallOk C (n + 4) 79 [] [.lst (zs ys)] (.tup [.int (offToll ys), .lst (zs (offFit ys))]) [] := by
  obtain ⟨S, hS⟩ : ∃ S, S = offRun ys ⟨[], 0, []⟩ := ⟨_, rfl⟩
  refine call_entry (σ' := ⟨[("heights", .lst (zs ys)), ("heap", .own 0), ("toll", .int S.t), ("tops", .lst (zs S.tops)), ("fit", .own 1)], [], [.list (zs S.h), .list (zs (offFit ys))]⟩) (fl := .ret (.tup [.int S.t, .own 1])) (own := []) (args' := [.lst (zs ys)]) (names := ["heights"]) ⟨⟨_, X 79 _ rfl, rfl⟩, codeRec_of X rfl, rfl, rfl, rfl⟩
    (by decide) (by decide +kernel) (by decide +kernel) rfl (fun s vs ρ W hb hvs => ?_) ?_ (.inr ⟨_, rfl, .tup (.cons (by rw [hS]; exact .plain rfl) (.cons (.own (Nat.zero_le _) rfl zs_plain) .nil))⟩) (fun o ho => by simp at ho)
  · simp only [AllIs] at hvs
    obtain ⟨a, _, rfl, ha, rfl⟩ := hvs
    exact ⟨[a], by simp only [AllIs]; exact ⟨a, _, rfl, ha, rfl⟩, BindsTo.of_eq rfl⟩
  · have htl : S.tops.length = ys.length := by rw [hS, offRun_len]; simp
    show Ex C _ (n + 3) _ ⟨[("heights", .lst (zs ys))], [], []⟩ _ _ _
    refine ex_cons (ex_assign (ev_list_own evl_nil) (by lcg_off) (by decide +kernel) (by decide +kernel)) ?_
    refine ex_cons (ex_assign ev_int (by lcg_off) (by decide +kernel) (by decide +kernel)) ?_
    refine ex_cons (ex_assign (ev_list_own evl_nil) (by lcg_off) (by decide +kernel) (by decide +kernel)) ?_
    refine ex_cons (σ₁ := ⟨[("heights", .lst (zs ys)), ("heap", .own 0), ("toll", .int S.t), ("tops", .own 1)], [], [.list (zs S.h), .list (zs S.tops)]⟩) (ex_for (evi_list (ev_local (by lcg_sub)) zs_plain) ?heights) ?_
    case heights =>
      rw [hS]
      refine (?_ : ∀ (v : List Int) (T : OS), T.h.length + v.length ≤ 100 → T.tops.length + v.length ≤ 100 → ForTo C _ (n + 3) _ _ _ (zs v) ⟨[("heights", .lst (zs ys)), ("heap", .own 0), ("toll", .int T.t), ("tops", .own 1)], [], [.list (zs T.h), .list (zs T.tops)]⟩
        ⟨[("heights", .lst (zs ys)), ("heap", .own 0), ("toll", .int (offRun v T).t), ("tops", .own 1)], [], [.list (zs (offRun v T).h), .list (zs (offRun v T).tops)]⟩) ys ⟨[], 0, []⟩ (by simp; omega) (by simp; omega)
      intro v
      induction v with
      | nil => intro T _ _; exact .done
      | cons y v ih =>
        intro T h1 h2
        simp only [List.length_cons] at h1 h2
        obtain ⟨l1, l2⟩ := offStep_len (y := y) (s := T)
        refine ForTo.next (bind_local (by lcg_off) (by decide +kernel) (by decide +kernel)) (ex_forget (σ' := ⟨[("heights", .lst (zs ys)), ("heap", .own 0), ("toll", .int (offStep y T).t), ("tops", .own 1), ("height", .int y)], [], [.list (zs (offStep y T).h), .list (zs (offStep y T).tops)]⟩) ?_ (by lcg_src)) (ih (offStep y T) (by omega) (by omega))
        refine ex_cons (ex_expr (ev_call_own (f := 30) (by decide +kernel) (g30 X) (by decide +kernel) (f30 X) (evl_cons (ev_local (by lcg_sub)) (evl_cons (ev_neg (ev_local (by lcg_sub))) evl_nil)) rfl rfl zs_plain zs_plain (heappush_ok X (by omega)) rfl)) ?_
        refine ex_cons (ex_assign (ev_bin (ev_bin (ev_local (by lcg_sub)) (ev_call_own (f := 37) (by decide +kernel) (g37 X) (by decide +kernel) (f37 X) (evl_cons (ev_local (by lcg_sub)) (evl_cons (ev_neg (ev_local (by lcg_sub))) evl_nil)) rfl rfl zs_plain zs_plain
          (heapreplace_ok X (by rw [push_length]; omega) (by rw [push_length]; omega)) rfl) bin_sub) (ev_local (by lcg_sub)) bin_sub) (by lcg_off) (by decide +kernel) (by decide +kernel)) ?_
        exact ex_cons (ex_expr (ev_zappend (ev_local (by lcg_sub)) ⟨_, rfl⟩ (evl_cons (ev_neg (ev_zget (i := 0) (ev_local (by lcg_sub)) ev_int (.own rfl) (by rw [repl_length (by rw [push_length]; omega), push_length]; omega) (by rw [repl_length (by rw [push_length]; omega), push_length]; omega))) evl_nil) rfl (by omega))) ex_nil
    refine ex_freeze (own := [.list (zs S.h)]) (xs := zs S.tops) (ls' := [("heights", .lst (zs ys)), ("heap", .own 0), ("toll", .int S.t), ("tops", .lst (zs S.tops))]) ?_ (.cons (.plain zs_plain) (.cons (.own (Nat.lt_succ_self 0)) (.cons (.plain rfl) (.cons .hit .nil)))) zs_plain (fun o ho => by simp at ho; subst ho; exact zs_plain) (by simp)
    refine ex_cons (ex_assign (ev_list_own evl_nil) (by lcg_off) (by decide +kernel) (by decide +kernel)) ?_
    refine ex_cons (σ₁ := ⟨[("heights", .lst (zs ys)), ("heap", .own 0), ("toll", .int S.t), ("tops", .lst (zs S.tops)), ("fit", .own 1)], [], [.list (zs S.h), .list (zs (offFit ys))]⟩) (ex_for (evi_reversed (by decide +kernel) (greversed X) (by decide +kernel) (by decide +kernel) PyProof.Rows.Boot.«reversed» (evl_cons (ev_local (by lcg_sub)) evl_nil) zs_plain) ?tops)
      (ex_stop (ex_return (ev_tuple (evl_cons (ev_local (by lcg_sub)) (evl_cons (ev_local (by lcg_sub)) evl_nil)))) (by nofun))
    case tops =>
      rw [zs_reverse, show offFit ys = fitRun S.tops.reverse [] by rw [hS]; rfl]
      refine (?_ : ∀ (v fit : List Int), fit.length + v.length ≤ 100 → ForTo C _ (n + 3) _ _ _ (zs v) ⟨[("heights", .lst (zs ys)), ("heap", .own 0), ("toll", .int S.t), ("tops", .lst (zs S.tops)), ("fit", .own 1)], [], [.list (zs S.h), .list (zs fit)]⟩
        ⟨[("heights", .lst (zs ys)), ("heap", .own 0), ("toll", .int S.t), ("tops", .lst (zs S.tops)), ("fit", .own 1)], [], [.list (zs S.h), .list (zs (fitRun v fit))]⟩) S.tops.reverse [] (by simp; omega)
      intro v
      induction v with
      | nil => intro fit _; exact .done
      | cons t v ih =>
        intro fit h1
        simp only [List.length_cons] at h1
        obtain ⟨m1, m2⟩ := fitM_mem (t := t) (fit := fit)
        refine ForTo.next (bind_local (by lcg_off) (by decide +kernel) (by decide +kernel)) (ex_forget (σ' := ⟨[("heights", .lst (zs ys)), ("heap", .own 0), ("toll", .int S.t), ("tops", .lst (zs S.tops)), ("fit", .own 1), ("top", .int t)], [], [.list (zs S.h), .list (zs (fitM t fit :: fit))]⟩) ?_ (by lcg_src)) (ih (fitM t fit :: fit) (by simp; omega))
        refine ex_cons (ex_expr (ev_insert0 (ev_local (by lcg_sub)) ⟨_, rfl⟩ (evl_cons ev_int (evl_cons (ev_call_bi (by decide +kernel) (gmin X) (by decide +kernel) (by decide +kernel) boot_min (.builtin _) (evl_cons
          (ev_eq (r' := .lst (zs (t :: fit.take 1))) (ev_bin (ev_list (evl_cons (ev_local (by lcg_sub)) evl_nil)) (ev_lslice (ev_local (by lcg_sub)) evp_none (evp_int ev_int) evp_none (.own rfl) (by nofun) (by rw [zs_length]; omega)) (bin_ladd ?len)) ?sl) evl_nil) (callr_zmin .frozen m1 m2)) evl_nil)) rfl (by rw [zs_length]; omega))) ex_nil
        case len =>
          rw [show pickAV (zs fit) none (some 1) none = (zs fit).take 1 from pick_upto (k := 1)]
          simp; omega
        case sl =>
          rw [show pickAV (zs fit) none (some 1) none = (zs fit).take 1 from pick_upto (k := 1)]
          simp [zs, List.map_take]
end Mine
namespace Mine
variable {C : Base} {sc : Scope} {n p : Nat} {σ σ₁ σ₂ σ₃ σ' τ τ₁ τ' : AS}
local macro_rules | `(tactic| lcg_sub) => `(tactic| ((try dsimp only); repeat (first | (with_reducible exact List.mem_cons_self) | (with_reducible apply List.mem_cons_of_mem))))
local macro_rules | `(tactic| lcg_src) => `(tactic| repeat (first | (with_reducible exact List.nil_sublist _) | (with_reducible apply List.Sublist.cons_cons) | (with_reducible apply List.Sublist.cons)))
local macro_rules | `(tactic| lcg_off) => `(tactic| first | (with_reducible exact SetL.nil) | (with_reducible exact SetL.hit) | (with_reducible exact SetL.miss (by decide +kernel) (by lcg_off)) | (dsimp only; first | (with_reducible exact SetL.nil) | (with_reducible exact SetL.hit) | (with_reducible exact SetL.miss (by decide +kernel) (by lcg_off))))

theorem emit_forget {emit : Value → Env → Sem Unit} {rs : List AV} {ls' : List (Str × AV)} (h : Emit C sc n emit τ rs τ') (hs : List.Sublist ls' τ'.ls) : Emit C sc n emit τ rs { τ' with ls := ls' } :=
  fun A env ρ χ acc s ys ws Q E hA hE S hacc hC hx hz hlo hall k => h A env ρ χ acc s ys ws Q E hA hE S hacc hC hx hz hlo hall fun s' ρ' ys' S' E' p' l' a' => k s' ρ' ys' (S'.forget hs) E' p' l' a'

theorem g91 (X : KX C) : C.mg "_law_rows_that_never_fall" = some (.ref 91) := mg_of X C.g rfl
theorem f91 (X : KX C) : IsFn C 91 := ⟨_, _, X 91 _ rfl, rfl⟩
def mx (one : List Int) : Int := if one.getLastD 0 < 0 then 0 else one.getLastD 0
def nexts (one : List Int) : List Int := (List.range (4 - mx one).toNat).map fun (i : Nat) => mx one + (i : Int)
def rws : Nat → List (List Int)
  | 0 => [[]]
  | k + 1 => (rws k).flatMap fun one => (nexts one).map fun x => one ++ [x]
def rowsAV (l : List (List Int)) : List AV := l.map fun o => .lst (zs o)
theorem rowsAV_plain {l : List (List Int)} : plains (rowsAV l) = true := by
  induction l with
  | nil => rfl
  | cons o l ih => show (plains (zs o) && plains (rowsAV l)) = true; rw [ih, zs_plain]; rfl
theorem rowsAV_append {l m : List (List Int)} : rowsAV l ++ rowsAV m = rowsAV (l ++ m) := by simp [rowsAV]
theorem rws_small : ∀ k < 5, rws k ≠ [] ∧ (rws (k + 1)).length ≤ 60 ∧ ∀ one ∈ rws k, one.length = k ∧ ∀ x ∈ one, (0 ≤ x ∧ x ≤ 3) := by decide +kernel
theorem rws_five : rws 5 ≠ [] ∧ ∀ one ∈ rws 5, one.length = 5 := by decide +kernel
theorem nexts_zs {one : List Int} : zs (nexts one) = intsFrom (mx one) (4 - mx one).toNat := by simp [zs, nexts, intsFrom]
theorem callr_zmax {r : AV} {ns : List Int} {M : Int} (hl : LstOf σ r (zs ns)) (hm : M ∈ ns) (hle : ∀ a ∈ ns, a ≤ M) : CallR C σ (.builtin "max") [r] (.int M) := callr_max hl hm hle
theorem drop_last {one : List Int} : one.drop (one.length - 1) = [] ∧ one = [] ∨ one.drop (one.length - 1) = [one.getLastD 0] := by
  rcases List.eq_nil_or_concat one with rfl | ⟨l, x, rfl⟩
  · exact .inl ⟨rfl, rfl⟩
  · right
    simp
theorem mx_mem {one : List Int} : mx one ∈ 0 :: one.drop (one.length - 1) ∧ ∀ a ∈ 0 :: one.drop (one.length - 1), a ≤ mx one := by
  unfold mx
  rcases drop_last (one := one) with ⟨h, rfl⟩ | h
  · simp
  · rw [h]
    split
    · refine ⟨by simp, fun a ha => ?_⟩
      simp only [List.mem_cons, List.not_mem_nil, or_false] at ha
      rcases ha with rfl | rfl <;> omega
    · refine ⟨by simp, fun a ha => ?_⟩
      simp only [List.mem_cons, List.not_mem_nil, or_false] at ha
      rcases ha with rfl | rfl <;> omega
theorem mx_bound {one : List Int} (h : ∀ x ∈ one, (0 ≤ x ∧ x ≤ 3)) : 0 ≤ mx one ∧ mx one ≤ 3 := by
  unfold mx
  rcases drop_last (one := one) with ⟨_, rfl⟩ | hd
  · simp
  · have hm : one.getLastD 0 ∈ one := List.mem_of_mem_drop (i := one.length - 1) (by rw [hd]; exact List.mem_cons_self)
    have := h _ hm
    split <;> omega

theorem rws_len : ∀ k < 6, (rws k).length ≤ 60 := by decide +kernel
theorem rowsAV_length {l : List (List Int)} : (rowsAV l).length = l.length := by simp [rowsAV]
theorem swaps_local {elt : Expr} {gens : List Comprehension} {scope : Scope} {pos px : Pos} {t : Str} {line : Nat} {env : Env} (hE : EnvOk sc env) (hx : sc.names.lookup t = some .local) (hl : (px.line == pos.line) = true)
    (hn : (scope.names.any fun (n, k) => n == t && (k == .local || k == .cell)) = false) : swapsWith (.ListComp elt gens scope pos) (some (.Name t px)) line env = pure true := by
  show (pure (env.blockKind == .function && env.kindOf t == some .local && px.line == pos.line && !(scope.names.any fun (n, k) => n == t && (k == .local || k == .cell))) : Sem Bool) = pure true
  rw [hE.kind, hx, hl, hn]
  have : (env.blockKind == ScopeKind.function) = true := by
    unfold Env.blockKind
    rw [hE.sk]; rfl
  rw [this]; rfl

theorem frOf {scope : Scope} {names : List Str} (h : σ.cx.map (·.1) = names) (h' : ∀ p ∈ scope.names, p.2 = NameKind.free → p.1 ∈ names) : ∀ p ∈ scope.names, p.2 = NameKind.free → p.1 ∈ σ.cx.map (·.1) := by rw [h]; exact h'

set_option maxHeartbeats 2000000 in
theorem rows_ok (X : KX C) {N : Nat} (hN : N ≤ 5) : CallOk C (n + 1) 91 [] [.int N] (.lst (rowsAV (rws N))) [] := by
  refine call_entry (σ' := ⟨[("size", .int N), ("found", .lst (rowsAV (rws N)))], [], []⟩) (fl := .ret (.lst (rowsAV (rws N)))) (own := []) (args' := [.int N]) (names := ["size"]) ⟨⟨_, X 91 _ rfl, rfl⟩, codeRec_of X rfl, rfl, rfl, rfl⟩
    (by decide) (by decide +kernel) (by decide +kernel) rfl (fun s vs ρ W hb hvs => ?_) ?_ (.inr ⟨_, rfl, .plain rowsAV_plain⟩) (fun o ho => by simp at ho)
  · simp only [AllIs] at hvs
    obtain ⟨a, _, rfl, ha, rfl⟩ := hvs
    exact ⟨[a], by simp only [AllIs]; exact ⟨a, _, rfl, ha, rfl⟩, BindsTo.of_eq rfl⟩
  · show Ex C _ n _ ⟨[("size", .int N)], [], []⟩ _ _ _
    refine ex_cons (ex_assign (ev_list (evl_cons (ev_list evl_nil) evl_nil)) (by lcg_off) (by decide +kernel) (by decide +kernel)) ?_
    refine ex_cons (σ₁ := ⟨[("size", .int N), ("found", .lst (rowsAV (rws N)))], [], []⟩) (ex_wt ?loop) (ex_stop (ex_return (ev_local (by lcg_sub))) (by nofun))
    case loop =>
      refine (?_ : ∀ (f k : Nat), N - k ≤ f → k ≤ N → WT C _ n _ _ _ ⟨[("size", .int N), ("found", .lst (rowsAV (rws k)))], [], []⟩ .next ⟨[("size", .int N), ("found", .lst (rowsAV (rws N)))], [], []⟩) N 0 (by omega) (Nat.zero_le _)
      have head : ∀ k ≤ 5, ∃ o, (rowsAV (rws k))[0]? = some (.lst (zs o)) ∧ o.length = k := fun k hk => by
        have facts : rws k ≠ [] ∧ ∀ one ∈ rws k, one.length = k := by
          rcases Nat.lt_or_ge k 5 with h | h
          · exact ⟨(rws_small k h).1, fun one ho => ((rws_small k h).2.2 one ho).1⟩
          · have : k = 5 := by omega
            subst this; exact rws_five
        cases hr : rws k with
        | nil => exact absurd hr facts.1
        | cons o r => exact ⟨o, rfl, facts.2 o (hr ▸ List.mem_cons_self)⟩
      intro f
      induction f with
      | zero =>
        intro k h1 h2
        have e : k = N := by omega
        subst e
        obtain ⟨o, ho, hol⟩ := head k hN
        exact wt_done (evt_eq (evt_cmp (ev_call_bi (by decide +kernel) (glen X) (by decide +kernel) (by decide +kernel) boot_len (.builtin _) (evl_cons (ev_item (i := 0) (ev_local (by lcg_sub)) ev_int .frozen (by decide) ho (by rw [rowsAV_length]; have := rws_len k (by omega); omega)) evl_nil) (callr_len .frozen (by rw [zs_length]; omega))) (ev_local (by lcg_sub)) cmp_lt) (decide_eq_false (by rw [zs_length]; omega)))
      | succ f ih =>
        intro k h1 h2
        obtain ⟨o, ho, hol⟩ := head k (by omega)
        rcases Nat.lt_or_ge k N with hk | hk
        · refine wt_next (evt_eq (evt_cmp (ev_call_bi (by decide +kernel) (glen X) (by decide +kernel) (by decide +kernel) boot_len (.builtin _) (evl_cons (ev_item (i := 0) (ev_local (by lcg_sub)) ev_int .frozen (by decide) ho (by rw [rowsAV_length]; have := rws_len k (by omega); omega)) evl_nil) (callr_len .frozen (by rw [zs_length]; omega))) (ev_local (by lcg_sub)) cmp_lt) (decide_eq_true (by rw [zs_length]; omega))) (ex_cons ?_ ex_nil) (ih (k + 1) (by omega) (by omega))
          refine ex_block (σ₁ := ⟨[("size", .int N), ("found", .lst (rowsAV (rws k)))], [], []⟩) (rs := rowsAV (rws (k + 1))) ?_ (by lcg_off) (by decide +kernel) (by decide +kernel) ?_
          · obtain ⟨hne, hlen, hall⟩ := rws_small k (by omega)
            have key : ∀ (v : List (List Int)), (∀ one ∈ v, ∀ x ∈ one, (0 ≤ x ∧ x ≤ 3)) → (∀ one ∈ v, one.length = k) → ∃ (q : List AV), q = rowsAV (v.flatMap fun one => (nexts one).map fun x => one ++ [x]) := fun v _ _ => ⟨_, rfl⟩
            refine ⟨rfl, by decide +kernel, by decide +kernel, frOf (names := []) rfl (by decide +kernel), rowsAV_plain, by rw [rowsAV_length]; omega, false, [], rowsAV (rws k), _, _, ⟨[], [], []⟩, evi_list (ev_local (by lcg_sub)) rowsAV_plain, .nil, by decide +kernel, by decide +kernel, ?_, by nofun, fun it acc env => turn_out ..⟩
            refine (?_ : ∀ (v : List (List Int)), (∀ one ∈ v, one.length = k ∧ ∀ x ∈ one, (0 ≤ x ∧ x ≤ 3)) → CompTo C _ n _ _ _ (rowsAV v) ⟨[], [], []⟩ (rowsAV (v.flatMap fun one => (nexts one).map fun x => one ++ [x])) ⟨[], [], []⟩) (rws k) hall
            intro v
            induction v with
            | nil => intro _; exact .done
            | cons one v ihv =>
              intro hv
              have hone := hv one List.mem_cons_self
              obtain ⟨b1, b2⟩ := mx_bound hone.2
              obtain ⟨m1, m2⟩ := mx_mem (one := one)
              rw [List.flatMap_cons, ← rowsAV_append]
              refine CompTo.keep (x := .lst (zs one)) (τ₁ := ⟨[("one", .lst (zs one))], [], []⟩) (τ₂ := ⟨[("one", .lst (zs one))], [], []⟩) (τ₃ := ⟨[], [], []⟩) (bind_local (by lcg_off) (by decide +kernel) (by decide +kernel)) .nil ?em rfl rfl (ihv fun o ho => hv o (List.mem_cons_of_mem _ ho))
              refine emit_forget (τ' := ⟨[("one", .lst (zs one))], [], []⟩) (emit_nest (τ₁ := ⟨[("one", .lst (zs one))], [], []⟩) (xs := zs (nexts one)) (fun _ _ _ => turn_in ..) rfl rfl ?iter ?inner rfl) (by lcg_src)
              case iter =>
                rw [nexts_zs]
                refine evi_range (k := (4 - mx one).toNat) (ev_call_bi (by decide +kernel) (grange X) (by decide +kernel) (by decide +kernel) boot_range (.type _)
                  (evl_cons (ev_call_bi (by decide +kernel) (gmax X) (by decide +kernel) (by decide +kernel) boot_max (.builtin _) (evl_cons (ev_eq (r' := .lst (zs (0 :: one.drop (one.length - 1)))) (ev_bin (ev_list (evl_cons ev_int evl_nil)) (ev_lslice (ev_local (by lcg_sub)) (evp_int (ev_neg ev_int)) evp_none evp_none (.frozen (xs := zs one)) (by nofun) (by rw [zs_length]; omega)) (bin_ladd ?len)) ?sl) evl_nil) (callr_zmax .frozen m1 m2))
                  (evl_cons ev_int evl_nil)) callr_range2) (by omega) (by omega) (by omega) (by decide) (by decide)
                case len =>
                  rw [show pickAV (zs one) (some (-1)) none none = (zs one).drop ((zs one).length - 1) from pick_last]
                  simp [zs_length]; omega
                case sl =>
                  rw [show pickAV (zs one) (some (-1)) none none = (zs one).drop ((zs one).length - 1) from pick_last]
                  simp [zs, List.map_drop]
              case inner =>
                refine (?_ : ∀ (u : List Int), CompTo C _ n _ _ _ (zs u) ⟨[("one", .lst (zs one))], [], []⟩ (rowsAV (u.map fun x => one ++ [x])) ⟨[("one", .lst (zs one))], [], []⟩) (nexts one)
                intro u
                induction u with
                | nil => exact .done
                | cons x u ihu =>
                  refine CompTo.keep (x := .int x) (r := [.lst (zs (one ++ [x]))]) (τ₁ := ⟨[("one", .lst (zs one)), ("x", .int x)], [], []⟩) (τ₂ := ⟨[("one", .lst (zs one)), ("x", .int x)], [], []⟩) (τ₃ := ⟨[("one", .lst (zs one))], [], []⟩) (bind_local (by lcg_off) (by decide +kernel) (by decide +kernel)) .nil ?_ rfl rfl ihu
                  refine emit_forget (τ' := ⟨[("one", .lst (zs one)), ("x", .int x)], [], []⟩) (emit_elt (ev_eq (r' := .lst (zs (one ++ [x]))) (ev_bin (ev_local (by lcg_sub)) (ev_list (evl_cons (ev_local (by lcg_sub)) evl_nil)) (bin_ladd (xs := zs one) (ys := [.int x]) (by rw [zs_length]; simp; omega))) (by simp [zs])) zs_plain) (by lcg_src)
          · intro env hE
            exact swaps_local hE (by decide +kernel) (by decide +kernel) (by decide +kernel)
        · have e : k = N := by omega
          subst e
          exact wt_done (evt_eq (evt_cmp (ev_call_bi (by decide +kernel) (glen X) (by decide +kernel) (by decide +kernel) boot_len (.builtin _) (evl_cons (ev_item (i := 0) (ev_local (by lcg_sub)) ev_int .frozen (by decide) ho (by rw [rowsAV_length]; have := rws_len k (by omega); omega)) evl_nil) (callr_len .frozen (by rw [zs_length]; omega))) (ev_local (by lcg_sub)) cmp_lt) (decide_eq_false (by rw [zs_length]; omega)))
end Mine
namespace Mine
variable {C : Base} {sc : Scope} {n p : Nat} {σ σ₁ σ₂ σ₃ σ' τ τ₁ τ' : AS}

theorem call_entry_cells {f : Addr} {fd : FuncData} {body : List Stmt} {x : Str} {ocs : List Str} {r r₀ r' : AV} (hf : FnAt C f fd body) (hclo : fd.closure = []) (hbind : ∀ v, bindArgs fd ⟨[v], []⟩ = pure [(x, v)]) (hocs : cellNames fd.scope.names = x :: ocs) (hnd : (x :: ocs).Nodup)
    (hnames : ∀ y ∈ x :: ocs, fd.scope.names.lookup y = some .cell ∧ (y == ("__classdict__" : Str)) = false ∧ (y == ("__debug__" : Str)) = false)
    (hbody : Ex C fd.scope n 0 ⟨[], (x :: ocs).zipIdx.map (fun p => (p.1, CV.own p.2)), .cell (some r) :: ocs.map (fun _ => AO.cell none)⟩ body (.ret r₀) σ') (hr : Cl σ'.own 0 r₀ r')
    (hco : fd.scope.isCoroutine = false := by rfl) (hgen : fd.scope.isGenerator = false := by rfl) (hk : fd.scope.kind = .function := by rfl) : CallOk C (n + 1) f [] [r] r' [] := fun A s ρ χ vs R hA hP hvs h => by
  obtain ⟨o, ho, hd⟩ := hf.obj
  have hρ : ρ = [] := List.length_eq_zero_iff.mp hP.len
  subst hρ
  simp only [AllIs] at hvs
  obtain ⟨v, _, rfl, hv, rfl⟩ := hvs
  have cellAt : ∀ (j : Nat) (y : Str), (x :: ocs)[j]? = some y → (cellsFrom (s.heap.objs.size + 1) fd.scope.names []).lookup y = some (s.heap.objs.size + 1 + j) := fun j y hj => cf_own (hocs ▸ hnd) (hocs ▸ hj)
  refine codeAny_call_cells hA.room (hP.base f o ho) hd (C.nolim.keeps hP.base) (hf.code.keeps hP.base) hf.body (hbind v) hclo (fun p hp => ?_) (fun s₁ I => ?_) hco hgen hk
  · rw [List.mem_singleton.mp hp]
    exact .inr ⟨(hnames x List.mem_cons_self).1, by rw [cellAt 0 x rfl]; rfl⟩
  have hkx : (callEnvC fd s.heap.objs.size f).kindOf x = some .cell := (hnames x List.mem_cons_self).1
  have hL : s.heap.get? s.heap.objs.size = none := noneSize _
  have hloc : (callEnvC fd s.heap.objs.size f).locals = s.heap.objs.size := rfl
  have hE : EnvOk fd.scope (callEnvC fd s.heap.objs.size f) := ⟨rfl, hk, hf.glob, hf.blt⟩
  have hkeep := I.toInCall.keep
  obtain ⟨h₁, tk, hs₁⟩ := I.toInCall.same
  have none_ge' : ∀ a : Nat, s.heap.objs.size ≤ a → s.heap.get? a = none := fun a ha => none_ge ha
  have cellIs : ∀ (j : Nat) (y : Str), (x :: ocs)[j]? = some y → s₁.heap.IsCell (s.heap.objs.size + 1 + j) (if y = x then some v else none) := fun j y hj => by
    have := I.cell y _ (cellAt j y hj)
    unfold bindC at this
    rw [hkx] at this
    simp only [bindC] at this
    rw [if_neg (by decide)] at this
    exact this
  have S : St C (callEnvC fd s.heap.objs.size f) ⟨[], (x :: ocs).zipIdx.map (fun p => (p.1, CV.own p.2)), .cell (some r) :: ocs.map (fun _ => AO.cell none)⟩ (cellAddrs s.heap.objs.size (x :: ocs).length) χ s₁ := by
    have old : ∀ a ∈ χ, ∃ o, s.heap.get? a = some o := fun a ha => hP.alc a (List.mem_append_right _ ha)
    refine ⟨fun a o e => hkeep a o (hP.base a o e), by rw [hs₁]; exact hP.gens, by rw [hs₁]; exact hP.os, by simp [cellAddrs], ?_, fun a ha => ?_, hP.size, fun a ha => ?_, ⟨_, I.toInCall.ns, fun p hp => (nomatch hp)⟩, List.nodup_nil, fun q hq => ?_, fun k o hk' => ?_⟩
    · refine List.nodup_cons.mpr ⟨fun hm => ?_, List.nodup_append.mpr ⟨cellAddrs_nodup, (List.nodup_append.mp hP.nod).2.1, fun a ha b hb e => ?_⟩⟩
      · rcases List.mem_append.mp hm with z | z
        · exact Nat.lt_irrefl _ (cellAddrs_gt z)
        · obtain ⟨o, e⟩ := old _ z
          have e' : s.heap.get? s.heap.objs.size = some o := e
          rw [hL] at e'; cases e'
      · subst e
        obtain ⟨o, e⟩ := old _ hb
        rw [none_ge' a (Nat.le_of_lt (cellAddrs_gt ha))] at e; cases e
    · cases e : C.H.get? a with
      | none => rfl
      | some o =>
        have e' := hP.base a o e
        rcases List.mem_cons.mp ha with z | z
        · rw [z] at e'; have e2 : s.heap.get? s.heap.objs.size = some o := e'; rw [hL] at e2; cases e2
        · rw [none_ge' a (Nat.le_of_lt (cellAddrs_gt z))] at e'; cases e'
    · rcases List.mem_cons.mp ha with z | z
      · rw [z]; exact Ns.there I.toInCall.ns
      · rcases List.mem_append.mp z with z | z
        · obtain ⟨j, hj, rfl⟩ := cellAddrs_mem z
          obtain ⟨o, ho, _⟩ := cellIs j _ (List.getElem?_eq_getElem hj)
          exact ⟨o, ho⟩
        · obtain ⟨o, e⟩ := old a z; exact ⟨o, hkeep a o e⟩
    · obtain ⟨⟨y, j⟩, hq', rfl⟩ := List.mem_map.mp hq
      have hj : (x :: ocs)[j]? = some y := by
        have := List.mem_zipIdx_iff_getElem?.mp hq'
        simpa using this
      obtain ⟨n1, n2, n3⟩ := hnames y (List.mem_of_getElem? hj)
      exact ⟨.inl n1, n2, n3, s.heap.objs.size + 1 + j, cellAt j y hj, cellAddrs_get (List.getElem?_eq_some_iff.mp hj).1⟩
    · cases k with
      | zero =>
        simp only [List.getElem?_cons_zero, Option.some.injEq] at hk'
        subst hk'
        have hc := cellIs 0 x rfl
        rw [if_pos rfl] at hc
        refine ⟨_, cellAddrs_get (Nat.succ_pos _), v, hc, ?_⟩
        refine hv.evo (fun a o _ e => hkeep a o e) (fun a ha => ?_) (List.nil_prefix)
        rcases List.mem_cons.mp ha with z | z
        · exact .inr (by rw [z]; exact hL)
        · rcases List.mem_append.mp z with z | z
          · exact .inr (none_ge' a (Nat.le_of_lt (cellAddrs_gt z)))
          · exact .inl (List.mem_append_right _ z)
      | succ k =>
        simp only [List.getElem?_cons_succ, List.getElem?_map] at hk'
        cases hy : ocs[k]? with
        | none => rw [hy] at hk'; cases hk'
        | some y =>
          rw [hy] at hk'
          simp only [Option.map_some, Option.some.injEq] at hk'
          subst hk'
          have hyx : y ≠ x := fun e => (List.nodup_cons.mp hnd).1 (e ▸ List.mem_of_getElem? hy)
          have hc := cellIs (k + 1) y (by simpa using hy)
          rw [if_neg hyx] at hc
          have hlt := (List.getElem?_eq_some_iff.mp hy).1
          exact ⟨_, cellAddrs_get (by simp; omega), hc⟩
  refine hbody (A.deeper (callEnvC fd s.heap.objs.size f)) _ _ χ _ _ _ hA.deeper hE S (Nat.zero_le _) fun z s' ρ' P hz => ?_
  obtain ⟨w, e, hw⟩ := hz
  subst e
  refine h _ s' ⟨P.st.gens, P.st.os, fun a o ha e => P.evo.keep a o (fun hm => ?_) (hkeep a o e), fun a o e => P.evo.live a o (hkeep a o e), fun k o hk' => by simp at hk'⟩ (hr.is P.st (Nat.zero_le _) (List.take_zero) hw)
  rcases List.mem_cons.mp hm with z | z
  · rw [z] at e; have e' : s.heap.get? s.heap.objs.size = some o := e; rw [hL] at e'; cases e'
  · rw [none_ge' a (Nat.le_of_lt (cellAddrs_gt z))] at e; cases e
end Mine
namespace Mine
variable {C : Base} {sc : Scope} {n p : Nat} {σ σ₁ σ₂ σ₃ σ' τ τ₁ τ' : AS}

theorem st_append {l m : List Nat} : st l ++ st m = st (l ++ m) := by
  show (⟨_⟩ : Str) = ⟨_⟩
  simp [st]
theorem mul_st {c : Nat} {k : Nat} : Txt.mul (st [c]) (k : Int) = st (List.replicate k c) := by
  unfold Txt.mul
  by_cases h0 : k = 0
  · subst h0; rfl
  · rw [if_neg (by omega)]
    by_cases h1 : k = 1
    · subst h1; rfl
    · rw [if_neg (by simp [st_length]; omega)]
      show (⟨_⟩ : Str) = ⟨_⟩
      congr 1
      have key : ∀ (j : Nat) (acc : Array Nat), (List.replicate j (st [c]).cps).foldl (· ++ ·) acc = acc ++ (List.replicate j c).toArray := by
        intro j
        induction j with
        | zero => intro acc; simp
        | succ j ih =>
          intro acc
          rw [List.replicate_succ, List.foldl_cons, ih, st_cps]
          apply Array.toList_inj.mp
          simp [List.replicate_succ]
      have := key k #[]
      simpa using this
theorem mulok_st {c : Nat} {k : Nat} (hk : k ≤ 1000) : MulOk (st [c]) (k : Int) := by
  refine ⟨by simp only [Bool.or_eq_false_iff, decide_eq_false_iff_not]; omega, fun h1 _ => ?_, fun _ _ => ?_⟩
  · rw [st_length]
    have h2 : (1 : Int) ≤ k := by omega
    have : (2 ^ 63 - 1 : Int) / k ≥ 1 := by
      rw [ge_iff_le, Int.le_ediv_iff_mul_le (by omega)]
      omega
    simp only [List.length_cons, List.length_nil]
    omega
  · rw [st_length]
    unfold Builtin.Str.tooLong sizeLine
    simp only [List.length_cons, List.length_nil, decide_eq_false_iff_not]
    omega
theorem join_ws {l : List Nat} : Txt.join (st []) (l.map fun c => st [c]) = st l := by
  show Builtin.Str.glued (st []) (l.map fun c => st [c]) = st l
  unfold Builtin.Str.glued
  show (⟨_⟩ : Str) = ⟨_⟩
  congr 1
  have key : ∀ (m : List Nat) (acc : Array Nat), (m.map fun c => st [c]).foldl (fun acc p => acc ++ (st []).cps ++ p.cps) acc = acc ++ m.toArray := by
    intro m
    induction m with
    | nil => intro acc; simp
    | cons c m ih =>
      intro acc
      rw [List.map_cons, List.foldl_cons, ih, st_cps, st_cps]
      apply Array.toList_inj.mp
      simp
  cases l with
  | nil => rfl
  | cons c m =>
    simp only [List.map_cons, List.drop_succ_cons, List.drop_zero, List.headD_cons]
    rw [key]
    apply Array.toList_inj.mp
    simp [st_cps]
theorem joinok_ws {l : List Nat} (hz : l.length ≤ 1000) : JoinOk (st []) (l.map fun c => st [c]) = true := by
  unfold JoinOk
  have key : ∀ (m : List Nat) (a : Nat), (m.map fun c => st [c]).foldl (fun x1 x2 => x1 + x2.length + (st []).length) a = a + m.length := by
    intro m
    induction m with
    | nil => intro a; rfl
    | cons c m ih =>
      intro a
      rw [List.map_cons, List.foldl_cons, ih, st_length, st_length]
      simp only [List.length_cons, List.length_nil]
      omega
  have e : ((l.map fun c => st [c]).toArray.foldl (fun x1 x2 => x1 + x2.length + (st []).length) 0) = l.length := by
    have := key l 0
    simpa using this
  rw [e]
  unfold Builtin.Str.tooLong sizeLine
  simp only [Bool.not_eq_true', decide_eq_false_iff_not]
  omega
theorem ws_values {ρ W : List Addr} {h : Heap} : ∀ {l : List Nat} {vs : List Value}, AllIs ρ W h (ws l) vs → ∃ q : List (Str × Tok), vs = strValues q ∧ q.map (·.1) = l.map fun c => st [c]
  | [], _, e => by simp only [ws, List.map_nil, AllIs] at e; subst e; exact ⟨[], rfl, rfl⟩
  | c :: l, _, e => by
    have e' : AllIs ρ W h (.str (st [c]) :: ws l) _ := e
    simp only [AllIs, AV.Is] at e'
    obtain ⟨v, vs', rfl, ⟨t, rfl⟩, r⟩ := e'
    obtain ⟨q, rfl, hq⟩ := ws_values r
    exact ⟨(st [c], t) :: q, rfl, by simp [hq]⟩

theorem ev_join {o e : Expr} {apos pos : Pos} {l : List Nat} (ho : Ev C sc n σ o (.str (st [])) σ₁) (he : EvL C sc n σ₁ pos [e] [.lst (ws l)] σ₂) (hz : l.length ≤ 1000)
    (hbase : ∀ env, attributeBase o "join" env (eval o env) = eval o env := by intro _; rfl) (hline : (apos.endLine == pos.line) = true := by rfl) (hs : ∀ env, starEach [e] env = [(false, eval e env)] := by intro _; rfl) :
    Ev C sc n σ (.Call (.Attribute o "join" apos) [e] [] pos) (.str (st l)) σ₂ := fun A env ρ χ s Q E hA hE S h =>
  wpAny_Call_method_lateS (hbase env) (by rw [hs env]; rfl) hline (ho A env ρ χ s _ E hA hE S fun v s₁ ρ₁ P₁ ⟨t, hv⟩ => by
    subst hv
    refine ⟨"str", "str.join", F.plainAttrs_str, F.slot_str_join, F.type_str_join, typeIs_str _ _ _, (fun a' e' => by cases e'), ?_⟩
    refine call_one hA hE P₁.st he (hs env) rfl fun us s₂ ρ₂ P₂ hus => ?_
    simp only [AllIs, AV.Is] at hus
    obtain ⟨u, us', rfl, ⟨a, vs, rfl, _, hl, hall⟩, rfl⟩ := hus
    obtain ⟨q, rfl, hq⟩ := ws_values hall
    refine SC.join (texts := l.map fun c => st [c]) hl hq (joinok_ws hz) fun t' k => ?_
    exact h _ _ ρ₂ ((P₁.trans P₂).trans (Post.toks P₂.st _)) ⟨_, by rw [join_ws]⟩)

theorem pick_zs {l : List Int} {a b c : Option Int} : pickAV (zs l) a b c = zs (pickNums l a b c) := by
  unfold pickAV pickNums zs
  rw [List.map_filterMap, List.length_map]
  congr 1
  funext i
  rw [List.getElem?_map]
theorem swaps_cell {elt : Expr} {gens : List Comprehension} {scope : Scope} {pos px : Pos} {t : Str} {line : Nat} {env : Env} (hE : EnvOk sc env) (hx : sc.names.lookup t = some .cell) : swapsWith (.ListComp elt gens scope pos) (some (.Name t px)) line env = pure false := by
  show (pure (env.blockKind == .function && env.kindOf t == some .local && px.line == pos.line && !(scope.names.any fun (n, k) => n == t && (k == .local || k == .cell))) : Sem Bool) = pure false
  rw [hE.kind, hx]
  congr 1
  simp
end Mine
namespace Mine

/-! ### the law, as functions of the levels and the ranks -/
def minL : List Int → Int
  | [] => 0
  | x :: xs => xs.foldl (fun a b => if b < a then b else a) x
def maxL : List Int → Int
  | [] => 0
  | x :: xs => xs.foldl (fun a b => if a < b then b else a) x
theorem minL_fold : ∀ (xs : List Int) (x : Int), xs.foldl (fun a b => if b < a then b else a) x ∈ x :: xs ∧ ∀ a ∈ x :: xs, xs.foldl (fun a b => if b < a then b else a) x ≤ a
  | [], x => by simp
  | y :: ys, x => by
    obtain ⟨h1, h2⟩ := minL_fold ys (if y < x then y else x)
    simp only [List.foldl_cons]
    have h0 := h2 _ List.mem_cons_self
    refine ⟨?_, fun a ha => ?_⟩
    · rcases List.mem_cons.mp h1 with h | h
      · rw [h]; split <;> simp
      · exact List.mem_cons_of_mem _ (List.mem_cons_of_mem _ h)
    · rcases List.mem_cons.mp ha with rfl | ha
      · refine Int.le_trans h0 ?_; split <;> omega
      · rcases List.mem_cons.mp ha with rfl | ha
        · refine Int.le_trans h0 ?_; split <;> omega
        · exact h2 a (List.mem_cons_of_mem _ ha)
theorem maxL_fold : ∀ (xs : List Int) (x : Int), xs.foldl (fun a b => if a < b then b else a) x ∈ x :: xs ∧ ∀ a ∈ x :: xs, a ≤ xs.foldl (fun a b => if a < b then b else a) x
  | [], x => by simp
  | y :: ys, x => by
    obtain ⟨h1, h2⟩ := maxL_fold ys (if x < y then y else x)
    simp only [List.foldl_cons]
    have h0 := h2 _ List.mem_cons_self
    refine ⟨?_, fun a ha => ?_⟩
    · rcases List.mem_cons.mp h1 with h | h
      · rw [h]; split <;> simp
      · exact List.mem_cons_of_mem _ (List.mem_cons_of_mem _ h)
    · rcases List.mem_cons.mp ha with rfl | ha
      · refine Int.le_trans ?_ h0; split <;> omega
      · rcases List.mem_cons.mp ha with rfl | ha
        · refine Int.le_trans ?_ h0; split <;> omega
        · exact h2 a (List.mem_cons_of_mem _ ha)
theorem minL_mem : ∀ {l : List Int}, l ≠ [] → minL l ∈ l ∧ ∀ a ∈ l, minL l ≤ a
  | [], h => absurd rfl h
  | x :: xs, _ => minL_fold xs x
theorem maxL_mem : ∀ {l : List Int}, l ≠ [] → maxL l ∈ l ∧ ∀ a ∈ l, a ≤ maxL l
  | [], h => absurd rfl h
  | x :: xs, _ => maxL_fold xs x

def lawN (ns : List Int) : Nat := 3 + min 2 (ns.length / 2)
def rks (ns : List Int) : Nat → List Int → List Int
  | _, [] => []
  | i, x :: xs => (x + (pickNums ns (some (i : Int)) none (some 5)).sum).fmod 4 :: rks ns (i + 1) xs
def hts (L rk : List Int) : List Int := rk.map fun x => L.getD x.toNat 0
def wordOf (rk : List Int) (l : Int) : List Nat := rk.map fun x => if l ≤ x then 97 else 65
def aim (N k : Nat) : List Nat := List.replicate k 65 ++ List.replicate (N - k) 97
def told (N : Nat) (w : List Nat) : List Int := (List.range (N + 1)).map fun k => (levP N w (aim N k)).getD 0
def least (N : Nat) (w : List Nat) : Int := minL (told N w)
def cuts (N : Nat) (w : List Nat) : List Int := ((List.range (N + 1)).filter fun k => (told N w).getD k 0 == least N w).map fun (k : Nat) => (k : Int)
structure WordOk (N : Nat) (w : List Nat) : Prop where
  all : ∀ k < N + 1, (levP N w (aim N k)).isSome = true
  rise : least N w = (N : Int) - rise w
  sm : 0 ≤ least N w ∧ least N w ≤ 5
  ne : cuts N w ≠ []
def firsts (N : Nat) (rk : List Int) : List Int := [(cuts N (wordOf rk 1)).getD 0 0, (cuts N (wordOf rk 2)).getD 0 0, (cuts N (wordOf rk 3)).getD 0 0]
def lasts (N : Nat) (rk : List Int) : List Int := [(cuts N (wordOf rk 1)).getLastD 0, (cuts N (wordOf rk 2)).getLastD 0, (cuts N (wordOf rk 3)).getLastD 0]
def paid (N : Nat) (L rk : List Int) : Int := 0 + least N (wordOf rk 1) * (L.getD 1 0 - L.getD 0 0) + least N (wordOf rk 2) * (L.getD 2 0 - L.getD 1 0) + least N (wordOf rk 3) * (L.getD 3 0 - L.getD 2 0)
def byBis (N : Nat) (L c : List Int) : List Int := (List.range N).map fun (i : Nat) => L.getD (bis (fun j => decide ((i : Int) < c.getD j 0)) c.length 0 c.length) 0
def absI (a : Int) : Int := if a < 0 then -a else a
def rowToll (L rk one : List Int) : Int := (List.zipWith (fun (x y : Int) => absI (L.getD x.toNat 0 - y)) one (hts L rk)).sum
def tollsOf (N : Nat) (L rk : List Int) : List Int := (rws N).map (rowToll L rk)
def bestOf (N : Nat) (L rk : List Int) : List (List Int) := (rws N).filter fun one => rowToll L rk one == paid N L rk
def neg (l : List Int) : List Int := l.map fun x => -x
def lowOf (L rk : List Int) : List Int := offFit (hts L rk)
def turned (L rk : List Int) : List Int := offFit (neg (hts L rk).reverse)
def highOf (L rk : List Int) : List Int := neg (turned L rk).reverse
structure Facts (N : Nat) (L rk : List Int) : Prop where
  lo : 3 ≤ N
  hi : N ≤ 5
  len : rk.length = N
  bd : ∀ x ∈ rk, 0 ≤ x ∧ x ≤ 3
  ll : L.length = 4
  word : ∀ l : Nat, 1 ≤ l → l ≤ 3 → WordOk N (wordOf rk l)
  toll : offToll (hts L rk) = paid N L rk
  toll' : offToll (neg (hts L rk).reverse) = paid N L rk
  low : lowOf L rk = byBis N L (lasts N rk)
  high : highOf L rk = byBis N L (firsts N rk)
  best : minL (tollsOf N L rk) = paid N L rk
  lowBest : lowOf L rk = (List.range N).map fun i => L.getD (minL ((bestOf N L rk).map fun one => one.getD i 0)).toNat 0
  highBest : highOf L rk = (List.range N).map fun i => L.getD (maxL ((bestOf N L rk).map fun one => one.getD i 0)).toNat 0


def mapFrom {α : Type} (g : Nat → α) : Nat → Nat → List α
  | _, 0 => []
  | j, f + 1 => g j :: mapFrom g (j + 1) f
theorem mapFrom_range {α : Type} {g : Nat → α} : ∀ {f j : Nat}, mapFrom g j f = (List.range f).map fun i => g (j + i)
  | 0, _ => rfl
  | f + 1, j => by
    rw [mapFrom, mapFrom_range (f := f), List.range_succ_eq_map, List.map_cons, List.map_map]
    congr 1
    apply List.map_congr_left
    intro i _
    show g (j + 1 + i) = g (j + (i + 1))
    congr 1; omega
theorem told_from {N : Nat} {w : List Nat} : told N w = mapFrom (fun k => (levP N w (aim N k)).getD 0) 0 (N + 1) := by
  rw [mapFrom_range]; unfold told; simp
def filtFrom (p : Nat → Bool) : Nat → Nat → List Int
  | _, 0 => []
  | j, f + 1 => if p j then (j : Int) :: filtFrom p (j + 1) f else filtFrom p (j + 1) f
theorem filtFrom_range {p : Nat → Bool} : ∀ {f j : Nat}, filtFrom p j f = ((mapFrom id j f).filter p).map fun (k : Nat) => (k : Int)
  | 0, _ => rfl
  | f + 1, j => by
    rw [filtFrom, mapFrom, filtFrom_range (f := f)]
    show _ = (((j : Nat) :: mapFrom id (j + 1) f).filter p).map _
    cases h : p j with
    | true => simp [List.filter_cons, h]
    | false => simp [List.filter_cons, h]
theorem cuts_from {N : Nat} {w : List Nat} : cuts N w = filtFrom (fun k => (told N w).getD k 0 == least N w) 0 (N + 1) := by
  rw [filtFrom_range, mapFrom_range]; unfold cuts; simp
theorem fitRun_len : ∀ {v fit : List Int}, (fitRun v fit).length = fit.length + v.length
  | [], _ => rfl
  | t :: v, fit => by rw [fitRun, fitRun_len (v := v)]; simp; omega
theorem offFit_len {ys : List Int} : (offFit ys).length = ys.length := by
  unfold offFit
  rw [fitRun_len, List.length_reverse, offRun_len]; simp
theorem wordOf_length {rk : List Int} {l : Int} : (wordOf rk l).length = rk.length := by simp [wordOf]
theorem wordOf_ab {rk : List Int} {l : Int} : ∀ c ∈ wordOf rk l, Ab c := fun c hc => by
  unfold wordOf at hc
  obtain ⟨x, _, rfl⟩ := List.mem_map.mp hc
  split
  · exact .inl rfl
  · exact .inr rfl
theorem aim_length {N k : Nat} (h : k ≤ N) : (aim N k).length = N := by unfold aim; simp; omega
theorem aim_ab {N k : Nat} : ∀ c ∈ aim N k, Ab c := fun c hc => by
  unfold aim at hc
  rcases List.mem_append.mp hc with h | h
  · exact .inr (List.eq_of_mem_replicate h)
  · exact .inl (List.eq_of_mem_replicate h)
theorem told_length {N : Nat} {w : List Nat} : (told N w).length = N + 1 := by simp [told]
theorem rws_all : ∀ k < 6, ∀ one ∈ rws k, one.length = k ∧ ∀ x ∈ one, (0 ≤ x ∧ x ≤ 3) := by decide +kernel
theorem best_ne {N : Nat} {L rk : List Int} (h : minL (tollsOf N L rk) = paid N L rk) (hN : rws N ≠ []) : bestOf N L rk ≠ [] := by
  have hm := (minL_mem (l := tollsOf N L rk) (by unfold tollsOf; simpa using hN)).1
  rw [h] at hm
  unfold tollsOf at hm
  obtain ⟨one, h1, h2⟩ := List.mem_map.mp hm
  have : one ∈ bestOf N L rk := by
    unfold bestOf
    exact List.mem_filter.mpr ⟨h1, by rw [h2]; simp⟩
  intro e; rw [e] at this; cases this
theorem rws_ne : ∀ k < 6, rws k ≠ [] := by decide +kernel
theorem col_bound {l : List (List Int)} {j : Nat} (h : ∀ one ∈ l, ∀ x ∈ one, (0 ≤ x ∧ x ≤ 3)) : ∀ a ∈ l.map (fun one => one.getD j 0), 0 ≤ a ∧ a ≤ 3 := fun a ha => by
  obtain ⟨one, ho, rfl⟩ := List.mem_map.mp ha
  rcases Nat.lt_or_ge j one.length with hj | hj
  · have : one.getD j 0 = one[j] := by simp [List.getD, List.getElem?_eq_getElem hj]
    rw [this]; exact h one ho _ (List.getElem_mem hj)
  · have : one.getD j 0 = 0 := by simp [List.getD, List.getElem?_eq_none hj]
    rw [this]; decide
def lastI (o : Option AV) (j : Nat) : Nat → Option AV
  | 0 => o
  | f + 1 => lastI (some (.int (j : Int))) (j + 1) f
end Mine
namespace Mine
variable {C : Base} {sc : Scope} {n p : Nat} {σ σ₁ σ₂ σ₃ σ' τ τ₁ τ' : AS}
local macro_rules | `(tactic| lcg_sub) => `(tactic| ((try dsimp only); repeat (first | (with_reducible exact List.mem_cons_self) | (with_reducible apply List.mem_cons_of_mem))))
local macro_rules | `(tactic| lcg_src) => `(tactic| repeat (first | (with_reducible exact List.nil_sublist _) | (with_reducible apply List.Sublist.cons_cons) | (with_reducible apply List.Sublist.cons)))
local macro_rules | `(tactic| lcg_off) => `(tactic| first | (with_reducible exact SetL.nil) | (with_reducible exact SetL.hit) | (with_reducible exact SetL.miss (by decide +kernel) (by lcg_off)) | (dsimp only; first | (with_reducible exact SetL.nil) | (with_reducible exact SetL.hit) | (with_reducible exact SetL.miss (by decide +kernel) (by lcg_off))))

abbrev cxL : List (Str × CV) := [("script", .own 0), ("levels", .own 1), ("size", .own 2), ("heights", .own 3), ("paid", .own 4), ("firsts", .own 5), ("lasts", .own 6), ("line", .own 7), ("word", .own 8), ("told", .own 9), ("least", .own 10), ("rows", .own 11), ("tolls", .own 12), ("best", .own 13)]
abbrev lawNames : List Str := ["script", "levels", "size", "heights", "paid", "firsts", "lasts", "line", "word", "told", "least", "rows", "tolls", "best"]
abbrev ow (a0 a1 a2 a3 a4 a5 a6 a7 a8 a9 a10 a11 a12 a13 : Option AV) (l : List AO) : List AO :=
  .cell a0 :: .cell a1 :: .cell a2 :: .cell a3 :: .cell a4 :: .cell a5 :: .cell a6 :: .cell a7 :: .cell a8 :: .cell a9 :: .cell a10 :: .cell a11 :: .cell a12 :: .cell a13 :: l
theorem f96 (X : KX C) : IsFn C 96 := ⟨_, _, X 96 _ rfl, rfl⟩
theorem genum (X : KX C) : C.mg "enumerate" = none := mg_none_of X C.g rfl
theorem gzip (X : KX C) : C.mg "zip" = none := mg_none_of X C.g rfl
theorem gabs (X : KX C) : C.mg "abs" = none := mg_none_of X C.g rfl
theorem g65 (X : KX C) : C.mg "_levenshtein_distance" = some (.ref 65) := mg_of X C.g rfl
theorem f65 (X : KX C) : IsFn C 65 := ⟨_, _, X 65 _ rfl, rfl⟩

theorem capsA {caps : List (Str × AV)} {scope : Scope} {names : List Str} (h : caps.map (·.1) = names) (h' : ∀ x ∈ names, (x, NameKind.free) ∈ scope.names ∧ x ∉ cellNames scope.names) : ∀ x ∈ caps.map (·.1), (x, NameKind.free) ∈ scope.names ∧ x ∉ cellNames scope.names := by rw [h]; exact h'
theorem capsB {caps : List (Str × AV)} {scope sc : Scope} {names : List Str} (h : caps.map (·.1) = names)
    (h' : ∀ x ∈ names ++ cellNames scope.names, ((rsc scope sc).names.lookup x = some .cell ∨ (rsc scope sc).names.lookup x = some .free) ∧ (x == ("__classdict__" : Str)) = false ∧ (x == ("__debug__" : Str)) = false) :
    ∀ x ∈ caps.map (·.1) ++ cellNames scope.names, ((rsc scope sc).names.lookup x = some .cell ∨ (rsc scope sc).names.lookup x = some .free) ∧ (x == ("__classdict__" : Str)) = false ∧ (x == ("__debug__" : Str)) = false := by rw [h]; exact h'

theorem ev_zidx {value slice : Expr} {pos : Pos} {r : AV} {l : List Int} {x : Int} (hv : Ev C sc n σ value r σ₁) (hi : Ev C sc n σ₁ slice (.int x) σ₂) (hl : LstOf σ₂ r (zs l)) (h0 : 0 ≤ x) (h1 : x.toNat < l.length) (hz : l.length ≤ 1000) :
    Ev C sc n σ (.Subscript value slice pos) (.int (l.getD x.toNat 0)) σ₂ := ev_zget hv (ev_eq hi (by rw [Int.toNat_of_nonneg h0])) hl h1 hz
theorem tup_plain {i : Int} {l : List Int} : (AV.tup [.int i, .lst (zs l)]).plain = true := by show (true && (plains (zs l) && true)) = true; rw [zs_plain]; rfl
theorem one_plain {l : List Int} : plains [AV.lst (zs l)] = true := by show (plains (zs l) && true) = true; rw [zs_plain]; rfl
theorem hts_length {L rk : List Int} : (hts L rk).length = rk.length := by simp [hts]
theorem neg_length {l : List Int} : (neg l).length = l.length := by simp [neg]

theorem small_bits {a : Int} (h : 0 ≤ a ∧ a ≤ 5) : Builtin.Int.intBits a ≤ 64 := by
  obtain ⟨h1, h2⟩ := h
  have : a = 0 ∨ a = 1 ∨ a = 2 ∨ a = 3 ∨ a = 4 ∨ a = 5 := by omega
  rcases this with rfl | rfl | rfl | rfl | rfl | rfl <;> decide +kernel
theorem ev_zlast' {value slice : Expr} {pos : Pos} {r : AV} {l : List Int} (hv : Ev C sc n σ value r σ₁) (hi : Ev C sc n σ₁ slice (.int (-1)) σ₂) (hl : LstOf σ₂ r (zs l)) (hne : l ≠ []) (hz : l.length ≤ 1000) :
    Ev C sc n σ (.Subscript value slice pos) (.int (l.getLastD 0)) σ₂ := by
  rcases List.eq_nil_or_concat l with h | ⟨m, x, rfl⟩
  · exact absurd h hne
  · rw [List.concat_eq_append] at hl hz ⊢
    have := ev_zlast (l := m) (x := x) (pos := pos) hv hi hl (by simp at hz; omega)
    have e : (m ++ [x]).getLastD 0 = x := by simp
    rw [e]; exact this
theorem cuts_length {N : Nat} {w : List Nat} : (cuts N w).length ≤ N + 1 := by
  unfold cuts
  rw [List.length_map]
  exact Nat.le_trans (List.length_filter_le _ _) (by simp)

theorem str_plain {a b : Str} {i : Int} : plains [AV.str a, AV.str b, AV.int i] = true := rfl
theorem nat_cast {k N : Nat} (h : k ≤ N) : (N : Int) - (k : Int) = ((N - k : Nat) : Int) := by omega
theorem aim_eq {N k : Nat} : st (List.replicate k 65) ++ st (List.replicate (N - k) 97) = st (aim N k) := st_append
theorem evt_forget {e : Expr} {b : Bool} {ls' : List (Str × AV)} (h : EvT C sc n σ e b σ') (hs : List.Sublist ls' σ'.ls) : EvT C sc n σ e b { σ' with ls := ls' } := fun A env ρ χ s Q E hA hE S k =>
  h A env ρ χ s Q E hA hE S fun x s' ρ' P hx => k x s' ρ' ⟨P.st.forget hs, P.evo, P.pre⟩ hx
theorem scalars_zs {l : List Int} : scalars (zs l) = true := by
  induction l with
  | nil => rfl
  | cons x l ih => show (true && scalars (zs l)) = true; rw [ih]; rfl
def lineEnd (ns : List Int) (N : Nat) (L rk : List Int) : List Nat → Int → List Int → List Int → Option AV → Option AV → Option AV → Option AV → AS
  | [], pd, fs, la, o7, o8, o9, o10 => ⟨[("ranks", .lst (zs rk)), ("toll", .int (paid N L rk)), ("low", .lst (zs (lowOf L rk))), ("toll_turned", .int (paid N L rk)), ("turned", .lst (zs (turned L rk))), ("high", .lst (zs (highOf L rk)))], cxL, ow (some (.lst (zs ns))) (some (.lst (zs L))) (some (.int N)) (some (.lst (zs (hts L rk)))) (some (.int (pd))) (some (.own 14)) (some (.own 15)) o7 o8 o9 o10 none none none [.list (zs (fs)), .list (zs (la))]⟩
  | l :: q, pd, fs, la, _, _, _, _ => lineEnd ns N L rk q (pd + least N (wordOf rk (l : Int)) * (L.getD l 0 - L.getD (l - 1) 0)) (fs ++ [(cuts N (wordOf rk (l : Int))).getD 0 0]) (la ++ [(cuts N (wordOf rk (l : Int))).getLastD 0]) (some (.int (l : Int))) (some (.str (st (wordOf rk (l : Int))))) (some (.lst (zs (told N (wordOf rk (l : Int)))))) (some (.int (least N (wordOf rk (l : Int)))))

set_option maxHeartbeats 8000000 in
theorem law_ok (X : KX C) {ns : List Int} (hz : ns.length ≤ 63) {N : Nat} {L rk : List Int} (hN : lawN ns = N) (hL : levels (ns.sum.fmod 125) = L) (hrk : rks ns 0 ([3, 1, 2, 0, 2].take N) = rk) (F : Facts N L rk) :
    CallOk C (n + 5) 96 [] [.lst (zs ns)] (.bool true) [] := by
  have hsize : 3 + (if ((ns.length : Int).fdiv 2) < 2 then ((ns.length : Int).fdiv 2) else 2) = (N : Int) := by
    rw [← hN]; unfold lawN
    rw [Int.fdiv_eq_ediv_of_nonneg _ (by decide)]
    split <;> omega
  refine call_entry_cells (σ' := ⟨[("ranks", .lst (zs rk)), ("toll", .int (paid N L rk)), ("low", .lst (zs (lowOf L rk))), ("toll_turned", .int (paid N L rk)), ("turned", .lst (zs (turned L rk))), ("high", .lst (zs (highOf L rk)))], cxL, ow (some (.lst (zs ns))) (some (.lst (zs L))) (some (.int N)) (some (.lst (zs (hts L rk)))) (some (.int (paid N L rk))) (some (.own 14)) (some (.own 15)) (some (.int 3)) (some (.str (st (wordOf rk (3 : Int))))) (some (.lst (zs (told N (wordOf rk (3 : Int)))))) (some (.int (least N (wordOf rk (3 : Int))))) (some (.lst (rowsAV (rws N)))) (some (.lst (zs (tollsOf N L rk)))) (some (.lst (rowsAV (bestOf N L rk)))) [.list (zs (firsts N rk)), .list (zs (lasts N rk))]⟩) (x := "script") (ocs := ["levels", "size", "heights", "paid", "firsts", "lasts", "line", "word", "told", "least", "rows", "tolls", "best"]) (r := .lst (zs ns)) (r₀ := .bool true) ⟨⟨_, X 96 _ rfl, rfl⟩, codeRec_of X rfl, rfl, rfl, rfl⟩
    rfl (fun v => rfl) (by decide +kernel) (by decide +kernel) (by decide +kernel) ?_ (.plain rfl)
  · 
    show Ex C _ (n + 4) 0 ⟨[], cxL, ow (some (.lst (zs ns))) none none none none none none none none none none none none none []⟩ _ _ _
    refine ex_cons (σ₁ := ⟨[], cxL, ow (some (.lst (zs ns))) (some (.lst (zs L))) none none none none none none none none none none none none []⟩) (ex_assign_cell (k := 1) (o := none) (ev_eq (ev_call_fn (f := 72) (by decide +kernel) (g72 X) (by decide +kernel) (f72 X) (evl_cons (ev_cell (k := 0) (by lcg_sub) rfl) evl_nil) (by show (plains (zs ns) && true) = true; rw [zs_plain]; rfl) (levels_ok X) zs_plain) (by rw [hL])) (by lcg_sub) (by decide +kernel) rfl) ?_
    refine ex_cons (σ₁ := ⟨[], cxL, ow (some (.lst (zs ns))) (some (.lst (zs L))) (some (.int N)) none none none none none none none none none none none []⟩) (ex_assign_cell (k := 2) (o := none) (ev_eq (ev_bin ev_int (ev_call_bi (by decide +kernel) (gmin X) (by decide +kernel) (by decide +kernel) boot_min (.builtin _) (evl_cons ev_int (evl_cons (ev_bin (ev_eq (ev_call_bi (by decide +kernel) (glen X) (by decide +kernel) (by decide +kernel) boot_len (.builtin _) (evl_cons (ev_cell (k := 0) (by lcg_sub) rfl) evl_nil) (callr_len .frozen (by rw [zs_length]; omega))) (congrArg AV.int (congrArg Nat.cast zs_length))) ev_int (bin_fdiv (by decide) (by decide))) evl_nil)) callr_min2) bin_add) (congrArg AV.int hsize)) (by lcg_sub) (by decide +kernel) rfl) ?_
    refine ex_cons (σ₁ := ⟨[("ranks", .lst (zs rk))], cxL, ow (some (.lst (zs ns))) (some (.lst (zs L))) (some (.int N)) none none none none none none none none none none none []⟩) (ex_block (σ₁ := ⟨[], cxL, ow (some (.lst (zs ns))) (some (.lst (zs L))) (some (.int N)) none none none none none none none none none none none []⟩) (rs := zs rk) ?ranks (by lcg_off) (by decide +kernel) (by decide +kernel) (fun env hE => swaps_local hE (by decide +kernel) (by decide +kernel) (by decide +kernel))) ?_
    case ranks =>
      refine ⟨rfl, (by decide +kernel), (by decide +kernel), frOf (names := lawNames) rfl (by decide +kernel), zs_plain, by rw [zs_length]; have := F.len; have := F.hi; omega, false, [("script", .lst (zs ns))], enumFrom 0 (zs ([3, 1, 2, 0, 2].take N)), _, _, ⟨[], [("script", CV.cap (.lst (zs ns)))], []⟩, ?iter, .cons (.own (k := 0) (by lcg_sub) rfl zs_plain) (.nil), capsA (names := ["script"]) rfl (by decide +kernel), capsB (names := ["script"]) rfl (by decide +kernel), ?comp, by nofun, fun _ _ _ => turn_one ..⟩
      case iter =>
        refine evi_enum (by decide +kernel) (genum X) (by decide +kernel) (by decide +kernel) PyProof.Rows.Boot.«enumerate» (evl_cons (ev_eq (r' := .lst (zs ([3, 1, 2, 0, 2].take N))) (ev_lslice (xs := zs [3, 1, 2, 0, 2]) (ev_list (evl_cons ev_int (evl_cons ev_int (evl_cons ev_int (evl_cons ev_int (evl_cons ev_int evl_nil)))))) evp_none (evp_int (ev_cell (k := 2) (by lcg_sub) rfl)) evp_none .frozen (by nofun) (by decide)) ?_) evl_nil) zs_plain
        rw [pick_upto]; simp [zs, List.map_take]
      case comp =>
        rw [← hrk]
        refine (?_ : ∀ (xs : List Int) (i : Nat), CompTo C _ (n + 4) _ _ _ (enumFrom i (zs xs)) ⟨[], [("script", CV.cap (.lst (zs ns)))], []⟩ (zs (rks ns i xs)) ⟨[], [("script", CV.cap (.lst (zs ns)))], []⟩) ([3, 1, 2, 0, 2].take N) 0
        intro xs
        induction xs with
        | nil => intro i; exact .done
        | cons x xs ih =>
          intro i
          exact CompTo.keep (x := .tup [.int i, .int x]) (r := [.int ((x + (pickNums ns (some (i : Int)) none (some 5)).sum).fmod 4)]) (τ₁ := ⟨[("i", .int i), ("x", .int x)], [("script", CV.cap (.lst (zs ns)))], []⟩) (τ₂ := ⟨[("i", .int i), ("x", .int x)], [("script", CV.cap (.lst (zs ns)))], []⟩) (τ₃ := ⟨[], [("script", CV.cap (.lst (zs ns)))], []⟩) (bind_pair (sto_local (by lcg_off) (by decide +kernel) (by decide +kernel)) (sto_local (by lcg_off) (by decide +kernel) (by decide +kernel))) .nil (emit_forget (τ' := ⟨[("i", .int i), ("x", .int x)], [("script", CV.cap (.lst (zs ns)))], []⟩) (emit_elt (ev_bin (ev_bin (ev_local (by lcg_sub)) (ev_call_bi (by decide +kernel) (gsum X) (by decide +kernel) (by decide +kernel) boot_sum (.builtin _) (evl_cons (ev_eq (ev_lslice (ev_cap (by lcg_sub)) (evp_int (ev_local (by lcg_sub))) evp_none (evp_int ev_int) .frozen (by decide) (by rw [zs_length]; omega)) (congrArg AV.lst pick_zs)) evl_nil) (callr_zsum .frozen)) bin_add) ev_int (bin_mod (by decide))) rfl) (by lcg_src)) rfl rfl (ih (i + 1))
    have hlL := F.ll
    have hN5 := F.hi
    have hrl := F.len
    refine ex_cons (σ₁ := ⟨[("ranks", .lst (zs rk))], cxL, ow (some (.lst (zs ns))) (some (.lst (zs L))) (some (.int N)) (some (.lst (zs (hts L rk)))) none none none none none none none none none none []⟩) (ex_assign_cell (k := 3) (o := none) (ev_block (σ₁ := ⟨[("ranks", .lst (zs rk))], cxL, ow (some (.lst (zs ns))) (some (.lst (zs L))) (some (.int N)) none none none none none none none none none none none []⟩) (rs := zs (hts L rk)) ?heights) (by lcg_sub) (by decide +kernel) rfl (fun env hE => swaps_cell hE (by decide +kernel))) ?_
    case heights =>
      refine ⟨rfl, (by decide +kernel), (by decide +kernel), frOf (names := lawNames) rfl (by decide +kernel), zs_plain, by rw [zs_length, hts_length]; omega, false, [("levels", .lst (zs L))], zs rk, _, _, ⟨[], [("levels", CV.cap (.lst (zs L)))], []⟩, ?iter, .cons (.own (k := 1) (by lcg_sub) rfl zs_plain) (.nil), capsA (names := ["levels"]) rfl (by decide +kernel), capsB (names := ["levels"]) rfl (by decide +kernel), ?comp, by nofun, fun _ _ _ => turn_one ..⟩
      case iter =>
        exact evi_list (ev_local (by lcg_sub)) zs_plain
      case comp =>
        refine (?_ : ∀ (v : List Int) (hv : ∀ x ∈ v, 0 ≤ x ∧ x ≤ 3), CompTo C _ (n + 4) _ _ _ (zs v) ⟨[], [("levels", CV.cap (.lst (zs L)))], []⟩ (zs (hts L v)) ⟨[], [("levels", CV.cap (.lst (zs L)))], []⟩) rk F.bd
        intro v
        induction v with
        | nil => intro hv; exact .done
        | cons x v ih =>
          intro hv; exact CompTo.keep (x := .int x) (r := [.int (L.getD x.toNat 0)]) (τ₁ := ⟨[("x", .int x)], [("levels", CV.cap (.lst (zs L)))], []⟩) (τ₂ := ⟨[("x", .int x)], [("levels", CV.cap (.lst (zs L)))], []⟩) (τ₃ := ⟨[], [("levels", CV.cap (.lst (zs L)))], []⟩) (bind_local (by lcg_off) (by decide +kernel) (by decide +kernel)) .nil (emit_forget (τ' := ⟨[("x", .int x)], [("levels", CV.cap (.lst (zs L)))], []⟩) (emit_elt (ev_zidx (ev_cap (by lcg_sub)) (ev_local (by lcg_sub)) .frozen (hv x List.mem_cons_self).1 (by have := hv x List.mem_cons_self; omega) (by omega)) rfl) (by lcg_src)) rfl rfl (ih fun y hy => hv y (List.mem_cons_of_mem _ hy))
    refine ex_cons (σ₁ := ⟨[("ranks", .lst (zs rk)), ("toll", .int (paid N L rk)), ("low", .lst (zs (lowOf L rk)))], cxL, ow (some (.lst (zs ns))) (some (.lst (zs L))) (some (.int N)) (some (.lst (zs (hts L rk)))) none none none none none none none none none none []⟩) (ex_unpack (σ₁ := ⟨[("ranks", .lst (zs rk))], cxL, ow (some (.lst (zs ns))) (some (.lst (zs L))) (some (.int N)) (some (.lst (zs (hts L rk)))) none none none none none none none none none none []⟩) (σ₂ := ⟨[("ranks", .lst (zs rk)), ("toll", .int (paid N L rk))], cxL, ow (some (.lst (zs ns))) (some (.lst (zs L))) (some (.int N)) (some (.lst (zs (hts L rk)))) none none none none none none none none none none []⟩) (ev_eq (r' := .tup [.int (paid N L rk), .lst (zs (lowOf L rk))]) (ev_call_fn (f := 79) (by decide +kernel) (g79 X) (by decide +kernel) (f79 X) (evl_cons (ev_cell (k := 3) (by lcg_sub) rfl) evl_nil) one_plain (off_ok X (by rw [hts_length]; omega)) tup_plain) (by rw [F.toll]; rfl)) (sto_local (by lcg_off) (by decide +kernel) (by decide +kernel)) (sto_local (by lcg_off) (by decide +kernel) (by decide +kernel))) ?_
    refine ex_cons (σ₁ := ⟨[("ranks", .lst (zs rk)), ("toll", .int (paid N L rk)), ("low", .lst (zs (lowOf L rk))), ("toll_turned", .int (paid N L rk)), ("turned", .lst (zs (turned L rk)))], cxL, ow (some (.lst (zs ns))) (some (.lst (zs L))) (some (.int N)) (some (.lst (zs (hts L rk)))) none none none none none none none none none none []⟩) (ex_unpack (σ₁ := ⟨[("ranks", .lst (zs rk)), ("toll", .int (paid N L rk)), ("low", .lst (zs (lowOf L rk)))], cxL, ow (some (.lst (zs ns))) (some (.lst (zs L))) (some (.int N)) (some (.lst (zs (hts L rk)))) none none none none none none none none none none []⟩) (σ₂ := ⟨[("ranks", .lst (zs rk)), ("toll", .int (paid N L rk)), ("low", .lst (zs (lowOf L rk))), ("toll_turned", .int (paid N L rk))], cxL, ow (some (.lst (zs ns))) (some (.lst (zs L))) (some (.int N)) (some (.lst (zs (hts L rk)))) none none none none none none none none none none []⟩) (ev_eq (r' := .tup [.int (paid N L rk), .lst (zs (turned L rk))]) (ev_call_fn (f := 79) (by decide +kernel) (g79 X) (by decide +kernel) (f79 X) (evl_cons (ev_block (σ₁ := ⟨[("ranks", .lst (zs rk)), ("toll", .int (paid N L rk)), ("low", .lst (zs (lowOf L rk)))], cxL, ow (some (.lst (zs ns))) (some (.lst (zs L))) (some (.int N)) (some (.lst (zs (hts L rk)))) none none none none none none none none none none []⟩) (rs := zs (neg (hts L rk).reverse)) ?turned) evl_nil) one_plain (off_ok X (by rw [neg_length, List.length_reverse, hts_length]; omega)) tup_plain) (by rw [F.toll']; rfl)) (sto_local (by lcg_off) (by decide +kernel) (by decide +kernel)) (sto_local (by lcg_off) (by decide +kernel) (by decide +kernel))) ?_
    case turned =>
      refine ⟨rfl, (by decide +kernel), (by decide +kernel), frOf (names := lawNames) rfl (by decide +kernel), zs_plain, by rw [zs_length, neg_length, List.length_reverse]; rw [hts_length]; omega, false, [], zs (hts L rk).reverse, _, _, ⟨[], [], []⟩, ?iter, .nil, capsA (names := []) rfl (by decide +kernel), capsB (names := []) rfl (by decide +kernel), ?comp, by nofun, fun _ _ _ => turn_one ..⟩
      case iter =>
        rw [← zs_reverse]
        exact evi_reversed (by decide +kernel) (greversed X) (by decide +kernel) (by decide +kernel) PyProof.Rows.Boot.«reversed» (evl_cons (ev_cell (k := 3) (by lcg_sub) rfl) evl_nil) zs_plain
      case comp =>
        refine (?_ : ∀ (v : List Int), CompTo C _ (n + 4) _ _ _ (zs v) ⟨[], [], []⟩ (zs (neg v)) ⟨[], [], []⟩) (hts L rk).reverse
        intro v
        induction v with
        | nil => exact .done
        | cons x v ih =>
          exact CompTo.keep (x := .int x) (r := [.int (-x)]) (τ₁ := ⟨[("x", .int x)], [], []⟩) (τ₂ := ⟨[("x", .int x)], [], []⟩) (τ₃ := ⟨[], [], []⟩) (bind_local (by lcg_off) (by decide +kernel) (by decide +kernel)) .nil (emit_forget (τ' := ⟨[("x", .int x)], [], []⟩) (emit_elt (ev_neg (ev_local (by lcg_sub))) rfl) (by lcg_src)) rfl rfl (ih)
    have htl : (turned L rk).length = N := by unfold turned; rw [offFit_len, neg_length, List.length_reverse, hts_length]; exact hrl
    have hhl : (highOf L rk).length = N := by unfold highOf; rw [neg_length, List.length_reverse]; exact htl
    refine ex_cons (σ₁ := ⟨[("ranks", .lst (zs rk)), ("toll", .int (paid N L rk)), ("low", .lst (zs (lowOf L rk))), ("toll_turned", .int (paid N L rk)), ("turned", .lst (zs (turned L rk))), ("high", .lst (zs (highOf L rk)))], cxL, ow (some (.lst (zs ns))) (some (.lst (zs L))) (some (.int N)) (some (.lst (zs (hts L rk)))) none none none none none none none none none none []⟩) (ex_block (σ₁ := ⟨[("ranks", .lst (zs rk)), ("toll", .int (paid N L rk)), ("low", .lst (zs (lowOf L rk))), ("toll_turned", .int (paid N L rk)), ("turned", .lst (zs (turned L rk)))], cxL, ow (some (.lst (zs ns))) (some (.lst (zs L))) (some (.int N)) (some (.lst (zs (hts L rk)))) none none none none none none none none none none []⟩) (rs := zs (highOf L rk)) ?high (by lcg_off) (by decide +kernel) (by decide +kernel) (fun env hE => swaps_local hE (by decide +kernel) (by decide +kernel) (by decide +kernel))) ?_
    case high =>
      refine ⟨rfl, (by decide +kernel), (by decide +kernel), frOf (names := lawNames) rfl (by decide +kernel), zs_plain, by rw [zs_length, hhl]; omega, false, [], zs (turned L rk).reverse, _, _, ⟨[], [], []⟩, ?iter, .nil, capsA (names := []) rfl (by decide +kernel), capsB (names := []) rfl (by decide +kernel), ?comp, by nofun, fun _ _ _ => turn_one ..⟩
      case iter =>
        rw [← zs_reverse]
        exact evi_reversed (by decide +kernel) (greversed X) (by decide +kernel) (by decide +kernel) PyProof.Rows.Boot.«reversed» (evl_cons (ev_local (by lcg_sub)) evl_nil) zs_plain
      case comp =>
        refine (?_ : ∀ (v : List Int), CompTo C _ (n + 4) _ _ _ (zs v) ⟨[], [], []⟩ (zs (neg v)) ⟨[], [], []⟩) (turned L rk).reverse
        intro v
        induction v with
        | nil => exact .done
        | cons x v ih =>
          exact CompTo.keep (x := .int x) (r := [.int (-x)]) (τ₁ := ⟨[("x", .int x)], [], []⟩) (τ₂ := ⟨[("x", .int x)], [], []⟩) (τ₃ := ⟨[], [], []⟩) (bind_local (by lcg_off) (by decide +kernel) (by decide +kernel)) .nil (emit_forget (τ' := ⟨[("x", .int x)], [], []⟩) (emit_elt (ev_neg (ev_local (by lcg_sub))) rfl) (by lcg_src)) rfl rfl (ih)
    refine ex_cons (σ₁ := ⟨[("ranks", .lst (zs rk)), ("toll", .int (paid N L rk)), ("low", .lst (zs (lowOf L rk))), ("toll_turned", .int (paid N L rk)), ("turned", .lst (zs (turned L rk))), ("high", .lst (zs (highOf L rk)))], cxL, ow (some (.lst (zs ns))) (some (.lst (zs L))) (some (.int N)) (some (.lst (zs (hts L rk)))) (some (.int 0)) none none none none none none none none none []⟩) (ex_assign_cell (k := 4) (o := none) ev_int (by lcg_sub) (by decide +kernel) rfl) ?_
    refine ex_cons (σ₁ := ⟨[("ranks", .lst (zs rk)), ("toll", .int (paid N L rk)), ("low", .lst (zs (lowOf L rk))), ("toll_turned", .int (paid N L rk)), ("turned", .lst (zs (turned L rk))), ("high", .lst (zs (highOf L rk)))], cxL, ow (some (.lst (zs ns))) (some (.lst (zs L))) (some (.int N)) (some (.lst (zs (hts L rk)))) (some (.int 0)) (some (.own 14)) none none none none none none none none [.list (zs [])]⟩) (ex_assign_cell (k := 5) (o := none) (ev_list_own evl_nil) (by lcg_sub) (by decide +kernel) rfl) ?_
    refine ex_cons (σ₁ := ⟨[("ranks", .lst (zs rk)), ("toll", .int (paid N L rk)), ("low", .lst (zs (lowOf L rk))), ("toll_turned", .int (paid N L rk)), ("turned", .lst (zs (turned L rk))), ("high", .lst (zs (highOf L rk)))], cxL, ow (some (.lst (zs ns))) (some (.lst (zs L))) (some (.int N)) (some (.lst (zs (hts L rk)))) (some (.int 0)) (some (.own 14)) (some (.own 15)) none none none none none none none [.list (zs []), .list (zs [])]⟩) (ex_assign_cell (k := 6) (o := none) (ev_list_own evl_nil) (by lcg_sub) (by decide +kernel) rfl) ?_
    refine ex_cons (σ₁ := ⟨[("ranks", .lst (zs rk)), ("toll", .int (paid N L rk)), ("low", .lst (zs (lowOf L rk))), ("toll_turned", .int (paid N L rk)), ("turned", .lst (zs (turned L rk))), ("high", .lst (zs (highOf L rk)))], cxL, ow (some (.lst (zs ns))) (some (.lst (zs L))) (some (.int N)) (some (.lst (zs (hts L rk)))) (some (.int (paid N L rk))) (some (.own 14)) (some (.own 15)) (some (.int 3)) (some (.str (st (wordOf rk (3 : Int))))) (some (.lst (zs (told N (wordOf rk (3 : Int)))))) (some (.int (least N (wordOf rk (3 : Int))))) none none none [.list (zs (firsts N rk)), .list (zs (lasts N rk))]⟩) (ex_for (xs := [1, 2, 3].map fun (l : Nat) => AV.int (l : Int)) (evi_range (k := 3) (ev_call_bi (by decide +kernel) (grange X) (by decide +kernel) (by decide +kernel) boot_range (.type _) (evl_cons ev_int (evl_cons ev_int evl_nil)) callr_range2) (by decide) (by decide) (by decide) (by decide) (by decide)) ?lines) ?_
    case lines =>
      refine (?_ : ∀ (q : List Nat) (pd : Int) (fs la : List Int) (o7 o8 o9 o10 : Option AV), (∀ l ∈ q, 1 ≤ l ∧ l ≤ 3) → fs.length + q.length ≤ 10 → la.length + q.length ≤ 10 → ForTo C _ (n + 4) _ _ _ (q.map fun (l : Nat) => AV.int (l : Int)) ⟨[("ranks", .lst (zs rk)), ("toll", .int (paid N L rk)), ("low", .lst (zs (lowOf L rk))), ("toll_turned", .int (paid N L rk)), ("turned", .lst (zs (turned L rk))), ("high", .lst (zs (highOf L rk)))], cxL, ow (some (.lst (zs ns))) (some (.lst (zs L))) (some (.int N)) (some (.lst (zs (hts L rk)))) (some (.int (pd))) (some (.own 14)) (some (.own 15)) o7 o8 o9 o10 none none none [.list (zs (fs)), .list (zs (la))]⟩ (lineEnd ns N L rk q pd fs la o7 o8 o9 o10)) [1, 2, 3] 0 [] [] none none none none (by decide) (by decide) (by decide)
      intro q
      induction q with
      | nil => intro pd fs la o7 o8 o9 o10 _ _ _; exact .done
      | cons l q ih =>
        intro pd fs la o7 o8 o9 o10 hq hf hla
        simp only [List.length_cons] at hf hla
        obtain ⟨hl1, hl3⟩ := hq l List.mem_cons_self
        have WK := F.word l hl1 hl3
        have hcl := cuts_length (N := N) (w := (wordOf rk (l : Int)))
        refine ForTo.next (σ₁ := ⟨[("ranks", .lst (zs rk)), ("toll", .int (paid N L rk)), ("low", .lst (zs (lowOf L rk))), ("toll_turned", .int (paid N L rk)), ("turned", .lst (zs (turned L rk))), ("high", .lst (zs (highOf L rk)))], cxL, ow (some (.lst (zs ns))) (some (.lst (zs L))) (some (.int N)) (some (.lst (zs (hts L rk)))) (some (.int (pd))) (some (.own 14)) (some (.own 15)) (some (.int (l : Int))) o8 o9 o10 none none none [.list (zs (fs)), .list (zs (la))]⟩) (bind_cell (k := 7) (o := o7) (by lcg_sub) (by decide +kernel) rfl) (ex_forget (σ' := ⟨[("ranks", .lst (zs rk)), ("toll", .int (paid N L rk)), ("low", .lst (zs (lowOf L rk))), ("toll_turned", .int (paid N L rk)), ("turned", .lst (zs (turned L rk))), ("high", .lst (zs (highOf L rk))), ("cuts", .lst (zs (cuts N (wordOf rk (l : Int)))))], cxL, ow (some (.lst (zs ns))) (some (.lst (zs L))) (some (.int N)) (some (.lst (zs (hts L rk)))) (some (.int (pd + least N (wordOf rk (l : Int)) * (L.getD l 0 - L.getD (l - 1) 0)))) (some (.own 14)) (some (.own 15)) (some (.int (l : Int))) (some (.str (st (wordOf rk (l : Int))))) (some (.lst (zs (told N (wordOf rk (l : Int)))))) (some (.int (least N (wordOf rk (l : Int))))) none none none [.list (zs (fs ++ [(cuts N (wordOf rk (l : Int))).getD 0 0])), .list (zs (la ++ [(cuts N (wordOf rk (l : Int))).getLastD 0]))]⟩) ?body (by lcg_src)) (ih (pd + least N (wordOf rk (l : Int)) * (L.getD l 0 - L.getD (l - 1) 0)) (fs ++ [(cuts N (wordOf rk (l : Int))).getD 0 0]) (la ++ [(cuts N (wordOf rk (l : Int))).getLastD 0]) _ _ _ _ (fun y hy => hq y (List.mem_cons_of_mem _ hy)) (by simp; omega) (by simp; omega))
        refine ex_cons (σ₁ := ⟨[("ranks", .lst (zs rk)), ("toll", .int (paid N L rk)), ("low", .lst (zs (lowOf L rk))), ("toll_turned", .int (paid N L rk)), ("turned", .lst (zs (turned L rk))), ("high", .lst (zs (highOf L rk)))], cxL, ow (some (.lst (zs ns))) (some (.lst (zs L))) (some (.int N)) (some (.lst (zs (hts L rk)))) (some (.int (pd))) (some (.own 14)) (some (.own 15)) (some (.int (l : Int))) (some (.str (st (wordOf rk (l : Int))))) o9 o10 none none none [.list (zs (fs)), .list (zs (la))]⟩) (ex_assign_cell (k := 8) (o := o8) (ev_join (l := (wordOf rk (l : Int))) (ev_eq (r' := .str (st [])) ev_str (congrArg AV.str (by decide +kernel))) (evl_cons (ev_block (σ₁ := ⟨[("ranks", .lst (zs rk)), ("toll", .int (paid N L rk)), ("low", .lst (zs (lowOf L rk))), ("toll_turned", .int (paid N L rk)), ("turned", .lst (zs (turned L rk))), ("high", .lst (zs (highOf L rk)))], cxL, ow (some (.lst (zs ns))) (some (.lst (zs L))) (some (.int N)) (some (.lst (zs (hts L rk)))) (some (.int (pd))) (some (.own 14)) (some (.own 15)) (some (.int (l : Int))) o8 o9 o10 none none none [.list (zs (fs)), .list (zs (la))]⟩) (rs := ws (wordOf rk (l : Int))) ?word) evl_nil) (by rw [wordOf_length]; omega)) (by lcg_sub) (by decide +kernel) rfl) ?_
        case word =>
          refine ⟨rfl, (by decide +kernel), (by decide +kernel), frOf (names := lawNames) rfl (by decide +kernel), ws_plain, by rw [ws_length, wordOf_length]; omega, false, [("line", .int (l : Int))], zs rk, _, _, ⟨[], [("line", CV.cap (.int (l : Int)))], []⟩, ?iter, .cons (.own (k := 7) (by lcg_sub) rfl rfl) (.nil), capsA (names := ["line"]) rfl (by decide +kernel), capsB (names := ["line"]) rfl (by decide +kernel), ?comp, by nofun, fun _ _ _ => turn_one ..⟩
          case iter =>
            exact evi_list (ev_local (by lcg_sub)) zs_plain
          case comp =>
            refine (?_ : ∀ (v : List Int), CompTo C _ (n + 4) _ _ _ (zs v) ⟨[], [("line", CV.cap (.int (l : Int)))], []⟩ (ws (wordOf v (l : Int))) ⟨[], [("line", CV.cap (.int (l : Int)))], []⟩) rk
            intro v
            induction v with
            | nil => exact .done
            | cons x v ih =>
              refine CompTo.keep (x := .int x) (r := [.str (st [if (l : Int) ≤ x then 97 else 65])]) (τ₁ := ⟨[("x", .int x)], [("line", CV.cap (.int (l : Int)))], []⟩) (τ₂ := ⟨[("x", .int x)], [("line", CV.cap (.int (l : Int)))], []⟩) (τ₃ := ⟨[], [("line", CV.cap (.int (l : Int)))], []⟩) (bind_local (by lcg_off) (by decide +kernel) (by decide +kernel)) .nil (?_) rfl rfl (ih)
              refine emit_forget (τ' := ⟨[("x", .int x)], [("line", CV.cap (.int (l : Int)))], []⟩) (emit_elt (r := .str (st [if (l : Int) ≤ x then 97 else 65])) ?_ rfl) (by lcg_src)
              by_cases hx : (l : Int) ≤ x
              · rw [if_pos hx]
                exact ev_if_tt (evt_eq (evt_cmp (ev_local (by lcg_sub)) (ev_cap (by lcg_sub)) cmp_ge) (decide_eq_true hx)) (ev_eq (r' := .str (st [97])) ev_str (congrArg AV.str (by decide +kernel)))
              · rw [if_neg hx]
                exact ev_if_ff (evt_eq (evt_cmp (ev_local (by lcg_sub)) (ev_cap (by lcg_sub)) cmp_ge) (decide_eq_false hx)) (ev_eq (r' := .str (st [65])) ev_str (congrArg AV.str (by decide +kernel)))
        refine ex_cons (σ₁ := ⟨[("ranks", .lst (zs rk)), ("toll", .int (paid N L rk)), ("low", .lst (zs (lowOf L rk))), ("toll_turned", .int (paid N L rk)), ("turned", .lst (zs (turned L rk))), ("high", .lst (zs (highOf L rk)))], cxL, ow (some (.lst (zs ns))) (some (.lst (zs L))) (some (.int N)) (some (.lst (zs (hts L rk)))) (some (.int (pd))) (some (.own 14)) (some (.own 15)) (some (.int (l : Int))) (some (.str (st (wordOf rk (l : Int))))) (some (.lst (zs (told N (wordOf rk (l : Int)))))) o10 none none none [.list (zs (fs)), .list (zs (la))]⟩) (ex_assign_cell (k := 9) (o := o9) (ev_block (σ₁ := ⟨[("ranks", .lst (zs rk)), ("toll", .int (paid N L rk)), ("low", .lst (zs (lowOf L rk))), ("toll_turned", .int (paid N L rk)), ("turned", .lst (zs (turned L rk))), ("high", .lst (zs (highOf L rk)))], cxL, ow (some (.lst (zs ns))) (some (.lst (zs L))) (some (.int N)) (some (.lst (zs (hts L rk)))) (some (.int (pd))) (some (.own 14)) (some (.own 15)) (some (.int (l : Int))) (some (.str (st (wordOf rk (l : Int))))) o9 o10 none none none [.list (zs (fs)), .list (zs (la))]⟩) (rs := zs (told N (wordOf rk (l : Int)))) ?told) (by lcg_sub) (by decide +kernel) rfl (fun env hE => swaps_cell hE (by decide +kernel))) ?_
        case told =>
          refine ⟨rfl, (by decide +kernel), (by decide +kernel), frOf (names := lawNames) rfl (by decide +kernel), zs_plain, by rw [zs_length, told_length]; omega, false, [("size", .int N), ("word", .str (st (wordOf rk (l : Int))))], intsFrom 0 (N + 1), _, _, ⟨[], [("size", CV.cap (.int N)), ("word", CV.cap (.str (st (wordOf rk (l : Int)))))], []⟩, ?iter, .cons (.own (k := 2) (by lcg_sub) rfl rfl) (.cons (.own (k := 8) (by lcg_sub) rfl rfl) (.nil)), capsA (names := ["size", "word"]) rfl (by decide +kernel), capsB (names := ["size", "word"]) rfl (by decide +kernel), ?comp, by nofun, fun _ _ _ => turn_one ..⟩
          case iter =>
            exact evi_range (k := N + 1) (ev_call_bi (by decide +kernel) (grange X) (by decide +kernel) (by decide +kernel) boot_range (.type _) (evl_cons (ev_bin (ev_cell (k := 2) (by lcg_sub) rfl) ev_int bin_add) evl_nil) callr_range1) (by omega) (by decide) (by decide) (by omega) (by omega)
          case comp =>

            rw [told_from]
            refine (?_ : ∀ (f j : Nat), j + f = N + 1 → CompTo C _ (n + 4) _ _ _ (intsFrom j f) ⟨[], [("size", CV.cap (.int N)), ("word", CV.cap (.str (st (wordOf rk (l : Int)))))], []⟩ (zs (mapFrom (fun k => (levP N (wordOf rk (l : Int)) (aim N k)).getD 0) j f)) ⟨[], [("size", CV.cap (.int N)), ("word", CV.cap (.str (st (wordOf rk (l : Int)))))], []⟩) (N + 1) 0 (Nat.zero_add _)
            intro f
            induction f with
            | zero => intro j _; exact .done
            | succ f ih =>
              intro j hj
              rw [intsFrom_succ]
              obtain ⟨r, hr⟩ := Option.isSome_iff_exists.mp (WK.all j (by omega))
              have hg : (levP N (wordOf rk (l : Int)) (aim N j)).getD 0 = r := by rw [hr]; rfl
              refine CompTo.keep (x := .int j) (r := [.int ((levP N (wordOf rk (l : Int)) (aim N j)).getD 0)]) (τ₁ := ⟨[("k", .int (j : Int))], [("size", CV.cap (.int N)), ("word", CV.cap (.str (st (wordOf rk (l : Int)))))], []⟩) (τ₂ := ⟨[("k", .int (j : Int))], [("size", CV.cap (.int N)), ("word", CV.cap (.str (st (wordOf rk (l : Int)))))], []⟩) (τ₃ := ⟨[], [("size", CV.cap (.int N)), ("word", CV.cap (.str (st (wordOf rk (l : Int)))))], []⟩) (bind_local (by lcg_off) (by decide +kernel) (by decide +kernel)) .nil (?_) rfl rfl (ih (j + 1) (by omega))
              rw [hg]
              exact emit_forget (τ' := ⟨[("k", .int (j : Int))], [("size", CV.cap (.int N)), ("word", CV.cap (.str (st (wordOf rk (l : Int)))))], []⟩) (emit_elt (r := .int r) (ev_call_fn (f := 65) (by decide +kernel) (g65 X) (by decide +kernel) (f65 X) (evl_cons (ev_cap (by lcg_sub)) (evl_cons (ev_eq (r' := .str (st (aim N j))) (ev_bin (ev_eq (r' := .str (st (List.replicate j 65))) (ev_bin (ev_eq (r' := .str (st [65])) ev_str (congrArg AV.str (by decide +kernel))) (ev_local (by lcg_sub)) (bin_smul (mulok_st (by omega)))) (congrArg AV.str mul_st)) (ev_eq (r' := .str (st (List.replicate (N - j) 97))) (ev_bin (ev_eq (r' := .str (st [97])) ev_str (congrArg AV.str (by decide +kernel))) (ev_eq (r' := .int ((N - j : Nat) : Int)) (ev_bin (ev_cap (by lcg_sub)) (ev_local (by lcg_sub)) bin_sub) (congrArg AV.int (nat_cast (by omega)))) (bin_smul (mulok_st (by omega)))) (congrArg AV.str mul_st)) (bin_sadd (by rw [st_length, st_length]; simp; omega))) (congrArg AV.str aim_eq)) (evl_cons (ev_cap (by lcg_sub)) evl_nil))) rfl (lev_ok X wordOf_ab aim_ab (by rw [wordOf_length, aim_length (by omega)]; exact hrl) (by rw [wordOf_length]; omega) (by omega) hr) rfl) rfl) (by lcg_src)
        refine ex_cons (σ₁ := ⟨[("ranks", .lst (zs rk)), ("toll", .int (paid N L rk)), ("low", .lst (zs (lowOf L rk))), ("toll_turned", .int (paid N L rk)), ("turned", .lst (zs (turned L rk))), ("high", .lst (zs (highOf L rk)))], cxL, ow (some (.lst (zs ns))) (some (.lst (zs L))) (some (.int N)) (some (.lst (zs (hts L rk)))) (some (.int (pd))) (some (.own 14)) (some (.own 15)) (some (.int (l : Int))) (some (.str (st (wordOf rk (l : Int))))) (some (.lst (zs (told N (wordOf rk (l : Int)))))) (some (.int (least N (wordOf rk (l : Int))))) none none none [.list (zs (fs)), .list (zs (la))]⟩) (ex_assign_cell (k := 10) (o := o10) (ev_call_bi (by decide +kernel) (gmin X) (by decide +kernel) (by decide +kernel) boot_min (.builtin _) (evl_cons (ev_cell (k := 9) (by lcg_sub) rfl) evl_nil) (callr_zmin .frozen (minL_mem (by intro e; have := told_length (N := N) (w := (wordOf rk (l : Int))); rw [e] at this; simp at this)).1 (minL_mem (by intro e; have := told_length (N := N) (w := (wordOf rk (l : Int))); rw [e] at this; simp at this)).2)) (by lcg_sub) (by decide +kernel) rfl) ?_
        refine ex_cons (ex_ff (evt_eq (evt_cmp (ev_cell (k := 10) (by lcg_sub) rfl) (ev_bin (ev_cell (k := 2) (by lcg_sub) rfl) (ev_call_fn (f := 86) (by decide +kernel) (g86 X) (by decide +kernel) (f86 X) (evl_cons (ev_cell (k := 8) (by lcg_sub) rfl) evl_nil) rfl (rise_ok X (by rw [wordOf_length]; omega)) rfl) bin_sub) cmp_ne) (by rw [WK.rise]; simp)) ex_nil) ?_
        refine ex_cons (σ₁ := ⟨[("ranks", .lst (zs rk)), ("toll", .int (paid N L rk)), ("low", .lst (zs (lowOf L rk))), ("toll_turned", .int (paid N L rk)), ("turned", .lst (zs (turned L rk))), ("high", .lst (zs (highOf L rk)))], cxL, ow (some (.lst (zs ns))) (some (.lst (zs L))) (some (.int N)) (some (.lst (zs (hts L rk)))) (some (.int (pd + least N (wordOf rk (l : Int)) * (L.getD l 0 - L.getD (l - 1) 0)))) (some (.own 14)) (some (.own 15)) (some (.int (l : Int))) (some (.str (st (wordOf rk (l : Int))))) (some (.lst (zs (told N (wordOf rk (l : Int)))))) (some (.int (least N (wordOf rk (l : Int))))) none none none [.list (zs (fs)), .list (zs (la))]⟩) (ex_aug_cell (k := 4) (by lcg_sub) rfl (ev_bin (ev_cell (k := 10) (by lcg_sub) rfl) (ev_bin (ev_zget (i := l) (ev_cell (k := 1) (by lcg_sub) rfl) (ev_cell (k := 7) (by lcg_sub) rfl) .frozen (by omega) (by omega)) (ev_zget (i := l - 1) (ev_cell (k := 1) (by lcg_sub) rfl) (ev_eq (r' := .int ((l - 1 : Nat) : Int)) (ev_bin (ev_cell (k := 7) (by lcg_sub) rfl) ev_int bin_sub) (congrArg AV.int (by omega))) .frozen (by omega) (by omega)) bin_sub) (bin_mul (IntMulOk.of_left (small_bits WK.sm)))) inr_add (by lcg_sub) (by decide +kernel) rfl) ?_
        refine ex_cons (σ₁ := ⟨[("ranks", .lst (zs rk)), ("toll", .int (paid N L rk)), ("low", .lst (zs (lowOf L rk))), ("toll_turned", .int (paid N L rk)), ("turned", .lst (zs (turned L rk))), ("high", .lst (zs (highOf L rk))), ("cuts", .lst (zs (cuts N (wordOf rk (l : Int)))))], cxL, ow (some (.lst (zs ns))) (some (.lst (zs L))) (some (.int N)) (some (.lst (zs (hts L rk)))) (some (.int (pd + least N (wordOf rk (l : Int)) * (L.getD l 0 - L.getD (l - 1) 0)))) (some (.own 14)) (some (.own 15)) (some (.int (l : Int))) (some (.str (st (wordOf rk (l : Int))))) (some (.lst (zs (told N (wordOf rk (l : Int)))))) (some (.int (least N (wordOf rk (l : Int))))) none none none [.list (zs (fs)), .list (zs (la))]⟩) (ex_block (σ₁ := ⟨[("ranks", .lst (zs rk)), ("toll", .int (paid N L rk)), ("low", .lst (zs (lowOf L rk))), ("toll_turned", .int (paid N L rk)), ("turned", .lst (zs (turned L rk))), ("high", .lst (zs (highOf L rk)))], cxL, ow (some (.lst (zs ns))) (some (.lst (zs L))) (some (.int N)) (some (.lst (zs (hts L rk)))) (some (.int (pd + least N (wordOf rk (l : Int)) * (L.getD l 0 - L.getD (l - 1) 0)))) (some (.own 14)) (some (.own 15)) (some (.int (l : Int))) (some (.str (st (wordOf rk (l : Int))))) (some (.lst (zs (told N (wordOf rk (l : Int)))))) (some (.int (least N (wordOf rk (l : Int))))) none none none [.list (zs (fs)), .list (zs (la))]⟩) (rs := zs (cuts N (wordOf rk (l : Int)))) ?cuts (by lcg_off) (by decide +kernel) (by decide +kernel) (fun env hE => swaps_local hE (by decide +kernel) (by decide +kernel) (by decide +kernel))) ?_
        case cuts =>
          refine ⟨rfl, (by decide +kernel), (by decide +kernel), frOf (names := lawNames) rfl (by decide +kernel), zs_plain, by rw [zs_length]; omega, false, [("told", .lst (zs (told N (wordOf rk (l : Int))))), ("least", .int (least N (wordOf rk (l : Int))))], intsFrom 0 (N + 1), _, _, ⟨[], [("told", CV.cap (.lst (zs (told N (wordOf rk (l : Int)))))), ("least", CV.cap (.int (least N (wordOf rk (l : Int)))))], []⟩, ?iter, .cons (.own (k := 9) (by lcg_sub) rfl zs_plain) (.cons (.own (k := 10) (by lcg_sub) rfl rfl) (.nil)), capsA (names := ["told", "least"]) rfl (by decide +kernel), capsB (names := ["told", "least"]) rfl (by decide +kernel), ?comp, by nofun, fun _ _ _ => turn_one ..⟩
          case iter =>
            exact evi_range (k := N + 1) (ev_call_bi (by decide +kernel) (grange X) (by decide +kernel) (by decide +kernel) boot_range (.type _) (evl_cons (ev_bin (ev_cell (k := 2) (by lcg_sub) rfl) ev_int bin_add) evl_nil) callr_range1) (by omega) (by decide) (by decide) (by omega) (by omega)
          case comp =>

            rw [cuts_from]
            refine (?_ : ∀ (f j : Nat), j + f = N + 1 → CompTo C _ (n + 4) _ _ _ (intsFrom j f) ⟨[], [("told", CV.cap (.lst (zs (told N (wordOf rk (l : Int)))))), ("least", CV.cap (.int (least N (wordOf rk (l : Int)))))], []⟩ (zs (filtFrom (fun k => (told N (wordOf rk (l : Int))).getD k 0 == least N (wordOf rk (l : Int))) j f)) ⟨[], [("told", CV.cap (.lst (zs (told N (wordOf rk (l : Int)))))), ("least", CV.cap (.int (least N (wordOf rk (l : Int)))))], []⟩) (N + 1) 0 (Nat.zero_add _)
            intro f
            induction f with
            | zero => intro j _; exact .done
            | succ f ih =>
              intro j hj
              rw [intsFrom_succ]
              cases hb : ((told N (wordOf rk (l : Int))).getD j 0 == least N (wordOf rk (l : Int))) with
              | true =>
                rw [show filtFrom (fun k => (told N (wordOf rk (l : Int))).getD k 0 == least N (wordOf rk (l : Int))) j (f + 1) = (j : Int) :: filtFrom (fun k => (told N (wordOf rk (l : Int))).getD k 0 == least N (wordOf rk (l : Int))) (j + 1) f by rw [filtFrom, if_pos hb]]
                exact CompTo.keep (x := .int j) (r := [.int (j : Int)]) (τ₁ := ⟨[("k", .int (j : Int))], [("told", CV.cap (.lst (zs (told N (wordOf rk (l : Int)))))), ("least", CV.cap (.int (least N (wordOf rk (l : Int)))))], []⟩) (τ₂ := ⟨[("k", .int (j : Int))], [("told", CV.cap (.lst (zs (told N (wordOf rk (l : Int)))))), ("least", CV.cap (.int (least N (wordOf rk (l : Int)))))], []⟩) (τ₃ := ⟨[], [("told", CV.cap (.lst (zs (told N (wordOf rk (l : Int)))))), ("least", CV.cap (.int (least N (wordOf rk (l : Int)))))], []⟩) (bind_local (by lcg_off) (by decide +kernel) (by decide +kernel)) (.one (evt_eq (evt_cmp (ev_zget (ev_cap (by lcg_sub)) (ev_local (by lcg_sub)) .frozen (by rw [told_length]; omega) (by rw [told_length]; omega)) (ev_cap (by lcg_sub)) cmp_eq) hb)) (emit_forget (τ' := ⟨[("k", .int (j : Int))], [("told", CV.cap (.lst (zs (told N (wordOf rk (l : Int)))))), ("least", CV.cap (.int (least N (wordOf rk (l : Int)))))], []⟩) (emit_elt (ev_local (by lcg_sub)) rfl) (by lcg_src)) rfl rfl (ih (j + 1) (by omega))
              | false =>
                rw [show filtFrom (fun k => (told N (wordOf rk (l : Int))).getD k 0 == least N (wordOf rk (l : Int))) j (f + 1) = filtFrom (fun k => (told N (wordOf rk (l : Int))).getD k 0 == least N (wordOf rk (l : Int))) (j + 1) f by rw [filtFrom, if_neg (by rw [hb]; decide)]]
                exact CompTo.drop (x := .int j) (τ₁ := ⟨[("k", .int (j : Int))], [("told", CV.cap (.lst (zs (told N (wordOf rk (l : Int)))))), ("least", CV.cap (.int (least N (wordOf rk (l : Int)))))], []⟩) (τ₂ := ⟨[], [("told", CV.cap (.lst (zs (told N (wordOf rk (l : Int)))))), ("least", CV.cap (.int (least N (wordOf rk (l : Int)))))], []⟩) (bind_local (by lcg_off) (by decide +kernel) (by decide +kernel)) (.one (evt_forget (σ' := ⟨[("k", .int (j : Int))], [("told", CV.cap (.lst (zs (told N (wordOf rk (l : Int)))))), ("least", CV.cap (.int (least N (wordOf rk (l : Int)))))], []⟩) (evt_eq (evt_cmp (ev_zget (ev_cap (by lcg_sub)) (ev_local (by lcg_sub)) .frozen (by rw [told_length]; omega) (by rw [told_length]; omega)) (ev_cap (by lcg_sub)) cmp_eq) hb) (by lcg_src))) rfl (ih (j + 1) (by omega))
        have hcp : 0 < (cuts N (wordOf rk (l : Int))).length := List.length_pos_iff.mpr WK.ne
        refine ex_cons (ex_expr (ev_zappend (ev_cell (k := 5) (by lcg_sub) rfl) ⟨_, rfl⟩ (evl_cons (ev_zget (i := 0) (ev_local (by lcg_sub)) ev_int .frozen hcp (by omega)) evl_nil) rfl (by omega))) ?_
        exact ex_cons (ex_expr (ev_zappend (ev_cell (k := 6) (by lcg_sub) rfl) ⟨_, rfl⟩ (evl_cons (ev_zlast' (ev_local (by lcg_sub)) (ev_neg ev_int) .frozen WK.ne (by omega)) evl_nil) rfl (by omega))) ex_nil
    refine ex_cons (ex_ff (evt_cmp (ev_tuple (evl_cons (ev_local (x := "toll") (by lcg_sub)) (evl_cons (ev_local (x := "toll_turned") (by lcg_sub)) evl_nil))) (ev_tuple (evl_cons (ev_cell (k := 4) (by lcg_sub) rfl) (evl_cons (ev_cell (k := 4) (by lcg_sub) rfl) evl_nil))) (cmp_tne rfl rfl)) ex_nil) ?_
    refine ex_cons (ex_ff (evt_eq (evt_cmp (ev_local (x := "low") (by lcg_sub)) (ev_block (σ₁ := ⟨[("ranks", .lst (zs rk)), ("toll", .int (paid N L rk)), ("low", .lst (zs (lowOf L rk))), ("toll_turned", .int (paid N L rk)), ("turned", .lst (zs (turned L rk))), ("high", .lst (zs (highOf L rk)))], cxL, ow (some (.lst (zs ns))) (some (.lst (zs L))) (some (.int N)) (some (.lst (zs (hts L rk)))) (some (.int (paid N L rk))) (some (.own 14)) (some (.own 15)) (some (.int 3)) (some (.str (st (wordOf rk (3 : Int))))) (some (.lst (zs (told N (wordOf rk (3 : Int)))))) (some (.int (least N (wordOf rk (3 : Int))))) none none none [.list (zs (firsts N rk)), .list (zs (lasts N rk))]⟩) (rs := zs (byBis N L (lasts N rk))) ?bislow) cmp_lne) (by rw [F.low]; simp)) ex_nil) ?_
    case bislow =>
      refine ⟨rfl, (by decide +kernel), (by decide +kernel), frOf (names := lawNames) rfl (by decide +kernel), zs_plain, by rw [zs_length]; unfold byBis; simp; omega, true, [("lasts", .lst (zs (lasts N rk))), ("levels", .lst (zs L))], intsFrom 0 N, _, _, ⟨[], [("lasts", CV.cap (.lst (zs (lasts N rk)))), ("levels", CV.cap (.lst (zs L)))], []⟩, ?iter, .cons (.lent (k := 6) (j := 15) (by lcg_sub) rfl rfl zs_plain rfl) (.cons (.own (k := 1) (by lcg_sub) rfl zs_plain) (.nil)), capsA (names := ["lasts", "levels"]) rfl (by decide +kernel), capsB (names := ["lasts", "levels"]) rfl (by decide +kernel), ?comp, fun _ => scalars_zs, fun _ _ _ => turn_one ..⟩
      case iter =>
        exact evi_range (k := N) (ev_call_bi (by decide +kernel) (grange X) (by decide +kernel) (by decide +kernel) boot_range (.type _) (evl_cons (ev_cell (k := 2) (by lcg_sub) rfl) evl_nil) callr_range1) (by omega) (by decide) (by decide) (by omega) (by omega)
      case comp =>

        rw [show byBis N L (lasts N rk) = mapFrom (fun j => L.getD (bis (fun q => decide ((j : Int) < (lasts N rk).getD q 0)) (lasts N rk).length 0 (lasts N rk).length) 0) 0 N by rw [mapFrom_range]; unfold byBis; simp]
        refine (?_ : ∀ (f j : Nat), j + f = N → CompTo C _ (n + 4) _ _ _ (intsFrom j f) ⟨[], [("lasts", CV.cap (.lst (zs (lasts N rk)))), ("levels", CV.cap (.lst (zs L)))], []⟩ (zs (mapFrom (fun j => L.getD (bis (fun q => decide ((j : Int) < (lasts N rk).getD q 0)) (lasts N rk).length 0 (lasts N rk).length) 0) j f)) ⟨[], [("lasts", CV.cap (.lst (zs (lasts N rk)))), ("levels", CV.cap (.lst (zs L)))], []⟩) N 0 (Nat.zero_add _)
        intro f
        induction f with
        | zero => intro j _; exact .done
        | succ f ih =>
          intro j hj
          rw [intsFrom_succ]
          have hb : (bis (fun q => decide ((j : Int) < (lasts N rk).getD q 0)) (lasts N rk).length 0 (lasts N rk).length) ≤ 3 := bis_le (Nat.zero_le _)
          exact CompTo.keep (x := .int j) (r := [.int (L.getD (bis (fun q => decide ((j : Int) < (lasts N rk).getD q 0)) (lasts N rk).length 0 (lasts N rk).length) 0)]) (τ₁ := ⟨[("i", .int (j : Int))], [("lasts", CV.cap (.lst (zs (lasts N rk)))), ("levels", CV.cap (.lst (zs L)))], []⟩) (τ₂ := ⟨[("i", .int (j : Int))], [("lasts", CV.cap (.lst (zs (lasts N rk)))), ("levels", CV.cap (.lst (zs L)))], []⟩) (τ₃ := ⟨[], [("lasts", CV.cap (.lst (zs (lasts N rk)))), ("levels", CV.cap (.lst (zs L)))], []⟩) (bind_local (by lcg_off) (by decide +kernel) (by decide +kernel)) .nil (emit_forget (τ' := ⟨[("i", .int (j : Int))], [("lasts", CV.cap (.lst (zs (lasts N rk)))), ("levels", CV.cap (.lst (zs L)))], []⟩) (emit_elt (ev_zget (ev_cap (x := "levels") (by lcg_sub)) (ev_call_fn (f := 23) (by decide +kernel) (g23 X) (by decide +kernel) (f23 X) (evl_cons (ev_cap (by lcg_sub)) (evl_cons (ev_local (by lcg_sub)) evl_nil)) (by show (plains (zs _) && true) = true; rw [zs_plain]; rfl) (bisect_ints X (by simp [lasts])) rfl) .frozen (by omega) (by omega)) rfl) (by lcg_src)) rfl rfl (ih (j + 1) (by omega))
    refine ex_cons (ex_ff (evt_eq (evt_cmp (ev_local (x := "high") (by lcg_sub)) (ev_block (σ₁ := ⟨[("ranks", .lst (zs rk)), ("toll", .int (paid N L rk)), ("low", .lst (zs (lowOf L rk))), ("toll_turned", .int (paid N L rk)), ("turned", .lst (zs (turned L rk))), ("high", .lst (zs (highOf L rk)))], cxL, ow (some (.lst (zs ns))) (some (.lst (zs L))) (some (.int N)) (some (.lst (zs (hts L rk)))) (some (.int (paid N L rk))) (some (.own 14)) (some (.own 15)) (some (.int 3)) (some (.str (st (wordOf rk (3 : Int))))) (some (.lst (zs (told N (wordOf rk (3 : Int)))))) (some (.int (least N (wordOf rk (3 : Int))))) none none none [.list (zs (firsts N rk)), .list (zs (lasts N rk))]⟩) (rs := zs (byBis N L (firsts N rk))) ?bishigh) cmp_lne) (by rw [F.high]; simp)) ex_nil) ?_
    case bishigh =>
      refine ⟨rfl, (by decide +kernel), (by decide +kernel), frOf (names := lawNames) rfl (by decide +kernel), zs_plain, by rw [zs_length]; unfold byBis; simp; omega, true, [("firsts", .lst (zs (firsts N rk))), ("levels", .lst (zs L))], intsFrom 0 N, _, _, ⟨[], [("firsts", CV.cap (.lst (zs (firsts N rk)))), ("levels", CV.cap (.lst (zs L)))], []⟩, ?iter, .cons (.lent (k := 5) (j := 14) (by lcg_sub) rfl rfl zs_plain rfl) (.cons (.own (k := 1) (by lcg_sub) rfl zs_plain) (.nil)), capsA (names := ["firsts", "levels"]) rfl (by decide +kernel), capsB (names := ["firsts", "levels"]) rfl (by decide +kernel), ?comp, fun _ => scalars_zs, fun _ _ _ => turn_one ..⟩
      case iter =>
        exact evi_range (k := N) (ev_call_bi (by decide +kernel) (grange X) (by decide +kernel) (by decide +kernel) boot_range (.type _) (evl_cons (ev_cell (k := 2) (by lcg_sub) rfl) evl_nil) callr_range1) (by omega) (by decide) (by decide) (by omega) (by omega)
      case comp =>

        rw [show byBis N L (firsts N rk) = mapFrom (fun j => L.getD (bis (fun q => decide ((j : Int) < (firsts N rk).getD q 0)) (firsts N rk).length 0 (firsts N rk).length) 0) 0 N by rw [mapFrom_range]; unfold byBis; simp]
        refine (?_ : ∀ (f j : Nat), j + f = N → CompTo C _ (n + 4) _ _ _ (intsFrom j f) ⟨[], [("firsts", CV.cap (.lst (zs (firsts N rk)))), ("levels", CV.cap (.lst (zs L)))], []⟩ (zs (mapFrom (fun j => L.getD (bis (fun q => decide ((j : Int) < (firsts N rk).getD q 0)) (firsts N rk).length 0 (firsts N rk).length) 0) j f)) ⟨[], [("firsts", CV.cap (.lst (zs (firsts N rk)))), ("levels", CV.cap (.lst (zs L)))], []⟩) N 0 (Nat.zero_add _)
        intro f
        induction f with
        | zero => intro j _; exact .done
        | succ f ih =>
          intro j hj
          rw [intsFrom_succ]
          have hb : (bis (fun q => decide ((j : Int) < (firsts N rk).getD q 0)) (firsts N rk).length 0 (firsts N rk).length) ≤ 3 := bis_le (Nat.zero_le _)
          exact CompTo.keep (x := .int j) (r := [.int (L.getD (bis (fun q => decide ((j : Int) < (firsts N rk).getD q 0)) (firsts N rk).length 0 (firsts N rk).length) 0)]) (τ₁ := ⟨[("i", .int (j : Int))], [("firsts", CV.cap (.lst (zs (firsts N rk)))), ("levels", CV.cap (.lst (zs L)))], []⟩) (τ₂ := ⟨[("i", .int (j : Int))], [("firsts", CV.cap (.lst (zs (firsts N rk)))), ("levels", CV.cap (.lst (zs L)))], []⟩) (τ₃ := ⟨[], [("firsts", CV.cap (.lst (zs (firsts N rk)))), ("levels", CV.cap (.lst (zs L)))], []⟩) (bind_local (by lcg_off) (by decide +kernel) (by decide +kernel)) .nil (emit_forget (τ' := ⟨[("i", .int (j : Int))], [("firsts", CV.cap (.lst (zs (firsts N rk)))), ("levels", CV.cap (.lst (zs L)))], []⟩) (emit_elt (ev_zget (ev_cap (x := "levels") (by lcg_sub)) (ev_call_fn (f := 23) (by decide +kernel) (g23 X) (by decide +kernel) (f23 X) (evl_cons (ev_cap (by lcg_sub)) (evl_cons (ev_local (by lcg_sub)) evl_nil)) (by show (plains (zs _) && true) = true; rw [zs_plain]; rfl) (bisect_ints X (by simp [firsts])) rfl) .frozen (by omega) (by omega)) rfl) (by lcg_src)) rfl rfl (ih (j + 1) (by omega))
    have hrw := rws_all N (by omega)
    have hrl60 := rws_len N (by omega)
    refine ex_cons (σ₁ := ⟨[("ranks", .lst (zs rk)), ("toll", .int (paid N L rk)), ("low", .lst (zs (lowOf L rk))), ("toll_turned", .int (paid N L rk)), ("turned", .lst (zs (turned L rk))), ("high", .lst (zs (highOf L rk)))], cxL, ow (some (.lst (zs ns))) (some (.lst (zs L))) (some (.int N)) (some (.lst (zs (hts L rk)))) (some (.int (paid N L rk))) (some (.own 14)) (some (.own 15)) (some (.int 3)) (some (.str (st (wordOf rk (3 : Int))))) (some (.lst (zs (told N (wordOf rk (3 : Int)))))) (some (.int (least N (wordOf rk (3 : Int))))) (some (.lst (rowsAV (rws N)))) none none [.list (zs (firsts N rk)), .list (zs (lasts N rk))]⟩) (ex_assign_cell (k := 11) (o := none) (ev_call_fn (f := 91) (by decide +kernel) (g91 X) (by decide +kernel) (f91 X) (evl_cons (ev_cell (k := 2) (by lcg_sub) rfl) evl_nil) rfl (rows_ok X F.hi) rowsAV_plain) (by lcg_sub) (by decide +kernel) rfl) ?_
    refine ex_cons (σ₁ := ⟨[("ranks", .lst (zs rk)), ("toll", .int (paid N L rk)), ("low", .lst (zs (lowOf L rk))), ("toll_turned", .int (paid N L rk)), ("turned", .lst (zs (turned L rk))), ("high", .lst (zs (highOf L rk)))], cxL, ow (some (.lst (zs ns))) (some (.lst (zs L))) (some (.int N)) (some (.lst (zs (hts L rk)))) (some (.int (paid N L rk))) (some (.own 14)) (some (.own 15)) (some (.int 3)) (some (.str (st (wordOf rk (3 : Int))))) (some (.lst (zs (told N (wordOf rk (3 : Int)))))) (some (.int (least N (wordOf rk (3 : Int))))) (some (.lst (rowsAV (rws N)))) (some (.lst (zs (tollsOf N L rk)))) none [.list (zs (firsts N rk)), .list (zs (lasts N rk))]⟩) (ex_assign_cell (k := 12) (o := none) (ev_block (σ₁ := ⟨[("ranks", .lst (zs rk)), ("toll", .int (paid N L rk)), ("low", .lst (zs (lowOf L rk))), ("toll_turned", .int (paid N L rk)), ("turned", .lst (zs (turned L rk))), ("high", .lst (zs (highOf L rk)))], cxL, ow (some (.lst (zs ns))) (some (.lst (zs L))) (some (.int N)) (some (.lst (zs (hts L rk)))) (some (.int (paid N L rk))) (some (.own 14)) (some (.own 15)) (some (.int 3)) (some (.str (st (wordOf rk (3 : Int))))) (some (.lst (zs (told N (wordOf rk (3 : Int)))))) (some (.int (least N (wordOf rk (3 : Int))))) (some (.lst (rowsAV (rws N)))) none none [.list (zs (firsts N rk)), .list (zs (lasts N rk))]⟩) (rs := zs (tollsOf N L rk)) ?tolls) (by lcg_sub) (by decide +kernel) rfl (fun env hE => swaps_cell hE (by decide +kernel))) ?_
    case tolls =>
      refine ⟨rfl, (by decide +kernel), (by decide +kernel), frOf (names := lawNames) rfl (by decide +kernel), zs_plain, by rw [zs_length]; unfold tollsOf; rw [List.length_map]; omega, false, [("heights", .lst (zs (hts L rk))), ("levels", .lst (zs L))], rowsAV (rws N), _, _, ⟨[], [("heights", CV.cap (.lst (zs (hts L rk)))), ("levels", CV.cap (.lst (zs L)))], []⟩, ?iter, .cons (.own (k := 3) (by lcg_sub) rfl zs_plain) (.cons (.own (k := 1) (by lcg_sub) rfl zs_plain) (.nil)), capsA (names := ["heights", "levels"]) rfl (by decide +kernel), capsB (names := ["heights", "levels"]) rfl (by decide +kernel), ?comp, by nofun, fun _ _ _ => turn_one ..⟩
      case iter =>
        exact evi_list (ev_cell (k := 11) (by lcg_sub) rfl) rowsAV_plain
      case comp =>

        show CompTo C _ (n + 4) _ _ _ _ _ (zs ((rws N).map (rowToll L rk))) _
        refine (?_ : ∀ (v : List (List Int)), (∀ one ∈ v, one.length = N ∧ ∀ x ∈ one, (0 ≤ x ∧ x ≤ 3)) → CompTo C _ (n + 4) _ _ _ (rowsAV v) ⟨[], [("heights", CV.cap (.lst (zs (hts L rk)))), ("levels", CV.cap (.lst (zs L)))], []⟩ (zs (v.map (rowToll L rk))) ⟨[], [("heights", CV.cap (.lst (zs (hts L rk)))), ("levels", CV.cap (.lst (zs L)))], []⟩) (rws N) hrw
        intro v
        induction v with
        | nil => intro _; exact .done
        | cons one v ih =>
          intro hv
          have hone := hv one List.mem_cons_self
          refine CompTo.keep (x := .lst (zs one)) (r := [.int (rowToll L rk one)]) (τ₁ := ⟨[("one", .lst (zs one))], [("heights", CV.cap (.lst (zs (hts L rk)))), ("levels", CV.cap (.lst (zs L)))], []⟩) (τ₂ := ⟨[("one", .lst (zs one))], [("heights", CV.cap (.lst (zs (hts L rk)))), ("levels", CV.cap (.lst (zs L)))], []⟩) (τ₃ := ⟨[], [("heights", CV.cap (.lst (zs (hts L rk)))), ("levels", CV.cap (.lst (zs L)))], []⟩) (bind_local (by lcg_off) (by decide +kernel) (by decide +kernel)) .nil (?_) rfl rfl (ih fun o ho => hv o (List.mem_cons_of_mem _ ho))
          refine emit_forget (τ' := ⟨[("one", .lst (zs one))], [("heights", CV.cap (.lst (zs (hts L rk)))), ("levels", CV.cap (.lst (zs L)))], []⟩) (emit_elt (r := .int (rowToll L rk one)) (ev_call_bi (by decide +kernel) (gsum X) (by decide +kernel) (by decide +kernel) boot_sum (.builtin _) (evl_cons (ev_block (σ₁ := ⟨[("one", .lst (zs one))], [("heights", CV.cap (.lst (zs (hts L rk)))), ("levels", CV.cap (.lst (zs L)))], []⟩) (rs := zs (List.zipWith (fun (x y : Int) => absI (L.getD x.toNat 0 - y)) one (hts L rk))) ?inner) evl_nil) (callr_zsum .frozen)) rfl) (by lcg_src)
          case inner =>
            refine ⟨rfl, (by decide +kernel), (by decide +kernel), frOf (names := ["heights", "levels"]) rfl (by decide +kernel), zs_plain, by rw [zs_length, List.length_zipWith]; omega, false, [("levels", .lst (zs L))], List.zipWith (fun x y => AV.tup [x, y]) (zs one) (zs (hts L rk)), _, _, ⟨[], [("levels", CV.cap (.lst (zs L)))], []⟩, ?iter2, .cons (.cap (by lcg_sub) zs_plain) .nil, capsA (names := ["levels"]) rfl (by decide +kernel), capsB (names := ["levels"]) rfl (by decide +kernel), ?comp2, by nofun, fun _ _ _ => turn_one ..⟩
            case iter2 => exact evi_zip (by decide +kernel) (gzip X) (by decide +kernel) (by decide +kernel) PyProof.Rows.Boot.«zip» (evl_cons (ev_local (by lcg_sub)) (evl_cons (ev_cap (by lcg_sub)) evl_nil)) zs_plain zs_plain
            case comp2 =>
              refine (?_ : ∀ (u v : List Int), (∀ x ∈ u, (0 ≤ x ∧ x ≤ 3)) → CompTo C _ (n + 4) _ _ _ (List.zipWith (fun x y => AV.tup [x, y]) (zs u) (zs v)) ⟨[], [("levels", CV.cap (.lst (zs L)))], []⟩ (zs (List.zipWith (fun (x y : Int) => absI (L.getD x.toNat 0 - y)) u v)) ⟨[], [("levels", CV.cap (.lst (zs L)))], []⟩) one (hts L rk) hone.2
              intro u
              induction u with
              | nil => intro v _; exact .done
              | cons x u ihu =>
                intro v hu
                cases v with
                | nil => exact .done
                | cons y v =>
                  have hx := hu x List.mem_cons_self
                  exact CompTo.keep (x := .tup [.int x, .int y]) (r := [.int (absI (L.getD x.toNat 0 - y))]) (τ₁ := ⟨[("x", .int x), ("y", .int y)], [("levels", CV.cap (.lst (zs L)))], []⟩) (τ₂ := ⟨[("x", .int x), ("y", .int y)], [("levels", CV.cap (.lst (zs L)))], []⟩) (τ₃ := ⟨[], [("levels", CV.cap (.lst (zs L)))], []⟩) (bind_pair (sto_local (by lcg_off) (by decide +kernel) (by decide +kernel)) (sto_local (by lcg_off) (by decide +kernel) (by decide +kernel))) .nil (emit_forget (τ' := ⟨[("x", .int x), ("y", .int y)], [("levels", CV.cap (.lst (zs L)))], []⟩) (emit_elt (r := .int (absI (L.getD x.toNat 0 - y))) (ev_call_bi (by decide +kernel) (gabs X) (by decide +kernel) (by decide +kernel) PyProof.Rows.Boot.«abs» (.builtin _) (evl_cons (ev_bin (ev_zidx (ev_cap (by lcg_sub)) (ev_local (x := "x") (by lcg_sub)) .frozen hx.1 (by omega) (by omega)) (ev_local (x := "y") (by lcg_sub)) bin_sub) evl_nil) callr_abs) rfl) (by lcg_src)) rfl rfl (ihu v fun z hz => hu z (List.mem_cons_of_mem _ hz))
    refine ex_cons (σ₁ := ⟨[("ranks", .lst (zs rk)), ("toll", .int (paid N L rk)), ("low", .lst (zs (lowOf L rk))), ("toll_turned", .int (paid N L rk)), ("turned", .lst (zs (turned L rk))), ("high", .lst (zs (highOf L rk)))], cxL, ow (some (.lst (zs ns))) (some (.lst (zs L))) (some (.int N)) (some (.lst (zs (hts L rk)))) (some (.int (paid N L rk))) (some (.own 14)) (some (.own 15)) (some (.int 3)) (some (.str (st (wordOf rk (3 : Int))))) (some (.lst (zs (told N (wordOf rk (3 : Int)))))) (some (.int (least N (wordOf rk (3 : Int))))) (some (.lst (rowsAV (rws N)))) (some (.lst (zs (tollsOf N L rk)))) (some (.lst (rowsAV (bestOf N L rk)))) [.list (zs (firsts N rk)), .list (zs (lasts N rk))]⟩) (ex_assign_cell (k := 13) (o := none) (ev_block (σ₁ := ⟨[("ranks", .lst (zs rk)), ("toll", .int (paid N L rk)), ("low", .lst (zs (lowOf L rk))), ("toll_turned", .int (paid N L rk)), ("turned", .lst (zs (turned L rk))), ("high", .lst (zs (highOf L rk)))], cxL, ow (some (.lst (zs ns))) (some (.lst (zs L))) (some (.int N)) (some (.lst (zs (hts L rk)))) (some (.int (paid N L rk))) (some (.own 14)) (some (.own 15)) (some (.int 3)) (some (.str (st (wordOf rk (3 : Int))))) (some (.lst (zs (told N (wordOf rk (3 : Int)))))) (some (.int (least N (wordOf rk (3 : Int))))) (some (.lst (rowsAV (rws N)))) (some (.lst (zs (tollsOf N L rk)))) none [.list (zs (firsts N rk)), .list (zs (lasts N rk))]⟩) (rs := rowsAV (bestOf N L rk)) ?best) (by lcg_sub) (by decide +kernel) rfl (fun env hE => swaps_cell hE (by decide +kernel))) ?_
    case best =>
      refine ⟨rfl, (by decide +kernel), (by decide +kernel), frOf (names := lawNames) rfl (by decide +kernel), rowsAV_plain, by rw [rowsAV_length]; unfold bestOf; exact Nat.le_trans (List.length_filter_le _ _) (by omega), false, [("paid", .int (paid N L rk)), ("rows", .lst (rowsAV (rws N))), ("tolls", .lst (zs (tollsOf N L rk)))], intsFrom 0 (rws N).length, _, _, ⟨[], [("paid", CV.cap (.int (paid N L rk))), ("rows", CV.cap (.lst (rowsAV (rws N)))), ("tolls", CV.cap (.lst (zs (tollsOf N L rk))))], []⟩, ?iter, .cons (.own (k := 4) (by lcg_sub) rfl rfl) (.cons (.own (k := 11) (by lcg_sub) rfl rowsAV_plain) (.cons (.own (k := 12) (by lcg_sub) rfl zs_plain) (.nil))), capsA (names := ["paid", "rows", "tolls"]) rfl (by decide +kernel), capsB (names := ["paid", "rows", "tolls"]) rfl (by decide +kernel), ?comp, by nofun, fun _ _ _ => turn_one ..⟩
      case iter =>
        exact evi_range (k := (rws N).length) (ev_call_bi (by decide +kernel) (grange X) (by decide +kernel) (by decide +kernel) boot_range (.type _) (evl_cons (ev_eq (r' := .int ((rws N).length : Int)) (ev_call_bi (by decide +kernel) (glen X) (by decide +kernel) (by decide +kernel) boot_len (.builtin _) (evl_cons (ev_cell (k := 11) (by lcg_sub) rfl) evl_nil) (callr_len .frozen (by rw [rowsAV_length]; omega))) (congrArg AV.int (congrArg Nat.cast rowsAV_length))) evl_nil) callr_range1) (by omega) (by decide) (by decide) (by omega) (by omega)
      case comp =>

        have htl2 : (tollsOf N L rk).length = (rws N).length := by unfold tollsOf; rw [List.length_map]
        refine (?_ : ∀ (v pre : List (List Int)), pre ++ v = rws N → CompTo C _ (n + 4) _ _ _ (intsFrom (pre.length : Int) v.length) ⟨[], [("paid", CV.cap (.int (paid N L rk))), ("rows", CV.cap (.lst (rowsAV (rws N)))), ("tolls", CV.cap (.lst (zs (tollsOf N L rk))))], []⟩ (rowsAV (v.filter fun one => rowToll L rk one == paid N L rk)) ⟨[], [("paid", CV.cap (.int (paid N L rk))), ("rows", CV.cap (.lst (rowsAV (rws N)))), ("tolls", CV.cap (.lst (zs (tollsOf N L rk))))], []⟩) (rws N) [] rfl
        intro v
        induction v with
        | nil => intro pre _; exact .done
        | cons one v ih =>
          intro pre hpre
          have hlt : pre.length < (rws N).length := by rw [← hpre]; simp
          have hget : (rws N)[pre.length]? = some one := by rw [← hpre]; simp
          have htoll : (tollsOf N L rk).getD pre.length 0 = rowToll L rk one := by unfold tollsOf; rw [List.getD, List.getElem?_map, hget]; rfl
          have hrow : (rowsAV (rws N))[((pre.length : Int)).toNat]? = some (.lst (zs one)) := by show ((rws N).map _)[pre.length]? = _; rw [List.getElem?_map, hget]; rfl
          rw [List.length_cons, intsFrom_succ]
          have hnext := ih (pre ++ [one]) (by rw [List.append_assoc]; exact hpre)
          rw [List.length_append] at hnext
          cases hb : (rowToll L rk one == paid N L rk) with
          | true =>
            rw [List.filter_cons_of_pos (by exact hb)]
            exact CompTo.keep (x := .int (pre.length : Int)) (r := [.lst (zs one)]) (τ₁ := ⟨[("k", .int (pre.length : Int))], [("paid", CV.cap (.int (paid N L rk))), ("rows", CV.cap (.lst (rowsAV (rws N)))), ("tolls", CV.cap (.lst (zs (tollsOf N L rk))))], []⟩) (τ₂ := ⟨[("k", .int (pre.length : Int))], [("paid", CV.cap (.int (paid N L rk))), ("rows", CV.cap (.lst (rowsAV (rws N)))), ("tolls", CV.cap (.lst (zs (tollsOf N L rk))))], []⟩) (τ₃ := ⟨[], [("paid", CV.cap (.int (paid N L rk))), ("rows", CV.cap (.lst (rowsAV (rws N)))), ("tolls", CV.cap (.lst (zs (tollsOf N L rk))))], []⟩) (bind_local (by lcg_off) (by decide +kernel) (by decide +kernel)) (.one (evt_eq (evt_cmp (ev_eq (r' := .int (rowToll L rk one)) (ev_zget (i := pre.length) (ev_cap (by lcg_sub)) (ev_local (by lcg_sub)) .frozen (by rw [htl2]; omega) (by rw [htl2]; omega)) (congrArg AV.int htoll)) (ev_cap (by lcg_sub)) cmp_eq) hb)) (emit_forget (τ' := ⟨[("k", .int (pre.length : Int))], [("paid", CV.cap (.int (paid N L rk))), ("rows", CV.cap (.lst (rowsAV (rws N)))), ("tolls", CV.cap (.lst (zs (tollsOf N L rk))))], []⟩) (emit_elt (r := .lst (zs one)) (ev_item (i := (pre.length : Int)) (ev_cap (x := "rows") (by lcg_sub)) (ev_local (by lcg_sub)) .frozen (Int.natCast_nonneg _) hrow (by rw [rowsAV_length]; omega)) zs_plain) (by lcg_src)) rfl rfl (hnext)
          | false =>
            rw [List.filter_cons_of_neg (by rw [hb]; decide)]
            exact CompTo.drop (x := .int (pre.length : Int)) (τ₁ := ⟨[("k", .int (pre.length : Int))], [("paid", CV.cap (.int (paid N L rk))), ("rows", CV.cap (.lst (rowsAV (rws N)))), ("tolls", CV.cap (.lst (zs (tollsOf N L rk))))], []⟩) (τ₂ := ⟨[], [("paid", CV.cap (.int (paid N L rk))), ("rows", CV.cap (.lst (rowsAV (rws N)))), ("tolls", CV.cap (.lst (zs (tollsOf N L rk))))], []⟩) (bind_local (by lcg_off) (by decide +kernel) (by decide +kernel)) (.one (evt_forget (σ' := ⟨[("k", .int (pre.length : Int))], [("paid", CV.cap (.int (paid N L rk))), ("rows", CV.cap (.lst (rowsAV (rws N)))), ("tolls", CV.cap (.lst (zs (tollsOf N L rk))))], []⟩) (evt_eq (evt_cmp (ev_eq (r' := .int (rowToll L rk one)) (ev_zget (i := pre.length) (ev_cap (by lcg_sub)) (ev_local (by lcg_sub)) .frozen (by rw [htl2]; omega) (by rw [htl2]; omega)) (congrArg AV.int htoll)) (ev_cap (by lcg_sub)) cmp_eq) hb) (by lcg_src))) rfl hnext
    have hbn : bestOf N L rk ≠ [] := best_ne F.best (rws_ne N (by omega))
    have hbb : ∀ one ∈ bestOf N L rk, one.length = N ∧ ∀ x ∈ one, (0 ≤ x ∧ x ≤ 3) := fun one ho => hrw one (List.mem_filter.mp ho).1
    have hbl : (bestOf N L rk).length ≤ 60 := by unfold bestOf; exact Nat.le_trans (List.length_filter_le _ _) (by omega)
    have htm := minL_mem (l := tollsOf N L rk) (by unfold tollsOf; simpa using rws_ne N (by omega))
    refine ex_cons (ex_ff (evt_bool (eva_or_ff (evt_eq (evt_cmp (ev_call_bi (by decide +kernel) (gmin X) (by decide +kernel) (by decide +kernel) boot_min (.builtin _) (evl_cons (ev_cell (k := 12) (by lcg_sub) rfl) evl_nil) (callr_zmin .frozen htm.1 htm.2)) (ev_cell (k := 4) (by lcg_sub) rfl) cmp_ne) (by rw [F.best]; simp)) (eva_or_ff (evt_eq (evt_cmp (ev_local (x := "low") (by lcg_sub)) (ev_block (σ₁ := ⟨[("ranks", .lst (zs rk)), ("toll", .int (paid N L rk)), ("low", .lst (zs (lowOf L rk))), ("toll_turned", .int (paid N L rk)), ("turned", .lst (zs (turned L rk))), ("high", .lst (zs (highOf L rk)))], cxL, ow (some (.lst (zs ns))) (some (.lst (zs L))) (some (.int N)) (some (.lst (zs (hts L rk)))) (some (.int (paid N L rk))) (some (.own 14)) (some (.own 15)) (some (.int 3)) (some (.str (st (wordOf rk (3 : Int))))) (some (.lst (zs (told N (wordOf rk (3 : Int)))))) (some (.int (least N (wordOf rk (3 : Int))))) (some (.lst (rowsAV (rws N)))) (some (.lst (zs (tollsOf N L rk)))) (some (.lst (rowsAV (bestOf N L rk)))) [.list (zs (firsts N rk)), .list (zs (lasts N rk))]⟩) (rs := zs ((List.range N).map fun i => L.getD (minL ((bestOf N L rk).map fun one => one.getD i 0)).toNat 0)) ?bestlow) cmp_lne) (by rw [F.lowBest]; simp)) eva_or_nil))) ex_nil) ?_
    case bestlow =>
      refine ⟨rfl, (by decide +kernel), (by decide +kernel), frOf (names := lawNames) rfl (by decide +kernel), zs_plain, by rw [zs_length, List.length_map, List.length_range]; omega, false, [("best", .lst (rowsAV (bestOf N L rk))), ("levels", .lst (zs L))], intsFrom 0 N, _, _, ⟨[], [("best", CV.cap (.lst (rowsAV (bestOf N L rk)))), ("levels", CV.cap (.lst (zs L))), ("i", CV.own 0)], [.cell (lastI none 0 N)]⟩, ?iter, .cons (.own (k := 13) (by lcg_sub) rfl rowsAV_plain) (.cons (.own (k := 1) (by lcg_sub) rfl zs_plain) (.nil)), capsA (names := ["best", "levels"]) rfl (by decide +kernel), capsB (names := ["best", "levels"]) rfl (by decide +kernel), ?comp, by nofun, fun _ _ _ => turn_one ..⟩
      case iter =>
        exact evi_range (k := N) (ev_call_bi (by decide +kernel) (grange X) (by decide +kernel) (by decide +kernel) boot_range (.type _) (evl_cons (ev_cell (k := 2) (by lcg_sub) rfl) evl_nil) callr_range1) (by omega) (by decide) (by decide) (by omega) (by omega)
      case comp =>

        rw [show ((List.range N).map fun i => L.getD (minL ((bestOf N L rk).map fun one => one.getD i 0)).toNat 0) = mapFrom (fun j => L.getD (minL ((bestOf N L rk).map fun one => one.getD j 0)).toNat 0) 0 N by rw [mapFrom_range]; simp]
        refine (?_ : ∀ (f j : Nat) (o : Option AV), j + f = N → CompTo C _ (n + 4) _ _ _ (intsFrom j f) ⟨[], [("best", CV.cap (.lst (rowsAV (bestOf N L rk)))), ("levels", CV.cap (.lst (zs L))), ("i", CV.own 0)], [.cell (o)]⟩ (zs (mapFrom (fun j => L.getD (minL ((bestOf N L rk).map fun one => one.getD j 0)).toNat 0) j f)) ⟨[], [("best", CV.cap (.lst (rowsAV (bestOf N L rk)))), ("levels", CV.cap (.lst (zs L))), ("i", CV.own 0)], [.cell (lastI o j f)]⟩) N 0 none (Nat.zero_add _)
        intro f
        induction f with
        | zero => intro j o _; exact .done
        | succ f ih =>
          intro j o hj
          rw [intsFrom_succ]
          have hm := minL_mem (l := ((bestOf N L rk).map fun one => one.getD j 0)) (by simpa using hbn)
          have hcb := col_bound (j := j) (l := bestOf N L rk) (fun one ho => (hbb one ho).2) _ hm.1
          refine CompTo.keep (x := .int j) (r := [.int (L.getD (minL ((bestOf N L rk).map fun one => one.getD j 0)).toNat 0)]) (τ₁ := ⟨[], [("best", CV.cap (.lst (rowsAV (bestOf N L rk)))), ("levels", CV.cap (.lst (zs L))), ("i", CV.own 0)], [.cell (some (.int (j : Int)))]⟩) (τ₂ := ⟨[], [("best", CV.cap (.lst (rowsAV (bestOf N L rk)))), ("levels", CV.cap (.lst (zs L))), ("i", CV.own 0)], [.cell (some (.int (j : Int)))]⟩) (τ₃ := ⟨[], [("best", CV.cap (.lst (rowsAV (bestOf N L rk)))), ("levels", CV.cap (.lst (zs L))), ("i", CV.own 0)], [.cell (some (.int (j : Int)))]⟩) (bind_cell (σ := ⟨[], [("best", CV.cap (.lst (rowsAV (bestOf N L rk)))), ("levels", CV.cap (.lst (zs L))), ("i", CV.own 0)], [.cell (o)]⟩) (k := 0) (o := o) (by lcg_sub) (by decide +kernel) rfl) .nil ?_ rfl rfl (ih (j + 1) _ (by omega))
          refine emit_elt (ev_zidx (ev_cap (x := "levels") (by lcg_sub)) (ev_call_bi (by decide +kernel) (gmin X) (by decide +kernel) (by decide +kernel) boot_min (.builtin _) (evl_cons (ev_block (σ₁ := ⟨[], [("best", CV.cap (.lst (rowsAV (bestOf N L rk)))), ("levels", CV.cap (.lst (zs L))), ("i", CV.own 0)], [.cell (some (.int (j : Int)))]⟩) (rs := zs ((bestOf N L rk).map fun one => one.getD j 0)) ?inner) evl_nil) (callr_zmin .frozen hm.1 hm.2)) .frozen hcb.1 (by omega) (by omega)) rfl
          case inner =>
            refine ⟨rfl, (by decide +kernel), (by decide +kernel), frOf (names := ["best", "levels", "i"]) rfl (by decide +kernel), zs_plain, by rw [zs_length, List.length_map]; omega, false, [("i", .int (j : Int))], rowsAV (bestOf N L rk), _, _, ⟨[], [("i", CV.cap (.int (j : Int)))], []⟩, ?iter2, .cons (.own (k := 0) (by lcg_sub) rfl rfl) .nil, capsA (names := ["i"]) rfl (by decide +kernel), capsB (names := ["i"]) rfl (by decide +kernel), ?comp2, by nofun, fun _ _ _ => turn_one ..⟩
            case iter2 => exact evi_list (ev_cap (by lcg_sub)) rowsAV_plain
            case comp2 =>
              refine (?_ : ∀ (u : List (List Int)), (∀ one ∈ u, one.length = N ∧ ∀ x ∈ one, (0 ≤ x ∧ x ≤ 3)) → CompTo C _ (n + 4) _ _ _ (rowsAV u) ⟨[], [("i", CV.cap (.int (j : Int)))], []⟩ (zs (u.map fun one => one.getD j 0)) ⟨[], [("i", CV.cap (.int (j : Int)))], []⟩) (bestOf N L rk) hbb
              intro u
              induction u with
              | nil => intro _; exact .done
              | cons one u ihu =>
                intro hu
                have hone := hu one List.mem_cons_self
                exact CompTo.keep (x := .lst (zs one)) (r := [.int (one.getD j 0)]) (τ₁ := ⟨[("one", .lst (zs one))], [("i", CV.cap (.int (j : Int)))], []⟩) (τ₂ := ⟨[("one", .lst (zs one))], [("i", CV.cap (.int (j : Int)))], []⟩) (τ₃ := ⟨[], [("i", CV.cap (.int (j : Int)))], []⟩) (bind_local (by lcg_off) (by decide +kernel) (by decide +kernel)) .nil (emit_forget (τ' := ⟨[("one", .lst (zs one))], [("i", CV.cap (.int (j : Int)))], []⟩) (emit_elt (r := .int (one.getD j 0)) (ev_zget (i := j) (ev_local (by lcg_sub)) (ev_cap (by lcg_sub)) .frozen (by omega) (by omega)) rfl) (by lcg_src)) rfl rfl (ihu fun o ho => hu o (List.mem_cons_of_mem _ ho))
    refine ex_stop (ex_return (ev_eq (r' := .bool true) (ev_cmp (ev_local (x := "high") (by lcg_sub)) (ev_block (σ₁ := ⟨[("ranks", .lst (zs rk)), ("toll", .int (paid N L rk)), ("low", .lst (zs (lowOf L rk))), ("toll_turned", .int (paid N L rk)), ("turned", .lst (zs (turned L rk))), ("high", .lst (zs (highOf L rk)))], cxL, ow (some (.lst (zs ns))) (some (.lst (zs L))) (some (.int N)) (some (.lst (zs (hts L rk)))) (some (.int (paid N L rk))) (some (.own 14)) (some (.own 15)) (some (.int 3)) (some (.str (st (wordOf rk (3 : Int))))) (some (.lst (zs (told N (wordOf rk (3 : Int)))))) (some (.int (least N (wordOf rk (3 : Int))))) (some (.lst (rowsAV (rws N)))) (some (.lst (zs (tollsOf N L rk)))) (some (.lst (rowsAV (bestOf N L rk)))) [.list (zs (firsts N rk)), .list (zs (lasts N rk))]⟩) (rs := zs ((List.range N).map fun i => L.getD (maxL ((bestOf N L rk).map fun one => one.getD i 0)).toNat 0)) ?besthigh) cmp_leq) (by rw [F.highBest]; simp))) (by nofun)
    case besthigh =>
      refine ⟨rfl, (by decide +kernel), (by decide +kernel), frOf (names := lawNames) rfl (by decide +kernel), zs_plain, by rw [zs_length, List.length_map, List.length_range]; omega, false, [("best", .lst (rowsAV (bestOf N L rk))), ("levels", .lst (zs L))], intsFrom 0 N, _, _, ⟨[], [("best", CV.cap (.lst (rowsAV (bestOf N L rk)))), ("levels", CV.cap (.lst (zs L))), ("i", CV.own 0)], [.cell (lastI none 0 N)]⟩, ?iter, .cons (.own (k := 13) (by lcg_sub) rfl rowsAV_plain) (.cons (.own (k := 1) (by lcg_sub) rfl zs_plain) (.nil)), capsA (names := ["best", "levels"]) rfl (by decide +kernel), capsB (names := ["best", "levels"]) rfl (by decide +kernel), ?comp, by nofun, fun _ _ _ => turn_one ..⟩
      case iter =>
        exact evi_range (k := N) (ev_call_bi (by decide +kernel) (grange X) (by decide +kernel) (by decide +kernel) boot_range (.type _) (evl_cons (ev_cell (k := 2) (by lcg_sub) rfl) evl_nil) callr_range1) (by omega) (by decide) (by decide) (by omega) (by omega)
      case comp =>

        rw [show ((List.range N).map fun i => L.getD (maxL ((bestOf N L rk).map fun one => one.getD i 0)).toNat 0) = mapFrom (fun j => L.getD (maxL ((bestOf N L rk).map fun one => one.getD j 0)).toNat 0) 0 N by rw [mapFrom_range]; simp]
        refine (?_ : ∀ (f j : Nat) (o : Option AV), j + f = N → CompTo C _ (n + 4) _ _ _ (intsFrom j f) ⟨[], [("best", CV.cap (.lst (rowsAV (bestOf N L rk)))), ("levels", CV.cap (.lst (zs L))), ("i", CV.own 0)], [.cell (o)]⟩ (zs (mapFrom (fun j => L.getD (maxL ((bestOf N L rk).map fun one => one.getD j 0)).toNat 0) j f)) ⟨[], [("best", CV.cap (.lst (rowsAV (bestOf N L rk)))), ("levels", CV.cap (.lst (zs L))), ("i", CV.own 0)], [.cell (lastI o j f)]⟩) N 0 none (Nat.zero_add _)
        intro f
        induction f with
        | zero => intro j o _; exact .done
        | succ f ih =>
          intro j o hj
          rw [intsFrom_succ]
          have hm := maxL_mem (l := ((bestOf N L rk).map fun one => one.getD j 0)) (by simpa using hbn)
          have hcb := col_bound (j := j) (l := bestOf N L rk) (fun one ho => (hbb one ho).2) _ hm.1
          refine CompTo.keep (x := .int j) (r := [.int (L.getD (maxL ((bestOf N L rk).map fun one => one.getD j 0)).toNat 0)]) (τ₁ := ⟨[], [("best", CV.cap (.lst (rowsAV (bestOf N L rk)))), ("levels", CV.cap (.lst (zs L))), ("i", CV.own 0)], [.cell (some (.int (j : Int)))]⟩) (τ₂ := ⟨[], [("best", CV.cap (.lst (rowsAV (bestOf N L rk)))), ("levels", CV.cap (.lst (zs L))), ("i", CV.own 0)], [.cell (some (.int (j : Int)))]⟩) (τ₃ := ⟨[], [("best", CV.cap (.lst (rowsAV (bestOf N L rk)))), ("levels", CV.cap (.lst (zs L))), ("i", CV.own 0)], [.cell (some (.int (j : Int)))]⟩) (bind_cell (σ := ⟨[], [("best", CV.cap (.lst (rowsAV (bestOf N L rk)))), ("levels", CV.cap (.lst (zs L))), ("i", CV.own 0)], [.cell (o)]⟩) (k := 0) (o := o) (by lcg_sub) (by decide +kernel) rfl) .nil ?_ rfl rfl (ih (j + 1) _ (by omega))
          refine emit_elt (ev_zidx (ev_cap (x := "levels") (by lcg_sub)) (ev_call_bi (by decide +kernel) (gmax X) (by decide +kernel) (by decide +kernel) boot_max (.builtin _) (evl_cons (ev_block (σ₁ := ⟨[], [("best", CV.cap (.lst (rowsAV (bestOf N L rk)))), ("levels", CV.cap (.lst (zs L))), ("i", CV.own 0)], [.cell (some (.int (j : Int)))]⟩) (rs := zs ((bestOf N L rk).map fun one => one.getD j 0)) ?inner) evl_nil) (callr_zmax .frozen hm.1 hm.2)) .frozen hcb.1 (by omega) (by omega)) rfl
          case inner =>
            refine ⟨rfl, (by decide +kernel), (by decide +kernel), frOf (names := ["best", "levels", "i"]) rfl (by decide +kernel), zs_plain, by rw [zs_length, List.length_map]; omega, false, [("i", .int (j : Int))], rowsAV (bestOf N L rk), _, _, ⟨[], [("i", CV.cap (.int (j : Int)))], []⟩, ?iter2, .cons (.own (k := 0) (by lcg_sub) rfl rfl) .nil, capsA (names := ["i"]) rfl (by decide +kernel), capsB (names := ["i"]) rfl (by decide +kernel), ?comp2, by nofun, fun _ _ _ => turn_one ..⟩
            case iter2 => exact evi_list (ev_cap (by lcg_sub)) rowsAV_plain
            case comp2 =>
              refine (?_ : ∀ (u : List (List Int)), (∀ one ∈ u, one.length = N ∧ ∀ x ∈ one, (0 ≤ x ∧ x ≤ 3)) → CompTo C _ (n + 4) _ _ _ (rowsAV u) ⟨[], [("i", CV.cap (.int (j : Int)))], []⟩ (zs (u.map fun one => one.getD j 0)) ⟨[], [("i", CV.cap (.int (j : Int)))], []⟩) (bestOf N L rk) hbb
              intro u
              induction u with
              | nil => intro _; exact .done
              | cons one u ihu =>
                intro hu
                have hone := hu one List.mem_cons_self
                exact CompTo.keep (x := .lst (zs one)) (r := [.int (one.getD j 0)]) (τ₁ := ⟨[("one", .lst (zs one))], [("i", CV.cap (.int (j : Int)))], []⟩) (τ₂ := ⟨[("one", .lst (zs one))], [("i", CV.cap (.int (j : Int)))], []⟩) (τ₃ := ⟨[], [("i", CV.cap (.int (j : Int)))], []⟩) (bind_local (by lcg_off) (by decide +kernel) (by decide +kernel)) .nil (emit_forget (τ' := ⟨[("one", .lst (zs one))], [("i", CV.cap (.int (j : Int)))], []⟩) (emit_elt (r := .int (one.getD j 0)) (ev_zget (i := j) (ev_local (by lcg_sub)) (ev_cap (by lcg_sub)) .frozen (by omega) (by omega)) rfl) (by lcg_src)) rfl rfl (ihu fun o ho => hu o (List.mem_cons_of_mem _ ho))
end Mine
namespace Mine

/-! ### what is checked one by one -/
def hamw (w v : List Nat) : Nat := (List.zipWith (fun a b => if a = b then 0 else 1) w v).sum
def minN : List Nat → Nat
  | [] => 0
  | x :: xs => xs.foldl (fun a b => if b < a then b else a) x
def leastH (N : Nat) (w : List Nat) : Nat := minN ((List.range (N + 1)).map fun m => hamw w (aim N m))
def cutsH (N : Nat) (w : List Nat) : List Nat := (List.range (N + 1)).filter fun m => hamw w (aim N m) == leastH N w
def allW : Nat → List (List Nat)
  | 0 => [[]]
  | n + 1 => [97, 65].flatMap fun x => (allW n).map (x :: ·)
def allR : Nat → List (List Int)
  | 0 => [[]]
  | n + 1 => [0, 1, 2, 3].flatMap fun x => (allR n).map (x :: ·)
structure WordH (N : Nat) (w : List Nat) : Prop where
  all : ∀ k < N + 1, (levP N w (aim N k)).isSome = true
  rise : least N w = (N : Int) - rise w
  sm : 0 ≤ least N w ∧ least N w ≤ 5
  ne : cuts N w ≠ []
  eq : least N w = (leastH N w : Int)
  fst : (cuts N w).getD 0 0 = ((cutsH N w).getD 0 0 : Int)
  lst : (cuts N w).getLastD 0 = ((cutsH N w).getLastD 0 : Int)
def WordC (N : Nat) (w : List Nat) : Prop :=
  (∀ k < N + 1, (levP N w (aim N k)).isSome = true) ∧ least N w = (N : Int) - rise w ∧ (0 ≤ least N w ∧ least N w ≤ 5) ∧ cuts N w ≠ [] ∧ least N w = (leastH N w : Int) ∧ (cuts N w).getD 0 0 = ((cutsH N w).getD 0 0 : Int) ∧ (cuts N w).getLastD 0 = ((cutsH N w).getLastD 0 : Int)
theorem WordC.toH {N : Nat} {w : List Nat} (h : WordC N w) : WordH N w := let ⟨a, b, c, d, e, f, g⟩ := h; ⟨a, b, c, d, e, f, g⟩
theorem wordc3 : ∀ w ∈ allW 3, WordC 3 w := by unfold WordC; decide +kernel
theorem wordc4 : ∀ w ∈ allW 4, WordC 4 w := by unfold WordC; decide +kernel
theorem wordc5 : ∀ w ∈ allW 5, WordC 5 w := by unfold WordC; decide +kernel
theorem words3 : ∀ w ∈ allW 3, WordH 3 w := fun w hw => (wordc3 w hw).toH
theorem words4 : ∀ w ∈ allW 4, WordH 4 w := fun w hw => (wordc4 w hw).toH
theorem words5 : ∀ w ∈ allW 5, WordH 5 w := fun w hw => (wordc5 w hw).toH

def offU : List Int → List Int → List Int
  | [], _ => []
  | y :: ys, h => -((push h (-y)).getD 0 0) :: offU ys (repl (push h (-y)) (-y))
def cnt (k : Int) (l : List Int) : Int := (l.map fun x => if k ≤ x then (1 : Int) else 0).sum
def bisN (c : List Int) (i : Nat) : Nat := bis (fun j => decide ((i : Int) < c.getD j 0)) c.length 0 c.length
def firstsH (N : Nat) (rk : List Int) : List Int := [1, 2, 3].map fun k => ((cutsH N (wordOf rk k)).getD 0 0 : Int)
def lastsH (N : Nat) (rk : List Int) : List Int := [1, 2, 3].map fun k => ((cutsH N (wordOf rk k)).getLastD 0 : Int)
def bestR (N : Nat) (rk : List Int) : List (List Int) := (rws N).filter fun one => [1, 2, 3].all fun k => hamw (wordOf one k) (wordOf rk k) == leastH N (wordOf rk k)
def RankOk (N : Nat) (rk : List Int) : Prop :=
  (∀ u ∈ offU rk [], 0 ≤ u ∧ u ≤ 3) ∧ (∀ u ∈ offU (neg rk.reverse) [], -3 ≤ u ∧ u ≤ 0) ∧
  (∀ k ∈ ([1, 2, 3] : List Int), cnt k (offU rk []) - cnt k rk = (leastH N (wordOf rk k) : Int) ∧ cnt k rk - cnt k (neg (offU (neg rk.reverse) [])) = (leastH N (wordOf rk k) : Int)) ∧
  offFit rk = (List.range N).map (fun i => (bisN (lastsH N rk) i : Int)) ∧ neg (offFit (neg rk.reverse)).reverse = (List.range N).map (fun i => (bisN (firstsH N rk) i : Int)) ∧
  bestR N rk ≠ [] ∧
  offFit rk = (List.range N).map (fun i => minL ((bestR N rk).map fun one => one.getD i 0)) ∧ neg (offFit (neg rk.reverse)).reverse = (List.range N).map (fun i => maxL ((bestR N rk).map fun one => one.getD i 0))
theorem ranks3 : ∀ rk ∈ allR 3, RankOk 3 rk := by unfold RankOk; decide +kernel
end Mine
namespace Mine

/-! ### heaps under strictly rising maps -/
structure Mo (ψ : Int → Int) : Prop where
  zero : ψ 0 = 0
  lt : ∀ a b, ψ a < ψ b ↔ a < b
def bar (ψ : Int → Int) (z : Int) : Int := -ψ (-z)
theorem Mo.bar {ψ : Int → Int} (M : Mo ψ) : Mo (bar ψ) := ⟨by simp [Mine.bar, M.zero], fun a b => by
  have := M.lt (-b) (-a)
  unfold Mine.bar
  omega⟩
section
variable {ψ : Int → Int} (M : Mo ψ)
include M
theorem Mo.getD {h : List Int} {i : Nat} : (h.map ψ).getD i 0 = ψ (h.getD i 0) := by
  simp only [List.getD, List.getElem?_map]
  cases h[i]? with
  | none => simp [M.zero]
  | some x => simp
theorem Mo.sdl {start : Nat} {x : Int} : ∀ {f pos : Nat} {h : List Int}, sdl start (ψ x) f pos (h.map ψ) = ((Mine.sdl start x f pos h).1.map ψ, (Mine.sdl start x f pos h).2)
  | 0, pos, h => rfl
  | f + 1, pos, h => by
    simp only [Mine.sdl]
    rw [M.getD]
    by_cases hs : start < pos
    · rw [if_pos hs, if_pos hs]
      by_cases hx : x < h.getD ((pos - 1) / 2) 0
      · rw [if_pos hx, if_pos ((M.lt _ _).mpr hx), ← List.map_set, Mo.sdl (f := f)]
      · rw [if_neg hx, if_neg (fun z => hx ((M.lt _ _).mp z))]
    · rw [if_neg hs, if_neg hs]
theorem Mo.sd {start : Nat} {x : Int} {pos : Nat} {h : List Int} : Mine.sd start (ψ x) pos (h.map ψ) = (Mine.sd start x pos h).map ψ := by
  unfold Mine.sd
  rw [M.sdl]
  dsimp only
  rw [List.map_set]
theorem Mo.pick {c : Nat} {h : List Int} : Mine.pick c (h.map ψ) = Mine.pick c h := by
  unfold Mine.pick
  rw [M.getD, M.getD, List.length_map]
  have := M.lt (h.getD c 0) (h.getD (c + 1) 0)
  by_cases hc : h.getD c 0 < h.getD (c + 1) 0
  · rw [if_neg (fun z => z.2 (this.mpr hc)), if_neg (fun z => z.2 hc)]
  · have hc' : ¬ ψ (h.getD c 0) < ψ (h.getD (c + 1) 0) := fun z => hc (this.mp z)
    by_cases hl : c + 1 < h.length
    · rw [if_pos ⟨hl, hc'⟩, if_pos ⟨hl, hc⟩]
    · rw [if_neg (fun z => hl z.1), if_neg (fun z => hl z.1)]
theorem Mo.sul : ∀ {f pos : Nat} {h : List Int}, Mine.sul f pos (h.map ψ) = ((Mine.sul f pos h).1.map ψ, (Mine.sul f pos h).2)
  | 0, pos, h => rfl
  | f + 1, pos, h => by
    simp only [Mine.sul]
    rw [List.length_map, M.pick, M.getD]
    by_cases hs : 2 * pos + 1 < h.length
    · rw [if_pos hs, if_pos hs, ← List.map_set, Mo.sul (f := f)]
    · rw [if_neg hs, if_neg hs]
theorem Mo.su {pos : Nat} {h : List Int} : Mine.su pos (h.map ψ) = (Mine.su pos h).map ψ := by
  unfold Mine.su
  dsimp only
  rw [List.length_map, M.sul]
  dsimp only
  rw [M.getD, ← List.map_set, M.getD, M.sd]
theorem Mo.push {h : List Int} {x : Int} : Mine.push (h.map ψ) (ψ x) = (Mine.push h x).map ψ := by
  unfold Mine.push
  rw [List.length_map, show h.map ψ ++ [ψ x] = (h ++ [x]).map ψ by simp, M.sd]
theorem Mo.repl {h : List Int} {x : Int} : Mine.repl (h.map ψ) (ψ x) = (Mine.repl h x).map ψ := by
  unfold Mine.repl
  rw [← List.map_set, M.su]
theorem Mo.fitM {t : Int} {fit : List Int} : Mine.fitM (ψ t) (fit.map ψ) = ψ (Mine.fitM t fit) := by
  cases fit with
  | nil => rfl
  | cons f r =>
    simp only [Mine.fitM, List.map_cons]
    by_cases h : f < t
    · rw [if_pos h, if_pos ((M.lt _ _).mpr h)]
    · rw [if_neg h, if_neg (fun z => h ((M.lt _ _).mp z))]
theorem Mo.fitRun : ∀ {v fit : List Int}, Mine.fitRun (v.map ψ) (fit.map ψ) = (Mine.fitRun v fit).map ψ
  | [], _ => rfl
  | t :: v, fit => by
    simp only [Mine.fitRun, List.map_cons]
    rw [M.fitM, ← List.map_cons, Mo.fitRun (v := v)]
/-- the heap's run: what a strictly rising map makes of it -/
theorem Mo.offRun : ∀ {ys : List Int} {h : List Int} {t t' : Int} {tops : List Int},
    (Mine.offRun (ys.map ψ) ⟨h.map (Mine.bar ψ), t, tops.map ψ⟩).tops = (Mine.offRun ys ⟨h, t', tops⟩).tops.map ψ ∧
    (Mine.offRun (ys.map ψ) ⟨h.map (Mine.bar ψ), t, tops.map ψ⟩).t = t + ((offU ys h).map ψ).sum - (ys.map ψ).sum
  | [], h, t, t', tops => by simp [Mine.offRun, offU]
  | y :: ys, h, t, t', tops => by
    simp only [Mine.offRun, List.map_cons, offU]
    have hy : -ψ y = Mine.bar ψ (-y) := by simp [Mine.bar]
    have st : offStep (ψ y) ⟨h.map (Mine.bar ψ), t, tops.map ψ⟩ = ⟨(Mine.repl (Mine.push h (-y)) (-y)).map (Mine.bar ψ), t + ψ (-((Mine.push h (-y)).getD 0 0)) - ψ y, (tops ++ [-((Mine.repl (Mine.push h (-y)) (-y)).getD 0 0)]).map ψ⟩ := by
      unfold offStep
      dsimp only
      rw [hy, M.bar.push, M.bar.repl, M.bar.getD, M.bar.getD]
      congr 1
      · unfold Mine.bar; omega
      · simp [Mine.bar]
    rw [st]
    have st' : offStep y ⟨h, t', tops⟩ = ⟨Mine.repl (Mine.push h (-y)) (-y), t' - (Mine.push h (-y)).getD 0 0 - y, tops ++ [-((Mine.repl (Mine.push h (-y)) (-y)).getD 0 0)]⟩ := rfl
    rw [st']
    obtain ⟨i1, i2⟩ := Mo.offRun (ys := ys) (h := Mine.repl (Mine.push h (-y)) (-y)) (t := t + ψ (-((Mine.push h (-y)).getD 0 0)) - ψ y) (t' := t' - (Mine.push h (-y)).getD 0 0 - y) (tops := tops ++ [-((Mine.repl (Mine.push h (-y)) (-y)).getD 0 0)])
    refine ⟨i1, ?_⟩
    rw [i2]
    simp only [List.sum_cons]
    omega
theorem Mo.offFit {ys : List Int} : Mine.offFit (ys.map ψ) = (Mine.offFit ys).map ψ := by
  unfold Mine.offFit
  have := (M.offRun (ys := ys) (h := []) (t := 0) (t' := 0) (tops := [])).1
  simp only [List.map_nil] at this
  rw [this, ← List.map_reverse]
  have := M.fitRun (v := (Mine.offRun ys ⟨[], 0, []⟩).tops.reverse) (fit := [])
  simpa using this
theorem Mo.offToll {ys : List Int} : Mine.offToll (ys.map ψ) = ((offU ys []).map ψ).sum - (ys.map ψ).sum := by
  unfold Mine.offToll
  have := (M.offRun (ys := ys) (h := []) (t := 0) (t' := 0) (tops := [])).2
  simp only [List.map_nil] at this
  rw [this]; omega
end

/-! ### levels -/
def lf (a b c : Int) (r : Int) : Int := if r ≤ 0 then r else if r = 1 then a else if r = 2 then a + b else if r = 3 then a + b + c else a + b + c + (r - 3)
theorem lf_mo {a b c : Int} (ha : 0 < a) (hb : 0 < b) (hc : 0 < c) : Mo (lf a b c) := ⟨rfl, fun x y => by
  unfold lf
  split <;> split <;> (repeat' split) <;> omega⟩
theorem lf_lin {a b c r : Int} (h : 0 ≤ r ∧ r ≤ 3) : lf a b c r = a * (if 1 ≤ r then 1 else 0) + b * (if 2 ≤ r then 1 else 0) + c * (if 3 ≤ r then 1 else 0) := by
  have : r = 0 ∨ r = 1 ∨ r = 2 ∨ r = 3 := by omega
  rcases this with rfl | rfl | rfl | rfl <;> simp [lf]
theorem sum_lin {a b c : Int} : ∀ {l : List Int}, (∀ x ∈ l, 0 ≤ x ∧ x ≤ 3) → (l.map (lf a b c)).sum = a * cnt 1 l + b * cnt 2 l + c * cnt 3 l
  | [], _ => by simp [cnt]
  | x :: l, h => by
    have ih := sum_lin (a := a) (b := b) (c := c) (l := l) fun y hy => h y (List.mem_cons_of_mem _ hy)
    have e := lf_lin (a := a) (b := b) (c := c) (h x List.mem_cons_self)
    simp only [List.map_cons, List.sum_cons, cnt] at ih ⊢
    rw [ih, e]
    simp only [Int.mul_add]
    omega
end Mine
namespace Mine

theorem rwsAim3 : ∀ one ∈ rws 3, ∀ k ∈ ([1, 2, 3] : List Int), ∃ m, m < 3 + 1 ∧ wordOf one k = aim 3 m := by decide +kernel
theorem rwsAim4 : ∀ one ∈ rws 4, ∀ k ∈ ([1, 2, 3] : List Int), ∃ m, m < 4 + 1 ∧ wordOf one k = aim 4 m := by decide +kernel
theorem rwsAim5 : ∀ one ∈ rws 5, ∀ k ∈ ([1, 2, 3] : List Int), ∃ m, m < 5 + 1 ∧ wordOf one k = aim 5 m := by decide +kernel
theorem rwsAim {N : Nat} (h3 : 3 ≤ N) (h5 : N ≤ 5) : ∀ one ∈ rws N, ∀ k ∈ ([1, 2, 3] : List Int), ∃ m, m < N + 1 ∧ wordOf one k = aim N m := by
  have : N = 3 ∨ N = 4 ∨ N = 5 := by omega
  rcases this with rfl | rfl | rfl
  · exact rwsAim3
  · exact rwsAim4
  · exact rwsAim5
theorem minN_fold : ∀ (xs : List Nat) (x : Nat), ∀ a ∈ x :: xs, xs.foldl (fun a b => if b < a then b else a) x ≤ a
  | [], x => by simp
  | y :: ys, x => by
    have h2 := minN_fold ys (if y < x then y else x)
    simp only [List.foldl_cons]
    have h0 := h2 _ List.mem_cons_self
    intro a ha
    rcases List.mem_cons.mp ha with rfl | ha
    · refine Nat.le_trans h0 ?_; split <;> omega
    · rcases List.mem_cons.mp ha with rfl | ha
      · refine Nat.le_trans h0 ?_; split <;> omega
      · exact h2 a (List.mem_cons_of_mem _ ha)
theorem minN_le : ∀ {l : List Nat}, ∀ a ∈ l, minN l ≤ a
  | [], _, h => nomatch h
  | x :: xs, a, h => minN_fold xs x a h
theorem hamw_comm : ∀ {w v : List Nat}, hamw w v = hamw v w
  | [], [] => rfl
  | [], _ :: _ => rfl
  | _ :: _, [] => rfl
  | a :: w, b :: v => by
    have ih := hamw_comm (w := w) (v := v)
    unfold hamw at ih ⊢
    simp only [List.zipWith_cons_cons, List.sum_cons]
    rw [ih]
    by_cases h : a = b
    · rw [if_pos h, if_pos h.symm]
    · rw [if_neg h, if_neg (fun z => h z.symm)]
theorem leastH_le {N : Nat} {one rk : List Int} (h3 : 3 ≤ N) (h5 : N ≤ 5) (ho : one ∈ rws N) {k : Int} (hk : k ∈ ([1, 2, 3] : List Int)) : leastH N (wordOf rk k) ≤ hamw (wordOf one k) (wordOf rk k) := by
  obtain ⟨m, hm, e⟩ := rwsAim h3 h5 one ho k hk
  rw [e, hamw_comm]
  exact minN_le _ (List.mem_map.mpr ⟨m, List.mem_range.mpr hm, rfl⟩)

theorem absI_lin {a b c x r : Int} (ha : 0 < a) (hb : 0 < b) (hc : 0 < c) (hx : 0 ≤ x ∧ x ≤ 3) (hr : 0 ≤ r ∧ r ≤ 3) :
    absI (lf a b c x - lf a b c r) = a * ((if (if (1 : Int) ≤ x then 97 else 65) = (if (1 : Int) ≤ r then (97 : Nat) else 65) then (0 : Nat) else 1 : Nat) : Int) + b * ((if (if (2 : Int) ≤ x then 97 else 65) = (if (2 : Int) ≤ r then (97 : Nat) else 65) then (0 : Nat) else 1 : Nat) : Int) + c * ((if (if (3 : Int) ≤ x then 97 else 65) = (if (3 : Int) ≤ r then (97 : Nat) else 65) then (0 : Nat) else 1 : Nat) : Int) := by
  have h1 : x = 0 ∨ x = 1 ∨ x = 2 ∨ x = 3 := by omega
  have h2 : r = 0 ∨ r = 1 ∨ r = 2 ∨ r = 3 := by omega
  unfold absI
  rcases h1 with rfl | rfl | rfl | rfl <;> rcases h2 with rfl | rfl | rfl | rfl <;> simp [lf] <;> omega
theorem row_lin {a b c : Int} (ha : 0 < a) (hb : 0 < b) (hc : 0 < c) : ∀ {one rk : List Int}, (∀ x ∈ one, 0 ≤ x ∧ x ≤ 3) → (∀ x ∈ rk, 0 ≤ x ∧ x ≤ 3) →
    (List.zipWith (fun (x y : Int) => absI (lf a b c x - y)) one (rk.map (lf a b c))).sum = a * (hamw (wordOf one 1) (wordOf rk 1) : Int) + b * (hamw (wordOf one 2) (wordOf rk 2) : Int) + c * (hamw (wordOf one 3) (wordOf rk 3) : Int)
  | [], _, _, _ => by simp [hamw, wordOf]
  | _ :: _, [], _, _ => by simp [hamw, wordOf]
  | x :: one, r :: rk, h1, h2 => by
    have ih := row_lin ha hb hc (one := one) (rk := rk) (fun y hy => h1 y (List.mem_cons_of_mem _ hy)) (fun y hy => h2 y (List.mem_cons_of_mem _ hy))
    have e := absI_lin ha hb hc (h1 x List.mem_cons_self) (h2 r List.mem_cons_self)
    unfold hamw wordOf at ih ⊢
    simp only [List.map_cons, List.zipWith_cons_cons, List.sum_cons]
    rw [ih, e]
    simp only [Int.natCast_add, Int.mul_add]
    omega

theorem allW_mem : ∀ {N : Nat} {w : List Nat}, w.length = N → (∀ c ∈ w, Ab c) → w ∈ allW N
  | 0, w, h, _ => by rw [List.length_eq_zero_iff.mp h]; exact List.mem_cons_self
  | N + 1, [], h, _ => by simp at h
  | N + 1, c :: w, h, hc => by
    have ih := allW_mem (N := N) (w := w) (by simpa using h) fun d hd => hc d (List.mem_cons_of_mem _ hd)
    unfold allW
    refine List.mem_flatMap.mpr ⟨c, ?_, List.mem_map_of_mem ih⟩
    rcases hc c List.mem_cons_self with h | h <;> simp [h]
theorem allR_mem : ∀ {N : Nat} {w : List Int}, w.length = N → (∀ c ∈ w, 0 ≤ c ∧ c ≤ 3) → w ∈ allR N
  | 0, w, h, _ => by rw [List.length_eq_zero_iff.mp h]; exact List.mem_cons_self
  | N + 1, [], h, _ => by simp at h
  | N + 1, c :: w, h, hc => by
    have ih := allR_mem (N := N) (w := w) (by simpa using h) fun d hd => hc d (List.mem_cons_of_mem _ hd)
    unfold allR
    refine List.mem_flatMap.mpr ⟨c, ?_, List.mem_map_of_mem ih⟩
    have hb := hc c List.mem_cons_self
    have : c = 0 ∨ c = 1 ∨ c = 2 ∨ c = 3 := by omega
    rcases this with h | h | h | h <;> simp [h]
theorem sum_rev : ∀ {l : List Int}, l.reverse.sum = l.sum
  | [] => rfl
  | x :: l => by
    rw [List.reverse_cons, List.sum_append, sum_rev (l := l)]
    simp [Int.add_comm]
theorem neg_neg {l : List Int} : neg (neg l) = l := by
  unfold neg; rw [List.map_map]
  have : ((fun x : Int => -x) ∘ fun x => -x) = id := by funext x; simp
  rw [this, List.map_id]
theorem neg_map {ψ : Int → Int} {l : List Int} : neg (l.map ψ) = (neg l).map (bar ψ) := by
  unfold neg bar
  rw [List.map_map, List.map_map]
  congr 1
  funext x
  simp
theorem neg_map_bar {ψ : Int → Int} {l : List Int} : neg (l.map (bar ψ)) = (neg l).map ψ := by
  unfold neg bar
  rw [List.map_map, List.map_map]
  congr 1
  funext x
  simp
theorem neg_sum : ∀ {l : List Int}, (neg l).sum = -l.sum
  | [] => rfl
  | x :: l => by
    have ih := neg_sum (l := l)
    unfold neg at ih ⊢
    simp only [List.map_cons, List.sum_cons]
    omega
theorem neg_reverse {l : List Int} : neg l.reverse = (neg l).reverse := by simp [neg]
theorem cut_eq {a x y : Int} (ha : 0 < a) (h : x ≤ y) : a * x ≤ a * y ∧ (a * y = a * x → y = x) :=
  ⟨Int.mul_le_mul_of_nonneg_left h (by omega), fun e => Int.eq_of_mul_eq_mul_left (by omega) e⟩
end Mine
namespace Mine

theorem facts_of {N : Nat} {a b c : Int} {rk : List Int} (ha : 0 < a) (hb : 0 < b) (hc : 0 < c) (h3 : 3 ≤ N) (h5 : N ≤ 5) (hlen : rk.length = N) (hbd : ∀ x ∈ rk, 0 ≤ x ∧ x ≤ 3) (W : ∀ w ∈ allW N, WordH N w) (R : RankOk N rk) : Facts N [0, a, a + b, a + b + c] rk := by
  obtain ⟨r1, r2, r3, r4, r5, r6, r7, r8⟩ := R
  obtain ⟨L, hL⟩ : ∃ L, L = [0, a, a + b, a + b + c] := ⟨_, rfl⟩
  rw [← hL]
  have M := lf_mo ha hb hc
  have hget : ∀ r : Int, 0 ≤ r ∧ r ≤ 3 → L.getD r.toNat 0 = lf a b c r := fun r hr => by
    have : r = 0 ∨ r = 1 ∨ r = 2 ∨ r = 3 := by omega
    rw [hL]
    rcases this with rfl | rfl | rfl | rfl <;> rfl
  have hgetN : ∀ j : Nat, j ≤ 3 → L.getD j 0 = lf a b c (j : Int) := fun j hj => by
    have := hget (j : Int) (by omega)
    simpa using this
  have hh : hts L rk = rk.map (lf a b c) := by
    unfold hts
    exact List.map_congr_left fun x hx => hget x (hbd x hx)
  have WW : ∀ k : Int, WordH N (wordOf rk k) := fun k => W _ (allW_mem (by rw [wordOf_length]; exact hlen) wordOf_ab)
  have hpaid : paid N L rk = a * (leastH N (wordOf rk 1) : Int) + b * (leastH N (wordOf rk 2) : Int) + c * (leastH N (wordOf rk 3) : Int) := by
    unfold paid
    rw [(WW 1).eq, (WW 2).eq, (WW 3).eq, hL]
    show 0 + _ * (a - 0) + _ * (a + b - a) + _ * (a + b + c - (a + b)) = _
    rw [show a - 0 = a by omega, show a + b - a = b by omega, show a + b + c - (a + b) = c by omega, Int.mul_comm _ a, Int.mul_comm _ b, Int.mul_comm _ c]
    omega
  have e1 := r3 1 (by simp)
  have e2 := r3 2 (by simp)
  have e3 := r3 3 (by simp)
  have hrev : neg (hts L rk).reverse = (neg rk.reverse).map (bar (lf a b c)) := by rw [hh, ← List.map_reverse, neg_map]
  have hlow : lowOf L rk = (offFit rk).map (lf a b c) := by unfold lowOf; rw [hh, M.offFit]
  have hturned : turned L rk = (offFit (neg rk.reverse)).map (bar (lf a b c)) := by unfold turned; rw [hrev, M.bar.offFit]
  have hhigh : highOf L rk = (neg (offFit (neg rk.reverse)).reverse).map (lf a b c) := by unfold highOf; rw [hturned, ← List.map_reverse, neg_map_bar]
  have hlasts : lasts N rk = lastsH N rk := by unfold lasts lastsH; rw [(WW 1).lst, (WW 2).lst, (WW 3).lst]; rfl
  have hfirsts : firsts N rk = firstsH N rk := by unfold firsts firstsH; rw [(WW 1).fst, (WW 2).fst, (WW 3).fst]; rfl
  have hbis : ∀ (l : List Int) (i : Nat), l.length = 3 → L.getD (bisN l i) 0 = lf a b c (bisN l i : Int) := fun l i hl => hgetN _ (by
    have := bis_le (below := fun j => decide ((i : Int) < l.getD j 0)) (f := l.length) (lo := 0) (hi := l.length) (Nat.zero_le _)
    unfold bisN; omega)
  have hrow : ∀ one ∈ rws N, rowToll L rk one = a * (hamw (wordOf one 1) (wordOf rk 1) : Int) + b * (hamw (wordOf one 2) (wordOf rk 2) : Int) + c * (hamw (wordOf one 3) (wordOf rk 3) : Int) := fun one ho => by
    have hob := (rws_all N (by omega) one ho).2
    rw [← row_lin ha hb hc hob hbd]
    unfold rowToll
    rw [hh]
    congr 1
    have key : ∀ (u v : List Int), (∀ x ∈ u, 0 ≤ x ∧ x ≤ 3) → List.zipWith (fun (x y : Int) => absI (L.getD x.toNat 0 - y)) u v = List.zipWith (fun (x y : Int) => absI (lf a b c x - y)) u v := by
      intro u
      induction u with
      | nil => intro v _; rfl
      | cons x u ih =>
        intro v hu
        cases v with
        | nil => rfl
        | cons y v =>
          simp only [List.zipWith_cons_cons]
          rw [hget x (hu x List.mem_cons_self), ih v fun z hz => hu z (List.mem_cons_of_mem _ hz)]
    exact key one _ hob
  have hle : ∀ one ∈ rws N, ∀ k ∈ ([1, 2, 3] : List Int), (leastH N (wordOf rk k) : Int) ≤ (hamw (wordOf one k) (wordOf rk k) : Int) := fun one ho k hk => Int.ofNat_le.mpr (leastH_le h3 h5 ho hk)
  have hsame : ∀ one ∈ rws N, ((rowToll L rk one == paid N L rk) = ([1, 2, 3] : List Int).all fun k => hamw (wordOf one k) (wordOf rk k) == leastH N (wordOf rk k)) ∧ paid N L rk ≤ rowToll L rk one := fun one ho => by
    obtain ⟨p1, q1⟩ := cut_eq ha (hle one ho 1 (by simp))
    obtain ⟨p2, q2⟩ := cut_eq hb (hle one ho 2 (by simp))
    obtain ⟨p3, q3⟩ := cut_eq hc (hle one ho 3 (by simp))
    rw [hrow one ho, hpaid]
    refine ⟨?_, by omega⟩
    by_cases hq : hamw (wordOf one 1) (wordOf rk 1) = leastH N (wordOf rk 1) ∧ hamw (wordOf one 2) (wordOf rk 2) = leastH N (wordOf rk 2) ∧ hamw (wordOf one 3) (wordOf rk 3) = leastH N (wordOf rk 3)
    · obtain ⟨z1, z2, z3⟩ := hq
      simp [z1, z2, z3]
    · have : ¬ (a * (hamw (wordOf one 1) (wordOf rk 1) : Int) + b * (hamw (wordOf one 2) (wordOf rk 2) : Int) + c * (hamw (wordOf one 3) (wordOf rk 3) : Int) = a * (leastH N (wordOf rk 1) : Int) + b * (leastH N (wordOf rk 2) : Int) + c * (leastH N (wordOf rk 3) : Int)) := fun e => hq
        ⟨Int.ofNat.inj (q1 (by omega)), Int.ofNat.inj (q2 (by omega)), Int.ofNat.inj (q3 (by omega))⟩
      rw [beq_eq_false_iff_ne.mpr this]
      symm
      rw [Bool.eq_false_iff]
      intro z
      simp only [List.all_cons, List.all_nil, Bool.and_true, Bool.and_eq_true, beq_iff_eq] at z
      exact hq z
  have hbest : bestOf N L rk = bestR N rk := by
    unfold bestOf bestR
    exact List.filter_congr fun one ho => (hsame one ho).1
  have hbb : ∀ one ∈ bestR N rk, ∀ x ∈ one, (0 ≤ x ∧ x ≤ 3) := fun one ho => (rws_all N (by omega) one (List.mem_filter.mp ho).1).2
  refine ⟨h3, h5, hlen, hbd, by rw [hL]; rfl, fun l _ _ => ⟨(WW _).all, (WW _).rise, (WW _).sm, (WW _).ne⟩, ?_, ?_, ?_, ?_, ?_, ?_, ?_⟩
  · rw [hh, M.offToll, hpaid, sum_lin r1, sum_lin hbd]
    rw [show cnt 1 (offU rk []) = cnt 1 rk + (leastH N (wordOf rk 1) : Int) by omega, show cnt 2 (offU rk []) = cnt 2 rk + (leastH N (wordOf rk 2) : Int) by omega, show cnt 3 (offU rk []) = cnt 3 rk + (leastH N (wordOf rk 3) : Int) by omega]
    simp only [Int.mul_add]
    omega
  · rw [hrev, M.bar.offToll, hpaid]
    have s1 : ((offU (neg rk.reverse) []).map (bar (lf a b c))).sum = -((neg (offU (neg rk.reverse) [])).map (lf a b c)).sum := by
      rw [← neg_map_bar, neg_sum]; omega
    have s2 : ((neg rk.reverse).map (bar (lf a b c))).sum = -(rk.map (lf a b c)).sum := by
      rw [← neg_map, neg_sum, List.map_reverse, sum_rev]
    rw [s1, s2, sum_lin (l := neg (offU (neg rk.reverse) [])) (fun x hx => by
      unfold neg at hx
      obtain ⟨u, hu, rfl⟩ := List.mem_map.mp hx
      have := r2 u hu; omega), sum_lin hbd]
    rw [show cnt 1 rk = cnt 1 (neg (offU (neg rk.reverse) [])) + (leastH N (wordOf rk 1) : Int) by omega, show cnt 2 rk = cnt 2 (neg (offU (neg rk.reverse) [])) + (leastH N (wordOf rk 2) : Int) by omega, show cnt 3 rk = cnt 3 (neg (offU (neg rk.reverse) [])) + (leastH N (wordOf rk 3) : Int) by omega]
    simp only [Int.mul_add]
    omega
  · rw [hlow, r4, hlasts, List.map_map]
    unfold byBis
    apply List.map_congr_left
    intro i _
    exact (hbis (lastsH N rk) i rfl).symm
  · rw [hhigh, r5, hfirsts, List.map_map]
    unfold byBis
    apply List.map_congr_left
    intro i _
    exact (hbis (firstsH N rk) i rfl).symm
  · have hne : tollsOf N L rk ≠ [] := by unfold tollsOf; simpa using rws_ne N (by omega)
    obtain ⟨m1, m2⟩ := minL_mem hne
    refine Int.le_antisymm ?_ ?_
    · obtain ⟨one, ho⟩ := List.exists_mem_of_ne_nil _ r6
      rw [← hbest] at ho
      unfold bestOf at ho
      obtain ⟨h1, h2⟩ := List.mem_filter.mp ho
      have e := beq_iff_eq.mp h2
      rw [← e]
      exact m2 _ (List.mem_map_of_mem h1)
    · unfold tollsOf at m1
      obtain ⟨one, h1, h2⟩ := List.mem_map.mp m1
      have := (hsame one h1).2
      unfold tollsOf
      rw [← h2]; exact this
  · rw [hlow, r7, List.map_map, hbest]
    apply List.map_congr_left
    intro i _
    exact (hget _ (col_bound hbb _ (minL_mem (by simpa using r6)).1)).symm
  · rw [hhigh, r8, List.map_map, hbest]
    apply List.map_congr_left
    intro i _
    exact (hget _ (col_bound hbb _ (maxL_mem (by simpa using r6)).1)).symm

theorem rks_len {ns : List Int} : ∀ {xs : List Int} {i : Nat}, (rks ns i xs).length = xs.length
  | [], _ => rfl
  | x :: xs, i => by simp [rks, rks_len (xs := xs)]
theorem rks_bd {ns : List Int} : ∀ {xs : List Int} {i : Nat}, ∀ x ∈ rks ns i xs, 0 ≤ x ∧ x ≤ 3
  | [], _, x, h => nomatch h
  | y :: xs, i, x, h => by
    unfold rks at h
    rcases List.mem_cons.mp h with rfl | h
    · have h1 := Int.fmod_nonneg_of_pos (y + (pickNums ns (some (i : Int)) none (some 5)).sum) (b := 4) (by decide)
      have h2 := Int.fmod_lt_of_pos (y + (pickNums ns (some (i : Int)) none (some 5)).sum) (b := 4) (by decide)
      omega
    · exact rks_bd x h
theorem facts_all (R : ∀ N, 3 ≤ N → N ≤ 5 → ∀ rk ∈ allR N, RankOk N rk) (ns : List Int) : Facts (lawN ns) (levels (ns.sum.fmod 125)) (rks ns 0 ([3, 1, 2, 0, 2].take (lawN ns))) := by
  have h3 : 3 ≤ lawN ns := by unfold lawN; omega
  have h5 : lawN ns ≤ 5 := by unfold lawN; omega
  have hlen : (rks ns 0 ([3, 1, 2, 0, 2].take (lawN ns))).length = lawN ns := by rw [rks_len, List.length_take]; simp; omega
  have hg : ∀ d, 0 ≤ gap (ns.sum.fmod 125) d := fun d => Int.fmod_nonneg_of_pos _ (by decide)
  have g1 := hg 1
  have g2 := hg 5
  have g3 := hg 25
  have e : levels (ns.sum.fmod 125) = [0, 1 + gap (ns.sum.fmod 125) 1, (1 + gap (ns.sum.fmod 125) 1) + (1 + gap (ns.sum.fmod 125) 5), (1 + gap (ns.sum.fmod 125) 1) + (1 + gap (ns.sum.fmod 125) 5) + (1 + gap (ns.sum.fmod 125) 25)] := by
    unfold levels
    simp only [List.cons.injEq, and_true, true_and]
    refine ⟨?_, ?_, ?_⟩ <;> omega
  rw [e]
  refine facts_of (by omega) (by omega) (by omega) h3 h5 hlen rks_bd (fun w hw => ?_) (R _ h3 h5 _ (allR_mem hlen rks_bd))
  have : lawN ns = 3 ∨ lawN ns = 4 ∨ lawN ns = 5 := by omega
  rcases this with h | h | h <;> rw [h] at hw ⊢
  · exact words3 w hw
  · exact words4 w hw
  · exact words5 w hw
end Mine
namespace Mine

theorem r4_0 : ∀ r ∈ allR 3, RankOk 4 (0 :: r) := by unfold RankOk; decide +kernel
theorem r4_1 : ∀ r ∈ allR 3, RankOk 4 (1 :: r) := by unfold RankOk; decide +kernel
theorem r4_2 : ∀ r ∈ allR 3, RankOk 4 (2 :: r) := by unfold RankOk; decide +kernel
theorem r4_3 : ∀ r ∈ allR 3, RankOk 4 (3 :: r) := by unfold RankOk; decide +kernel
theorem r5_00 : ∀ r ∈ allR 3, RankOk 5 (0 :: 0 :: r) := by unfold RankOk; decide +kernel
theorem r5_01 : ∀ r ∈ allR 3, RankOk 5 (0 :: 1 :: r) := by unfold RankOk; decide +kernel
theorem r5_02 : ∀ r ∈ allR 3, RankOk 5 (0 :: 2 :: r) := by unfold RankOk; decide +kernel
theorem r5_03 : ∀ r ∈ allR 3, RankOk 5 (0 :: 3 :: r) := by unfold RankOk; decide +kernel
theorem r5_10 : ∀ r ∈ allR 3, RankOk 5 (1 :: 0 :: r) := by unfold RankOk; decide +kernel
theorem r5_11 : ∀ r ∈ allR 3, RankOk 5 (1 :: 1 :: r) := by unfold RankOk; decide +kernel
theorem r5_12 : ∀ r ∈ allR 3, RankOk 5 (1 :: 2 :: r) := by unfold RankOk; decide +kernel
theorem r5_13 : ∀ r ∈ allR 3, RankOk 5 (1 :: 3 :: r) := by unfold RankOk; decide +kernel
theorem r5_20 : ∀ r ∈ allR 3, RankOk 5 (2 :: 0 :: r) := by unfold RankOk; decide +kernel
theorem r5_21 : ∀ r ∈ allR 3, RankOk 5 (2 :: 1 :: r) := by unfold RankOk; decide +kernel
theorem r5_22 : ∀ r ∈ allR 3, RankOk 5 (2 :: 2 :: r) := by unfold RankOk; decide +kernel
theorem r5_23 : ∀ r ∈ allR 3, RankOk 5 (2 :: 3 :: r) := by unfold RankOk; decide +kernel
theorem r5_30 : ∀ r ∈ allR 3, RankOk 5 (3 :: 0 :: r) := by unfold RankOk; decide +kernel
theorem r5_31 : ∀ r ∈ allR 3, RankOk 5 (3 :: 1 :: r) := by unfold RankOk; decide +kernel
theorem r5_32 : ∀ r ∈ allR 3, RankOk 5 (3 :: 2 :: r) := by unfold RankOk; decide +kernel
theorem r5_33 : ∀ r ∈ allR 3, RankOk 5 (3 :: 3 :: r) := by unfold RankOk; decide +kernel
theorem ranks4 : ∀ rk ∈ allR 4, RankOk 4 rk := fun rk h => by
  unfold allR at h
  obtain ⟨x, hx, h⟩ := List.mem_flatMap.mp h
  obtain ⟨r, hr, rfl⟩ := List.mem_map.mp h
  simp only [List.mem_cons, List.not_mem_nil, or_false] at hx
  rcases hx with rfl | rfl | rfl | rfl
  · exact r4_0 r hr
  · exact r4_1 r hr
  · exact r4_2 r hr
  · exact r4_3 r hr
theorem ranks5 : ∀ rk ∈ allR 5, RankOk 5 rk := fun rk h => by
  unfold allR at h
  obtain ⟨x, hx, h⟩ := List.mem_flatMap.mp h
  obtain ⟨r, hr, rfl⟩ := List.mem_map.mp h
  unfold allR at hr
  obtain ⟨y, hy, hr⟩ := List.mem_flatMap.mp hr
  obtain ⟨q, hq, rfl⟩ := List.mem_map.mp hr
  simp only [List.mem_cons, List.not_mem_nil, or_false] at hx hy
  rcases hx with rfl | rfl | rfl | rfl <;> rcases hy with rfl | rfl | rfl | rfl
  · exact r5_00 q hq
  · exact r5_01 q hq
  · exact r5_02 q hq
  · exact r5_03 q hq
  · exact r5_10 q hq
  · exact r5_11 q hq
  · exact r5_12 q hq
  · exact r5_13 q hq
  · exact r5_20 q hq
  · exact r5_21 q hq
  · exact r5_22 q hq
  · exact r5_23 q hq
  · exact r5_30 q hq
  · exact r5_31 q hq
  · exact r5_32 q hq
  · exact r5_33 q hq
theorem ranks_all : ∀ N, 3 ≤ N → N ≤ 5 → ∀ rk ∈ allR N, RankOk N rk := fun N h3 h5 => by
  have : N = 3 ∨ N = 4 ∨ N = 5 := by omega
  rcases this with rfl | rfl | rfl
  · exact ranks3
  · exact ranks4
  · exact ranks5
theorem law_facts (ns : List Int) : Facts (lawN ns) (levels (ns.sum.fmod 125)) (rks ns 0 ([3, 1, 2, 0, 2].take (lawN ns))) := facts_all ranks_all ns
end Mine
namespace Mine
def lawRk (ns : List Int) : List Int := rks ns 0 ([3, 1, 2, 0, 2].take (lawN ns))
theorem law_top {prog : Program} {w : World} {mg mb : Str → Option Value} {s₁ : Shared} {l : Addr} {vs : List Value} {ns : List Int} {R : Result → Shared → Prop} (g : s₁.heap.Ns mainGlobals mg) (b : s₁.heap.Ns builtinsNs mb) (bi : ∀ x : Str, x ≠ "__name__" → mb x = bootBuiltins x)
    (nl : s₁.heap.NoLimit) (K : (hd.heap_39 w.params).In s₁.heap) (hg : s₁.gens = #[]) (hl : s₁.heap.IsList l vs.toArray) (hi : IntsAre vs ns) (hz : ns.length ≤ 63) (F : Facts (lawN ns) (levels (ns.sum.fmod 125)) (lawRk ns))
    (h : ∀ s', (∀ b o, s₁.heap.get? b = some o → s'.heap.get? b = some o) → s'.os = s₁.os → s'.gens = #[] → R (.ok (.ret (.bool true))) s') :
    codeAny (model prog w) callerA (.call (.ref 96) ⟨[.ref l], []⟩) R s₁ := by
  let C : Base := ⟨prog, w, s₁.heap, s₁.os, mg, mb, g, b, bi, nl⟩
  have law := law_ok (C := C) (n := 3) K hz rfl rfl rfl F
  refine law callerA s₁ [] [] [.ref l] R ⟨rfl, by decide, by decide⟩ ⟨Nat.le_refl _, fun _ _ e => e, hg, rfl, rfl, List.nodup_nil, fun _ h => (nomatch h), fun _ h => (nomatch h), fun k o hk => by simp at hk⟩ ?_ fun v s' P hv => ?_
  · simp only [AllIs, AV.Is]
    exact ⟨_, [], rfl, ⟨l, vs, rfl, by simp, hl, allIs_ints hi⟩, rfl⟩
  · have e : v = .bool true := hv
    subst e
    exact h s' (fun b o e => P.keep b o (by simp) e) P.os P.gens
theorem t1 (FA : ∀ ns : List Int, Facts (lawN ns) (levels (ns.sum.fmod 125)) (lawRk ns)) : PySem.Challenge.rw_pg0163_01.Holds := hd (by
  k_fill
  intro w s₀ s₁ mg mb G Y fa o pm cd doc dV kV ho hd' hcd hD hmg hg args vals as hpre hlay hrd hwl hlo
  have KX := kIn_of Y
  refine Ground.open G ?_
  intro T B D TE TW
  try (refine guard_noD D (by decide +kernel) ?_; clear D)
  have hfa : fa = 96 := by
    have h96 : mg "law" = some (.ref 96) := mg_of KX T.g rfl
    have e := hmg.symm.trans h96
    exact Value.ref.inj (Option.some.inj e)
  subst hfa
  clear hmg
  wrow_args hpre hlay hrd hwl hlo
  all_goals (
    first | refine callC_kw (enter_call ?_) | refine enter_call ?_ | refine callC_kw (enter_callW ?_) | refine enter_callW ?_ | w_how
    w_top on
    try refine codeAny_mono ?_ (fun _ _ g => GoodW.toG g))
  rename_i hL _ _ _ hI _ hc _
  exact law_top T.g T.b T.builtins T.nolimit KX hg hL hI (by omega) (FA _) fun s' hk ho hgs => ⟨.inl ⟨_, _, [], rfl, fun _ => rfl, ReadsW.bool true, (by first | rfl | wrow_post), fun _ => ⟨List.nodup_nil, fun _ hm => (nomatch hm)⟩⟩, hk, ho, hgs⟩)
end Mine
namespace Mine
theorem law_holds : PySem.Challenge.rw_pg0163_01.Holds := t1 fun ns => law_facts ns
end Mine
theorem PySem.Challenge.cw_pg0163_01_holds : PySem.Challenge.rw_pg0163_01.Holds := by
  exact Mine.law_holds
