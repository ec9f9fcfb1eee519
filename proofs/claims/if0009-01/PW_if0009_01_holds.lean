import PyProof.Rows.All
import Wide.All
import OpenK.AllK
import Wide.FinOn
import PySem.Challenge.RW_if0009_01
set_option Elab.async false

section
open PySem PySem.Calls PySem.Spec PyProof.Rows PySem.W
set_option Elab.async false
namespace Mine

/-! the locals of a frame, as an association list; the newest ahead -/
noncomputable def look : List (Str × Value) → Str → Option Value
  | [], _ => none
  | (y, v) :: r, x => if x = y then some v else look r x

/-- what is known of one object -/
inductive Fact where
  | loc (l : List (Str × Value))
  | cell (v : Option Value)
  | list (items : List Value)
  | tup (items : List Value)
  | bya (b : Array UInt8)
  | raw (o : Obj)

noncomputable def Fact.at (h : Heap) (a : Addr) : Fact → Prop
  | .loc l => ∃ m, h.Ns a m ∧ ∀ x v, look l x = some v → m x = some v
  | .cell v => h.IsCell a v
  | .list its => h.PlainList a its.toArray
  | .tup its => IsTup h a its.toArray
  | .bya b => ∃ o, h.get? a = some o ∧ o.cls = .type "bytearray" ∧ o.data = .bytearray b 0
  | .raw o => h.get? a = some o

theorem Fact.live {f : Fact} {h : Heap} {a : Addr} (x : f.at h a) : ∃ o, h.get? a = some o := by
  cases f with
  | loc l => obtain ⟨m, ⟨o, es, ep, e, _⟩, _⟩ := x; exact ⟨o, e⟩
  | cell v => obtain ⟨o, e, _⟩ := x; exact ⟨o, e⟩
  | list v => obtain ⟨o, e⟩ := x; exact ⟨_, e⟩
  | tup v => obtain ⟨o, e, _⟩ := x; exact ⟨o, e⟩
  | bya v => obtain ⟨o, e, _⟩ := x; exact ⟨o, e⟩
  | raw o => exact ⟨o, x⟩

theorem Fact.congr {f : Fact} {h h' : Heap} {a : Addr} (e : ∀ o, h.get? a = some o → h'.get? a = some o) (x : f.at h a) : f.at h' a := by
  cases f with
  | loc l => obtain ⟨m, ⟨o, es, ep, q, r⟩, r'⟩ := x; exact ⟨m, ⟨o, es, ep, e _ q, r⟩, r'⟩
  | cell v => obtain ⟨o, q, r⟩ := x; exact ⟨o, e _ q, r⟩
  | list v => obtain ⟨o, q⟩ := x; exact ⟨o, e _ q⟩
  | tup v => obtain ⟨o, q, r⟩ := x; exact ⟨o, e _ q, r⟩
  | bya v => obtain ⟨o, q, r⟩ := x; exact ⟨o, e _ q, r⟩
  | raw o => exact e _ x

theorem Fact.lt {f : Fact} {h : Heap} {a : Addr} (x : f.at h a) : a < h.objs.size := by
  obtain ⟨o, e⟩ := Fact.live x
  exact Heap.lt_size e

noncomputable abbrev Led := List (Addr × Fact)

/-- from the call's start σ, upon a base that stands still, with a ledger of what is the call's own -/
structure S (σ : Shared) (h₀ : Heap) (fs : Led) (s : Shared) : Prop where
  same : ∃ h tk, s = { σ with heap := h, toks := tk }
  keep : ∀ b o, h₀.get? b = some o → s.heap.get? b = some o
  holds : ∀ q ∈ fs, q.2.at s.heap q.1
  new : ∀ q ∈ fs, h₀.get? q.1 = none
  nd : (fs.map (·.1)).Nodup

section
variable {σ : Shared} {h₀ : Heap} {fs fs' : Led} {s s' : Shared} {a : Addr} {f f' : Fact}

theorem S.get (H : S σ h₀ fs s) (hm : (a, f) ∈ fs) : f.at s.heap a := H.holds _ hm
theorem S.up (H : S σ h₀ fs s) (x : f.at h₀ a) : f.at s.heap a := Fact.congr (fun o e => H.keep a o e) x
theorem S.tok (H : S σ h₀ fs s) (t : Nat) : S σ h₀ fs { s with toks := t } := by
  obtain ⟨⟨h, tk, rfl⟩, r2, r3, r4, r5⟩ := H
  exact ⟨⟨h, t, rfl⟩, r2, r3, r4, r5⟩
theorem S.start (s : Shared) : S s s.heap [] s := ⟨⟨s.heap, s.toks, rfl⟩, fun _ _ e => e, fun _ h => (nomatch h), fun _ h => (nomatch h), List.nodup_nil⟩

theorem S.grow (H : S σ h₀ fs s) (k : Keeps s s') : S σ h₀ fs s' := by
  obtain ⟨⟨h, tk, rfl⟩, r2, r3, r4, r5⟩ := H
  obtain ⟨h', tk', rfl, k⟩ := k
  exact ⟨⟨h', tk', rfl⟩, fun b o e => k b o (r2 b o e), fun q hq => Fact.congr (fun o e => k _ o e) (r3 q hq), r4, r5⟩

theorem S.fresh (H : S σ h₀ fs s) (hn : s.heap.get? a = none) : h₀.get? a = none := by
  cases e : h₀.get? a with
  | none => rfl
  | some o => rw [H.keep a o e] at hn; cases hn
theorem S.apart (H : S σ h₀ fs s) (hn : s.heap.get? a = none) : a ∉ fs.map (·.1) := fun hm => by
  obtain ⟨q, hq, rfl⟩ := List.mem_map.mp hm
  obtain ⟨o, e⟩ := Fact.live (H.holds q hq)
  rw [e] at hn; cases hn

theorem S.add (H : S σ h₀ fs s) (k : Keeps s s') (hn : s.heap.get? a = none) (x : f.at s'.heap a) : S σ h₀ ((a, f) :: fs) s' := by
  have H' := H.grow k
  refine ⟨H'.same, H'.keep, fun q hq => ?_, fun q hq => ?_, ?_⟩
  · rcases List.mem_cons.mp hq with rfl | hq
    · exact x
    · exact H'.holds q hq
  · rcases List.mem_cons.mp hq with rfl | hq
    · exact H.fresh hn
    · exact H.new q hq
  · exact List.nodup_cons.mpr ⟨H.apart hn, H.nd⟩

theorem get_size_none (h : Heap) : h.get? h.objs.size = none := by
  cases e : h.get? h.objs.size with
  | none => rfl
  | some o => exact absurd (Heap.lt_size e) (Nat.lt_irrefl _)
theorem keeps_push (s : Shared) (o : Obj) (t : Nat) : Keeps s { s with heap := s.heap.push o, toks := t } := ⟨_, t, rfl, fun _ _ e => Heap.get?_push_of_some _ e⟩
theorem keeps_refl (s : Shared) : Keeps s s := ⟨s.heap, s.toks, rfl, fun _ _ e => e⟩
theorem keeps_trans {s₁ s₂ s₃ : Shared} (x : Keeps s₁ s₂) (y : Keeps s₂ s₃) : Keeps s₁ s₃ := by
  obtain ⟨h, t, rfl, k⟩ := x
  obtain ⟨h', t', rfl, k'⟩ := y
  exact ⟨h', t', rfl, fun b o e => k' b o (k b o e)⟩

theorem S.push (H : S σ h₀ fs s) (o : Obj) (t : Nat) (hf : o.isFreed = false := by rfl) : S σ h₀ ((s.heap.objs.size, .raw o) :: fs) { s with heap := s.heap.push o, toks := t } :=
  H.add (keeps_push s o t) (get_size_none _) (Heap.get?_push_size _ hf)

/-- one entry of the ledger is another one now -/
inductive Upd (a : Addr) (f f' : Fact) : Led → Led → Prop
  | head {r : Led} : Upd a f f' ((a, f) :: r) ((a, f') :: r)
  | tail {q : Addr × Fact} {r r' : Led} : Upd a f f' r r' → Upd a f f' (q :: r) (q :: r')

theorem Upd.addrs (u : Upd a f f' fs fs') : fs'.map (·.1) = fs.map (·.1) := by
  induction u with
  | head => rfl
  | tail _ ih => simp [ih]
theorem Upd.mem (u : Upd a f f' fs fs') : (a, f) ∈ fs := by
  induction u with
  | head => exact .head _
  | tail _ ih => exact .tail _ ih
theorem Upd.cases (u : Upd a f f' fs fs') (nd : (fs.map (·.1)).Nodup) : ∀ q ∈ fs', q = (a, f') ∨ (q ∈ fs ∧ q.1 ≠ a) := by
  induction u with
  | head =>
    rename_i r
    intro q hq
    rcases List.mem_cons.mp hq with rfl | hq
    · exact .inl rfl
    · refine .inr ⟨.tail _ hq, fun e => ?_⟩
      have := (List.nodup_cons.mp nd).1
      exact this (e ▸ List.mem_map_of_mem (f := (·.1)) hq)
  | tail u ih =>
    rename_i p r r'
    intro q hq
    have nd' := List.nodup_cons.mp nd
    rcases List.mem_cons.mp hq with rfl | hq
    · refine .inr ⟨.head _, fun e => nd'.1 ?_⟩
      have := List.mem_map_of_mem (f := (·.1)) u.mem
      show q.1 ∈ _
      rw [e]; exact this
    · rcases ih nd'.2 q hq with h | ⟨h, h'⟩
      · exact .inl h
      · exact .inr ⟨.tail _ h, h'⟩

theorem S.upd (H : S σ h₀ fs s) (u : Upd a f f' fs fs') {h' : Heap} (t : Nat) (hs : Heap.ExtBut a s.heap h') (x : f'.at h' a) : S σ h₀ fs' { s with heap := h', toks := t } := by
  have hn : h₀.get? a = none := H.new _ u.mem
  refine ⟨?_, fun b o e => ?_, fun q hq => ?_, fun q hq => ?_, u.addrs ▸ H.nd⟩
  · obtain ⟨h, tk, rfl⟩ := H.same; exact ⟨h', t, rfl⟩
  · refine hs b o (fun e' => ?_) (H.keep b o e)
    subst e'; rw [hn] at e; cases e
  · rcases u.cases H.nd q hq with rfl | ⟨h1, h2⟩
    · exact x
    · exact Fact.congr (fun o e => hs _ o h2 e) (H.holds q h1)
  · rcases u.cases H.nd q hq with rfl | ⟨h1, h2⟩
    · exact hn
    · exact H.new q h1

theorem S.drop (H : S σ h₀ fs s) (l : fs'.Sublist fs) : S σ h₀ fs' s :=
  ⟨H.same, H.keep, fun q hq => H.holds q (l.subset hq), fun q hq => H.new q (l.subset hq), (l.map (·.1)).nodup H.nd⟩

/-- the call's end: what stood at its start stands -/
theorem S.keeps (H : S σ σ.heap fs s) : Keeps σ s := by
  obtain ⟨⟨h, tk, rfl⟩, k, _⟩ := H
  exact ⟨h, tk, rfl, k⟩
theorem S.new' (H : S σ h₀ fs s) (hm : (a, f) ∈ fs) : h₀.get? a = none := H.new _ hm
end

/-! names -/
structure EnvAt (env : Env) (sc : Scope) (L : Addr) (cs : List (Str × Addr)) : Prop where
  scope : env.scope = sc
  locals : env.locals = L
  cells : env.cells = cs
  globals : env.globals = mainGlobals
  builtins : env.builtins = builtinsNs

noncomputable abbrev Wp {α : Type} (prog : Program) (w : World) (A : Around) (t : Sem α) (Q : α → Shared → Prop) (s : Shared) : Prop := wpAny (model prog w) A t Q (fun _ _ => False) s

/-- what the top left, as far as the calls ask it -/
structure Gnd (mg mb : Str → Option Value) (h : Heap) : Prop where
  g : h.Ns mainGlobals mg
  b : h.Ns builtinsNs mb
  boot : ∀ x : Str, x ≠ "__name__" → mb x = bootBuiltins x
  nolimit : h.NoLimit
theorem Gnd.keeps {mg mb : Str → Option Value} {h h' : Heap} (G : Gnd mg mb h) (k : ∀ b o, h.get? b = some o → h'.get? b = some o) : Gnd mg mb h' :=
  ⟨G.g.keeps k, G.b.keeps k, G.boot, let ⟨mc, a, r⟩ := G.nolimit; ⟨mc, a.keeps k, r⟩⟩
theorem Gnd.up {mg mb : Str → Option Value} {σ : Shared} {h₀ : Heap} {fs : Led} {s : Shared} (G : Gnd mg mb h₀) (H : S σ h₀ fs s) : Gnd mg mb s.heap := G.keeps H.keep

theorem look_head {x : Str} {v : Value} {r : List (Str × Value)} : look ((x, v) :: r) x = some v := if_pos rfl
theorem look_tail {x y : Str} {v u : Value} {r : List (Str × Value)} (hne : (x == y) = false) (h : look r x = some u) : look ((y, v) :: r) x = some u := by
  have : x ≠ y := fun e => by subst e; simp at hne
  unfold look; rw [if_neg this]; exact h

section
variable {prog : Program} {w : World} {A : Around} {s : Shared} {σ : Shared} {h₀ : Heap} {fs fs' : Led} {env : Env} {sc : Scope} {L : Addr} {cs : List (Str × Addr)} {x : Str} {pos : Pos} {v : Value} {l : List (Str × Value)}

theorem n_local {Q : Value → Shared → Prop} (he : EnvAt env sc L cs) (hl : sc.names.lookup x = some .local) (hk : sc.kind = .function) (hd : (x == ("__debug__" : Str)) = false)
    (hm : (Fact.loc l).at s.heap L) (hv : look l x = some v) (h : Q v s) : Wp prog w A (eval (.Name x pos) env) Q s := by
  obtain ⟨m, hn, hmv⟩ := hm
  exact wpAny_Name (wpAny_loadName_local (he.scope ▸ hk) (by unfold Env.kindOf; rw [he.scope]; exact hl) (by rw [he.locals]; exact hn) (hmv _ _ hv) h) hd
theorem n_load {Q : Value → Shared → Prop} (he : EnvAt env sc L cs) (hl : sc.names.lookup x = some .local) (hk : sc.kind = .function)
    (hm : (Fact.loc l).at s.heap L) (hv : look l x = some v) (h : Q v s) : Wp prog w A (loadName env x) Q s := by
  obtain ⟨m, hn, hmv⟩ := hm
  exact wpAny_loadName_local (he.scope ▸ hk) (by unfold Env.kindOf; rw [he.scope]; exact hl) (by rw [he.locals]; exact hn) (hmv _ _ hv) h
theorem n_cell {Q : Value → Shared → Prop} {c : Addr} (he : EnvAt env sc L cs) (hl : sc.names.lookup x = some .cell) (hk : sc.kind = .function) (hd : (x == ("__debug__" : Str)) = false)
    (hc : cs.lookup x = some c) (hv : (Fact.cell (some v)).at s.heap c) (h : Q v s) : Wp prog w A (eval (.Name x pos) env) Q s :=
  wpAny_Name (wpAny_loadName_cell (he.scope ▸ hk) (by unfold Env.kindOf; rw [he.scope]; exact hl) (by rw [he.cells]; exact hc) hv h) hd
theorem n_global {Q : Value → Shared → Prop} {mg mb : Str → Option Value} (he : EnvAt env sc L cs) (hl : sc.names.lookup x = some .globalImplicit) (hk : sc.kind = .function) (hd : (x == ("__debug__" : Str)) = false)
    (G : Gnd mg mb s.heap) (hv : mg x = some v) (h : Q v s) : Wp prog w A (eval (.Name x pos) env) Q s :=
  Name_function_global (he.scope ▸ hk) (by unfold Env.kindOf; rw [he.scope]; exact hl) (loadGlobal_global (by rw [he.globals]; exact G.g) hv h) hd
theorem n_builtin {Q : Value → Shared → Prop} {mg mb : Str → Option Value} (he : EnvAt env sc L cs) (hl : sc.names.lookup x = some .globalImplicit) (hk : sc.kind = .function) (hd : (x == ("__debug__" : Str)) = false)
    (G : Gnd mg mb s.heap) (hn : mg x = none) (hb : bootBuiltins x = some v) (hne : (x == ("__name__" : Str)) = false) (h : Q v s) : Wp prog w A (eval (.Name x pos) env) Q s :=
  Name_function_global (he.scope ▸ hk) (by unfold Env.kindOf; rw [he.scope]; exact hl)
    (loadGlobal_builtin (by rw [he.globals]; exact G.g) hn (by rw [he.builtins]; exact G.b) ((G.boot x fun e => by subst e; simp at hne).trans hb) h) hd

theorem st_local {Q : Unit → Shared → Prop} (he : EnvAt env sc L cs) (hl : sc.names.lookup x = some .local) (hk : sc.kind = .function)
    (H : S σ h₀ fs s) (u : Upd L (.loc l) (.loc ((x, v) :: l)) fs fs') (h : ∀ s', S σ h₀ fs' s' → Q () s') : Wp prog w A (storeName env x v) Q s := by
  obtain ⟨m, hn, hmv⟩ := H.get u.mem
  refine wpAny_storeName_local (by unfold Env.kindOf; rw [he.scope]; exact hl) (by rw [he.locals]; exact hn) (fun h' hn' hs' => h _ ?_) (by rw [he.scope, hk]; rfl)
  rw [he.locals] at hn' hs'
  refine H.upd u _ hs'.extBut ⟨_, hn', fun y q e => ?_⟩
  unfold look at e
  by_cases hy : y = x
  · rw [if_pos hy] at e; rw [if_pos hy]; exact e
  · rw [if_neg hy] at e; rw [if_neg hy]; exact hmv _ _ e
theorem st_cell {Q : Unit → Shared → Prop} {c : Addr} {v₀ : Option Value} (he : EnvAt env sc L cs) (hl : sc.names.lookup x = some .cell) (hk : sc.kind = .function)
    (hc : cs.lookup x = some c) (H : S σ h₀ fs s) (u : Upd c (.cell v₀) (.cell (some v)) fs fs') (h : ∀ s', S σ h₀ fs' s' → Q () s') : Wp prog w A (storeName env x v) Q s :=
  wpAny_storeName_cell (he.scope ▸ hk) (by unfold Env.kindOf; rw [he.scope]; exact hl) (by rw [he.cells]; exact hc) (H.get u.mem) (fun h' hc' hs' => h _ (H.upd u s.toks hs'.extBut hc'))
end

/-! defs -/
/-- the i-th statement of the text, a def: its parameters, body, scope -/
noncomputable def fnAt (i : Nat) : Str × Arguments × List Stmt × Scope := match PySem.Challenge.pw_if0009_01.main.body[i]? with
  | some (.FunctionDef n a b _ _ _ sc _ _ _) => (n, a, b, sc)
  | _ => default

/-- at a stands the def so named, of such a make -/
structure IsFn (a : Addr) (nm : Str) (args : Arguments) (body : List Stmt) (sc : Scope) (h : Heap) : Prop where
  ex : ∃ o doc pm an cdv ct, h.get? a = some o ∧ o.data = .func (W.fnOf nm nm args body sc .none .none doc pm an cdv ct) ∧ h.CodeRec cdv nm
theorem IsFn.keeps {a : Addr} {nm : Str} {args : Arguments} {body : List Stmt} {sc : Scope} {h h' : Heap} (x : IsFn a nm args body sc h) (k : ∀ b o, h.get? b = some o → h'.get? b = some o) : IsFn a nm args body sc h' :=
  ⟨let ⟨o, doc, pm, an, cdv, ct, e, d, c⟩ := x.ex; ⟨o, doc, pm, an, cdv, ct, k _ _ e, d, c.keeps k⟩⟩
noncomputable abbrev IsDef (a : Addr) (i : Nat) (h : Heap) : Prop := IsFn a (fnAt i).1 (fnAt i).2.1 (fnAt i).2.2.1 (fnAt i).2.2.2 h

/-- what is around a call: nothing handled; room for frames and C units -/
structure Room (A : Around) (d u : Nat) : Prop where
  handled : A.handled = none
  depth : A.depth + d < recursionLimit
  units : A.units + u < cLine
theorem Room.less {A : Around} {d u d' u' : Nat} (R : Room A d u) (h1 : d' ≤ d) (h2 : u' ≤ u) : Room A d' u' :=
  ⟨R.handled, Nat.lt_of_le_of_lt (Nat.add_le_add_left h1 _) R.depth, Nat.lt_of_le_of_lt (Nat.add_le_add_left h2 _) R.units⟩
theorem Room.deeper {A : Around} {d u : Nat} (R : Room A (d + 1) (u + 3)) (env : Env) : Room (A.deeper env) d u :=
  ⟨R.handled, by have := R.depth; simp only [Around.deeper]; omega, by have := R.units; simp only [Around.deeper_units]; omega⟩

section
variable {prog : Program} {w : World} {A : Around} {s : Shared} {a : Addr} {nm : Str} {args : Arguments} {body : List Stmt} {sc : Scope} {vals : List Value} {ns : List Str} {Q : Value → Shared → Prop}

theorem look_of_lookup : ∀ {l : List (Str × Value)} {x : Str} {v : Value}, look l x = some v → l.lookup x = some v
  | [], _, _, h => by cases h
  | (y, u) :: r, x, v, h => by
    unfold look at h
    rw [List.lookup_cons]
    by_cases hx : x = y
    · rw [if_pos hx] at h; subst hx; simpa using h
    · rw [if_neg hx] at h
      have : (x == y) = false := by simpa using hx
      rw [this]; exact look_of_lookup h

/-- a plain def is called: no cells -/
theorem enter (F : IsFn a nm args body sc s.heap) {mg mb : Str → Option Value} (G : Gnd mg mb s.heap) {d u : Nat} (R : Room A (d + 1) (u + 3)) {lb : List (Str × Value)}
    (hbind : ∀ doc pm an cdv ct, bindArgs (W.fnOf nm nm args body sc .none .none doc pm an cdv ct) ⟨vals, []⟩ = pure (ns.zip vals)) (hlb : (ns.zip vals).reverse = lb)
    (hcell : (sc.names.all fun x => x.2 != .cell) = true) (hloc : (ns.all fun x => decide (sc.names.lookup x = some .local)) = true)
    (hco : sc.isCoroutine = false) (hgen : sc.isGenerator = false) (hk : sc.kind = .function)
    (h : ∀ (A' : Around) (env : Env) (L : Addr) (s₁ : Shared), Room A' d u → EnvAt env sc L [] → S s s.heap [(L, .loc lb)] s₁ →
      Wp prog w A' (execs body env) (fun f s' => Q (match f with | .ret v => v | _ => .none) s') s₁) :
    Wp prog w A (call (.ref a) vals) Q s := by
  obtain ⟨o, doc, pm, an, cdv, ct, ho, hd, hc⟩ := F.ex
  refine wpAny_call (codeAny_call_def (fd := W.fnOf nm nm args body sc .none .none doc pm an cdv ct) (body := body) (binds := ns.zip vals) (by have := R.depth; omega) ho hd G.nolimit hc rfl (.of_eq (hbind ..))
    (fun x hx => by simpa using List.all_eq_true.mp hcell x hx) (fun x hx => by simpa using List.all_eq_true.mp hloc x.1 (List.of_mem_zip hx).1) (fun h₁ hns hk₁ => ?_) hco hgen hk)
  refine wpAny_mono (h _ _ s.heap.objs.size _ (R.deeper _) ⟨rfl, rfl, rfl, rfl, rfl⟩ ?_) (fun f s' hq => hq) (fun _ _ q => q.elim)
  refine (S.start s).add ⟨h₁, _, rfl, hk₁⟩ (get_size_none _) ⟨_, hns, fun x v e => look_of_lookup (by rw [hlb]; exact e)⟩
end
theorem W_gen {α : Type} {prog : Program} {w : World} {A : Around} {s : Shared} {t : Sem α} {Q : α → Shared → Prop} (h : ∀ Q' : α → Shared → Prop, (∀ a s', Q a s' → Q' a s') → Wp prog w A t Q' s) : Wp prog w A t Q s := h Q fun _ _ x => x
end Mine
end

section
open PySem PySem.Calls PySem.Spec PyProof.Rows PySem.W
set_option Elab.async false
namespace Mine

section
variable {prog : Program} {w : World} {A : Around} {s : Shared} {σ : Shared} {h₀ : Heap} {fs fs' : Led} {env : Env} {sc : Scope} {L : Addr} {cs : List (Str × Addr)} {x : Str} {pos : Pos} {v : Value} {l : List (Str × Value)}

/-! a value with a token, a state with one more: both become letters -/
theorem tokI {i : Int} {u : Tok} {t : Nat} {Q : Value → Shared → Prop} (H : S σ h₀ fs s) (h : ∀ u' s', S σ h₀ fs s' → Q (.int i u') s') : Q (.int i u) { s with toks := t } := h _ _ (H.tok t)
theorem tokS {i : Str} {u : Tok} {t : Nat} {Q : Value → Shared → Prop} (H : S σ h₀ fs s) (h : ∀ u' s', S σ h₀ fs s' → Q (.str i u') s') : Q (.str i u) { s with toks := t } := h _ _ (H.tok t)
theorem tokY {i : Array UInt8} {u : Tok} {t : Nat} {Q : Value → Shared → Prop} (H : S σ h₀ fs s) (h : ∀ u' s', S σ h₀ fs s' → Q (.bytes i u') s') : Q (.bytes i u) { s with toks := t } := h _ _ (H.tok t)
theorem tokV {i : Value} {t : Nat} {Q : Value → Shared → Prop} (H : S σ h₀ fs s) (h : ∀ s', S σ h₀ fs s' → Q i s') : Q i { s with toks := t } := h _ (H.tok t)

theorem c_int {i : Int} {k : Nat} {Q : Value → Shared → Prop} (H : S σ h₀ fs s) (h : ∀ u s', S σ h₀ fs s' → Q (.int i u) s') : Wp prog w A (eval (.Constant (.int i) k pos) env) Q s := wpAny_Constant_int (tokI H h)
theorem c_str {i : Str} {k : Nat} {Q : Value → Shared → Prop} (H : S σ h₀ fs s) (h : ∀ u s', S σ h₀ fs s' → Q (.str i u) s') : Wp prog w A (eval (.Constant (.str i) k pos) env) Q s := wpAny_Constant_str (tokS H h)
theorem c_none {k : Nat} {Q : Value → Shared → Prop} (h : Q .none s) : Wp prog w A (eval (.Constant .none k pos) env) Q s := wpAny_Constant_none h
theorem c_bool {b : Bool} {k : Nat} {Q : Value → Shared → Prop} (h : Q (.bool b) s) : Wp prog w A (eval (.Constant (.bool b) k pos) env) Q s := wpAny_Constant_bool h

/-! ints -/
section
variable {a b : Int} {t u : Tok} {Q : Value → Shared → Prop}
theorem o_add (H : S σ h₀ fs s) (h : ∀ u s', S σ h₀ fs s' → Q (.int (a + b) u) s') : Wp prog w A (binaryOp .Add (.int a t) (.int b u)) Q s := add_int (tokI H h)
theorem o_sub (H : S σ h₀ fs s) (h : ∀ u s', S σ h₀ fs s' → Q (.int (a - b) u) s') : Wp prog w A (binaryOp .Sub (.int a t) (.int b u)) Q s := sub_int (tokI H h)
theorem o_mul (H : S σ h₀ fs s) (hok : IntMulOk a b) (h : ∀ u s', S σ h₀ fs s' → Q (.int (a * b) u) s') : Wp prog w A (binaryOp .Mult (.int a t) (.int b u)) Q s := mul_int (tokI H h) hok
theorem o_div (H : S σ h₀ fs s) (hb : 0 < b ∧ b < 1073741824) (h : ∀ u s', S σ h₀ fs s' → Q (.int (a / b) u) s') : Wp prog w A (binaryOp .FloorDiv (.int a t) (.int b u)) Q s := by
  refine floordiv_int (by omega) ?_ (.inl (PyProof.noPylong_small (by omega)))
  rw [Int.fdiv_eq_ediv_of_nonneg _ (by omega)]
  exact tokI H h
theorem o_mod (H : S σ h₀ fs s) (hb : 0 < b) (h : ∀ u s', S σ h₀ fs s' → Q (.int (a % b) u) s') : Wp prog w A (binaryOp .Mod (.int a t) (.int b u)) Q s := by
  refine mod_int' (by omega) ?_
  rw [Int.fmod_eq_emod_of_nonneg _ (by omega)]
  exact tokI H h
theorem o_pow (H : S σ h₀ fs s) (hb : 0 ≤ b ∧ b ≤ 1000000) (ha : a.natAbs < 2 ^ 64) (h : ∀ u s', S σ h₀ fs s' → Q (.int (a ^ b.toNat) u) s') : Wp prog w A (binaryOp .Pow (.int a t) (.int b u)) Q s :=
  pow_int_small hb.1 hb.2 ha (tokI H h)
theorem o_shr (H : S σ h₀ fs s) (hb : 0 ≤ b) (h : ∀ u s', S σ h₀ fs s' → Q (.int (a / 2 ^ b.toNat) u) s') : Wp prog w A (binaryOp .RShift (.int a t) (.int b u)) Q s := by
  refine rshift_int hb ?_
  rw [Int.fdiv_eq_ediv_of_nonneg _ (Int.pow_nonneg (by decide))]
  exact tokI H h
theorem o_and (H : S σ h₀ fs s) (ha : 0 ≤ a) (hb : 0 ≤ b) (h : ∀ u s', S σ h₀ fs s' → Q (.int ((a.toNat &&& b.toNat : Nat) : Int) u) s') : Wp prog w A (binaryOp .BitAnd (.int a t) (.int b u)) Q s := by
  refine and_int ?_
  have e : Builtin.bitAnd a b = ((a.toNat &&& b.toNat : Nat) : Int) := by
    unfold Builtin.bitAnd
    rw [decide_eq_true ha, decide_eq_true hb]
  rw [e]
  exact tokI H h
theorem o_eq (h : Q (.bool (a == b)) s) : Wp prog w A (compareOp .Eq (.int a t) (.int b u)) Q s := eq_int h
theorem o_lt (h : Q (.bool (decide (a < b))) s) : Wp prog w A (compareOp .Lt (.int a t) (.int b u)) Q s := lt_int h
end

/-! strs -/
section
variable {a b : Str} {t u : Tok} {Q : Value → Shared → Prop}
theorem o_cat (H : S σ h₀ fs s) (hz : a.length + b.length ≤ sizeLine) (h : ∀ u s', S σ h₀ fs s' → Q (.str (a ++ b) u) s') : Wp prog w A (binaryOp .Add (.str a t) (.str b u)) Q s :=
  add_str (fun t' tk => h t' _ (H.tok tk)) hz
theorem o_eqS (h : Q (.bool (a == b)) s) : Wp prog w A (compareOp .Eq (.str a t) (.str b u)) Q s := eq_str h
theorem o_chr {i : Int} (H : S σ h₀ fs s) (hi : 0 ≤ i ∧ i < 1114112) (h : ∀ u s', S σ h₀ fs s' → Q (.str ⟨#[i.toNat]⟩ u) s') : Wp prog w A (call (.builtin "chr") [.int i t]) Q s :=
  P.chr_of_int (by rw [decide_eq_false (by omega), decide_eq_false (by omega)]; rfl) (tokS H h)
theorem o_ord {c : Nat} (H : S σ h₀ fs s) (h : ∀ u s', S σ h₀ fs s' → Q (.int (c : Int) u) s') : Wp prog w A (call (.builtin "ord") [.str ⟨#[c]⟩ t]) Q s :=
  P.ord_of_char (tokI H h)
theorem seqIndex_of {i : Int} {n : Nat} (h0 : 0 ≤ i) (hlt : i.toNat < n) : seqIndex? i n = some i.toNat := by
  have e : (if i < 0 then i + (n : Int) else i) = i := if_neg (by omega)
  unfold seqIndex?
  simp only [e]
  have : (decide (0 ≤ i) && decide (i < (n : Int))) = true := by rw [decide_eq_true h0, decide_eq_true (by omega)]; rfl
  rw [if_pos this]
/-- a sign of a text -/
theorem o_sign {i : Int} {c : Nat} {value slice : Expr} (H : S σ h₀ fs s) (hi : 0 ≤ i ∧ i < 2 ^ 63) (hc : a.cps[i.toNat]? = some c)
    (hs : subscripted slice false (.str a t) (.int i u) = operate [.str a t, .int i u] (getItem (.str a t) (.int i u))) (h : ∀ u s', S σ h₀ fs s' → Q (.str ⟨#[c]⟩ u) s') :
    Wp prog w A (subscriptTail value slice (.str a t) (.int i u)) Q s := by
  have hlt : i.toNat < a.cps.size := (Array.getElem?_eq_some_iff.mp hc).1
  refine tail_any (T := "str") rfl F.slot_str_getitem.lookup (getItem_str (c := c) (by rw [decide_eq_false (by omega), decide_eq_false (by omega)]; rfl) ?_ (tokS H h)) hs
  unfold Str.length
  rw [seqIndex_of hi.1 hlt]; exact hc
end

/-! lists -/
section
variable {a : Addr} {t u : Tok} {i : Int} {its : List Value} {Q : Value → Shared → Prop}
theorem l_item {value slice : Expr} (hl : (Fact.list its).at s.heap a) (hi : 0 ≤ i ∧ i < 2 ^ 63) (hc : its[i.toNat]? = some v)
    (hs : subscripted slice false (.ref a) (.int i u) = operate [.ref a, .int i u] (getItem (.ref a) (.int i u))) (h : Q v s) : Wp prog w A (subscriptTail value slice (.ref a) (.int i u)) Q s := by
  have hl' : s.heap.IsList a its.toArray := Heap.PlainList.isList hl
  exact tail_any hl'.typeIs slot_list_getitem.lookup (wpAny_getItem_list hl' hi.1 hi.2 (by simpa using hc) h) hs
theorem l_new {elts : List Expr} (h : Wp prog w A (spliced (backTo pos (starEach elts env))) (fun vs s₁ => vs.length ≤ sizeLine ∧ ∃ σ h₀ fs, S σ h₀ fs s₁ ∧ ∀ a s', S σ h₀ ((a, .list vs) :: fs) s' → Q (.ref a) s') s) :
    Wp prog w A (eval (.List elts pos) env) Q s := by
  refine wpAny_List (wpAny_mono h (fun vs s₁ ⟨hz, σ, h₀, fs, H, q⟩ => ⟨hz, q _ _ ?_⟩) fun _ _ e => e)
  exact H.add (keeps_push s₁ _ _) (get_size_none _) ⟨0, Heap.get?_push_size _ rfl⟩
theorem l_append {x : Value} (H : S σ h₀ fs s) (up : Upd a (.list its) (.list (its ++ [x])) fs fs') (hz : its.length ≤ sizeLine) (h : ∀ s', S σ h₀ fs' s' → Q .none s') :
    Wp prog w A (call (.builtin "list.append") [.ref a, x]) Q s := by
  refine wpAny_list_append_plain (items := its.toArray) (H.get up.mem) (fun h' hl hs => h _ (H.upd up s.toks hs.extBut ?_)) (by simpa using hz)
  show h'.PlainList a (its ++ [x]).toArray
  simpa using hl
theorem l_append_m {pl : Sem Bool} {Q : Value × List Value → Shared → Prop} (hl : (Fact.list its).at s.heap a) (h : Q (.builtin "list.append", [.ref a]) s) : Wp prog w A (getMethod (.ref a) "append" pl) Q s := by
  obtain ⟨n, e⟩ := hl
  exact getMethod_builtin ⟨_, e, rfl⟩ PySem.F.plainAttrs_list PySem.F.slot_list_append PySem.F.type_list_append (fun a e' => by cases e'; exact ⟨_, e, rfl⟩) h
theorem l_len (hl : (Fact.list its).at s.heap a) (H : S σ h₀ fs s) (hz : its.length ≤ sizeLine) (h : ∀ u s', S σ h₀ fs s' → Q (.int its.length u) s') : Wp prog w A (call (.builtin "len") [.ref a]) Q s := by
  refine Calls.call_len_list (items := its.toArray) (Heap.PlainList.isList hl) ?_ ?_
  · rw [List.size_toArray]; rw [sizeLine_eq] at hz; omega
  · rw [List.size_toArray]; exact tokI H h
end

/-! statements -/
theorem ex_expr {e : Expr} {Q : Flow → Shared → Prop} (he : EnvAt env sc L cs) (hk : sc.kind = .function) (hs : swapsWith e none pos.line env = pure false)
    (h : Wp prog w A (eval e env) (fun v s' => match v with | .ref _ => False | _ => Q .next s') s) : Wp prog w A (exec (.Expr e pos) env) Q s :=
  wpAny_Expr h (by unfold interactive; rw [he.scope, hk]; rfl) hs

/-! calls -/
/-- a def of the text, by its global name -/
theorem x_call {mg mb : Str → Option Value} {f : Str} {fp : Pos} {a : Addr} {e : Expr} {rest : List Expr} {Q : Value → Shared → Prop} (he : EnvAt env sc L cs) (hl : sc.names.lookup f = some .globalImplicit) (hk : sc.kind = .function) (hd : (f == ("__debug__" : Str)) = false)
    (G : Gnd mg mb s.heap) (hv : mg f = some (.ref a)) (hst : starEach (e :: rest) env = (false, eval e env) :: starEach rest env) (hplain : (backTo pos (starEach rest env)).any (·.1) = false)
    (h : Wp prog w A (spliced (backTo pos (starEach (e :: rest) env))) (fun vs s₁ => (∃ nm ar b sc', IsFn a nm ar b sc' s₁.heap) ∧ Wp prog w A (call (.ref a) vs) Q s₁) s) :
    Wp prog w A (eval (.Call (.Name f fp) (e :: rest) [] pos) env) Q s := by
  refine Call_Name rfl (n_global he hl hk hd G hv ?_)
  rw [hst] at h ⊢
  refine callWith_of (P := fun H => ∃ nm ar b sc', IsFn a nm ar b sc' H) (by show ((false || (backTo pos (starEach rest env)).any (·.1)) || false) = false; rw [hplain]; rfl) (fun H hP => ⟨.frame, .inl rfl, ?_⟩) (evalArgs_plain h)
  obtain ⟨nm, ar, b, sc', ⟨o, doc, pm, an, cdv, ct, ho, hdd, _⟩⟩ := hP
  exact (Looks.ld (part := none) ho).andThen (by rw [hdd]; exact .now)
/-- a built-in, by its name -/
theorem x_blt {mg mb : Str → Option Value} {f : Str} {fp : Pos} {id : String} {e : Expr} {rest : List Expr} {Q : Value → Shared → Prop} (he : EnvAt env sc L cs) (hl : sc.names.lookup f = some .globalImplicit) (hk : sc.kind = .function) (hd : (f == ("__debug__" : Str)) = false)
    (G : Gnd mg mb s.heap) (hn : mg f = none) (hb : bootBuiltins f = some (.builtin id)) (hne : (f == ("__name__" : Str)) = false)
    (hst : starEach (e :: rest) env = (false, eval e env) :: starEach rest env) (hplain : (backTo pos (starEach rest env)).any (·.1) = false)
    (h : Wp prog w A (spliced (backTo pos (starEach (e :: rest) env))) (fun vs s₁ => Wp prog w A (call (.builtin id) vs) Q s₁) s) :
    Wp prog w A (eval (.Call (.Name f fp) (e :: rest) [] pos) env) Q s :=
  Call_Name rfl (n_builtin he hl hk hd G hn hb hne (PyProof.Rows.callWith_builtin1 h hst hplain))
theorem x_typ {mg mb : Str → Option Value} {f : Str} {fp : Pos} {id : String} {e : Expr} {rest : List Expr} {Q : Value → Shared → Prop} (he : EnvAt env sc L cs) (hl : sc.names.lookup f = some .globalImplicit) (hk : sc.kind = .function) (hd : (f == ("__debug__" : Str)) = false)
    (G : Gnd mg mb s.heap) (hn : mg f = none) (hb : bootBuiltins f = some (.type id)) (hne : (f == ("__name__" : Str)) = false)
    (hst : starEach (e :: rest) env = (false, eval e env) :: starEach rest env) (hplain : (backTo pos (starEach rest env)).any (·.1) = false)
    (h : Wp prog w A (spliced (backTo pos (starEach (e :: rest) env))) (fun vs s₁ => Wp prog w A (call (.type id) vs) Q s₁) s) :
    Wp prog w A (eval (.Call (.Name f fp) (e :: rest) [] pos) env) Q s :=
  Call_Name rfl (n_builtin he hl hk hd G hn hb hne (PyProof.Rows.callWith_type1 h hst hplain))
end
end Mine
end

section
open PySem PySem.Calls PySem.Spec PyProof.Rows PySem.W
set_option Elab.async false
namespace Mine

/-- a figure to the base 16, great -/
noncomputable def hexd (n : Nat) : Nat := if n < 10 then 48 + n else 55 + n
/-- what quote writes of an octet -/
noncomputable def eqHex (o : Nat) : Str := ⟨#[61, hexd (o / 16), hexd (o % 16)]⟩

/-- where the top's defs and tables stand -/
structure Ad where
  (parse unquote quote decode swap gpm pp cells above figures letter context names path masks game grown law : Addr)
  (qmap mgr isub ctx : Addr)

structure Tp (T : Ad) (mg mb : Str → Option Value) (h : Heap) : Prop where
  G : Gnd mg mb h
  f_quote : IsDef T.quote 18 h
  n_quote : mg "quote" = some (.ref T.quote)
  n_qmap : mg "_QUOPRI_MAP" = some (.ref T.qmap)
  qmap : ∃ its : List Value, h.IsList T.qmap its.toArray ∧ ∀ o : Nat, o < 256 → ∃ t, its[o]? = some (.str (eqHex o) t)
  f_figures : IsDef T.figures 32 h
  b_ord : mg "ord" = none
  b_chr : mg "chr" = none
  b_len : mg "len" = none
  b_range : mg "range" = none

local macro_rules | `(tactic| tb_rel) => `(tactic| first | exact S.get (by assumption) (by k_mem) | assumption | (refine S.up (by assumption) ?_; tb_rel))
local macro_rules | `(tactic| kwd_rel) => `(tactic| first | (with_reducible exact look_head) | (refine look_tail (by kernel_rfl) ?_; kwd_rel))

theorem c_quote {T : Ad} {mg mb : Str → Option Value} {w : World} {A : Around} {s : Shared} {o : Nat} {t : Tok} (X : Tp T mg mb s.heap) (R : Room A 2 20) (ho : o < 256) :
    Wp PySem.Challenge.pw_if0009_01 w A (call (.ref T.quote) [.str ⟨#[o]⟩ t]) (fun v s' => (∃ t', v = .str (eqHex o) t') ∧ Keeps s s') s := by
  refine enter X.f_quote X.G (d := 1) (u := 17) R (ns := ["c"]) (lb := [("c", .str ⟨#[o]⟩ t)]) (fun _ _ _ _ _ => by kernel_rfl) rfl (by decide +kernel) (by decide +kernel) (by decide +kernel) (by decide +kernel) (by decide +kernel) fun A' env L s1 R' he H => ?_
  refine wpAny_execs_cons ?_
  refine wpAny_Return_some ?_
  refine Subscript_ ?_
  refine n_global he (by decide +kernel) (by decide +kernel) (by decide +kernel) (X.G.up H) X.n_qmap ?_
  refine x_blt he (by decide +kernel) (by decide +kernel) (by decide +kernel) (X.G.up H) X.b_ord (id := "ord") (by decide +kernel) (by decide +kernel) rfl rfl ?_
  refine wpAny_items_cons ?_
  refine n_local he (by decide +kernel) (by decide +kernel) (by decide +kernel) (by tb_rel) (by kwd_rel) ?_
  refine wpAny_items_nil ?_
  refine o_ord H fun u s2 H2 => ?_
  obtain ⟨its, hl, hq⟩ := X.qmap
  obtain ⟨t', hq⟩ := hq o ho
  have hl2 : s2.heap.IsList T.qmap its.toArray := hl.at fun o e => H2.keep _ o e
  refine tail_any hl2.typeIs slot_list_getitem.lookup (wpAny_getItem_list hl2 (by omega) (by omega) (x := .str (eqHex o) t') (by simpa using hq) ?_) (by with_unfolding_all rfl)
  exact ⟨⟨_, rfl⟩, H2.keeps⟩

theorem hexd_sign : ∀ n, n < 16 → (Str.ofString "0123456789ABCDEF").cps[n]? = some (hexd n) := by decide +kernel

theorem c_figures {T : Ad} {mg mb : Str → Option Value} {w : World} {A : Around} {s : Shared} {o : Nat} {t : Tok} (X : Tp T mg mb s.heap) (R : Room A 2 20) (ho : o < 256) :
    Wp PySem.Challenge.pw_if0009_01 w A (call (.ref T.figures) [.int o t]) (fun v s' => (∃ t', v = .str ⟨#[hexd (o / 16), hexd (o % 16)]⟩ t') ∧ Keeps s s') s := by
  refine enter X.f_figures X.G (d := 1) (u := 17) R (ns := ["octet"]) (lb := [("octet", .int o t)]) (fun _ _ _ _ _ => by kernel_rfl) rfl (by decide +kernel) (by decide +kernel) (by decide +kernel) (by decide +kernel) (by decide +kernel) fun A' env L s1 R' he H => ?_
  refine wpAny_execs_cons ?_
  refine wpAny_Return_some ?_
  refine wpAny_BinOp ?_
  refine Subscript_ ?_
  refine c_str H fun u1 s2 H => ?_
  refine wpAny_BinOp ?_
  refine n_local he (by decide +kernel) (by decide +kernel) (by decide +kernel) (by tb_rel) (by kwd_rel) ?_
  refine c_int H fun u1 s2 H => ?_
  refine o_div H (by omega) fun u1 s2 H => ?_
  refine o_sign H (c := hexd (o / 16)) (by omega) (by rw [show ((o : Int) / 16).toNat = o / 16 by omega]; exact hexd_sign _ (by omega)) (by with_unfolding_all rfl) fun u1 s2 H => ?_
  refine Subscript_ ?_
  refine c_str H fun u1 s2 H => ?_
  refine wpAny_BinOp ?_
  refine n_local he (by decide +kernel) (by decide +kernel) (by decide +kernel) (by tb_rel) (by kwd_rel) ?_
  refine c_int H fun u1 s2 H => ?_
  refine o_mod H (by omega) fun u1 s2 H => ?_
  refine o_sign H (c := hexd (o % 16)) (by omega) (by rw [show ((o : Int) % 16).toNat = o % 16 by omega]; exact hexd_sign _ (by omega)) (by with_unfolding_all rfl) fun u1 s2 H => ?_
  refine o_cat H (by rw [sizeLine_eq]; show 1 + 1 ≤ _; omega) fun u1 s2 H => ?_
  exact ⟨⟨_, rfl⟩, H.keeps⟩
end Mine
end

section
open PySem PySem.Calls PySem.Spec PyProof.Rows PySem.W
set_option Elab.async false
namespace Mine

/-- what is iterated: its items, told by letters; what its walk reads stands in the base -/
structure Iter {α : Type} (prog : Program) (w : World) (A : Around) (xv : Value) (xs : List α) (Is : α → Value → Prop) (h₀ : Heap) (s₁ : Shared) : Prop where
  go : ∀ Q : Value → Shared → Prop, (∀ I fp wr St s₂, Walks prog w A I fp wr xs.length (fun i v => ∃ a, xs[i]? = some a ∧ Is a v) St → St 0 s₂.heap → (∀ b ∈ fp, b = I ∨ ∃ o, h₀.get? b = some o) → (∀ b ∈ wr, b = I) → I ∈ wr →
    (∀ i h, St i h → ∃ o, h.get? I = some o) → s₁.heap.get? I = none → Keeps s₁ s₂ → Q (.ref I) s₂) → Wp prog w A (pyIter xv) Q s₁

theorem walks_mono {prog : Program} {w : World} {A : Around} {I : Addr} {fp wr : List Addr} {n : Nat} {P P' : Nat → Value → Prop} {St : Nat → Heap → Prop} (W : Walks prog w A I fp wr n P St) (h : ∀ i v, i < n → P i v → P' i v) : Walks prog w A I fp wr n P' St where
  sub := W.sub
  frame := W.frame
  item := fun i s Q E hi st hQ => W.item i s Q E hi st fun v h' tk hp => hQ v h' tk (h i v hi hp)
  done := W.done
  self := W.self

section
variable {prog : Program} {w : World} {A : Around} {s : Shared} {h₀ : Heap}

theorem Iter.range {r : Addr} {n : Nat} {t u v : Tok} (hh : A.handled = none) (hr : IsRange s.heap r 0 n 1 t u v) (hn : n < 2 ^ 40) :
    Iter prog w A (.ref r) (List.range n) (fun i v => ∃ t, v = .int (i : Nat) t) h₀ s where
  go := fun Q h => by
    have e : Builtin.Range.rangeSize 0 n 1 = (n : Int) := by unfold Builtin.Range.rangeSize; split <;> (try split) <;> omega
    have hsmall : Builtin.Range.small 0 n 1 = true := by
      have f : ∀ k : Int, -(2 ^ 62) < k → k < 2 ^ 62 → Builtin.Range.rangeFitsLong k = true := fun k h1 h2 => by
        unfold Builtin.Range.rangeFitsLong
        rw [decide_eq_true (by omega), decide_eq_true (by omega)]; rfl
      unfold Builtin.Range.small
      rw [e, f 0 (by omega) (by omega), f (n : Int) (by omega) (by omega), f 1 (by omega) (by omega)]
      rw [if_pos (by decide), f _ (by omega) (by omega)]
      simp
    refine wpAny_pyIter_range hr hsmall ?_
    have W := Walks.range (prog := prog) (w := w) hh s.heap.objs.size 0 1 n
    rw [← List.length_range (n := n)] at W
    refine h s.heap.objs.size [s.heap.objs.size] [s.heap.objs.size] _ _ (walks_mono W fun i v hi ⟨t, e⟩ => ⟨i, by rw [List.length_range] at hi; exact List.getElem?_range hi, t, by rw [e, Int.zero_add, Int.mul_one]⟩) ?_ ?_ ?_ ?_ ?_ (get_size_none _) (keeps_push s _ _)
    · show IsRangeIter _ _ _ _ _
      rw [e]; simpa using Heap.get?_push_size _ rfl
    · intro b hb; exact .inl (List.mem_singleton.mp hb)
    · intro b hb; exact List.mem_singleton.mp hb
    · exact List.mem_singleton.mpr rfl
    · intro i h st; exact ⟨_, st⟩
theorem Iter.list {l : Addr} {xs : List Value} (hh : A.handled = none) (hl : h₀.IsList l xs.toArray) (hs : s.heap.IsList l xs.toArray) :
    Iter prog w A (.ref l) xs (fun a v => a = v) h₀ s where
  go := fun Q h => by
    refine wpAny_pyIter_list hs ?_
    have hne : l ≠ s.heap.objs.size := by obtain ⟨o, e, _⟩ := hs; exact Nat.ne_of_lt (Heap.lt_size e)
    refine h s.heap.objs.size [s.heap.objs.size, l] [s.heap.objs.size] _ _ (walks_mono (Walks.list (prog := prog) (w := w) hh s.heap.objs.size l hne xs.toArray) fun i v hi e => ⟨v, by simpa using e, rfl⟩) ?_ ?_ ?_ ?_ ?_ (get_size_none _) (keeps_push s _ _)
    · exact ⟨⟨_, Heap.get?_push_size _ rfl, rfl, rfl⟩, hs.push _⟩
    · intro b hb
      rcases List.mem_cons.mp hb with rfl | hb
      · exact .inl rfl
      · obtain rfl := List.mem_singleton.mp hb; obtain ⟨o, e, _⟩ := hl; exact .inr ⟨o, e⟩
    · intro b hb; exact List.mem_singleton.mp hb
    · exact List.mem_singleton.mpr rfl
    · intro i h st; obtain ⟨o, e, _⟩ := st.1; exact ⟨o, e⟩
theorem Iter.tup {l : Addr} {xs : List Value} (hh : A.handled = none) (hl : IsTup h₀ l xs.toArray) (hs : IsTup s.heap l xs.toArray) :
    Iter prog w A (.ref l) xs (fun a v => a = v) h₀ s where
  go := fun Q h => by
    refine wpAny_pyIter_tuple hs ?_
    have hne : l ≠ s.heap.objs.size := by obtain ⟨o, e, _⟩ := hs; exact Nat.ne_of_lt (Heap.lt_size e)
    refine h s.heap.objs.size [s.heap.objs.size, l] [s.heap.objs.size] _ _ (walks_mono (Walks.tuple (prog := prog) (w := w) hh s.heap.objs.size l hne xs.toArray) fun i v hi e => ⟨v, by simpa using e, rfl⟩) ?_ ?_ ?_ ?_ ?_ (get_size_none _) (keeps_push s _ _)
    · refine ⟨⟨_, Heap.get?_push_size _ rfl, rfl, rfl⟩, ?_⟩
      obtain ⟨o, e, r⟩ := hs
      exact ⟨o, Heap.get?_push_of_some _ e, r⟩
    · intro b hb
      rcases List.mem_cons.mp hb with rfl | hb
      · exact .inl rfl
      · obtain rfl := List.mem_singleton.mp hb; obtain ⟨o, e, _⟩ := hl; exact .inr ⟨o, e⟩
    · intro b hb; exact List.mem_singleton.mp hb
    · exact List.mem_singleton.mpr rfl
    · intro i h st; obtain ⟨o, e, _⟩ := st.1; exact ⟨o, e⟩
theorem Iter.str {x : Str} {t : Tok} (hh : A.handled = none) : Iter prog w A (.str x t) x.cps.toList (fun c v => ∃ u, v = .str ⟨#[c]⟩ u) h₀ s where
  go := fun Q h => by
    have e : x.cps.toList.length = x.cps.size := by simp
    cases ha : x.cps.all (· < 128)
    · refine wpAny_pyIter_wide ha ?_
      have W := Walks.strWide (prog := prog) (w := w) hh s.heap.objs.size x t
      rw [← e] at W
      refine h s.heap.objs.size [s.heap.objs.size] [s.heap.objs.size] _ _ (walks_mono W fun i v hi ⟨c, u, e1, e2⟩ => ⟨c, by simpa using e1, u, e2⟩) ?_ ?_ ?_ ?_ ?_ (get_size_none _) (keeps_push s _ _)
      · exact ⟨_, Heap.get?_push_size _ rfl, rfl, rfl⟩
      · intro b hb; exact .inl (List.mem_singleton.mp hb)
      · intro b hb; exact List.mem_singleton.mp hb
      · exact List.mem_singleton.mpr rfl
      · intro i h st; obtain ⟨o, e, _⟩ := st; exact ⟨o, e⟩
    · refine wpAny_pyIter_ascii ha ?_
      have W := Walks.strAscii (prog := prog) (w := w) hh s.heap.objs.size x t
      rw [← e] at W
      refine h s.heap.objs.size [s.heap.objs.size] [s.heap.objs.size] _ _ (walks_mono W fun i v hi ⟨c, u, e1, e2⟩ => ⟨c, by simpa using e1, u, e2⟩) ?_ ?_ ?_ ?_ ?_ (get_size_none _) (keeps_push s _ _)
      · exact ⟨_, Heap.get?_push_size _ rfl, rfl, rfl⟩
      · intro b hb; exact .inl (List.mem_singleton.mp hb)
      · intro b hb; exact List.mem_singleton.mp hb
      · exact List.mem_singleton.mpr rfl
      · intro i h st; obtain ⟨o, e, _⟩ := st; exact ⟨o, e⟩
theorem Iter.bytes {x : Array UInt8} {t : Tok} (hh : A.handled = none) : Iter prog w A (.bytes x t) x.toList (fun c v => ∃ u, v = .int (c.toNat : Int) u) h₀ s where
  go := fun Q h => by
    have e : x.toList.length = x.size := by simp
    refine KBw.pyIter_bytes ?_
    have W := KBw.walks (prog := prog) (w := w) hh s.heap.objs.size x t
    rw [← e] at W
    refine h s.heap.objs.size [s.heap.objs.size] [s.heap.objs.size] _ _ (walks_mono W fun i v hi ⟨c, u, e1, e2⟩ => ⟨c, by simpa using e1, u, e2⟩) ?_ ?_ ?_ ?_ ?_ (get_size_none _) (keeps_push s _ _)
    · exact ⟨_, Heap.get?_push_size _ rfl, rfl, rfl⟩
    · intro b hb; exact .inl (List.mem_singleton.mp hb)
    · intro b hb; exact List.mem_singleton.mp hb
    · exact List.mem_singleton.mpr rfl
    · intro i h st; obtain ⟨o, e, _⟩ := st; exact ⟨o, e⟩
end

section
variable {prog : Program} {w : World} {A : Around} {s : Shared} {σ : Shared} {h₀ : Heap} {fs : Led} {env : Env}

/-- a for: what holds between the turns is a ledger told by the turn's number; the iterator stands ahead of it -/
theorem f_for {α : Type} {target iter : Expr} {body : List Stmt} {pos : Pos} {Q : Flow → Shared → Prop}
    (h : Wp prog w A (eval iter env) (fun xv s₁ => ∃ (xs : List α) (Is : α → Value → Prop) (σ : Shared) (h₀ : Heap) (fs : Led) (J : Nat → Led → Prop), Iter prog w A xv xs Is h₀ s₁ ∧ S σ h₀ fs s₁ ∧ J 0 fs ∧
      (∀ i a v fs I o s, xs[i]? = some a → Is a v → J i fs → S σ h₀ ((I, .raw o) :: fs) s →
        Wp prog w A (assign target env v) (fun _ s₂ => Wp prog w A (execs body env) (fun f s₃ => match f with
          | .next | .cont => ∃ fs', S σ h₀ ((I, .raw o) :: fs') s₃ ∧ J (i + 1) fs'
          | .brk => Q .next s₃
          | .ret v => Q (.ret v) s₃) s₂) s) ∧
      (∀ fs s, J xs.length fs → S σ h₀ fs s → Q .next s)) s)
    (hs : ∀ x, foldedSetIterable iter env x = pure x) (ht : ∀ it v, letOwnedTupleGo target it v = pure ()) :
    Wp prog w A (exec (.For target iter body [] pos) env) Q s := by
  refine wpAny_For (wpAny_mono h (fun xv s₁ h₁ => ?_) fun _ _ e => e) hs
  obtain ⟨xs, Is, σ, h₀, fs, J, IT, H, hJ, turn, done⟩ := h₁
  refine wpAny_mono (IT.go _ (fun I fp wr St s₂ W st hfp hwr hIw hlive hI k => ?_) : Wp prog w A (pyIter xv) (fun it s₂ => codeAny (model prog w) A (.forLoop target it body [] env) (fun r s' => match r with | .ok f => Q f s' | .error e => cameBackBy (model prog w) A env (fun _ _ => False) e s') s₂) s₁) (fun _ _ q => q) fun _ _ e => e.elim
  have H₂ : S σ h₀ fs s₂ := H.grow k
  have hI0 : h₀.get? I = none := H.fresh hI
  obtain ⟨o₂, ho₂⟩ := hlive _ _ st
  have H₂' : S σ h₀ ((I, .raw o₂) :: fs) s₂ := H.add k hI ho₂
  refine codeAny_forLoop (fun n s' => ∃ i fs o, n = xs.length + 1 - i ∧ i ≤ xs.length ∧ St i s'.heap ∧ S σ h₀ ((I, .raw o) :: fs) s' ∧ J i fs) ?_ (xs.length + 1) ⟨0, fs, o₂, rfl, Nat.zero_le _, st, H₂', hJ⟩ (fun v => ht _ v)
  rintro n s' ⟨i, fs', o, rfl, hi, st', H', hJ'⟩
  by_cases hlt : i < xs.length
  · refine W.item i _ _ _ hlt st' fun v h' tk ⟨a, ha, hv⟩ st₁ hk₁ => ?_
    obtain ⟨o₁, ho₁⟩ := hlive _ _ st₁
    have H₁ : S σ h₀ ((I, .raw o₁) :: fs') { s' with heap := h', toks := tk } := H'.upd .head tk (fun b o hb e => hk₁ b o (fun hw => hb (hwr b hw)) e) ho₁
    refine wpAny_mono (turn i a v fs' I o₁ _ ha hv hJ' H₁) (fun _ s₃ h₃ => wpAny_mono h₃ (fun f s₄ h₄ => ?_) fun _ _ e => e.elim) fun _ _ e => e.elim
    have fin : (∃ fs', S σ h₀ ((I, .raw o₁) :: fs') s₄ ∧ J (i + 1) fs') → ∃ m, m < xs.length + 1 - i ∧ ∃ i fs o, m = xs.length + 1 - i ∧ i ≤ xs.length ∧ St i s₄.heap ∧ S σ h₀ ((I, .raw o) :: fs) s₄ ∧ J i fs := by
      rintro ⟨fs'', H₄, hJ₄⟩
      refine ⟨xs.length + 1 - (i + 1), by omega, i + 1, fs'', o₁, rfl, hlt, W.frame _ _ _ st₁ fun b hb o e => ?_, H₄, hJ₄⟩
      rcases hfp b hb with rfl | ⟨o', e'⟩
      · have e1 : s₄.heap.get? b = some o₁ := H₄.get (.head _)
        rw [e1]; rw [ho₁] at e; exact e
      · have e1 := H₁.keep b o' e'
        have e2 := H₄.keep b o' e'
        rw [e2]; rw [show h'.get? b = some o from e] at e1; exact e1.symm
    cases f with
    | next => exact fin h₄
    | cont => exact fin h₄
    | brk => exact h₄
    | ret v => exact h₄
  · have hin : i = xs.length := by omega
    subst hin
    refine W.done _ _ _ st' fun h' tk hk₁ => wpAny_execs_nil ?_
    refine done fs' _ hJ' ?_
    have live : ∀ b o, b ≠ I → s'.heap.get? b = some o → h'.get? b = some o := fun b o hb e => hk₁ b o (fun hw => hb (hwr b hw)) e
    have nd := List.nodup_cons.mp H'.nd
    refine ⟨?_, fun b o e => live b o (fun e' => by subst e'; rw [hI0] at e; cases e) (H'.keep b o e), fun q hq => Fact.congr (fun o e => live _ o (fun e' => nd.1 (by rw [← e']; exact List.mem_map_of_mem (f := (·.1)) hq)) e) (H'.holds q (.tail _ hq)), fun q hq => H'.new q (.tail _ hq), nd.2⟩
    obtain ⟨⟨h1, t1, e1⟩, _⟩ := H'
    exact ⟨h', tk, by rw [e1]⟩

/-- a while: what holds between the turns is told by a number that falls -/
theorem f_while {test : Expr} {body : List Stmt} {pos : Pos} {Q : Flow → Shared → Prop} (J : Nat → Shared → Prop) (n : Nat) (h0 : J n s)
    (turn : ∀ n s, J n s → Wp prog w A (isTrue test env (eval test env)) (fun b s₂ => if b then Wp prog w A (execs body env) (fun f s₃ => match f with
          | .next | .cont => ∃ m, m < n ∧ J m s₃
          | .brk => Q .next s₃
          | .ret v => Q (.ret v) s₃) s₂ else Q .next s₂) s) :
    Wp prog w A (exec (.While test body [] pos) env) Q s := by
  refine wpAny_While (codeAny_whileLoop J (fun n s hJ => ?_) n h0)
  refine wpAny_mono (turn n s hJ) (fun b s₂ h₂ => ?_) fun _ _ e => e.elim
  cases b with
  | false => exact wpAny_execs_nil h₂
  | true =>
    refine wpAny_mono h₂ (fun f s₃ h₃ => ?_) fun _ _ e => e.elim
    cases f <;> exact h₃
end

/-! comprehensions whose turns change nothing -/
noncomputable def closL (cs : List (Str × Addr)) : List (Str × NameKind) → List (Str × Addr) → Option (List (Str × Addr))
  | [], acc => some acc
  | (n, k) :: r, acc => if k == .free then (match cs.lookup n with | some a => closL cs r ((n, a) :: acc) | none => none) else closL cs r acc
theorem closureFor_of {scope : Scope} {env : Env} {cl : List (Str × Addr)} (h : closL env.cells scope.names [] = some cl) : closureFor scope env = pure cl := by
  have key : ∀ (ns : List (Str × NameKind)) (acc cl : List (Str × Addr)), closL env.cells ns acc = some cl →
      (forIn ns acc fun x cs => (match x with | (name, kind) => (if kind == .free then (do let a ← cellOf env name; pure (ForInStep.yield ((name, a) :: cs))) else pure (ForInStep.yield cs)) : Sem (ForInStep (List (Str × Addr))))) = (pure cl : Sem (List (Str × Addr))) := by
    intro ns
    induction ns with
    | nil => intro acc cl h; cases h; rfl
    | cons x r ih =>
      obtain ⟨n, k⟩ := x
      intro acc cl h
      rw [List.forIn_cons]
      unfold closL at h
      by_cases hk : (k == NameKind.free) = true
      · rw [if_pos hk] at h
        dsimp only
        rw [if_pos hk]
        cases hc : env.cells.lookup n with
        | none => rw [hc] at h; cases h
        | some a =>
          rw [hc] at h
          have : cellOf env n = pure a := by unfold cellOf; rw [hc]
          rw [this]
          exact ih _ _ h
      · rw [if_neg hk] at h
        dsimp only
        rw [if_neg hk]
        exact ih _ _ h
  have e := key scope.names [] cl h
  unfold closureFor
  show (forIn scope.names [] _ >>= fun cs => pure cs) = pure cl
  exact (congrArg (fun t : Sem (List (Str × Addr)) => t >>= fun cs => pure cs) e).trans rfl

noncomputable def relabelS (scope sc : Scope) : Scope :=
  { scope with names := scope.names.map fun (n, k) => if (k == .free && sc.kind == .function && sc.names.lookup n == some .cell) then (n, .cell) else (n, k) }
noncomputable abbrev compTests' (ifs : List Expr) (env : Env) : Sem Bool := forIn ifs true fun c r => if r = true then do let ok ← isTrue c env (eval c env); pure (ForInStep.yield ok) else pure (ForInStep.yield r)

theorem paired_filter {α : Type} {Is : α → Value → Prop} {F : Value → Value → Prop} {R : α → Value → Prop} (pz : α → Bool) (p : Value → Bool)
    (hp : ∀ a v, Is a v → p v = pz a) (hF : ∀ a v y, Is a v → F v y → R a y) : ∀ (xs : List α) (vs ys : List Value), Paired Is xs vs → Paired F (vs.filter p) ys → Paired R (xs.filter pz) ys := by
  intro xs
  induction xs with
  | nil => intro vs ys h1 h2; cases h1; simpa using (by simpa using h2 : Paired F [] ys) |> fun h => (by cases h; exact Paired.nil : Paired R [] ys)
  | cons a r ih =>
    intro vs ys h1 h2
    cases h1 with
    | cons ha hr =>
      rename_i v vr
      rw [List.filter_cons] at h2 ⊢
      rw [hp a v ha] at h2
      cases hz : pz a with
      | false => rw [hz] at h2; simp only [Bool.false_eq_true, if_false] at h2 ⊢; exact ih _ _ hr h2
      | true =>
        rw [hz] at h2
        simp only [if_true] at h2 ⊢
        cases h2 with
        | cons h3 h4 => exact .cons (hF a v _ ha h3) (ih _ _ hr h4)
theorem paired_of_get {α : Type} {Is : α → Value → Prop} : ∀ (xs : List α) (vs : List Value), vs.length = xs.length → (∀ (j : Nat) (v : Value), vs[j]? = some v → ∃ a, xs[j]? = some a ∧ Is a v) → Paired Is xs vs
  | [], vs, hl, _ => by rw [List.length_nil] at hl; rw [List.eq_nil_of_length_eq_zero hl]; exact .nil
  | a :: r, vs, hl, h => by
    cases vs with
    | nil => simp at hl
    | cons v vr =>
      obtain ⟨b, hb, hI⟩ := h 0 v rfl
      cases hb
      exact .cons hI (paired_of_get r vr (by simpa using hl) fun j u hj => by simpa using h (j + 1) u (by simpa using hj))

structure CompFacts (scope : Scope) (x : Str) : Prop where
  cell : (scope.names.all fun y => y.2 != .cell) = true
  kind : scope.kind = .function
  names : (scope.names.all fun y => y.2 != .local || decide (scope.names.lookup y.1 = some .local)) = true
  var : scope.names.lookup x = some .local
theorem CompFacts.cell' {scope : Scope} {x : Str} (C : CompFacts scope x) : ∀ y ∈ scope.names, y.2 ≠ .cell := fun y hy => by simpa using List.all_eq_true.mp C.cell y hy
theorem CompFacts.names' {scope : Scope} {x : Str} (C : CompFacts scope x) : ∀ y ∈ scope.names, y.2 = .local → scope.names.lookup y.1 = some .local := fun y hy e => by
  have := List.all_eq_true.mp C.names y hy
  rw [e] at this
  simpa using this

/-- a comprehension, whole: what it iterates, its test, its element -/
structure Turns {α : Type} (prog : Program) (w : World) (A : Around) (env : Env) (sc : Scope) (scope : Scope) (cl : List (Str × Addr)) (x : Str) (ifs : List Expr) (elt : Expr) (xs : List α) (Is : α → Value → Prop) (pz : α → Bool) (R : α → Value → Prop) (s₁ : Shared) : Prop where
  small : xs.length ≤ sizeLine
  inj : ∀ a b v, Is a v → Is b v → a = b
  tests : ∀ a v C env' s₃, a ∈ xs → Is a v → EnvAt env' (relabelS scope sc) C cl → (Fact.loc [(x, v)]).at s₃.heap C → (∀ b o, s₁.heap.get? b = some o → s₃.heap.get? b = some o) →
    Wp prog w A (compTests' ifs env') (fun ok s₄ => ok = pz a ∧ Keeps s₃ s₄) s₃
  elt : ∀ a v C env' s₃, a ∈ xs → Is a v → pz a = true → EnvAt env' (relabelS scope sc) C cl → (Fact.loc [(x, v)]).at s₃.heap C → (∀ b o, s₁.heap.get? b = some o → s₃.heap.get? b = some o) →
    Wp prog w A (eval elt env') (fun y s₄ => R a y ∧ Keeps s₃ s₄) s₃

section
variable {prog : Program} {w : World} {A : Around} {s : Shared} {env : Env} {sc : Scope} {L : Addr} {cs : List (Str × Addr)}

open Classical in
theorem comp_core {α : Type} {xv : Value} {xs : List α} {Is : α → Value → Prop} {pz : α → Bool} {R : α → Value → Prop} {scope : Scope} {cl : List (Str × Addr)} {x : Str} {ifs : List Expr} {elt : Expr} {s₁ : Shared}
    (he : EnvAt env sc L cs) (IT : Iter prog w A xv xs Is s₁.heap s₁) (T : Turns prog w A env sc scope cl x ifs elt xs Is pz R s₁) {Q : Value → Shared → Prop}
    (p : Value → Bool) (F : Value → Value → Prop) (ep : p = fun v => decide (∃ a, Is a v ∧ pz a = true)) (eF : F = fun v y => ∃ a, Is a v ∧ R a y)
    (h : ∀ I fp wr St s₂, Walks prog w A I fp wr xs.length (fun i v => ∃ a, xs[i]? = some a ∧ Is a v) St → St 0 s₂.heap → (∀ b ∈ fp, b < s₂.heap.objs.size) → (∀ b ∈ wr, s₁.heap.get? b = none) → Keeps s₁ s₂ →
      QuietOnC prog w A env scope cl x ifs elt wr (fun i v => ∃ a, xs[i]? = some a ∧ Is a v) p F s₂ →
      (∀ (ys : Array Value) (vs : List Value), vs.length = xs.length → (∀ (j : Nat) (v : Value), vs[j]? = some v → ∃ a, xs[j]? = some a ∧ Is a v) → Paired F (vs.filter p) ys.toList → Paired R (xs.filter pz) ys.toList) → Q (.ref I) s₂) :
    Wp prog w A (pyIter xv) Q s₁ := by
  have hp : ∀ a v, Is a v → p v = pz a := fun a v ha => by
    rw [ep]
    cases hz : pz a with
    | true => exact decide_eq_true ⟨a, ha, hz⟩
    | false =>
      refine decide_eq_false fun ⟨b, hb, hbz⟩ => ?_
      rw [T.inj a b v ha hb, hbz] at hz; cases hz
  have hF : ∀ a v y, Is a v → F v y → R a y := fun a v y ha h => by
    rw [eF] at h
    obtain ⟨b, hb, hr⟩ := h
    rw [T.inj a b v ha hb]; exact hr
  have cenv : ∀ C, EnvAt (compEnvC scope cl C env) (relabelS scope sc) C cl := fun C => ⟨by
    show relabel scope env = _
    unfold relabel relabelS Env.kindOf
    rw [he.scope], rfl, rfl, he.globals, he.builtins⟩
  refine IT.go Q fun I fp wr St s₂ W st hfp hwr hIw hlive hI k => ?_
  have kk : ∀ b o, s₁.heap.get? b = some o → s₂.heap.get? b = some o := by obtain ⟨h', t, rfl, k⟩ := k; exact k
  have hwr' : ∀ b ∈ wr, s₁.heap.get? b = none := fun b hb => by rw [hwr b hb]; exact hI
  refine h I fp wr St s₂ W st (fun b hb => ?_) hwr' k ⟨?_, ?_⟩ fun ys vs hlen hP hF' => paired_filter pz p hp hF xs vs ys.toList (paired_of_get xs vs hlen hP) hF'
  · rcases hfp b hb with rfl | ⟨o, e⟩
    · obtain ⟨o, e⟩ := hlive _ _ st; exact Heap.lt_size e
    · exact Heap.lt_size (kk b o e)
  · rintro C i v s₃ m₃ E' hC ⟨a, ha, hv⟩ hn hm hk _
    refine wpAny_mono (T.tests a v C _ s₃ (List.mem_of_getElem? ha) hv (cenv C) ⟨m₃, hn, fun y u e => ?_⟩ fun b o e => hk b o (fun hw => by rw [hwr' b hw] at e; cases e) (kk b o e)) (fun ok s₄ q => ⟨q.1.trans (hp a v hv).symm, q.2⟩) fun _ _ e => e.elim
    unfold look at e
    by_cases hy : y = x
    · rw [if_pos hy] at e; cases e; rw [hy]; exact hm
    · rw [if_neg hy] at e; cases e
  · rintro C i v s₃ m₃ E' hC ⟨a, ha, hv⟩ hpv hn hm hk _
    refine wpAny_mono (T.elt a v C _ s₃ (List.mem_of_getElem? ha) hv ((hp a v hv).symm.trans hpv) (cenv C) ⟨m₃, hn, fun y u e => ?_⟩ fun b o e => hk b o (fun hw => by rw [hwr' b hw] at e; cases e) (kk b o e)) (fun y s₄ q => ⟨by rw [eF]; exact ⟨a, hv, q.1⟩, q.2⟩) fun _ _ e => e.elim
    unfold look at e
    by_cases hy : y = x
    · rw [if_pos hy] at e; cases e; rw [hy]; exact hm
    · rw [if_neg hy] at e; cases e

open Classical in
theorem l_comp {α : Type} {elt iter : Expr} {x : Str} {px pos : Pos} {ifs : List Expr} {scope : Scope} {cl : List (Str × Addr)} {Q : Value → Shared → Prop}
    (pz : α → Bool) (Is : α → Value → Prop) (R : α → Value → Prop)
    (he : EnvAt env sc L cs) (hcl : closL cs scope.names [] = some cl) (CF : CompFacts scope x) (hs : ∀ v, foldedSetIterable iter env v = pure v)
    (h : Wp prog w A (eval iter env) (fun xv s₁ => ∃ (xs : List α) (σ : Shared) (h₀ : Heap) (fs : Led), Iter prog w A xv xs Is s₁.heap s₁ ∧ S σ h₀ fs s₁ ∧ Turns prog w A env sc scope cl x ifs elt xs Is pz R s₁ ∧
      ∀ D ys s', Paired R (xs.filter pz) ys → S σ h₀ ((D, .list ys) :: fs) s' → Q (.ref D) s') s) :
    Wp prog w A (eval (.ListComp elt [⟨.Name x px, iter, ifs, 0⟩] scope pos) env) Q s := by
  refine wpAny_ListComp_free (fun v => decide (∃ a, Is a v ∧ pz a = true)) (fun v y => ∃ a, Is a v ∧ R a y) (closureFor_of (by rw [he.cells]; exact hcl)) CF.cell' CF.kind CF.names' CF.var (wpAny_mono h (fun xv s₁ h₁ => ?_) fun _ _ e => e) hs
  obtain ⟨xs, σ, h₀, fs, IT, H, T, hQ⟩ := h₁
  refine comp_core he IT T _ _ rfl rfl fun I fp wr St s₂ W st hfp hwr k hq hpair => ?_
  refine ⟨I, fp, wr, xs.length, _, St, rfl, W, T.small, st, hfp, hq, fun D h' tk ys vs hD hl hpl hlen hP hF hk => ?_⟩
  have kk : ∀ b o, s₁.heap.get? b = some o → s₂.heap.get? b = some o := by obtain ⟨h', t, rfl, k⟩ := k; exact k
  have K' : Keeps s₁ { s₂ with heap := h', toks := tk } := by
    obtain ⟨h2, t2, rfl, k2⟩ := k
    exact ⟨h', tk, rfl, fun b o e => hk b o (fun hw => by rw [hwr b hw] at e; cases e) (kk b o e)⟩
  have hD1 : s₁.heap.get? D = none := by
    cases e : s₁.heap.get? D with
    | none => rfl
    | some o => rw [kk D o e] at hD; cases hD
  refine hQ D ys.toList _ (hpair ys vs hlen hP hF) (H.add K' hD1 ?_)
  show h'.PlainList D ys.toList.toArray
  rw [Array.toArray_toList]; exact hpl

open Classical in
theorem l_compA {α : Type} {elt iter : Expr} {x y : Str} {px py pos spos : Pos} {ifs : List Expr} {scope : Scope} {cl : List (Str × Addr)} {Q : Flow → Shared → Prop}
    (pz : α → Bool) (Is : α → Value → Prop) (R : α → Value → Prop)
    (he : EnvAt env sc L cs) (hk : sc.kind = .function) (hcl : closL cs scope.names [] = some cl) (CF : CompFacts scope x) (hs : ∀ v, foldedSetIterable iter env v = pure v)
    (hy : sc.names.lookup y = some .local) (hline : (py.line == pos.line) = true) (hown : (scope.names.any fun (n, k) => n == y && (k == .local || k == .cell)) = false)
    (h : Wp prog w A (eval iter env) (fun xv s₁ => ∃ (xs : List α) (σ : Shared) (h₀ : Heap) (fs : Led) (fs' : Addr → Led) (l : List (Str × Value)), Iter prog w A xv xs Is s₁.heap s₁ ∧ S σ h₀ fs s₁ ∧ Turns prog w A env sc scope cl x ifs elt xs Is pz R s₁ ∧
      (∀ D, Upd L (.loc l) (.loc ((y, .ref D) :: l)) fs (fs' D)) ∧
      ∀ D ys s', Paired R (xs.filter pz) ys → S σ h₀ ((D, .list ys) :: fs' D) s' → Q .next s') s) :
    Wp prog w A (exec (.Assign [.Name y py] (.ListComp elt [⟨.Name x px, iter, ifs, 0⟩] scope pos) spos) env) Q s := by
  have hsw : swapsWith (.ListComp elt [⟨.Name x px, iter, ifs, 0⟩] scope pos) (some (.Name y py)) spos.line env = pure true := by
    have e1 : (env.blockKind == ScopeKind.function) = true := by unfold Env.blockKind; rw [he.scope, hk]; rfl
    have e2 : (env.kindOf y == some NameKind.local) = true := by unfold Env.kindOf; rw [he.scope, hy]; rfl
    show (pure (env.blockKind == .function && env.kindOf y == some .local && py.line == pos.line && !(scope.names.any fun (n, k) => n == y && (k == .local || k == .cell))) : Sem Bool) = pure true
    rw [e1, e2, hline, hown]; rfl
  have hyk : env.kindOf y = some .local := by unfold Env.kindOf; rw [he.scope]; exact hy
  refine wpAny_Assign_ListComp_free (fun v => decide (∃ a, Is a v ∧ pz a = true)) (fun v y => ∃ a, Is a v ∧ R a y) hsw (closureFor_of (by rw [he.cells]; exact hcl)) CF.cell' CF.kind CF.names' CF.var hyk (by rw [he.scope, hk]; rfl) (wpAny_mono h (fun xv s₁ h₁ => ?_) fun _ _ e => e) hs
  obtain ⟨xs, σ, h₀, fs, fs', l, IT, H, T, U, hQ⟩ := h₁
  refine comp_core he IT T _ _ rfl rfl fun I fp wr St s₂ W st hfp hwr k hq hpair => ?_
  have H₂ := H.grow k
  obtain ⟨m, hn, hm⟩ := H₂.get (U 0).mem
  have hLw : L ∉ wr := fun hw => by
    have e1 := hwr L hw
    obtain ⟨o, e2⟩ := Fact.live (H.get (U 0).mem)
    rw [e1] at e2; cases e2
  refine ⟨I, fp, wr, xs.length, _, St, m, rfl, W, T.small, st, hfp, by rw [he.locals]; exact hLw, by rw [he.locals]; exact hn, hq, fun D h' tk ys vs hD hl hpl hlen hP hF hn' hk => ?_⟩
  rw [he.locals] at hn' hk
  have kk : ∀ b o, s₁.heap.get? b = some o → s₂.heap.get? b = some o := by obtain ⟨h', t, rfl, k⟩ := k; exact k
  have ext : ∀ b o, b ≠ L → s₁.heap.get? b = some o → h'.get? b = some o := fun b o hb e => hk b o hb (fun hw => by rw [hwr b hw] at e; cases e) (kk b o e)
  have hD1 : s₁.heap.get? D = none := by
    cases e : s₁.heap.get? D with
    | none => rfl
    | some o => rw [kk D o e] at hD; cases hD
  have es₂ : ({ s₂ with heap := h', toks := tk } : Shared) = { s₁ with heap := h', toks := tk } := by
    obtain ⟨h2, t2, rfl, k2⟩ := k; rfl
  have H' : S σ h₀ (fs' D) { s₂ with heap := h', toks := tk } := by
    rw [es₂]
    refine H.upd (U D) tk ext ⟨_, hn', fun z u e => ?_⟩
    unfold look at e
    by_cases hz : z = y
    · rw [if_pos hz] at e; rw [if_pos hz]; exact e
    · rw [if_neg hz] at e; rw [if_neg hz]; exact hm _ _ e
  refine hQ D ys.toList _ (hpair ys vs hlen hP hF) ⟨H'.same, H'.keep, fun q hq => ?_, fun q hq => ?_, ?_⟩
  · rcases List.mem_cons.mp hq with rfl | hq
    · show h'.PlainList D ys.toList.toArray
      rw [Array.toArray_toList]; exact hpl
    · exact H'.holds q hq
  · rcases List.mem_cons.mp hq with rfl | hq
    · exact H.fresh hD1
    · exact H'.new q hq
  · refine List.nodup_cons.mpr ⟨?_, H'.nd⟩
    rw [(U D).addrs]
    exact H.apart hD1
end
end Mine
end

section
open PySem PySem.Calls PySem.Spec PyProof.Rows PySem.W
set_option Elab.async false
namespace Mine

theorem look_append : ∀ (a b : List (Str × Value)) (x : Str), look (a ++ b) x = (look a x).or (look b x)
  | [], b, x => by simp [look]
  | (y, v) :: r, b, x => by
    rw [List.cons_append]
    show (if x = y then some v else look (r ++ b) x) = (if x = y then some v else look r x).or (look b x)
    by_cases h : x = y
    · rw [if_pos h, if_pos h]; rfl
    · rw [if_neg h, if_neg h]; exact look_append r b x

theorem bindL_look (kindOf : Str → Option NameKind) : ∀ (binds : List (Str × Value)) (m : Str → Option Value) (x : Str),
    bindL kindOf binds m x = (look (binds.filter fun y => kindOf y.1 == some .local).reverse x).or (m x)
  | [], m, x => by simp [bindL, look]
  | (n, v) :: r, m, x => by
    unfold bindL
    rw [bindL_look kindOf r]
    rw [List.filter_cons]
    by_cases h : kindOf n = some .local
    · rw [if_pos h]
      have : (kindOf n == some NameKind.local) = true := by rw [h]; rfl
      simp only [this, if_true]
      rw [List.reverse_cons, look_append]
      cases look (r.filter fun y => kindOf y.1 == some .local).reverse x with
      | some _ => rfl
      | none =>
        simp only [Option.none_or]
        unfold look look
        by_cases hx : x = n
        · rw [if_pos hx, if_pos hx]; rfl
        · rw [if_neg hx, if_neg hx]; rfl
    · rw [if_neg h]
      have : (kindOf n == some NameKind.local) = false := by simpa using h
      simp only [this, Bool.false_eq_true, if_false]
theorem bindC_look (kindOf : Str → Option NameKind) : ∀ (binds : List (Str × Value)) (m : Str → Option Value) (x : Str),
    bindC kindOf binds m x = (look (binds.filter fun y => kindOf y.1 != some .local).reverse x).or (m x)
  | [], m, x => by simp [bindC, look]
  | (n, v) :: r, m, x => by
    unfold bindC
    rw [bindC_look kindOf r]
    rw [List.filter_cons]
    by_cases h : kindOf n = some .local
    · rw [if_pos h]
      have : (kindOf n != some NameKind.local) = false := by rw [h]; rfl
      simp only [this, Bool.false_eq_true, if_false]
    · rw [if_neg h]
      have : (kindOf n != some NameKind.local) = true := by simpa using h
      simp only [this, if_true]
      rw [List.reverse_cons, look_append]
      cases look (r.filter fun y => kindOf y.1 != some .local).reverse x with
      | some _ => rfl
      | none =>
        simp only [Option.none_or]
        unfold look look
        by_cases hx : x = n
        · rw [if_pos hx, if_pos hx]; rfl
        · rw [if_neg hx, if_neg hx]; rfl

theorem cellsFrom_names : ∀ (names : List (Str × NameKind)) (n n' : Nat) (acc acc' : List (Str × Addr)), acc.map (·.1) = acc'.map (·.1) → (cellsFrom n names acc).map (·.1) = (cellsFrom n' names acc').map (·.1)
  | [], _, _, _, _, h => h
  | (x, k) :: r, n, n', acc, acc', h => by
    unfold cellsFrom
    by_cases hk : (k == NameKind.cell) = true
    · rw [if_pos hk, if_pos hk]; exact cellsFrom_names r _ _ _ _ (by simp [h])
    · rw [if_neg hk, if_neg hk]; exact cellsFrom_names r _ _ _ _ h
theorem isSome_of_names {cs : List (Str × Addr)} {x : Str} (h : x ∈ cs.map (·.1)) : (cs.lookup x).isSome = true := by
  induction cs with
  | nil => simp at h
  | cons c r ih =>
    obtain ⟨n, a⟩ := c
    rw [List.lookup_cons]
    cases hx : x == n with
    | true => rfl
    | false =>
      rw [List.map_cons] at h
      rcases List.mem_cons.mp h with rfl | h
      · simp at hx
      · exact ih h
theorem lookup_of_mem_names {cs : List (Str × Addr)} (nd : (cs.map (·.1)).Nodup) {n : Str} {c : Addr} (h : (n, c) ∈ cs) : cs.lookup n = some c := by
  induction cs with
  | nil => cases h
  | cons q r ih =>
    obtain ⟨n', c'⟩ := q
    rw [List.lookup_cons]
    have nd' := List.nodup_cons.mp nd
    rcases List.mem_cons.mp h with e | hr
    · cases e; simp
    · have : (n == n') = false := by
        cases hx : n == n' with
        | false => rfl
        | true =>
          have := eq_of_beq hx
          subst this
          exact (nd'.1 (List.mem_map_of_mem (f := (·.1)) hr)).elim
      rw [this]; exact ih nd'.2 hr

section
variable {prog : Program} {w : World} {A : Around} {s : Shared} {a : Addr} {nm : Str} {args : Arguments} {body : List Stmt} {sc : Scope} {vals : List Value} {ns : List Str} {Q : Value → Shared → Prop}

/-- a plain def with cells is called -/
theorem enterC (F : IsFn a nm args body sc s.heap) {mg mb : Str → Option Value} (G : Gnd mg mb s.heap) {d u : Nat} (R : Room A (d + 1) (u + 3)) (cn : List Str) (lb cb : List (Str × Value))
    (hbind : ∀ doc pm an cdv ct, bindArgs (W.fnOf nm nm args body sc .none .none doc pm an cdv ct) ⟨vals, []⟩ = pure (ns.zip vals))
    (hlb : ((ns.zip vals).filter fun y => sc.names.lookup y.1 == some .local).reverse = lb) (hcb : ((ns.zip vals).filter fun y => sc.names.lookup y.1 != some .local).reverse = cb)
    (hcn : (cellsFrom 0 sc.names []).map (·.1) = cn) (hnd : cn.Nodup)
    (hkind : (ns.all fun x => decide (sc.names.lookup x = some .local) || (decide (sc.names.lookup x = some .cell) && decide (x ∈ cn))) = true)
    (hco : sc.isCoroutine = false) (hgen : sc.isGenerator = false) (hk : sc.kind = .function)
    (h : ∀ (A' : Around) (env : Env) (L : Addr) (cs : List (Str × Addr)) (s₁ : Shared), Room A' d u → cs.map (·.1) = cn → EnvAt env sc L cs → S s s.heap ((L, .loc lb) :: cs.map fun q => (q.2, .cell (look cb q.1))) s₁ →
      Wp prog w A' (execs body env) (fun f s' => Q (match f with | .ret v => v | _ => .none) s') s₁) :
    Wp prog w A (call (.ref a) vals) Q s := by
  obtain ⟨o, doc, pm, an, cdv, ct, ho, hd, hc⟩ := F.ex
  have hnames : (cellsFrom (s.heap.objs.size + 1) sc.names []).map (·.1) = cn := (cellsFrom_names _ _ _ _ _ rfl).trans hcn
  refine wpAny_call (codeAny_call_cells (fd := W.fnOf nm nm args body sc .none .none doc pm an cdv ct) (body := body) (binds := ns.zip vals) (by have := R.depth; omega) ho hd G.nolimit hc rfl (hbind ..) rfl
    (fun x hx => ?_) (fun s₁ I => ?_) hco hgen hk)
  · have := List.all_eq_true.mp hkind x.1 (List.of_mem_zip hx).1
    rcases Bool.or_eq_true_iff.mp this with e | e
    · exact .inl (of_decide_eq_true e)
    · obtain ⟨e1, e2⟩ := Bool.and_eq_true_iff.mp e
      refine .inr ⟨of_decide_eq_true e1, isSome_of_names ?_⟩
      show x.1 ∈ (cellsFrom (s.heap.objs.size + 1) sc.names []).map (·.1)
      rw [hnames]; exact of_decide_eq_true e2
  · have kk := I.toInCall.keep
    have fr : ∀ b, s.heap.objs.size ≤ b → s.heap.get? b = none := fun b hb => by
      cases e : s.heap.get? b with
      | none => rfl
      | some o => exact absurd (Heap.lt_size e) (Nat.not_lt.mpr hb)
    refine wpAny_mono (h _ _ s.heap.objs.size (cellsFrom (s.heap.objs.size + 1) sc.names []) _ (R.deeper _) hnames ⟨rfl, rfl, rfl, rfl, rfl⟩ ⟨I.toInCall.same, kk, fun q hq => ?_, fun q hq => ?_, ?_⟩) (fun f s' hq => hq) (fun _ _ q => q.elim)
    · rcases List.mem_cons.mp hq with rfl | hq
      · refine ⟨_, I.toInCall.ns, fun x v e => ?_⟩
        rw [bindL_look]
        rw [← hlb] at e
        rw [show (look (List.filter (fun y => Env.kindOf (callEnvC (W.fnOf nm nm args body sc .none .none doc pm an cdv ct) s.heap.objs.size a) y.1 == some NameKind.local) (ns.zip vals)).reverse x) = some v from e]
        rfl
      · obtain ⟨⟨n, c⟩, hm, rfl⟩ := List.mem_map.mp hq
        have hl := lookup_of_mem_names (by rw [hnames]; exact hnd) hm
        have := I.cell n c hl
        rw [bindC_look] at this
        rw [← hcb]
        rw [Option.or_none] at this
        exact this
    · rcases List.mem_cons.mp hq with rfl | hq
      · exact fr _ (Nat.le_refl _)
      · obtain ⟨⟨n, c⟩, hm, rfl⟩ := List.mem_map.mp hq
        exact fr _ (Nat.le_of_lt (I.above n c hm))
    · rw [List.map_cons, List.map_map]
      refine List.nodup_cons.mpr ⟨fun hm => ?_, ?_⟩
      · obtain ⟨⟨n, c⟩, hm, e⟩ := List.mem_map.mp hm
        have := I.above n c hm
        exact absurd this (by rw [show c = s.heap.objs.size from e]; exact Nat.lt_irrefl _)
      · exact List.pairwise_map.mpr I.apart
end
end Mine
end

section
open PySem PySem.Calls PySem.Spec PyProof.Rows PySem.W
set_option Elab.async false
namespace Mine

section
variable {prog : Program} {w : World} {A : Around} {s : Shared} {σ : Shared} {h₀ : Heap} {fs fs' : Led} {env : Env} {sc : Scope} {L : Addr} {cs : List (Str × Addr)} {x : Str} {pos : Pos} {v : Value}
variable {a : Addr} {t u : Tok} {i : Int} {its : List Value}

theorem l_set {Q : Unit → Shared → Prop} (H : S σ h₀ fs s) (up : Upd a (.list its) (.list (its.set i.toNat v)) fs fs') (h0 : 0 ≤ i) (hn : i.toNat < its.length) (hz : its.length ≤ sizeLine)
    (h : ∀ s', S σ h₀ fs' s' → Q () s') : Wp prog w A (setItem (.ref a) (.int i t) v) Q s := by
  have hl : s.heap.PlainList a its.toArray := H.get up.mem
  obtain ⟨n, ho⟩ := id hl
  have hl' := hl.isList
  rw [sizeLine_eq] at hz
  unfold setItem
  try with_reducible refine wpAny_holding ?_
  first | refine wpAny_bind (wpAny_pure ?_) | skip
  refine wpAny_bind (wpAny_sequenceKey hl'.typeIs (by decide) ?_)
  refine wpAny_bind (wpAny_callSpecial?_slot (name := Str.ofString "__setitem__") hl'.typeIs slot_list_setitem
    (wpAny_call_entry slot_list_setitem hl'.typeIs entry_list_setitem ?_ (args_list_setitem _ _ _)))
  show wpAny _ _ (Builtin.List.listSubscript? (.int i t) >>= _) _ _ s
  refine wpAny_bind (wpAny_listSubscript_int (fitsIndex_of h0 (by omega)) ?_)
  obtain ⟨j, rfl⟩ := Int.eq_ofNat_of_zero_le h0
  have hj : j < its.toArray.size := by simpa using hn
  have hx' : its.toArray[j]? = some its.toArray[j] := Array.getElem?_eq_getElem hj
  show wpAny _ _ ((seqItemAt a j >>= fun r => pure (r.map (j, ·))) >>= _) _ _ s
  refine wpAny_bind (wpAny_bind (wpAny_seqItemAt ho rfl (wpAny_pure ?_)))
  rw [hx']
  show wpAny _ _ (setSeqItemAt a j v >>= _) _ _ s
  have hfin : (s.heap.update a (Obj.mapSeq (·.setIfInBounds j v))).PlainList a (its.set j v).toArray := by
    have e : Obj.mapSeq (·.setIfInBounds j v) { cls := .type "list", data := .seq its.toArray n } = { cls := .type "list", data := .seq (its.set j v).toArray n } := by
      simp [Obj.mapSeq]
    exact ⟨n, by rw [Heap.get?_update_self _ ho (by rw [e]; rfl), e]⟩
  have fin : Q () { s with heap := s.heap.update a (Obj.mapSeq (·.setIfInBounds j v)) } := h _ (H.upd up s.toks (Heap.SameBut.update ..).extBut hfin)
  refine wpAny_bind (wpAny_setSeqItemAt ho rfl ?_)
  first
    | exact wpAny_bind (wpAny_pure (wpAny_pure ⟨.none, rfl, wpAny_pure fin⟩))
    | exact wpAny_pure ⟨.none, rfl, wpAny_pure fin⟩
theorem l_getItem {Q : Value → Shared → Prop} (hl : (Fact.list its).at s.heap a) (hi : 0 ≤ i ∧ i < 2 ^ 63) (hc : its[i.toNat]? = some v) (h : Q v s) : Wp prog w A (getItem (.ref a) (.int i t)) Q s :=
  wpAny_getItem_list (Heap.PlainList.isList hl) hi.1 hi.2 (by simpa using hc) h
theorem o_iadd {i j : Int} {t u : Tok} {Q : Value → Shared → Prop} (H : S σ h₀ fs s) (h : ∀ u s', S σ h₀ fs s' → Q (.int (i + j) u) s') : Wp prog w A (inplaceOp .Add (.int i t) (.int j u)) Q s :=
  wpAny_iadd_int (tokI H h)
theorem x_len {Q : Value → Shared → Prop} (hl : s.heap.IsList a its.toArray) (H : S σ h₀ fs s) (hz : its.length ≤ sizeLine) (h : ∀ u s', S σ h₀ fs s' → Q (.int its.length u) s') : Wp prog w A (call (.builtin "len") [.ref a]) Q s := by
  refine Calls.call_len_list (items := its.toArray) hl ?_ ?_
  · rw [List.size_toArray]; rw [sizeLine_eq] at hz; omega
  · rw [List.size_toArray]; exact tokI H h
theorem x_range1 {n : Nat} {t : Tok} {Q : Value → Shared → Prop} (H : S σ h₀ fs s) (hn : n < 2 ^ 40) (hh : A.handled = none)
    (h : ∀ xv s', S σ h₀ fs s' → Iter prog w A xv (List.range n) (fun i v => ∃ t, v = .int (i : Nat) t) h₀ s' → Iter prog w A xv (List.range n) (fun i v => ∃ t, v = .int (i : Nat) t) s'.heap s' → Q xv s') :
    Wp prog w A (call (.type "range") [.int n t]) Q s :=
  call_range_1 (h _ _ (H.grow (keeps_push s _ _)) (Iter.range hh (IsRange.new ..) hn) (Iter.range hh (IsRange.new ..) hn))
end

/-- where the top's defs and tables stand -/
structure Ad' where
  d : Unit := ()

local macro_rules | `(tactic| tb_rel) => `(tactic| first | exact S.get (by assumption) (by k_mem) | assumption | (refine S.up (by assumption) ?_; tb_rel))
local macro_rules | `(tactic| kwd_rel) => `(tactic| first | (with_reducible exact look_head) | (refine look_tail (by kernel_rfl) ?_; kwd_rel))
local macro_rules | `(tactic| kwd_inv) => `(tactic| first | (with_reducible exact Upd.head) | (with_reducible apply Upd.tail; kwd_inv))

theorem c_cells {T : Ad} {mg mb : Str → Option Value} {w : World} {A : Around} {s : Shared} {l : Addr} {vs : List Value} {xs : List Int} (X : Tp T mg mb s.heap) (F : IsDef T.cells 30 s.heap) (R : Room A 1 20)
    (hl : s.heap.IsList l vs.toArray) (hi : IntsAre vs xs) (hz : xs.length ≤ 63) :
    Wp PySem.Challenge.pw_if0009_01 w A (call (.ref T.cells) [.ref l]) (fun v s' => ∃ (a : Addr) (c0 c1 c2 : Int) (t0 t1 t2 : Tok), v = .ref a ∧ 0 ≤ c0 ∧ 0 ≤ c1 ∧ 0 ≤ c2 ∧ c0 < 100000000 ∧ c1 < 100000000 ∧ c2 < 100000000 ∧
      s.heap.get? a = none ∧ (Fact.list [.int c0 t0, .int c1 t1, .int c2 t2]).at s'.heap a ∧ Keeps s s') s := by
  refine enter F X.G (d := 0) (u := 17) R (ns := ["script"]) (lb := [("script", .ref l)]) (fun _ _ _ _ _ => by kernel_rfl) rfl (by decide +kernel) (by decide +kernel) (by decide +kernel) (by decide +kernel) (by decide +kernel) fun A' env L s1 R' he H => ?_
  have hlen : vs.length = xs.length := hi.length
  refine wpAny_execs_cons ?_
  refine wpAny_Assign_Name ?_
  refine l_new ?_
  refine wpAny_items_cons ?_
  refine c_int H fun u0 s1 H => ?_
  refine wpAny_items_cons ?_
  refine c_int H fun u1 s1 H => ?_
  refine wpAny_items_cons ?_
  refine c_int H fun u2 s1 H => ?_
  refine wpAny_items_nil ?_
  refine ⟨by rw [sizeLine_eq]; simp only [List.length_cons, List.length_nil]; omega, _, _, _, H, fun a s1 H => ?_⟩
  refine st_local he (by decide +kernel) (by decide +kernel) H (by kwd_inv) fun s1 H => ?_
  refine wpAny_execs_cons ?_
  refine f_for (α := Nat) ?_ (fun _ => rfl) (fun _ _ => rfl)
  refine x_typ he (by decide +kernel) (by decide +kernel) (by decide +kernel) (X.G.up H) X.b_range (id := "range") (by decide +kernel) (by decide +kernel) rfl rfl ?_
  refine wpAny_items_cons ?_
  refine x_blt he (by decide +kernel) (by decide +kernel) (by decide +kernel) (X.G.up H) X.b_len (id := "len") (by decide +kernel) (by decide +kernel) rfl rfl ?_
  refine wpAny_items_cons ?_
  refine n_local he (by decide +kernel) (by decide +kernel) (by decide +kernel) (by tb_rel) (by kwd_rel) ?_
  refine wpAny_items_nil ?_
  have hl2 : s1.heap.IsList l vs.toArray := hl.at fun o e => H.keep _ o e
  refine x_len hl2 H (by rw [sizeLine_eq]; omega) fun u3 s1 H => ?_
  rw [hlen]
  refine wpAny_items_nil ?_
  refine x_range1 H (by omega) R'.handled fun xv s1 H IT _ => ?_
  refine ⟨_, _, _, _, _, fun k fs => ∃ (c : Nat → Int) (t : Nat → Tok) (l' : List (Str × Value)), fs = [(a, .list [.int (c 0) (t 0), .int (c 1) (t 1), .int (c 2) (t 2)]), (L, .loc l')] ∧ look l' "script" = some (.ref l) ∧ look l' "cells" = some (.ref a) ∧
      ∀ j, j < 3 → 0 ≤ c j ∧ c j ≤ 40000 + 1000000 * k, IT, H, ?_, ?_, ?_⟩
  · refine ⟨fun j => if j = 0 then 102 else if j = 1 then 32303 else 24, fun j => if j = 0 then u0 else if j = 1 then u1 else u2, _, rfl, by kwd_rel, by kwd_rel, fun j hj => ?_⟩
    dsimp only
    split <;> (try split) <;> omega
  · rintro k i v fs I o s1 hk ⟨tv, rfl⟩ ⟨c, t, l', rfl, e1, e2, hc⟩ H
    have hki : i = k ∧ k < xs.length := by
      rcases List.getElem?_eq_some_iff.mp hk with ⟨hlt, e⟩
      rw [List.length_range] at hlt
      rw [List.getElem_range] at e
      exact ⟨e.symm, hlt⟩
    obtain ⟨rfl, hlt⟩ := hki
    refine wpAny_assign_Name ?_
    refine st_local he (by decide +kernel) (by decide +kernel) H (by kwd_inv) fun s1 H => ?_
    refine W_gen fun Q1 hQ1 => ?_
    refine wpAny_execs_cons ?_
    refine wpAny_AugAssign_Subscript_any ?_
    refine n_local he (by decide +kernel) (by decide +kernel) (by decide +kernel) (by tb_rel) (look_tail (by kernel_rfl) e2) ?_
    refine wpAny_BinOp ?_
    refine n_local he (by decide +kernel) (by decide +kernel) (by decide +kernel) (by tb_rel) (by kwd_rel) ?_
    refine c_int H fun u s1 H => ?_
    refine o_mod H (by decide) fun u s1 H => ?_
    obtain ⟨x, hx⟩ : ∃ x, xs[i]? = some x := ⟨_, List.getElem?_eq_getElem hlt⟩
    obtain ⟨tx, hv⟩ := hi.get i x hx
    obtain ⟨j, hj, hj3⟩ : ∃ j : Nat, (i : Int) % 3 = j ∧ j < 3 := ⟨i % 3, by omega, by omega⟩
    rw [hj]
    refine l_getItem (its := [.int (c 0) (t 0), .int (c 1) (t 1), .int (c 2) (t 2)]) (v := .int (c j) (t j)) (by tb_rel) (by omega) (by
      rcases (by omega : j = 0 ∨ j = 1 ∨ j = 2) with rfl | rfl | rfl <;> rfl) ?_
    refine wpAny_BinOp ?_
    refine Subscript_ ?_
    refine n_local he (by decide +kernel) (by decide +kernel) (by decide +kernel) (by tb_rel) (look_tail (by kernel_rfl) e1) ?_
    refine n_local he (by decide +kernel) (by decide +kernel) (by decide +kernel) (by tb_rel) (by kwd_rel) ?_
    have hl3 : s1.heap.IsList l vs.toArray := hl.at fun o e => H.keep _ o e
    refine tail_any hl3.typeIs slot_list_getitem.lookup (wpAny_getItem_list hl3 (by omega) (by omega) (x := .int x tx) (by simpa using hv) ?_) (by with_unfolding_all rfl)
    refine wpAny_BinOp ?_
    refine c_int H fun u s1 H => ?_
    refine c_int H fun u s1 H => ?_
    refine o_pow H (by omega) (by decide) fun u s1 H => ?_
    refine o_mod H (by decide) fun u s1 H => ?_
    refine o_iadd H fun u s1 H => ?_
    have hb := hc j hj3
    have h6 : (10 : Int) ^ (6 : Int).toNat = 1000000 := by decide
    rw [h6]
    refine l_set H (fs' := [(I, .raw o), (a, .list ([Value.int (c 0) (t 0), .int (c 1) (t 1), .int (c 2) (t 2)].set ((j : Int).toNat) (.int (c j + x % 1000000) u))), (L, .loc (("k", .int i tv) :: l'))]) (by kwd_inv) (by omega) (by simpa using hj3) (by rw [sizeLine_eq]; simp only [List.length_cons, List.length_nil]; omega) fun s1 H => ?_
    refine wpAny_execs_nil ?_
    refine hQ1 _ _ ?_
    refine ⟨_, H, fun m => if m = j then c j + x % 1000000 else c m, fun m => if m = j then u else t m, ("k", .int i tv) :: l', ?_, look_tail (by kernel_rfl) e1, look_tail (by kernel_rfl) e2, fun m hm => ?_⟩
    · congr 1
      rcases (by omega : j = 0 ∨ j = 1 ∨ j = 2) with rfl | rfl | rfl <;> rfl
    · dsimp only
      have := hc m hm
      push_cast
      split <;> omega
  · rintro fs s1 ⟨c, t, l', rfl, e1, e2, hc⟩ H
    refine wpAny_execs_cons ?_
    refine wpAny_Return_some ?_
    refine n_local he (by decide +kernel) (by decide +kernel) (by decide +kernel) (by tb_rel) e2 ?_
    have h0 := hc 0 (by decide)
    have h1 := hc 1 (by decide)
    have h2 := hc 2 (by decide)
    rw [List.length_range] at h0 h1 h2
    exact ⟨a, _, _, _, _, _, _, rfl, h0.1, h1.1, h2.1, by omega, by omega, by omega, H.new' (.head _), H.get (.head _), H.keeps⟩
end Mine
end

section
open PySem PySem.Calls PySem.Spec PyProof.Rows PySem.W
set_option Elab.async false
namespace Mine

theorem S.freeze {σ : Shared} {h₀ : Heap} {a : Addr} {f : Fact} {fs : Led} {s : Shared} (H : S σ h₀ ((a, f) :: fs) s) :
    ∃ h₁, S σ h₁ fs s ∧ f.at h₁ a ∧ (∀ b o, h₀.get? b = some o → h₁.get? b = some o) ∧ ∀ fs' s', S σ h₁ fs' s' → S σ h₀ ((a, f) :: fs') s' := by
  have nd := List.nodup_cons.mp H.nd
  have hk : ∀ b o, h₀.get? b = some o → (hideAll s.heap (fs.map (·.1))).get? b = some o := fun b o e => hideAll_get _ (H.keep b o e) fun hm => by
    obtain ⟨q, hq, rfl⟩ := List.mem_map.mp hm
    rw [H.new q (.tail _ hq)] at e; cases e
  have ha : f.at (hideAll s.heap (fs.map (·.1))) a := Fact.congr (fun o e => hideAll_get _ e nd.1) (H.get (.head _))
  refine ⟨hideAll s.heap (fs.map (·.1)), ⟨H.same, fun b o e => of_hideAll _ e, fun q hq => H.holds q (.tail _ hq), fun q hq => hideAll_none _ (List.mem_map_of_mem hq), nd.2⟩, ha, hk, fun fs' s' H' => ?_⟩
  refine ⟨H'.same, fun b o e => H'.keep b o (hk b o e), fun q hq => ?_, fun q hq => ?_, ?_⟩
  · rcases List.mem_cons.mp hq with rfl | hq
    · exact H'.up ha
    · exact H'.holds q hq
  · rcases List.mem_cons.mp hq with rfl | hq
    · exact H.new _ (.head _)
    · cases e : h₀.get? q.1 with
      | none => rfl
      | some o => have := H'.new q hq; rw [hk _ o e] at this; cases this
  · refine List.nodup_cons.mpr ⟨fun hm => ?_, H'.nd⟩
    obtain ⟨q, hq, e⟩ := List.mem_map.mp hm
    obtain ⟨o, e'⟩ := Fact.live ha
    have := H'.new q hq
    rw [show q.1 = a from e, e'] at this; cases this

noncomputable def IsI (n : Int) (v : Value) : Prop := ∃ t, v = .int n t
noncomputable def IsN (n : Nat) (v : Value) : Prop := ∃ t, v = .int n t
noncomputable def IsS (x : Str) (v : Value) : Prop := ∃ t, v = .str x t
theorem pget {α β : Type} {F : α → β → Prop} {xs : List α} {vs : List β} (P : Paired F xs vs) : ∀ {i : Nat} {a : α}, xs[i]? = some a → ∃ v, vs[i]? = some v ∧ F a v := by
  induction P with
  | nil => intro i a e; simp at e
  | cons h _ ih =>
    intro i a e
    cases i with
    | zero => cases e; exact ⟨_, rfl, h⟩
    | succ i => obtain ⟨v, e', h'⟩ := ih (by simpa using e); exact ⟨v, by simpa using e', h'⟩
theorem pset {α β : Type} {F : α → β → Prop} {xs : List α} {vs : List β} (P : Paired F xs vs) {a : α} {v : β} (e : F a v) : ∀ i : Nat, Paired F (xs.set i a) (vs.set i v) := by
  induction P with
  | nil => intro i; simpa using Paired.nil
  | cons h t ih =>
    intro i
    cases i with
    | zero => exact .cons e t
    | succ i => exact .cons h (ih i)

section
variable {prog : Program} {w : World} {A : Around} {s : Shared} {σ : Shared} {h₀ : Heap} {fs fs' : Led} {env : Env} {sc : Scope} {L : Addr} {cs : List (Str × Addr)} {x : Str} {pos : Pos} {v : Value}

theorem S.keepsOf {h₁ : Heap} (H : S σ h₁ fs s) (k : ∀ b o, σ.heap.get? b = some o → h₁.get? b = some o) : Keeps σ s := by
  obtain ⟨⟨h, tk, rfl⟩, k', _⟩ := H
  exact ⟨h, tk, rfl, fun b o e => k' b o (k b o e)⟩

theorem o_xor {a b : Nat} {t u : Tok} {Q : Value → Shared → Prop} (H : S σ h₀ fs s) (h : ∀ u s', S σ h₀ fs s' → Q (.int ((a + b - 2 * (a &&& b) : Nat) : Int) u) s') : Wp prog w A (binaryOp .BitXor (.int a t) (.int b u)) Q s := by
  refine xor_int ?_
  have e1 : Builtin.bitAnd (a : Int) b = ((a &&& b : Nat) : Int) := by
    unfold Builtin.bitAnd
    rw [decide_eq_true (Int.natCast_nonneg a), decide_eq_true (Int.natCast_nonneg b)]
    simp
  have e : Builtin.bitXor (a : Int) b = ((a + b - 2 * (a &&& b) : Nat) : Int) := by
    rw [bitXor_and, e1]
    have h1 := Nat.and_le_left (n := a) (m := b)
    have h2 := Nat.and_le_right (n := a) (m := b)
    omega
  rw [e]
  exact tokI H h
theorem t_new {elts : List Expr} {k : Nat} {Q : Value → Shared → Prop} (h : Wp prog w A (spliced (backTo pos (starEach elts env))) (fun vs s₁ => vs.length ≤ sizeLine ∧ ∃ σ h₀ fs, S σ h₀ fs s₁ ∧ ∀ a s', S σ h₀ ((a, .tup vs) :: fs) s' → Q (.ref a) s') s) :
    Wp prog w A (eval (.Tuple elts k pos) env) Q s := by
  refine wpAny_Tuple (wpAny_mono h (fun vs s₁ ⟨hz, σ, h₀, fs, H, q⟩ => ⟨hz, q _ _ ?_⟩) fun _ _ e => e)
  exact H.add (keeps_push s₁ _ _) (get_size_none _) ⟨_, Heap.get?_push_size _ rfl, rfl, _, rfl⟩
end

/-- the places: where each folder, from 0 on, lies, by the number's figures -/
noncomputable def numAt (n : Nat) : Nat → Nat
  | 0 => n
  | i + 1 => numAt n i / (i + 1)
noncomputable def placeAt (n k : Nat) : Nat := if numAt n k % (k + 1) = k then 5 else numAt n k % (k + 1)
noncomputable def aboveOf (n : Nat) : List Nat := (List.range 5).map (placeAt n)

local macro_rules | `(tactic| tb_rel) => `(tactic| first | exact S.get (by assumption) (by k_mem) | assumption | (refine S.up (by assumption) ?_; tb_rel))
local macro_rules | `(tactic| kwd_rel) => `(tactic| first | (with_reducible exact look_head) | assumption | (refine look_tail (by kernel_rfl) ?_; kwd_rel))
local macro_rules | `(tactic| kwd_inv) => `(tactic| first | (with_reducible exact Upd.head) | (with_reducible apply Upd.tail; kwd_inv))
local macro_rules | `(tactic| tb_start) => `(tactic| first | kernel_rfl | decide +kernel)

theorem range_item {n k i : Nat} (hk : (List.range n)[k]? = some i) : i = k ∧ k < n := by
  rcases List.getElem?_eq_some_iff.mp hk with ⟨hlt, e⟩
  rw [List.length_range] at hlt
  rw [List.getElem_range] at e
  exact ⟨e.symm, hlt⟩

theorem c_above {T : Ad} {mg mb : Str → Option Value} {w : World} {A : Around} {s : Shared} {n : Nat} {t : Tok} (X : Tp T mg mb s.heap) (F : IsDef T.above 31 s.heap) (R : Room A 1 20) :
    Wp PySem.Challenge.pw_if0009_01 w A (call (.ref T.above) [.int n t]) (fun v s' => ∃ a vs, v = .ref a ∧ Paired IsN (aboveOf n) vs ∧ s.heap.get? a = none ∧ (Fact.list vs).at s'.heap a ∧ Keeps s s') s := by
  refine enter F X.G (d := 0) (u := 17) R (ns := ["number"]) (lb := [("number", .int n t)]) (fun _ _ _ _ _ => by kernel_rfl) rfl (by tb_start) (by tb_start) (by tb_start) (by tb_start) (by tb_start) fun A' env L s1 R' he H => ?_
  refine wpAny_execs_cons ?_
  refine wpAny_Assign_Name ?_
  refine l_new ?_
  refine wpAny_items_nil ?_
  refine ⟨by rw [sizeLine_eq]; simp only [List.length_nil]; omega, _, _, _, H, fun a s1 H => ?_⟩
  refine st_local he (by tb_start) (by tb_start) H (by kwd_inv) fun s1 H => ?_  -- above
  refine wpAny_execs_cons ?_
  refine f_for (α := Nat) ?_ (fun _ => rfl) (fun _ _ => rfl)
  refine x_typ he (by tb_start) (by tb_start) (by tb_start) (X.G.up H) X.b_range (id := "range") (by tb_start) (by tb_start) rfl rfl ?_
  refine wpAny_items_cons ?_
  refine c_int H fun u s1 H => ?_  -- 5
  refine wpAny_items_nil ?_
  refine x_range1 (n := 5) H (by omega) R'.handled fun xv s1 H IT _ => ?_
  refine ⟨_, _, _, _, _, fun k fs => ∃ (vs : List Value) (tn : Tok) (l' : List (Str × Value)), fs = [(a, .list vs), (L, .loc l')] ∧ look l' "number" = some (.int (numAt n k) tn) ∧ look l' "above" = some (.ref a) ∧ k ≤ 5 ∧ Paired IsN ((List.range k).map (placeAt n)) vs, IT, H, ?_, ?_, ?_⟩
  · exact ⟨[], t, _, rfl, by kwd_rel, by kwd_rel, by decide, .nil⟩
  · rintro k i v fs I o s1 hk ⟨tv, rfl⟩ ⟨vs, tn, l', rfl, e1, e2, h5, hvs⟩ H
    obtain ⟨rfl, hlt⟩ := range_item hk
    refine wpAny_assign_Name ?_
    refine st_local he (by tb_start) (by tb_start) H (by kwd_inv) fun s1 H => ?_  -- k
    refine W_gen fun Q1 hQ1 => ?_
    refine wpAny_execs_cons ?_
    refine wpAny_Assign_Name ?_
    refine wpAny_BinOp ?_
    refine n_local he (by tb_start) (by tb_start) (by tb_start) (by tb_rel) (by kwd_rel) ?_  -- number
    refine wpAny_BinOp ?_
    refine n_local he (by tb_start) (by tb_start) (by tb_start) (by tb_rel) (by kwd_rel) ?_  -- k
    refine c_int H fun u s1 H => ?_  -- 1
    refine o_add H fun u s1 H => ?_
    refine o_mod H (by omega) fun u s1 H => ?_
    refine st_local he (by tb_start) (by tb_start) H (by kwd_inv) fun s1 H => ?_  -- place
    refine wpAny_execs_cons ?_
    refine wpAny_Assign_Name ?_
    refine wpAny_BinOp ?_
    refine n_local he (by tb_start) (by tb_start) (by tb_start) (by tb_rel) (by kwd_rel) ?_  -- number
    refine wpAny_BinOp ?_
    refine n_local he (by tb_start) (by tb_start) (by tb_start) (by tb_rel) (by kwd_rel) ?_  -- k
    refine c_int H fun u s1 H => ?_  -- 1
    refine o_add H fun u s1 H => ?_
    refine o_div H (by omega) fun u s1 H => ?_
    refine st_local he (by tb_start) (by tb_start) H (by kwd_inv) fun s1 H => ?_  -- number
    refine wpAny_execs_cons ?_
    refine wpAny_mono (?_ : Wp _ _ _ _ (fun f s₂ => f = .next ∧ ∃ (tp tn : Tok) (lp : List (Str × Value)), look lp "place" = some (.int (placeAt n i) tp) ∧ look lp "number" = some (.int (numAt n (i + 1)) tn) ∧ look lp "above" = some (.ref a) ∧ S s s.heap [(I, .raw o), (a, .list vs), (L, .loc lp)] s₂) s1) (fun f s₂ h₂ => ?_) fun _ _ e => e.elim
    · refine wpAny_If ?_
      refine wpAny_isTrue_Compare1 ?_
      refine n_local he (by tb_start) (by tb_start) (by tb_start) (by tb_rel) (by kwd_rel) ?_  -- place
      refine n_local he (by tb_start) (by tb_start) (by tb_start) (by tb_rel) (by kwd_rel) ?_  -- k
      refine o_eq ?_
      refine wpAny_truthy_bool ?_
      have ed : ((numAt n i : Nat) : Int) / ((i : Int) + 1) = (numAt n (i + 1) : Nat) := by
        rw [show numAt n (i + 1) = numAt n i / (i + 1) from rfl]; push_cast; rfl
      have em : ((numAt n i : Nat) : Int) % ((i : Int) + 1) = ((numAt n i % (i + 1) : Nat) : Int) := by push_cast; rfl
      rw [em]
      by_cases hp : numAt n i % (i + 1) = i
      · have : (((numAt n i % (i + 1) : Nat) : Int) == (i : Int)) = true := by simp [hp]
        rw [this, if_pos rfl]
        refine wpAny_execs_cons ?_
        refine wpAny_Assign_Name ?_
        refine c_int H fun u s1 H => ?_  -- 5
        refine st_local he (by tb_start) (by tb_start) H (by kwd_inv) fun s1 H => ?_  -- place
        refine wpAny_execs_nil ?_
        exact ⟨rfl, _, _, _, by unfold placeAt; rw [if_pos hp]; kwd_rel, by rw [← ed]; kwd_rel, by kwd_rel, H⟩
      · have : (((numAt n i % (i + 1) : Nat) : Int) == (i : Int)) = false := by
          refine beq_eq_false_iff_ne.mpr fun e => hp (by omega)
        rw [this, if_neg (by decide)]
        refine wpAny_execs_nil ?_
        exact ⟨rfl, _, _, _, by unfold placeAt; rw [if_neg hp, ← em]; kwd_rel, by rw [← ed]; kwd_rel, by kwd_rel, H⟩
    · obtain ⟨rfl, tp, tn, lp, p1, p2, p3, H⟩ := h₂
      refine wpAny_execs_cons ?_
      refine ex_expr he (by tb_start) rfl ?_
      refine MethodCall_ ?_
      refine n_local he (by tb_start) (by tb_start) (by tb_start) (by tb_rel) p3 ?_  -- above
      refine l_append_m (by tb_rel) ?_
      refine callWith_method1 ?_
      refine wpAny_items_cons ?_
      refine n_local he (by tb_start) (by tb_start) (by tb_start) (by tb_rel) p1 ?_  -- place
      refine wpAny_items_nil ?_
      have hz : vs.length = i := by rw [← hvs.length]; simp
      refine l_append H (by kwd_inv) (by rw [sizeLine_eq]; omega) fun s1 H => ?_
      refine wpAny_execs_nil ?_
      refine hQ1 _ _ ?_
      refine ⟨_, H, _, _, _, rfl, p2, p3, by omega, ?_⟩
      rw [List.range_succ, List.map_append]
      exact hvs.snoc ⟨_, rfl⟩
  · rintro fs s1 ⟨vs, tn, l', rfl, e1, e2, h5, hvs⟩ H
    refine wpAny_execs_cons ?_
    refine wpAny_Return_some ?_
    refine n_local he (by tb_start) (by tb_start) (by tb_start) (by tb_rel) e2 ?_
    exact ⟨a, vs, rfl, hvs, H.new' (.head _), H.get (.head _), H.keeps⟩
end Mine
end

section
open PySem PySem.Calls PySem.Spec PyProof.Rows PySem.W
set_option Elab.async false
namespace Mine

theorem pget2 {α β : Type} {F : α → β → Prop} {xs : List α} {vs : List β} (P : Paired F xs vs) : ∀ {i : Nat} {v : β}, vs[i]? = some v → ∃ a, xs[i]? = some a ∧ F a v := by
  induction P with
  | nil => intro i a e; simp at e
  | cons h _ ih =>
    intro i a e
    cases i with
    | zero => cases e; exact ⟨_, rfl, h⟩
    | succ i => obtain ⟨v, e', h'⟩ := ih (by simpa using e); exact ⟨v, by simpa using e', h'⟩
theorem foldl_take {α β : Type} (f : β → α → β) (z : β) {xs : List α} {i : Nat} {a : α} (h : xs[i]? = some a) : (xs.take (i + 1)).foldl f z = f ((xs.take i).foldl f z) a := by
  rw [List.take_add_one, h, List.foldl_append]; rfl

noncomputable def xorN (a b : Nat) : Nat := a + b - 2 * (a &&& b)
noncomputable def growStep (as : List Nat) (here : Nat) (g : List Nat) (k : Nat) : List Nat := g.set (as.getD k 0) (xorN (g.getD (as.getD k 0) 0) (g.getD k 0 + (here / 2 ^ k &&& 1)))
noncomputable def grownOf (as : List Nat) (here : Nat) : Nat := (([4, 3, 2, 1, 0] : List Nat).foldl (growStep as here) [0, 0, 0, 0, 0, 0]).getD 5 0
theorem grow_len (as : List Nat) (here : Nat) : ∀ (ks : List Nat) (g : List Nat), (ks.foldl (growStep as here) g).length = g.length
  | [], _ => rfl
  | k :: r, g => by rw [List.foldl_cons, grow_len as here r]; simp [growStep]

local macro_rules | `(tactic| tb_rel) => `(tactic| first | exact S.get (by assumption) (by k_mem) | assumption | (refine S.up (by assumption) ?_; tb_rel))
local macro_rules | `(tactic| kwd_rel) => `(tactic| first | (with_reducible exact look_head) | assumption | (refine look_tail (by kernel_rfl) ?_; kwd_rel))
local macro_rules | `(tactic| kwd_inv) => `(tactic| first | (with_reducible exact Upd.head) | (with_reducible apply Upd.tail; kwd_inv))
local macro_rules | `(tactic| tb_start) => `(tactic| first | kernel_rfl | decide +kernel)

theorem Tp.keeps {T : Ad} {mg mb : Str → Option Value} {h h' : Heap} (X : Tp T mg mb h) (k : ∀ b o, h.get? b = some o → h'.get? b = some o) : Tp T mg mb h' where
  G := X.G.keeps k
  f_quote := X.f_quote.keeps k
  n_quote := X.n_quote
  n_qmap := X.n_qmap
  qmap := let ⟨its, hl, r⟩ := X.qmap; ⟨its, hl.at fun o e => k _ o e, r⟩
  f_figures := X.f_figures.keeps k
  b_ord := X.b_ord
  b_chr := X.b_chr
  b_len := X.b_len
  b_range := X.b_range

theorem getD_of {α : Type} {xs : List α} {i : Nat} {d : α} (h : i < xs.length) : xs[i]? = some (xs.getD i d) := by
  rw [List.getD_eq_getElem?_getD, List.getElem?_eq_getElem h]; rfl

theorem c_grown {T : Ad} {mg mb : Str → Option Value} {w : World} {A : Around} {s : Shared} {as : List Nat} {la : Addr} {vs : List Value} {here : Nat} {t : Tok} (X : Tp T mg mb s.heap) (F : IsDef T.grown 39 s.heap) (R : Room A 1 20)
    (hl : (Fact.list vs).at s.heap la) (hv : Paired IsN as vs) (h5 : as.length = 5) (hle : ∀ x ∈ as, x ≤ 5) :
    Wp PySem.Challenge.pw_if0009_01 w A (call (.ref T.grown) [.ref la, .int here t]) (fun v s' => IsN (grownOf as here) v ∧ Keeps s s') s := by
  refine enter F X.G (d := 0) (u := 17) R (ns := ["above", "here"]) (lb := [("here", .int here t), ("above", .ref la)]) (fun _ _ _ _ _ => by kernel_rfl) rfl (by tb_start) (by tb_start) (by tb_start) (by tb_start) (by tb_start) fun A' env L s1 R' he H => ?_
  refine wpAny_execs_cons ?_
  refine wpAny_Assign_Name ?_
  refine l_new ?_
  refine wpAny_items_cons ?_
  refine c_int H fun u0 s1 H => ?_  -- 0
  refine wpAny_items_cons ?_
  refine c_int H fun u1 s1 H => ?_  -- 0
  refine wpAny_items_cons ?_
  refine c_int H fun u2 s1 H => ?_  -- 0
  refine wpAny_items_cons ?_
  refine c_int H fun u3 s1 H => ?_  -- 0
  refine wpAny_items_cons ?_
  refine c_int H fun u4 s1 H => ?_  -- 0
  refine wpAny_items_cons ?_
  refine c_int H fun u5 s1 H => ?_  -- 0
  refine wpAny_items_nil ?_
  refine ⟨by rw [sizeLine_eq]; simp only [List.length_cons, List.length_nil]; omega, _, _, _, H, fun a s1 H => ?_⟩
  refine st_local he (by tb_start) (by tb_start) H (by kwd_inv) fun s1 H => ?_  -- grown
  refine wpAny_execs_cons ?_
  refine f_for (α := Value) ?_ (fun _ => rfl) (fun _ _ => rfl)
  refine t_new ?_
  refine wpAny_items_cons ?_
  refine c_int H fun v4 s1 H => ?_  -- 4
  refine wpAny_items_cons ?_
  refine c_int H fun v3 s1 H => ?_  -- 3
  refine wpAny_items_cons ?_
  refine c_int H fun v2 s1 H => ?_  -- 2
  refine wpAny_items_cons ?_
  refine c_int H fun v1 s1 H => ?_  -- 1
  refine wpAny_items_cons ?_
  refine c_int H fun v0 s1 H => ?_  -- 0
  refine wpAny_items_nil ?_
  refine ⟨by rw [sizeLine_eq]; simp only [List.length_cons, List.length_nil]; omega, _, _, _, H, fun b s1 H => ?_⟩
  obtain ⟨h₁, H, hb, k₁, -⟩ := H.freeze
  have hks : Paired IsN [4, 3, 2, 1, 0] [Value.int 4 v4, .int 3 v3, .int 2 v2, .int 1 v1, .int 0 v0] := .cons ⟨_, rfl⟩ (.cons ⟨_, rfl⟩ (.cons ⟨_, rfl⟩ (.cons ⟨_, rfl⟩ (.cons ⟨_, rfl⟩ .nil))))
  have hla : (Fact.list vs).at h₁ la := Fact.congr (fun o e => k₁ _ o e) hl
  refine ⟨_, _, _, _, _, fun i fs => ∃ (gs : List Value) (l' : List (Str × Value)), fs = [(a, .list gs), (L, .loc l')] ∧ look l' "above" = some (.ref la) ∧ look l' "here" = some (.int here t) ∧ look l' "grown" = some (.ref a) ∧
      Paired IsN ((([4, 3, 2, 1, 0] : List Nat).take i).foldl (growStep as here) [0, 0, 0, 0, 0, 0]) gs, Iter.tup R'.handled hb (H.up hb), H, ?_, ?_, ?_⟩
  · exact ⟨_, _, rfl, by kwd_rel, by kwd_rel, by kwd_rel, .cons ⟨_, rfl⟩ (.cons ⟨_, rfl⟩ (.cons ⟨_, rfl⟩ (.cons ⟨_, rfl⟩ (.cons ⟨_, rfl⟩ (.cons ⟨_, rfl⟩ .nil)))))⟩
  · rintro i v v' fs I o s1 hk rfl ⟨gs, l', rfl, e1, e2, e3, hg⟩ H
    obtain ⟨k, hki, tv, rfl⟩ := pget2 hks hk
    have hk5 : k < 5 := by
      have := List.mem_of_getElem? hki
      simp only [List.mem_cons, List.not_mem_nil, or_false] at this
      omega
    have hgl := hg.length
    rw [grow_len] at hgl
    generalize hgg : (([4, 3, 2, 1, 0] : List Nat).take i).foldl (growStep as here) [0, 0, 0, 0, 0, 0] = g at hg
    have hgl6 : g.length = 6 := by rw [← hgg, grow_len]; rfl
    obtain ⟨va, hva, ta, rfl⟩ := pget hv (getD_of (d := 0) (by rw [h5]; exact hk5))
    have ha5 : as.getD k 0 ≤ 5 := hle _ (List.mem_of_getElem? (getD_of (d := 0) (by rw [h5]; exact hk5)))
    obtain ⟨vg, hvg, tg, rfl⟩ := pget hg (getD_of (d := 0) (i := as.getD k 0) (by rw [hgl6]; omega))
    obtain ⟨vk, hvk, tk, rfl⟩ := pget hg (getD_of (d := 0) (i := k) (by rw [hgl6]; omega))
    refine wpAny_assign_Name ?_
    refine st_local he (by tb_start) (by tb_start) H (by kwd_inv) fun s1 H => ?_  -- k
    refine W_gen fun Q1 hQ1 => ?_
    refine wpAny_execs_cons ?_
    refine wpAny_Assign_Subscript ?_
    refine wpAny_BinOp ?_
    refine Subscript_ ?_
    refine n_local he (by tb_start) (by tb_start) (by tb_start) (by tb_rel) (by kwd_rel) ?_  -- grown
    refine Subscript_ ?_
    refine n_local he (by tb_start) (by tb_start) (by tb_start) (by tb_rel) (by kwd_rel) ?_  -- above
    refine n_local he (by tb_start) (by tb_start) (by tb_start) (by tb_rel) (by kwd_rel) ?_  -- k
    refine l_item (its := vs) (by tb_rel) (by omega) hva (by with_unfolding_all rfl) ?_
    refine l_item (its := gs) (by tb_rel) (by omega) hvg (by with_unfolding_all rfl) ?_
    refine wpAny_BinOp ?_
    refine Subscript_ ?_
    refine n_local he (by tb_start) (by tb_start) (by tb_start) (by tb_rel) (by kwd_rel) ?_  -- grown
    refine n_local he (by tb_start) (by tb_start) (by tb_start) (by tb_rel) (by kwd_rel) ?_  -- k
    refine l_item (its := gs) (by tb_rel) (by omega) hvk (by with_unfolding_all rfl) ?_
    refine wpAny_BinOp ?_
    refine wpAny_BinOp ?_
    refine n_local he (by tb_start) (by tb_start) (by tb_start) (by tb_rel) (by kwd_rel) ?_  -- here
    refine n_local he (by tb_start) (by tb_start) (by tb_start) (by tb_rel) (by kwd_rel) ?_  -- k
    refine o_shr H (by omega) fun u s1 H => ?_
    refine c_int H fun u s1 H => ?_  -- 1
    have es : (here : Int) / 2 ^ ((k : Int)).toNat = ((here / 2 ^ k : Nat) : Int) := by rw [Int.toNat_natCast]; push_cast; rfl
    rw [es]
    refine o_and H (Int.natCast_nonneg _) (by omega) fun u s1 H => ?_
    refine o_add H fun u s1 H => ?_
    have ea : ((g.getD k 0 : Nat) : Int) + (((((here / 2 ^ k : Nat) : Int)).toNat &&& (1 : Int).toNat : Nat) : Int) = ((g.getD k 0 + (here / 2 ^ k &&& 1) : Nat) : Int) := by push_cast; rfl
    rw [ea]
    refine o_xor H fun u s1 H => ?_
    refine n_local he (by tb_start) (by tb_start) (by tb_start) (by tb_rel) (by kwd_rel) ?_  -- grown
    refine Subscript_ ?_
    refine n_local he (by tb_start) (by tb_start) (by tb_start) (by tb_rel) (by kwd_rel) ?_  -- above
    refine n_local he (by tb_start) (by tb_start) (by tb_start) (by tb_rel) (by kwd_rel) ?_  -- k
    refine l_item (its := vs) (by tb_rel) (by omega) hva (by with_unfolding_all rfl) ?_
    have hlen : gs.length = 6 := by rw [← hg.length, hgl6]
    refine l_set H (its := gs) (by kwd_inv) (by omega) (by rw [Int.toNat_natCast, hlen]; omega) (by rw [sizeLine_eq, hlen]; omega) fun s1 H => ?_
    refine wpAny_execs_nil ?_
    refine hQ1 _ _ ?_
    refine ⟨_, H, _, _, rfl, by kwd_rel, by kwd_rel, by kwd_rel, ?_⟩
    rw [foldl_take _ _ hki, hgg]
    exact pset hg ⟨_, rfl⟩ _
  · rintro fs s1 ⟨gs, l', rfl, e1, e2, e3, hg⟩ H
    refine wpAny_execs_cons ?_
    refine wpAny_Return_some ?_
    refine Subscript_ ?_
    refine n_local he (by tb_start) (by tb_start) (by tb_start) (by tb_rel) (by kwd_rel) ?_  -- grown
    refine c_int H fun u s1 H => ?_  -- 5
    obtain ⟨vk, hvk, tk, rfl⟩ := pget hg (getD_of (d := 0) (i := 5) (by rw [grow_len]; decide))
    refine l_item (its := gs) (by tb_rel) (by omega) hvk (by with_unfolding_all rfl) ?_
    exact ⟨⟨_, rfl⟩, H.keepsOf k₁⟩
end Mine
end

section
open PySem PySem.Calls PySem.Spec PyProof.Rows PySem.W
set_option Elab.async false
namespace Mine

section
variable {prog : Program} {w : World} {A : Around} {s : Shared} {σ : Shared} {h₀ : Heap} {fs fs' : Led} {env : Env} {sc : Scope} {L : Addr} {cs : List (Str × Addr)} {x : Str} {pos : Pos} {v : Value}

theorem noswap_cell {elt iter : Expr} {t : Expr} {y : Str} {py p2 : Pos} {ifs : List Expr} {scope : Scope} {line : Nat} (he : EnvAt env sc L cs) (hy : sc.names.lookup y = some .cell) :
    swapsWith (.ListComp elt [⟨t, iter, ifs, 0⟩] scope p2) (some (.Name y py)) line env = pure false := by
  have e2 : (env.kindOf y == some NameKind.local) = false := by unfold Env.kindOf; rw [he.scope, hy]; rfl
  show (pure (env.blockKind == .function && env.kindOf y == some .local && py.line == p2.line && !(scope.names.any fun (n, k) => n == y && (k == .local || k == .cell))) : Sem Bool) = pure false
  rw [e2]; simp

theorem Iter.rangeG {r : Addr} {a b c : Int} {n : Nat} {t u v : Tok} (hh : A.handled = none) (hr : IsRange s.heap r a b c t u v) (e : Builtin.Range.rangeSize a b c = (n : Int)) (hsmall : Builtin.Range.small a b c = true) :
    Iter prog w A (.ref r) (List.range n) (fun i v => ∃ t, v = .int (a + (i : Nat) * c) t) h₀ s where
  go := fun Q h => by
    refine wpAny_pyIter_range hr hsmall ?_
    have W := Walks.range (prog := prog) (w := w) hh s.heap.objs.size a c n
    rw [← List.length_range (n := n)] at W
    refine h s.heap.objs.size [s.heap.objs.size] [s.heap.objs.size] _ _ (walks_mono W fun i v hi ⟨t, e⟩ => ⟨i, by rw [List.length_range] at hi; exact List.getElem?_range hi, t, e⟩) ?_ ?_ ?_ ?_ ?_ (get_size_none _) (keeps_push s _ _)
    · show IsRangeIter _ _ _ _ _
      rw [e]; simpa using Heap.get?_push_size _ rfl
    · intro b hb; exact .inl (List.mem_singleton.mp hb)
    · intro b hb; exact List.mem_singleton.mp hb
    · exact List.mem_singleton.mpr rfl
    · intro i h st; exact ⟨_, st⟩
theorem x_range2 {a b : Int} {n : Nat} {t u : Tok} {Q : Value → Shared → Prop} (H : S σ h₀ fs s) (hh : A.handled = none) (e : Builtin.Range.rangeSize a b 1 = (n : Int)) (hsmall : Builtin.Range.small a b 1 = true)
    (h : ∀ xv s', S σ h₀ fs s' → Iter prog w A xv (List.range n) (fun i v => ∃ t, v = .int (a + (i : Nat) * 1) t) h₀ s' → Q xv s') :
    Wp prog w A (call (.type "range") [.int a t, .int b u]) Q s :=
  call_range_2 (h _ _ (H.grow (keeps_push s _ _)) (Iter.rangeG hh (IsRange.new ..) e hsmall))

theorem ct_nil {Q : Bool → Shared → Prop} (h : Q true s) : Wp prog w A (compTests' [] env) Q s := wpAny_pure h
theorem ct_one {c : Expr} {Q : Bool → Shared → Prop} (h : Wp prog w A (isTrue c env (eval c env)) Q s) : Wp prog w A (compTests' [c] env) Q s := by
  show Wp prog w A (forIn [c] true _) Q s
  rw [List.forIn_cons]
  refine wpAny_bind ?_
  rw [if_pos rfl]
  exact wpAny_bind (wpAny_mono h (fun b s₁ h₁ => wpAny_pure (wpAny_pure h₁)) fun _ _ e => e.elim)
theorem ints_of : ∀ {xs : List Nat} {vs : List Value}, Paired IsN xs vs → IntsAre vs (xs.map Int.ofNat)
  | _, _, .nil => .nil
  | _, _, .cons ⟨t, e⟩ r => by subst e; exact .cons _ t (ints_of r)
theorem x_min {l : Addr} {vs : List Value} {xs : List Nat} {m : Nat} {Q : Value → Shared → Prop} (hh : A.handled = none) (hl : s.heap.IsList l vs.toArray) (hi : Paired IsN xs vs) (hm : m ∈ xs) (hle : ∀ y ∈ xs, m ≤ y)
    (h : ∀ u s', Keeps s s' → Q (.int m u) s') : Wp prog w A (call (.builtin "min") [.ref l]) Q s := by
  have I := ints_of hi
  obtain ⟨ys, hy⟩ := I.allInts.items
  have hn := I.numsOf
  have e1 : numsOf vs.toArray.toList = xs.map Int.ofNat := hn
  rw [hy] at hl e1
  rw [nums_intItems] at e1
  have hlen : ys.toList.length = xs.length := by
    have := congrArg List.length e1; simpa using this
  have hpos : 0 < xs.length := List.length_pos_of_mem hm
  refine min_intList hh hl (by rw [← Array.length_toList]; omega) fun v h' tk hv hk => ?_
  obtain ⟨t, rfl⟩ := intItems_at hv
  obtain ⟨h1, h2⟩ := argBest_lt (PySem.numAt ys) (ys.size - 1)
  have hsz : ys.size = xs.length := by rw [← hlen, Array.length_toList]
  have hin : PySem.numAt ys (argBest (fun i j => decide (PySem.numAt ys i < PySem.numAt ys j)) (ys.size - 1)) = m := by
    generalize argBest (fun i j => decide (PySem.numAt ys i < PySem.numAt ys j)) (ys.size - 1) = k at h1 h2
    have ea : ∀ j, j < xs.length → PySem.numAt ys j = ((xs.getD j 0 : Nat) : Int) := fun j hj => by
      rw [numAt_eq, e1, List.getD_eq_getElem?_getD, List.getElem?_map, List.getElem?_eq_getElem hj, List.getD_eq_getElem?_getD, List.getElem?_eq_getElem hj]; rfl
    obtain ⟨j, hj, rfl⟩ := List.getElem_of_mem hm
    have a1 := h2 j (by omega)
    rw [ea k (by omega), ea j hj] at a1
    have a2 := hle _ (List.mem_of_getElem? (getD_of (d := 0) (i := k) (xs := xs) (by omega)))
    have a3 : xs.getD j 0 = xs[j] := by rw [List.getD_eq_getElem?_getD, List.getElem?_eq_getElem hj]; rfl
    rw [ea k (by omega)]
    rw [a3] at a1
    omega
  rw [hin]
  exact h _ _ ⟨h', tk, rfl, hk⟩
end

theorem paired_map {α : Type} (f : α → Nat) : ∀ {xs : List α} {ys : List Value}, Paired (fun a y => IsN (f a) y) xs ys → Paired IsN (xs.map f) ys
  | _, _, .nil => .nil
  | _, _, .cons h r => .cons h (paired_map f r)

theorem cells1 {cs : List (Str × Addr)} {x : Str} (h : cs.map (·.1) = [x]) : ∃ a, cs = [(x, a)] := by
  obtain ⟨⟨y, a⟩, r, rfl, e, h⟩ := List.map_eq_cons_iff.mp h
  obtain rfl := List.map_eq_nil_iff.mp h
  cases e; exact ⟨a, rfl⟩
theorem cells3 {cs : List (Str × Addr)} {x y z : Str} (h : cs.map (·.1) = [x, y, z]) : ∃ a b c, cs = [(x, a), (y, b), (z, c)] := by
  obtain ⟨⟨_, a⟩, r, rfl, e, h⟩ := List.map_eq_cons_iff.mp h
  obtain ⟨⟨_, b⟩, r, rfl, e', h⟩ := List.map_eq_cons_iff.mp h
  obtain ⟨c, rfl⟩ := cells1 h
  cases e; cases e'; exact ⟨a, b, c, rfl⟩
theorem cells4 {cs : List (Str × Addr)} {x y z u : Str} (h : cs.map (·.1) = [x, y, z, u]) : ∃ a b c d, cs = [(x, a), (y, b), (z, c), (u, d)] := by
  obtain ⟨⟨_, a⟩, r, rfl, e, h⟩ := List.map_eq_cons_iff.mp h
  obtain ⟨b, c, d, rfl⟩ := cells3 h
  cases e; exact ⟨a, b, c, d, rfl⟩

/-- the least number from 0 to 5 that is not there; the worths that one turn leads to; the worths of the first choices -/
noncomputable def mexL (a : List Nat) : List Nat := (List.range 6).filter fun n => !(a.any (· == n))
noncomputable def afterOf (ms worth : List Nat) (here : Nat) : List Nat := ((List.range 5).filter fun k => here / 2 ^ k &&& 1 == 1).map fun k => worth.getD (here - (here &&& ms.getD k 0)) 0
noncomputable def gameAt (ms : List Nat) : Nat → List Nat
  | 0 => [0]
  | i + 1 => gameAt ms i ++ [(mexL (afterOf ms (gameAt ms i) (i + 1))).headD 0]
noncomputable def GameOk (ms : List Nat) : Prop := ∀ i, i < 31 → (mexL (afterOf ms (gameAt ms i) (i + 1))).headD 0 ∈ mexL (afterOf ms (gameAt ms i) (i + 1)) ∧ (∀ y ∈ mexL (afterOf ms (gameAt ms i) (i + 1)), (mexL (afterOf ms (gameAt ms i) (i + 1))).headD 0 ≤ y) ∧
  ∀ k, k < 5 → ((i + 1) / 2 ^ k &&& 1 == 1) = true → 0 < (i + 1) &&& ms.getD k 0
theorem gameAt_len (ms : List Nat) : ∀ i, (gameAt ms i).length = i + 1
  | 0 => rfl
  | i + 1 => by rw [gameAt, List.length_append, gameAt_len ms i]; rfl

local macro_rules | `(tactic| tb_rel) => `(tactic| first | exact S.get (by assumption) (by k_mem) | assumption | (refine S.up (by assumption) ?_; tb_rel))
theorem lk_head {α : Type} {x : Str} {v : α} {r : List (Str × α)} : List.lookup x ((x, v) :: r) = some v := by simp
theorem lk_tail {α : Type} {x y : Str} {v u : α} {r : List (Str × α)} (hne : (x == y) = false) (h : List.lookup x r = some u) : List.lookup x ((y, v) :: r) = some u := by
  rw [List.lookup_cons, hne]; exact h
local macro_rules | `(tactic| kwd_rel) => `(tactic| first | (with_reducible exact look_head) | (with_reducible exact lk_head) | assumption | (refine look_tail (by kernel_rfl) ?_; kwd_rel) | (refine lk_tail (by kernel_rfl) ?_; kwd_rel))
local macro_rules | `(tactic| kwd_inv) => `(tactic| first | (with_reducible exact Upd.head) | (with_reducible apply Upd.tail; kwd_inv))
local macro_rules | `(tactic| kwd_less) => `(tactic| first | exact List.Sublist.refl _ | (refine List.Sublist.cons_cons _ ?_; kwd_less) | (refine List.Sublist.cons _ ?_; kwd_less))
local macro_rules | `(tactic| tb_start) => `(tactic| first | kernel_rfl | decide +kernel)

theorem c_game {T : Ad} {mg mb : Str → Option Value} {w : World} {A : Around} {s : Shared} {ms : List Nat} {lm : Addr} {vs : List Value} (X : Tp T mg mb s.heap) (Bmin : mg "min" = none) (F : IsDef T.game 38 s.heap) (R : Room A 1 20)
    (hl : (Fact.list vs).at s.heap lm) (hv : Paired IsN ms vs) (h5 : ms.length = 5) (hok : GameOk ms) :
    Wp PySem.Challenge.pw_if0009_01 w A (call (.ref T.game) [.ref lm]) (fun v s' => ∃ a ws, v = .ref a ∧ Paired IsN (gameAt ms 31) ws ∧ s.heap.get? a = none ∧ (Fact.list ws).at s'.heap a ∧ Keeps s s') s := by
  refine enterC F X.G (d := 0) (u := 17) R ["after", "here", "worth", "masks"] [] [("masks", .ref lm)] (ns := ["masks"]) (fun _ _ _ _ _ => by kernel_rfl) (by kernel_rfl) (by kernel_rfl) (by kernel_rfl) (by tb_start) (by tb_start) (by tb_start) (by tb_start) (by tb_start) fun A' env L cs s1 R' hcs he H => ?_
  obtain ⟨ca, ch, cw, cm, rfl⟩ := cells4 hcs
  have e1 : look [("masks", Value.ref lm)] "masks" = some (.ref lm) := by kwd_rel
  simp only [List.map_cons, List.map_nil] at H
  rw [e1] at H
  refine wpAny_execs_cons ?_
  refine wpAny_Assign_Name ?_
  refine l_new ?_
  refine wpAny_items_cons ?_
  refine c_int H fun u0 s1 H => ?_  -- 0
  refine wpAny_items_nil ?_
  refine ⟨by rw [sizeLine_eq]; simp only [List.length_cons, List.length_nil]; omega, _, _, _, H, fun a s1 H => ?_⟩
  refine st_cell he (by tb_start) (by tb_start) (by kwd_rel) H (by kwd_inv) fun s1 H => ?_  -- worth
  refine wpAny_execs_cons ?_
  refine f_for (α := Nat) ?_ (fun _ => rfl) (fun _ _ => rfl)
  refine x_typ he (by tb_start) (by tb_start) (by tb_start) (X.G.up H) X.b_range (id := "range") (by tb_start) (by tb_start) rfl rfl ?_
  refine wpAny_items_cons ?_
  refine c_int H fun u s1 H => ?_  -- 1
  refine wpAny_items_cons ?_
  refine c_int H fun u s1 H => ?_  -- 32
  refine wpAny_items_nil ?_
  refine x_range2 (n := 31) H R'.handled (by decide) (by decide) fun xv s1 H IT => ?_
  refine ⟨_, _, _, _, _, fun k fs => ∃ (ws : List Value) (va vh : Option Value), fs = [(a, .list ws), (L, .loc []), (ca, .cell va), (ch, .cell vh), (cw, .cell (some (.ref a))), (cm, .cell (some (.ref lm)))] ∧ k ≤ 31 ∧ Paired IsN (gameAt ms k) ws, IT, H, ?_, ?_, ?_⟩
  · exact ⟨_, _, _, rfl, by decide, .cons ⟨_, rfl⟩ .nil⟩
  · rintro k i v fs I o s1 hk ⟨tv, rfl⟩ ⟨ws, va, vh, rfl, h31, hws⟩ H
    obtain ⟨rfl, hlt⟩ := range_item hk
    refine wpAny_assign_Name ?_
    refine st_cell he (by tb_start) (by tb_start) (by kwd_rel) H (by kwd_inv) fun s1 H => ?_  -- here
    refine W_gen fun Q1 hQ1 => ?_
    have hh : (1 : Int) + (i : Int) * 1 = ((i + 1 : Nat) : Int) := by push_cast; omega
    rw [hh] at H
    have hok' := hok i hlt
    refine wpAny_execs_cons ?_
    refine wpAny_Assign_Name ?_ (noswap_cell he (by tb_start))
    refine l_comp (α := Nat) (fun k => (i + 1) / 2 ^ k &&& 1 == 1) (fun k v => ∃ t, v = .int ((k : Nat) : Int) t) (fun k y => IsN ((gameAt ms i).getD ((i + 1) - ((i + 1) &&& ms.getD k 0)) 0) y) he (cl := [("worth", cw), ("masks", cm), ("here", ch)]) (by kernel_rfl) ⟨(by tb_start), (by tb_start), (by tb_start), (by tb_start)⟩ (fun _ => rfl) ?_
    refine x_typ he (by tb_start) (by tb_start) (by tb_start) (X.G.up H) X.b_range (id := "range") (by tb_start) (by tb_start) rfl rfl ?_
    refine wpAny_items_cons ?_
    refine c_int H fun u s1 H => ?_  -- 5
    refine wpAny_items_nil ?_
    refine x_range1 (n := 5) H (by omega) R'.handled fun xv s1 H _ IT => ?_
    refine ⟨_, _, _, _, IT, H, ⟨by rw [sizeLine_eq]; decide, ?_, ?_, ?_⟩, fun D ys s1 hys H => ?_⟩
    · rintro x y v ⟨t, rfl⟩ ⟨t', e⟩
      injection e with e _
      omega
    · rintro k v C env' s3 hm ⟨tk, rfl⟩ he' hC hk
      have f1 := Fact.congr (hk _) (H.get (a := ch) (f := .cell (some (.int ((i + 1 : Nat) : Int) tv))) (by k_mem))
      refine ct_one ?_
      have H := S.start s3
      refine wpAny_isTrue_Compare1 ?_
      refine wpAny_BinOp ?_
      refine wpAny_BinOp ?_
      refine n_cell he' (by tb_start) (by tb_start) (by tb_start) (by kwd_rel) (by tb_rel) ?_  -- here
      refine n_local he' (by tb_start) (by tb_start) (by tb_start) (by tb_rel) (by kwd_rel) ?_  -- k
      refine o_shr H (by omega) fun u s1 H => ?_
      refine c_int H fun u s1 H => ?_  -- 1
      have es : ((i + 1 : Nat) : Int) / 2 ^ ((k : Int)).toNat = (((i + 1) / 2 ^ k : Nat) : Int) := by rw [Int.toNat_natCast]; push_cast; rfl
      rw [es]
      refine o_and H (Int.natCast_nonneg _) (by omega) fun u s1 H => ?_
      refine c_int H fun u s1 H => ?_  -- 1
      refine o_eq ?_
      refine wpAny_truthy_bool ?_
      refine ⟨?_, H.keeps⟩
      rw [Int.toNat_natCast]
      show (((((i + 1) / 2 ^ k &&& 1 : Nat) : Int)) == 1) = (((i + 1) / 2 ^ k &&& 1) == 1)
      generalize (i + 1) / 2 ^ k &&& 1 = m
      by_cases h : m = 1
      · subst h; rfl
      · rw [beq_eq_false_iff_ne.mpr h, beq_eq_false_iff_ne.mpr (by omega)]
    · rintro k v C env' s3 hm ⟨tk, rfl⟩ hz he' hC hk
      have f1 := Fact.congr (hk _) (H.get (a := ch) (f := .cell (some (.int ((i + 1 : Nat) : Int) tv))) (by k_mem))
      have f2 := Fact.congr (hk _) (H.get (a := cw) (f := .cell (some (.ref a))) (by k_mem))
      have f3 := Fact.congr (hk _) (H.get (a := cm) (f := .cell (some (.ref lm))) (by k_mem))
      have f4 := Fact.congr (hk _) (H.get (a := a) (f := .list ws) (by k_mem))
      have f5 := Fact.congr (hk _) (H.up hl)
      have H := S.start s3
      have hk5 : k < 5 := List.mem_range.mp hm
      have hpos := hok'.2.2 k hk5 hz
      obtain ⟨vm, hvm, tm, rfl⟩ := pget hv (getD_of (d := 0) (i := k) (by rw [h5]; exact hk5))
      have hle := Nat.and_le_left (n := i + 1) (m := ms.getD k 0)
      obtain ⟨vw, hvw, tw, rfl⟩ := pget hws (getD_of (d := 0) (i := (i + 1) - ((i + 1) &&& ms.getD k 0)) (by rw [gameAt_len]; omega))
      refine Subscript_ ?_
      refine n_cell he' (by tb_start) (by tb_start) (by tb_start) (by kwd_rel) (by tb_rel) ?_  -- worth
      refine wpAny_BinOp ?_
      refine n_cell he' (by tb_start) (by tb_start) (by tb_start) (by kwd_rel) (by tb_rel) ?_  -- here
      refine wpAny_BinOp ?_
      refine n_cell he' (by tb_start) (by tb_start) (by tb_start) (by kwd_rel) (by tb_rel) ?_  -- here
      refine Subscript_ ?_
      refine n_cell he' (by tb_start) (by tb_start) (by tb_start) (by kwd_rel) (by tb_rel) ?_  -- masks
      refine n_local he' (by tb_start) (by tb_start) (by tb_start) (by tb_rel) (by kwd_rel) ?_  -- k
      refine l_item (its := vs) (by tb_rel) (by omega) hvm (by with_unfolding_all rfl) ?_
      refine o_and H (by omega) (by omega) fun u s1 H => ?_
      refine o_sub H fun u s1 H => ?_
      have ei : ((i + 1 : Nat) : Int) - ((((i + 1 : Nat) : Int).toNat &&& ((ms.getD k 0 : Nat) : Int).toNat : Nat) : Int) = (((i + 1) - ((i + 1) &&& ms.getD k 0) : Nat) : Int) := by
        rw [Int.toNat_natCast, Int.toNat_natCast]; omega
      rw [ei]
      refine l_item (its := ws) (by tb_rel) (by omega) hvw (by with_unfolding_all rfl) ?_
      exact ⟨⟨_, rfl⟩, H.keeps⟩
    have ha := paired_map _ hys
    have ea : List.map (fun k => (gameAt ms i).getD ((i + 1) - ((i + 1) &&& ms.getD k 0)) 0) (List.filter (fun k => (i + 1) / 2 ^ k &&& 1 == 1) (List.range 5)) = afterOf ms (gameAt ms i) (i + 1) := rfl
    rw [ea] at ha
    refine st_cell he (by tb_start) (by tb_start) (by kwd_rel) H (by kwd_inv) fun s1 H => ?_  -- after
    refine wpAny_execs_cons ?_
    refine ex_expr he (by tb_start) rfl ?_
    refine MethodCall_ ?_
    refine n_cell he (by tb_start) (by tb_start) (by tb_start) (by kwd_rel) (by tb_rel) ?_  -- worth
    refine l_append_m (its := ws) (by tb_rel) ?_
    refine callWith_method1 ?_
    refine wpAny_items_cons ?_
    refine x_blt he (by tb_start) (by tb_start) (by tb_start) (X.G.up H) Bmin (id := "min") (by tb_start) (by tb_start) rfl rfl ?_
    refine wpAny_items_cons ?_
    refine l_comp (α := Nat) (fun n => !((afterOf ms (gameAt ms i) (i + 1)).any (· == n))) (fun k v => ∃ t, v = .int ((k : Nat) : Int) t) (fun k y => IsN k y) he (cl := [("after", ca)]) (by kernel_rfl) ⟨(by tb_start), (by tb_start), (by tb_start), (by tb_start)⟩ (fun _ => rfl) ?_
    refine x_typ he (by tb_start) (by tb_start) (by tb_start) (X.G.up H) X.b_range (id := "range") (by tb_start) (by tb_start) rfl rfl ?_
    refine wpAny_items_cons ?_
    refine c_int H fun u s1 H => ?_  -- 6
    refine wpAny_items_nil ?_
    refine x_range1 (n := 6) H (by omega) R'.handled fun xv s1 H _ IT => ?_
    refine ⟨_, _, _, _, IT, H, ⟨by rw [sizeLine_eq]; decide, ?_, ?_, ?_⟩, fun E zs s1 hzs H => ?_⟩
    · rintro x y v ⟨t, rfl⟩ ⟨t', e⟩
      injection e with e _
      omega
    · rintro k v C env' s3 hm ⟨tk, rfl⟩ he' hC hk
      have f1 := Fact.congr (hk _) (H.get (a := ca) (f := .cell (some (.ref D))) (by k_mem))
      have f2 := Fact.congr (hk _) (H.get (a := D) (f := .list ys) (by k_mem))
      refine ct_one ?_
      have H := S.start s3
      refine wpAny_isTrue_Compare1 ?_
      refine n_local he' (by tb_start) (by tb_start) (by tb_start) (by tb_rel) (by kwd_rel) ?_  -- n
      refine n_cell he' (by tb_start) (by tb_start) (by tb_start) (by kwd_rel) (by tb_rel) ?_  -- after
      refine notin_list_ints (Heap.PlainList.isList f2) (ints_of ha) ?_
      refine wpAny_truthy_bool ?_
      refine ⟨?_, H.keeps⟩
      rw [List.any_map]
      congr 2
      funext y
      show ((y : Int) == (k : Int)) = (y == k)
      by_cases h : y = k
      · subst h; simp
      · rw [beq_eq_false_iff_ne.mpr h, beq_eq_false_iff_ne.mpr (by omega)]
    · rintro k v C env' s3 hm ⟨tk, rfl⟩ hz he' hC hk
      have H := S.start s3
      refine n_local he' (by tb_start) (by tb_start) (by tb_start) (by tb_rel) (by kwd_rel) ?_  -- n
      exact ⟨⟨_, rfl⟩, H.keeps⟩
    refine wpAny_items_nil ?_
    have hz' : Paired IsN (mexL (afterOf ms (gameAt ms i) (i + 1))) zs := hzs
    have hzl : (Fact.list zs).at s1.heap E := H.get (.head _)
    refine x_min R'.handled (Heap.PlainList.isList hzl) hz' hok'.1 hok'.2.1 fun u s2 k2 => ?_
    have H := H.grow k2
    refine wpAny_items_nil ?_
    have hwl : ws.length = i + 1 := by rw [← hws.length, gameAt_len]
    refine l_append H (its := ws) (by kwd_inv) (by rw [sizeLine_eq]; omega) fun s1 H => ?_
    refine wpAny_execs_nil ?_
    refine hQ1 _ _ ?_
    refine ⟨_, H.drop (by kwd_less), _, _, _, rfl, by omega, hws.snoc ⟨_, rfl⟩⟩
  · rintro fs s1 ⟨ws, va, vh, rfl, h31, hws⟩ H
    refine wpAny_execs_cons ?_
    refine wpAny_Return_some ?_
    refine n_cell he (by tb_start) (by tb_start) (by tb_start) (by kwd_rel) (by tb_rel) ?_  -- worth
    exact ⟨a, ws, rfl, hws, H.new' (.head _), H.get (.head _), H.keeps⟩
end Mine
end

section
open PySem PySem.Calls PySem.Spec PyProof.Rows PySem.W
set_option Elab.async false
namespace Mine

/-- a text by its signs -/
noncomputable def tx (l : List Nat) : Str := ⟨l.toArray⟩
theorem tx_app (a b : List Nat) : tx a ++ tx b = tx (a ++ b) := by
  show Str.mk (a.toArray ++ b.toArray) = Str.mk (a ++ b).toArray
  simp
theorem tx_len (a : List Nat) : (tx a).length = a.length := by
  show a.toArray.size = _
  simp
theorem tx_inj {a b : List Nat} (h : tx a = tx b) : a = b := by
  injection h with h
  simpa using h
theorem tx_beq (a b : List Nat) : (tx a == tx b) = (a == b) := by
  by_cases h : a = b
  · subst h; simp
  · rw [beq_eq_false_iff_ne.mpr h, beq_eq_false_iff_ne.mpr fun e => h (tx_inj e)]
theorem tx_one (c : Nat) : (⟨#[c]⟩ : Str) = tx [c] := rfl
theorem tx_toList (x : Str) : x = tx x.cps.toList := by
  obtain ⟨a⟩ := x
  show Str.mk a = Str.mk a.toList.toArray
  simp
theorem tx_cps (l : List Nat) : (tx l).cps.toList = l := by show l.toArray.toList = l; simp

noncomputable def IsT (l : List Nat) (v : Value) : Prop := ∃ t, v = .str (tx l) t
theorem IsT.inj {a b : List Nat} {v : Value} (h : IsT a v) (h' : IsT b v) : a = b := by
  obtain ⟨t, rfl⟩ := h
  obtain ⟨u, e⟩ := h'
  injection e with e _
  exact tx_inj e

section
variable {prog : Program} {w : World} {A : Around} {s : Shared} {σ : Shared} {h₀ : Heap} {fs fs' : Led} {env : Env} {sc : Scope} {L : Addr} {cs : List (Str × Addr)} {x : Str} {pos : Pos} {v : Value}

theorem Iter.to {α : Type} {F : α → Value → Prop} {xv : Value} {xs : List α} {vs : List Value} {h₀ : Heap} {s : Shared} (IT : Iter prog w A xv vs (fun a v => a = v) h₀ s) (P : Paired F xs vs) : Iter prog w A xv xs F h₀ s where
  go := fun Q h => IT.go Q fun I fp wr St s₂ W => h I fp wr St s₂ (by rw [P.length]; exact walks_mono W fun i v hi ⟨a, ha, e⟩ => by subst e; exact pget2 P ha)

theorem c_tx {k : Nat} {Q : Value → Shared → Prop} (H : S σ h₀ fs s) (l : List Nat) (e : x = tx l) (h : ∀ u s', S σ h₀ fs s' → Q (.str (tx l) u) s') : Wp prog w A (eval (.Constant (.str x) k pos) env) Q s := by
  subst e; exact c_str H h
variable {a b : List Nat} {t u : Tok} {Q : Value → Shared → Prop}
theorem o_catT (H : S σ h₀ fs s) (hz : a.length + b.length ≤ sizeLine) (h : ∀ u s', S σ h₀ fs s' → Q (.str (tx (a ++ b)) u) s') : Wp prog w A (binaryOp .Add (.str (tx a) t) (.str (tx b) u)) Q s :=
  o_cat H (by rw [tx_len, tx_len]; exact hz) (by rw [tx_app]; exact h)
theorem o_icatT (H : S σ h₀ fs s) (hz : a.length + b.length ≤ sizeLine) (h : ∀ u s', S σ h₀ fs s' → Q (.str (tx (a ++ b)) u) s') : Wp prog w A (inplaceOp .Add (.str (tx a) t) (.str (tx b) u)) Q s :=
  SB.iadd (fun t' k => by rw [tx_app]; exact h t' _ (H.tok k)) (by rw [tx_len, tx_len]; exact hz)
theorem o_eqT (h : Q (.bool (a == b)) s) : Wp prog w A (compareOp .Eq (.str (tx a) t) (.str (tx b) u)) Q s := eq_str (by rw [tx_beq]; exact h)
theorem o_neT (h : Q (.bool (!(a == b))) s) : Wp prog w A (compareOp .NotEq (.str (tx a) t) (.str (tx b) u)) Q s := by
  refine ne_str ?_
  have e : (tx a != tx b) = !(a == b) := by show (!(tx a == tx b)) = _; rw [tx_beq]
  first | (rw [e]; exact h) | (rw [tx_beq]; exact h)
theorem truthyT {Q : Bool → Shared → Prop} (H : S σ h₀ fs s) (hz : a.length < 2 ^ 40) (h : ∀ s', S σ h₀ fs s' → Q (!a.isEmpty) s') : Wp prog w A (truthy (.str (tx a) t)) Q s := by
  refine P.truthy_str (by rw [tx_len]; omega) ?_
  have e : (((tx a).length : Int) != 0) = !a.isEmpty := by
    rw [tx_len]
    cases a with
    | nil => rfl
    | cons c r =>
      rw [List.isEmpty_cons, List.length_cons]
      show (!(((r.length + 1 : Nat) : Int) == 0)) = !false
      rw [beq_eq_false_iff_ne.mpr (by omega)]
  rw [e]
  exact h _ (H.tok _)
end
end Mine
end

section
open PySem PySem.Calls PySem.Spec PyProof.Rows PySem.W
set_option Elab.async false
namespace Mine

/-- a letter cut at its commas -/
noncomputable def cutStep (q : List (List Nat) × List Nat) (c : Nat) : List (List Nat) × List Nat := if c = 44 then (q.1 ++ [q.2], []) else (q.1, q.2 ++ [c])
noncomputable def cutAt (l : List Nat) (i : Nat) : List (List Nat) × List Nat := (l.take i).foldl cutStep ([], [])
noncomputable def piecesOf (l : List Nat) : List (List Nat) := if (cutAt l l.length).2 = [] then (cutAt l l.length).1 else (cutAt l l.length).1 ++ [(cutAt l l.length).2]
noncomputable def partsOf (l : List Nat) : List Str := (piecesOf l).map fun p => Txt.strip (tx p)
theorem cutStep_len (q : List (List Nat) × List Nat) (c : Nat) : (cutStep q c).1.length ≤ q.1.length + 1 ∧ (cutStep q c).2.length ≤ q.2.length + 1 := by
  unfold cutStep
  split <;> simp
theorem cut_len (l : List Nat) : ∀ i, (cutAt l i).1.length ≤ i ∧ (cutAt l i).2.length ≤ i
  | 0 => by simp [cutAt]
  | i + 1 => by
    cases h : l[i]? with
    | none =>
      have e : cutAt l (i + 1) = cutAt l i := by
        unfold cutAt
        rw [List.take_add_one, h]; simp
      have := cut_len l i
      rw [e]; omega
    | some c =>
      have e : cutAt l (i + 1) = cutStep (cutAt l i) c := foldl_take _ _ h
      have := cut_len l i
      have := cutStep_len (cutAt l i) c
      rw [e]; omega
theorem cut_small (l : List Nat) : ∀ i, ∀ p ∈ (cutAt l i).1, p.length ≤ i
  | 0, p, h => by simp [cutAt] at h
  | i + 1, p, h => by
    cases hc : l[i]? with
    | none =>
      have e : cutAt l (i + 1) = cutAt l i := by
        unfold cutAt
        rw [List.take_add_one, hc]; simp
      rw [e] at h
      have := cut_small l i p h
      omega
    | some c =>
      have e : cutAt l (i + 1) = cutStep (cutAt l i) c := foldl_take _ _ hc
      rw [e] at h
      have h2 := (cut_len l i).2
      unfold cutStep at h
      split at h
      · rcases List.mem_append.mp h with h | h
        · have := cut_small l i p h
          omega
        · obtain rfl := List.mem_singleton.mp h
          omega
      · have := cut_small l i p h
        omega
theorem pieces_small (l : List Nat) : ∀ p ∈ piecesOf l, p.length ≤ l.length := by
  intro p h
  unfold piecesOf at h
  split at h
  · exact cut_small l _ p h
  · rcases List.mem_append.mp h with h | h
    · exact cut_small l _ p h
    · obtain rfl := List.mem_singleton.mp h
      exact (cut_len l _).2
theorem paired_mapS {α β : Type} {G : β → Value → Prop} (f : α → β) : ∀ {xs : List α} {ys : List Value}, Paired (fun a y => G (f a) y) xs ys → Paired G (xs.map f) ys
  | _, _, .nil => .nil
  | _, _, .cons h r => .cons h (paired_mapS f r)

local macro_rules | `(tactic| tb_rel) => `(tactic| first | exact S.get (by assumption) (by k_mem) | assumption | (refine S.up (by assumption) ?_; tb_rel))
local macro_rules | `(tactic| kwd_rel) => `(tactic| first | (with_reducible exact look_head) | (with_reducible exact lk_head) | assumption | (refine look_tail (by kernel_rfl) ?_; kwd_rel) | (refine lk_tail (by kernel_rfl) ?_; kwd_rel))
local macro_rules | `(tactic| kwd_inv) => `(tactic| first | (with_reducible exact Upd.head) | (with_reducible apply Upd.tail; kwd_inv))
local macro_rules | `(tactic| tb_start) => `(tactic| first | kernel_rfl | decide +kernel)

theorem c_parse {T : Ad} {mg mb : Str → Option Value} {w : World} {A : Around} {s : Shared} {l : List Nat} {t : Tok} (X : Tp T mg mb s.heap) (F : IsDef T.parse 3 s.heap) (R : Room A 1 20)
    (hl : ∀ c ∈ l, c ≠ 34 ∧ c ≠ 92) (hz : l.length ≤ 1000) :
    Wp PySem.Challenge.pw_if0009_01 w A (call (.ref T.parse) [.str (tx l) t]) (fun v s' => ∃ a vs, v = .ref a ∧ Paired IsS (partsOf l) vs ∧ s.heap.get? a = none ∧ (Fact.list vs).at s'.heap a ∧ Keeps s s') s := by
  refine enter F X.G (d := 0) (u := 17) R (ns := ["s"]) (lb := [("s", .str (tx l) t)]) (fun _ _ _ _ _ => by kernel_rfl) rfl (by tb_start) (by tb_start) (by tb_start) (by tb_start) (by tb_start) fun A' env L s1 R' he H => ?_
  refine wpAny_execs_cons ?_
  refine wpAny_Assign_Name ?_
  refine l_new ?_
  refine wpAny_items_nil ?_
  refine ⟨by rw [sizeLine_eq]; simp only [List.length_nil]; omega, _, _, _, H, fun a s1 H => ?_⟩
  refine st_local he (by tb_start) (by tb_start) H (by kwd_inv) fun s1 H => ?_  -- res
  refine wpAny_execs_cons ?_
  refine wpAny_Assign_Name ?_
  refine c_tx H [] (by tb_start) fun u s1 H => ?_
  refine st_local he (by tb_start) (by tb_start) H (by kwd_inv) fun s1 H => ?_  -- part
  refine wpAny_execs_cons ?_
  refine wpAny_Assign_two ?_
  refine c_bool ?_
  refine wpAny_assign_Name ?_
  refine st_local he (by tb_start) (by tb_start) H (by kwd_inv) fun s1 H => ?_  -- escape
  refine wpAny_assign_Name ?_
  refine st_local he (by tb_start) (by tb_start) H (by kwd_inv) fun s1 H => ?_  -- quote
  refine wpAny_execs_cons ?_
  refine f_for (α := Nat) ?_ (fun _ => rfl) (fun _ _ => rfl)
  refine n_local he (by tb_start) (by tb_start) (by tb_start) (by tb_rel) (by kwd_rel) ?_  -- s
  refine ⟨l, fun c v => ∃ u, v = .str ⟨#[c]⟩ u, _, _, _, fun k fs => ∃ (vs : List Value) (tp : Tok) (l' : List (Str × Value)), fs = [(a, .list vs), (L, .loc l')] ∧ k ≤ l.length ∧ look l' "res" = some (.ref a) ∧ look l' "part" = some (.str (tx (cutAt l k).2) tp) ∧ look l' "escape" = some (.bool false) ∧ look l' "quote" = some (.bool false) ∧
    Paired IsT (cutAt l k).1 vs, (tx_cps l) ▸ Iter.str R'.handled, H, ?_, ?_, ?_⟩
  · exact ⟨[], _, _, rfl, Nat.zero_le _, by kwd_rel, by kwd_rel, by kwd_rel, by kwd_rel, .nil⟩
  · rintro i c v fs I o s1 hk ⟨tv, rfl⟩ ⟨vs, tp, l', rfl, hi, e1, e2, e3, e4, hvs⟩ H
    have hlt : i < l.length := (List.getElem?_eq_some_iff.mp hk).1
    obtain ⟨hc1, hc2⟩ := hl c (List.mem_of_getElem? hk)
    have hcl := cut_len l i
    have e : cutAt l (i + 1) = cutStep (cutAt l i) c := foldl_take _ _ hk
    rw [tx_one]
    refine wpAny_assign_Name ?_
    refine st_local he (by tb_start) (by tb_start) H (by kwd_inv) fun s1 H => ?_  -- cur
    refine W_gen fun Q1 hQ1 => ?_
    refine wpAny_execs_cons ?_
    refine wpAny_If ?_
    refine wpAny_isTrue_value ?_
    refine n_local he (by tb_start) (by tb_start) (by tb_start) (by tb_rel) (by kwd_rel) ?_  -- escape
    refine wpAny_truthy_bool ?_
    rw [if_neg (by decide)]
    refine wpAny_execs_nil ?_
    refine wpAny_execs_cons ?_
    refine wpAny_If ?_
    refine wpAny_isTrue_value ?_
    refine n_local he (by tb_start) (by tb_start) (by tb_start) (by tb_rel) (by kwd_rel) ?_  -- quote
    refine wpAny_truthy_bool ?_
    rw [if_neg (by decide)]
    refine wpAny_execs_nil ?_
    refine wpAny_execs_cons ?_
    refine wpAny_If ?_
    refine wpAny_isTrue_Compare1 ?_
    refine n_local he (by tb_start) (by tb_start) (by tb_start) (by tb_rel) (by kwd_rel) ?_  -- cur
    refine c_tx H [44] (by tb_start) fun u s1 H => ?_
    refine o_eqT ?_
    refine wpAny_truthy_bool ?_
    by_cases h44 : c = 44
    · subst h44
      rw [if_pos (by simp)]
      have e' : cutStep (cutAt l i) 44 = ((cutAt l i).1 ++ [(cutAt l i).2], []) := by unfold cutStep; rw [if_pos rfl]
      refine wpAny_execs_cons ?_
      refine ex_expr he (by tb_start) rfl ?_
      refine MethodCall_ ?_
      refine n_local he (by tb_start) (by tb_start) (by tb_start) (by tb_rel) (by kwd_rel) ?_  -- res
      refine l_append_m (by tb_rel) ?_
      refine callWith_method1 ?_
      refine wpAny_items_cons ?_
      refine n_local he (by tb_start) (by tb_start) (by tb_start) (by tb_rel) (by kwd_rel) ?_  -- part
      refine wpAny_items_nil ?_
      have hvl := hvs.length
      refine l_append H (by kwd_inv) (by rw [sizeLine_eq]; omega) fun s1 H => ?_
      refine wpAny_execs_cons ?_
      refine wpAny_Assign_Name ?_
      refine c_tx H [] (by tb_start) fun u s1 H => ?_
      refine st_local he (by tb_start) (by tb_start) H (by kwd_inv) fun s1 H => ?_  -- part
      refine wpAny_execs_cons ?_
      refine wpAny_Continue ?_
      refine hQ1 _ _ ?_
      refine ⟨_, H, _, _, _, rfl, hlt, by kwd_rel, by rw [e, e']; kwd_rel, by kwd_rel, by kwd_rel, ?_⟩
      rw [e, e']
      exact hvs.snoc ⟨_, rfl⟩
    · rw [if_neg (by simpa using h44)]
      have e' : cutStep (cutAt l i) c = ((cutAt l i).1, (cutAt l i).2 ++ [c]) := by unfold cutStep; rw [if_neg h44]
      refine wpAny_execs_nil ?_
      refine wpAny_execs_cons ?_
      refine wpAny_If ?_
      refine wpAny_isTrue_Compare1 ?_
      refine n_local he (by tb_start) (by tb_start) (by tb_start) (by tb_rel) (by kwd_rel) ?_  -- cur
      refine c_tx H [34] (by tb_start) fun u s1 H => ?_
      refine o_eqT ?_
      refine wpAny_truthy_bool ?_
      rw [if_neg (by simpa using hc1)]
      refine wpAny_execs_nil ?_
      refine wpAny_execs_cons ?_
      refine wpAny_AugAssign_Name ?_
      refine n_load he (by tb_start) (by tb_start) (by tb_rel) (by kwd_rel) ?_  -- part
      refine n_local he (by tb_start) (by tb_start) (by tb_start) (by tb_rel) (by kwd_rel) ?_  -- cur
      refine o_icatT H (by rw [sizeLine_eq, List.length_singleton]; omega) fun u s1 H => ?_
      refine st_local he (by tb_start) (by tb_start) H (by kwd_inv) fun s1 H => ?_  -- part
      refine wpAny_execs_nil ?_
      refine hQ1 _ _ ?_
      refine ⟨_, H, _, _, _, rfl, hlt, by kwd_rel, by rw [e, e']; kwd_rel, by kwd_rel, by kwd_rel, ?_⟩
      rw [e, e']
      exact hvs
  · rintro fs s1 ⟨vs, tp, l', rfl, hi, e1, e2, e3, e4, hvs⟩ H
    have hcl := cut_len l l.length
    refine wpAny_execs_cons ?_
    refine wpAny_mono (?_ : Wp _ _ _ _ (fun f s₂ => f = .next ∧ ∃ (vs' : List Value), Paired IsT (piecesOf l) vs' ∧ S s s.heap [(a, .list vs'), (L, .loc l')] s₂) s1) (fun f s₂ h₂ => ?_) fun _ _ e => e.elim
    · refine wpAny_If ?_
      refine wpAny_isTrue_value ?_
      refine n_local he (by tb_start) (by tb_start) (by tb_start) (by tb_rel) (by kwd_rel) ?_  -- part
      refine truthyT H (by omega) fun s1 H => ?_
      have hvl := hvs.length
      cases hp : (cutAt l l.length).2 with
      | nil =>
        rw [if_neg (by decide)]
        refine wpAny_execs_nil ?_
        exact ⟨rfl, _, by unfold piecesOf; rw [if_pos hp]; exact hvs, H⟩
      | cons c r =>
        rw [if_pos (by simp)]
        refine wpAny_execs_cons ?_
        refine ex_expr he (by tb_start) rfl ?_
        refine MethodCall_ ?_
        refine n_local he (by tb_start) (by tb_start) (by tb_start) (by tb_rel) (by kwd_rel) ?_  -- res
        refine l_append_m (by tb_rel) ?_
        refine callWith_method1 ?_
        refine wpAny_items_cons ?_
        refine n_local he (by tb_start) (by tb_start) (by tb_start) (by tb_rel) (by kwd_rel) ?_  -- part
        refine wpAny_items_nil ?_
        refine l_append H (by kwd_inv) (by rw [sizeLine_eq]; omega) fun s1 H => ?_
        refine wpAny_execs_nil ?_
        exact ⟨rfl, _, by unfold piecesOf; rw [if_neg (by rw [hp]; simp)]; exact hvs.snoc ⟨_, rfl⟩, H⟩
    · obtain ⟨rfl, vs', hp, H⟩ := h₂
      have hpl : (piecesOf l).length ≤ l.length + 1 := by
        unfold piecesOf
        split
        · omega
        · simp; omega
      refine wpAny_execs_cons ?_
      refine wpAny_Return_some ?_
      refine l_comp (α := List Nat) (fun _ => true) IsT (fun p y => IsS (Txt.strip (tx p)) y) he (cl := []) (by kernel_rfl) ⟨(by tb_start), (by tb_start), (by tb_start), (by tb_start)⟩ (fun _ => rfl) ?_
      refine n_local he (by tb_start) (by tb_start) (by tb_start) (by tb_rel) (by kwd_rel) ?_  -- res
      have hla : (Fact.list vs').at s₂.heap a := H.get (.head _)
      refine ⟨piecesOf l, _, _, _, (Iter.list R'.handled (Heap.PlainList.isList hla) (Heap.PlainList.isList hla)).to hp, H, ⟨by rw [sizeLine_eq]; omega, ?_, ?_, ?_⟩, fun D ys s1 hys H => ?_⟩
      · intro x y v h1 h2; exact h1.inj h2
      · intro p v C env' s3 hm hv he' hC hk
        exact ct_nil ⟨rfl, (S.start s3).keeps⟩
      · intro p v C env' s3 hm hv hz he' hC hk
        have H := S.start s3
        obtain ⟨tv, rfl⟩ := hv
        refine PySem.Call_method0 (by rfl) (by rfl) ?_
        refine n_local he' (by tb_start) (by tb_start) (by tb_start) (by tb_rel) (by kwd_rel) ?_  -- part
        have := pieces_small l p hm
        refine SB.strip (fun t' k => ⟨⟨_, rfl⟩, (H.tok k).keeps⟩) (by rw [tx_len, sizeLine_eq]; omega)
      · rw [List.filter_eq_self.mpr (by simp)] at hys
        exact ⟨D, ys, rfl, paired_mapS _ hys, H.new' (.head _), H.get (.head _), H.keeps⟩
end Mine
end

section
open PySem PySem.Calls PySem.Spec PyProof.Rows PySem.W PySem.NumText
set_option Elab.async false
set_option maxRecDepth 100000
namespace Mine

noncomputable def hexT (o : Nat) : List Nat := [hexd (o / 16), hexd (o % 16)]
theorem hex_facts : ∀ o, o < 256 → (sign ((hexT o).dropWhile blank)).1 = false ∧ based 16 (sign ((hexT o).dropWhile blank)).2 = (16, false, hexT o) ∧
    digits? 16 (((hexT o).reverse.dropWhile blank).reverse) = some #[o / 16, o % 16] ∧ ((hexT o).toArray.all (· < 128)) = true ∧ (hexT o).takeWhile (· != 0) = hexT o := by decide +kernel

theorem hex_reads {o : Nat} (ho : o < 256) : (int_private% "readNumeral") 0 16 (hexT o) = (int_private% "Numeral.value") (o : Int) := by
  obtain ⟨h1, h2, h3, h4, h5⟩ := hex_facts o ho
  refine (readNumeral_eq 0 16 (hexT o)).trans ?_
  rw [h1, h2]
  dsimp only
  rw [h3]
  have e : ((0 * 16 + o / 16) * 16 + o % 16) = o := by omega
  show (int_private% "Numeral.value") (((0 * 16 + o / 16) * 16 + o % 16 : Nat) : Int) = _
  rw [e]

theorem wp_text16 {M : Model} {A : Around} {E : Value → Shared → Prop} {s : Shared} {Q : Value → Shared → Prop} {v : Value} {o : Nat}
    (ho : o < 256) (h : Q (.int o s.toks) { s with toks := s.toks + 1 }) :
    wpAny M A ((int_private% "intFromText") v (hexT o) 16) Q E s := by
  obtain ⟨h1, h2, h3, h4, h5⟩ := hex_facts o ho
  have hr := hex_reads ho
  obtain ⟨hp, g, d, tk, os⟩ := s
  have hs : ((hexT o).takeWhile (· != 0)).length ≤ 640 := by rw [h5]; exact Nat.le_of_ble_eq_true rfl
  have ha : (((hexT o).takeWhile (· != 0)).length == (hexT o).length) = true := by rw [h5]; simp
  rw [← h5] at hr
  clear h1 h2 h3 h4 h5
  repeat (any_goals (first
    | assumption
    | (with_reducible refine wpAny_ite_true (decide_eq_true hs) ?_)
    | (with_reducible refine wpAny_ite_true (decide_eq_true ha) ?_)
    | wp_step))
  all_goals (try rw [hr])
  all_goals (try dsimp only)
  repeat (any_goals (first
    | assumption
    | (with_reducible refine wpAny_ite_true (decide_eq_true hs) ?_)
    | (with_reducible refine wpAny_ite_true (decide_eq_true ha) ?_)
    | wp_step))

structure Hid' (p : Prop) : Prop where
  out : p
set_option maxHeartbeats 4000000 in
theorem gives_int16 {o : Nat} {u v : Tok} (ho : o < 256) : Gives (Builtin.«int.__new__» ⟨[.type "int", .str (tx (hexT o)) u, .int 16 v], []⟩) (.int (o : Int)) :=
  .of_wp fun M A E s Q h => by
    obtain ⟨hp, g, d, tk, os⟩ := s
    have f1 := F.conv_sub_int
    have f2 := F.madeHere_int
    have f6 : typeOf (.str (tx (hexT o)) u) = pure (.type "str") := rfl
    have h4 := (hex_facts o ho).2.2.2.1
    have e1 : (if (tx (hexT o)).cps.all (· < 128) then (tx (hexT o)).cps.toList else Unicode.numberText (tx (hexT o)).cps.toList) = hexT o := by
      exact (if_pos (show ((tx (hexT o)).cps.all (· < 128)) = true from h4)).trans (tx_cps _)
    have hk := Hid'.mk ho
    clear h4 ho
    repeat (any_goals (first
      | assumption
      | (rw [e1]; (with_reducible show wpAny _ _ ((int_private% "intFromText") _ _ _) _ _ _); refine wp_text16 hk.out ?_)
      | wp_step))
    all_goals first | exact ⟨_, rfl, h⟩ | skip
end Mine
end

section
open PySem PySem.Calls PySem.Spec PyProof.Rows PySem.W PySem.NumText
set_option Elab.async false
namespace Mine

section
variable {prog : Program} {w : World} {A : Around} {s : Shared} {σ : Shared} {h₀ : Heap} {fs fs' : Led} {env : Env} {sc : Scope} {L : Addr} {cs : List (Str × Addr)} {x : Str} {pos : Pos} {v : Value}

theorem typeCall_int_2 (a b : Value) : checkTypeCall "int" ⟨[a, b], []⟩ = pure () := by kernel_rfl
theorem newCall_int_2 (a b : Value) : checkBuiltinCall "int.__new__" ⟨[.type "int", a, b], []⟩ = pure () := by kernel_rfl
theorem x_int16 {o : Nat} {t u : Tok} {Q : Value → Shared → Prop} (H : S σ h₀ fs s) (ho : o < 256) (h : ∀ u s', S σ h₀ fs s' → Q (.int o u) s') : Wp prog w A (call (.type "int") [.str (tx (hexT o)) t, .int 16 u]) Q s :=
  callType_new F.called_int F.newNe_int (typeCall_int_2 _ _) (newCall_int_2 _ _) (fun obj => F.initArgs_range_2 obj _ _) F.entry_int_new (gives_int16 ho).meets
    (show (Made.int (o : Int)).post _ s from ⟨rfl, h _ _ (H.tok _)⟩)

theorem slice_tx {l : List Nat} {a b : Nat} (hab : a ≤ b) (hb : b ≤ l.length) : Txt.slice (tx l) (some (a : Int)) (some (b : Int)) = tx ((l.drop a).take (b - a)) := by
  have := StrLaws.sliceText_nat (tx l) hab (by rw [tx_len]; exact hb)
  rw [tx_cps] at this
  exact this
theorem slice_neg_hi {l : List Nat} {a : Nat} (h0 : 0 < a) (ha : a ≤ l.length) : Txt.slice (tx l) none (some (-(a : Int))) = tx (l.take (l.length - a)) := by
  have := StrLaws.sliceText_to_neg (x := tx l) (j := -(a : Int)) (by omega) (by rw [tx_len]; omega)
  rw [tx_cps, tx_len, List.drop_zero] at this
  rw [show (-(a : Int) + (l.length : Int) - 0).toNat = l.length - a by omega] at this
  exact this
theorem slice_last {l : List Nat} (h0 : 0 < l.length) : Txt.slice (tx l) (some (-1)) none = tx (l.drop (l.length - 1)) := by
  have := StrLaws.sliceText_from_neg (x := tx l) (i := -1) (by omega) (by rw [tx_len]; omega)
  rw [tx_cps, tx_len] at this
  rw [show ((-1 : Int) + (l.length : Int)).toNat = l.length - 1 by omega, List.take_of_length_le (by rw [List.length_drop]; omega)] at this
  exact this

theorem t_slice {value : Expr} {lower upper : Option Expr} {p pos : Pos} {Q : Value → Shared → Prop}
    (h : Wp prog w A (eval value env) (fun o s₁ => Wp prog w A (evalPart lower env) (fun vl s₂ => Wp prog w A (evalPart upper env) (fun vu s₃ =>
      ∃ l t lo hi, o = .str (tx l) t ∧ vl = partValue lo ∧ vu = partValue hi ∧ l.length ≤ sizeLine ∧ ∃ σ h₀ fs, S σ h₀ fs s₃ ∧ ∀ u s', S σ h₀ fs s' → Q (.str (Txt.slice (tx l) (lo.map (·.1)) (hi.map (·.1))) u) s') s₂) s₁) s)
    (ht : ∀ o r, letTemporaryGo value o r = pure ()) :
    Wp prog w A (eval (.Subscript value (.Slice lower upper none p) pos) env) Q s := by
  refine wpAny_Subscript_str_slice (wpAny_mono h (fun o s₁ h₁ => wpAny_mono h₁ (fun vl s₂ h₂ => wpAny_mono h₂ (fun vu s₃ h₃ => ?_) fun _ _ e => e) fun _ _ e => e) fun _ _ e => e) ht
  obtain ⟨l, t, lo, hi, rfl, rfl, rfl, hz, σ, h₀, fs, H, hQ⟩ := h₃
  refine ⟨tx l, t, lo, hi, rfl, rfl, rfl, ?_⟩
  have H' : S σ h₀ fs { s₃ with heap := s₃.heap.push { cls := .type "slice", data := .fields #[partValue lo, partValue hi, .none] } } := H.grow (keeps_push s₃ _ s₃.toks)
  exact post_val_or_str ⟨Nat.le_trans (Txt.slice_le (tx l) _ _) (by rw [tx_len]; exact hz), fun t' k => hQ t' _ (H'.tok k)⟩
end

local macro_rules | `(tactic| tb_rel) => `(tactic| first | exact S.get (by assumption) (by k_mem) | assumption | (refine S.up (by assumption) ?_; tb_rel))
local macro_rules | `(tactic| kwd_rel) => `(tactic| first | (with_reducible exact look_head) | (with_reducible exact lk_head) | assumption | (refine look_tail (by kernel_rfl) ?_; kwd_rel) | (refine lk_tail (by kernel_rfl) ?_; kwd_rel))
local macro_rules | `(tactic| tb_start) => `(tactic| first | kernel_rfl | decide +kernel)

theorem c_unquote {T : Ad} {mg mb : Str → Option Value} {w : World} {A : Around} {s : Shared} {o : Nat} {t : Tok} (X : Tp T mg mb s.heap) (Bi : mg "int" = none) (F : IsDef T.unquote 17 s.heap) (R : Room A 1 20) (ho : o < 256) :
    Wp PySem.Challenge.pw_if0009_01 w A (call (.ref T.unquote) [.str (tx (61 :: hexT o)) t]) (fun v s' => IsT [o] v ∧ Keeps s s') s := by
  refine enter F X.G (d := 0) (u := 17) R (ns := ["s"]) (lb := [("s", .str (tx (61 :: hexT o)) t)]) (fun _ _ _ _ _ => by kernel_rfl) rfl (by tb_start) (by tb_start) (by tb_start) (by tb_start) (by tb_start) fun A' env L s1 R' he H => ?_
  refine wpAny_execs_cons ?_
  refine wpAny_Return_some ?_
  refine x_blt he (by tb_start) (by tb_start) (by tb_start) (X.G.up H) X.b_chr (id := "chr") (by tb_start) (by tb_start) rfl rfl ?_
  refine wpAny_items_cons ?_
  refine x_typ he (by tb_start) (by tb_start) (by tb_start) (X.G.up H) Bi (id := "int") (by tb_start) (by tb_start) rfl rfl ?_
  refine wpAny_items_cons ?_
  refine t_slice ?_ (fun _ _ => rfl)
  refine n_local he (by tb_start) (by tb_start) (by tb_start) (by tb_rel) (by kwd_rel) ?_  -- s
  refine evalPart_some_step ?_
  refine c_int H fun u1 s1 H => ?_
  refine evalPart_some_step ?_
  refine c_int H fun u2 s1 H => ?_
  refine ⟨61 :: hexT o, _, some (1, u1), some (3, u2), rfl, rfl, rfl, by rw [sizeLine_eq]; exact Nat.le_of_ble_eq_true rfl, _, _, _, H, fun u s1 H => ?_⟩
  have e : Txt.slice (tx (61 :: hexT o)) ((some ((1 : Int), u1)).map (·.1)) ((some ((3 : Int), u2)).map (·.1)) = tx (hexT o) := slice_tx (l := 61 :: hexT o) (a := 1) (b := 3) (by omega) (by exact Nat.le_of_ble_eq_true rfl)
  rw [e]
  refine wpAny_items_cons ?_
  refine c_int H fun u s1 H => ?_  -- 16
  refine wpAny_items_nil ?_
  refine x_int16 H ho fun u s1 H => ?_
  refine wpAny_items_nil ?_
  refine o_chr H (by omega) fun u s1 H => ?_
  exact ⟨⟨_, rfl⟩, H.keeps⟩
end Mine
end

section
open PySem PySem.Calls PySem.Spec PyProof.Rows PySem.W PySem.NumText
set_option Elab.async false
namespace Mine

theorem startswith_tx (a b : List Nat) : Txt.startswith (tx a) (tx b) = (a.take b.length == b) := by
  unfold Txt.startswith
  rw [StrLaws.subAt_eq, tx_cps, tx_cps, tx_len, tx_len, List.drop_zero, Nat.zero_add]
  by_cases h : b.length ≤ a.length
  · rw [decide_eq_true h, Bool.true_and]
  · rw [decide_eq_false h, Bool.false_and]
    refine (beq_eq_false_iff_ne.mpr fun e => h ?_).symm
    rw [← e, List.length_take]; omega
theorem endswith_tx (a b : List Nat) : Txt.endswith (tx (a ++ b)) (tx b) = true := by
  unfold Txt.endswith
  rw [StrLaws.subAt_eq, tx_cps, tx_cps, tx_len, tx_len]
  have : (a ++ b).length - b.length = a.length := by rw [List.length_append]; omega
  rw [this, List.drop_left, List.take_length, decide_eq_true (by rw [List.length_append]; omega)]
  simp
theorem takeWhile_none {p : Nat → Bool} : ∀ {l : List Nat}, (∀ c ∈ l, p c = false) → l.takeWhile p = []
  | [], _ => rfl
  | c :: r, h => by rw [List.takeWhile_cons, h c (.head _)]; rfl
theorem strip_id {goes : Nat → Bool} {l r : Bool} {x : List Nat} (h : ∀ c ∈ x, goes c = false) : Txt.stripBy goes l r (tx x) = tx x := by
  rw [PyProof.Rows.stripBy_eq]
  have e1 : stripLo goes l (tx x) = 0 := by
    unfold stripLo
    rw [tx_cps, takeWhile_none h]; simp
  have e2 : stripHi goes r (tx x) 0 = x.length := by
    unfold stripHi
    rw [tx_cps, tx_len, List.drop_zero, takeWhile_none fun c hc => h c (List.mem_reverse.mp hc)]; simp
  rw [e1, e2, tx_toList (Builtin.Str.strSub _ _ _), StrLaws.strSub_toList, tx_cps]
  simp
theorem strip_space {goes : Nat → Bool} {c : Nat} {x : List Nat} (hc : goes c = true) (h : ∀ c ∈ x, goes c = false) : Txt.stripBy goes true true (tx (c :: x)) = tx x := by
  rw [PyProof.Rows.stripBy_eq]
  have e1 : stripLo goes true (tx (c :: x)) = 1 := by
    unfold stripLo
    rw [tx_cps, List.takeWhile_cons, hc]
    simp only [if_true]
    rw [takeWhile_none h]; rfl
  have e2 : stripHi goes true (tx (c :: x)) 1 = x.length + 1 := by
    unfold stripHi
    rw [tx_cps, tx_len]
    simp only [if_true, List.drop_succ_cons, List.drop_zero]
    rw [takeWhile_none fun c hc => h c (List.mem_reverse.mp hc)]; simp
  rw [e1, e2, tx_toList (Builtin.Str.strSub _ _ _), StrLaws.strSub_toList, tx_cps]
  simp

theorem forIn_still {β γ : Type} (f : β → γ → Id (ForInStep γ)) (z : γ) : ∀ (l : List β), (∀ i ∈ l, f i z = .yield z) → (forIn l z f : Id γ) = z
  | [], _ => rfl
  | i :: r, h => by
    rw [List.forIn_cons]
    rw [h i (.head _)]
    exact forIn_still f z r fun j hj => h j (.tail _ hj)
theorem spans_plain {x : List Nat} (h : ∀ c ∈ x, Unicode.isLineBreak c = false) (hp : x ≠ []) : lineCuts (tx x) = [(0, x.length)] := by
  have e : Builtin.Str.lineSpans (tx x) = [(0, x.length, x.length)] := by
    unfold Builtin.Str.lineSpans
    simp only [Std.Legacy.Range.forIn_eq_forIn_range', tx_len]
    rw [forIn_still]
    · have : 0 < x.length := List.length_pos_iff.mpr hp
      show (if 0 < x.length then (#[] : Array (Nat × Nat × Nat)).push (0, x.length, x.length) else #[]).toList = _
      rw [if_pos this]; rfl
    · intro i hi
      have hi' : i < x.length := by
        rw [List.mem_range'] at hi
        obtain ⟨j, hj, rfl⟩ := hi
        simp at hj
        omega
      have : Unicode.isLineBreak ((tx x).cps.getD i 0) = false := by
        refine h _ ?_
        rw [show (tx x).cps.getD i 0 = x.getD i 0 by show x.toArray.getD i 0 = _; simp [Array.getD, hi']]
        exact List.mem_of_getElem? (getD_of hi')
      dsimp only
      rw [this, Bool.and_false, if_neg (by decide)]
      rfl
  unfold lineCuts
  rw [e]; rfl
end Mine
end

section
open PySem PySem.Calls PySem.Spec PyProof.Rows PySem.W PySem.NumText
set_option Elab.async false
namespace Mine

/-- a def with defaults -/
structure IsFnD (a : Addr) (nm : Str) (args : Arguments) (body : List Stmt) (sc : Scope) (dvs : Array Value) (h : Heap) : Prop where
  ex : ∃ o doc pm an cdv ct Td, h.get? a = some o ∧ o.data = .func (W.fnOf nm nm args body sc (.ref Td) .none doc pm an cdv ct) ∧ h.CodeRec cdv nm ∧ IsTup h Td dvs
theorem IsFnD.keeps {a : Addr} {nm : Str} {args : Arguments} {body : List Stmt} {sc : Scope} {dvs : Array Value} {h h' : Heap} (x : IsFnD a nm args body sc dvs h) (k : ∀ b o, h.get? b = some o → h'.get? b = some o) : IsFnD a nm args body sc dvs h' :=
  ⟨let ⟨o, doc, pm, an, cdv, ct, Td, e, d, c, t⟩ := x.ex; ⟨o, doc, pm, an, cdv, ct, Td, k _ _ e, d, c.keeps k, t.keeps k⟩⟩
noncomputable abbrev IsDefD (a : Addr) (i : Nat) (dvs : Array Value) (h : Heap) : Prop := IsFnD a (fnAt i).1 (fnAt i).2.1 (fnAt i).2.2.1 (fnAt i).2.2.2 dvs h

section
variable {prog : Program} {w : World} {A : Around} {s : Shared} {a : Addr} {nm : Str} {args : Arguments} {body : List Stmt} {sc : Scope} {vals : List Value} {bs : List (Str × Value)} {dvs : Array Value} {Q : Value → Shared → Prop}

theorem enterD (F : IsFnD a nm args body sc dvs s.heap) {mg mb : Str → Option Value} (G : Gnd mg mb s.heap) {d u : Nat} (R : Room A (d + 1) (u + 3))
    (hbind : ∀ doc pm an cdv ct Td o n, s.heap.get? Td = some o → o.data = .seq dvs n → BindsTo s (W.fnOf nm nm args body sc (.ref Td) .none doc pm an cdv ct) ⟨vals, []⟩ bs)
    (hcell : (sc.names.all fun x => x.2 != .cell) = true) (hloc : (bs.all fun x => decide (sc.names.lookup x.1 = some .local)) = true)
    (hco : sc.isCoroutine = false) (hgen : sc.isGenerator = false) (hk : sc.kind = .function)
    (h : ∀ (A' : Around) (env : Env) (L : Addr) (s₁ : Shared), Room A' d u → EnvAt env sc L [] → S s s.heap [(L, .loc bs.reverse)] s₁ →
      Wp prog w A' (execs body env) (fun f s' => Q (match f with | .ret v => v | _ => .none) s') s₁) :
    Wp prog w A (call (.ref a) vals) Q s := by
  obtain ⟨o, doc, pm, an, cdv, ct, Td, ho, hd, hc, ⟨ot, hot, _, n, hdt⟩⟩ := F.ex
  refine wpAny_call (codeAny_call_def (fd := W.fnOf nm nm args body sc (.ref Td) .none doc pm an cdv ct) (body := body) (binds := bs) (by have := R.depth; omega) ho hd G.nolimit hc rfl (hbind _ _ _ _ _ _ _ _ hot hdt)
    (fun x hx => by simpa using List.all_eq_true.mp hcell x hx) (fun x hx => by simpa using List.all_eq_true.mp hloc x hx) (fun h₁ hns hk₁ => ?_) hco hgen hk)
  refine wpAny_mono (h _ _ s.heap.objs.size _ (R.deeper _) ⟨rfl, rfl, rfl, rfl, rfl⟩ ?_) (fun f s' hq => hq) (fun _ _ q => q.elim)
  exact (S.start s).add ⟨h₁, _, rfl, hk₁⟩ (get_size_none _) ⟨_, hns, fun x v e => look_of_lookup e⟩
/-- a def of the text, with defaults, by its global name -/
theorem x_callD {mg mb : Str → Option Value} {f : Str} {fp pos : Pos} {a : Addr} {e : Expr} {rest : List Expr} {env : Env} {L : Addr} {cs : List (Str × Addr)} (he : EnvAt env sc L cs) (hl : sc.names.lookup f = some .globalImplicit) (hk : sc.kind = .function) (hd : (f == ("__debug__" : Str)) = false)
    (G : Gnd mg mb s.heap) (hv : mg f = some (.ref a)) (hst : starEach (e :: rest) env = (false, eval e env) :: starEach rest env) (hplain : (backTo pos (starEach rest env)).any (·.1) = false)
    (h : Wp prog w A (spliced (backTo pos (starEach (e :: rest) env))) (fun vs s₁ => (∃ nm ar b sc' dv, IsFnD a nm ar b sc' dv s₁.heap) ∧ Wp prog w A (call (.ref a) vs) Q s₁) s) :
    Wp prog w A (eval (.Call (.Name f fp) (e :: rest) [] pos) env) Q s := by
  refine Call_Name rfl (n_global he hl hk hd G hv ?_)
  rw [hst] at h ⊢
  refine callWith_of (P := fun H => ∃ nm ar b sc' dv, IsFnD a nm ar b sc' dv H) (by show ((false || (backTo pos (starEach rest env)).any (·.1)) || false) = false; rw [hplain]; rfl) (fun H hP => ⟨.frame, .inl rfl, ?_⟩) (evalArgs_plain h)
  obtain ⟨nm, ar, b, sc', dv, ⟨o, doc, pm, an, cdv, ct, Td, ho, hdd, _⟩⟩ := hP
  exact (Looks.ld (part := none) ho).andThen (by rw [hdd]; exact .now)
end

section
variable {prog : Program} {w : World} {A : Around} {s : Shared} {σ : Shared} {h₀ : Heap} {fs fs' : Led} {env : Env} {sc : Scope} {L : Addr} {cs : List (Str × Addr)} {x : Str} {pos : Pos} {v : Value} {l : List Nat} {t u : Tok}

theorem x_lenT {Q : Value → Shared → Prop} (H : S σ h₀ fs s) (hz : l.length ≤ sizeLine) (h : ∀ u s', S σ h₀ fs s' → Q (.int l.length u) s') : Wp prog w A (call (.builtin "len") [.str (tx l) t]) Q s := by
  refine P.len_str (by rw [tx_len]; rw [sizeLine_eq] at hz; omega) ?_
  rw [tx_len]
  exact tokI H h
theorem x_lines {Q : Value → Shared → Prop} (H : S σ h₀ fs s) (hz : l.length ≤ sizeLine) (hp : l ≠ []) (hb : ∀ c ∈ l, Unicode.isLineBreak c = false)
    (h : ∀ D s', S σ h₀ ((D, .list [.str (tx l) t]) :: fs) s' → Q (.ref D) s') : Wp prog w A (call (.builtin "str.splitlines") [.str (tx l) t]) Q s := by
  have e := spans_plain hb hp
  refine call_meets F.slot_str_splitlines (typeIs_str _ _ _) F.entry_str_splitlines (F.args_str_splitlines_1 _) (meets_str_splitlines (tx l) t (by rw [tx_len]; exact hz) (by rw [e]; rw [sizeLine_eq]; exact Nat.le_of_ble_eq_true rfl)) ?_
  rw [if_pos (by rw [e, tx_len]; simp)]
  exact h _ _ (H.add (keeps_push s _ s.toks) (get_size_none _) ⟨0, Heap.get?_push_size _ rfl⟩)
theorem x_rstrip {Q : Value → Shared → Prop} (H : S σ h₀ fs s) (hz : l.length ≤ sizeLine) (hs : ∀ c ∈ l, Unicode.isSpace c = false)
    (h : ∀ u s', S σ h₀ fs s' → Q (.str (tx l) u) s') : Wp prog w A (call (.builtin "str.rstrip") [.str (tx l) t]) Q s := by
  refine SC.rstrip (fun t' k => ?_) (by rw [tx_len]; exact hz)
  rw [show Txt.rstrip (tx l) = tx l from strip_id hs]
  exact h t' _ (H.tok k)
end

/-- a letter of octets, each an equals sign and two figures -/
noncomputable def encT : List Nat → List Nat
  | [] => []
  | o :: r => 61 :: hexd (o / 16) :: hexd (o % 16) :: encT r
theorem encT_len : ∀ os, (encT os).length = 3 * os.length
  | [] => rfl
  | o :: r => by simp only [encT, List.length_cons, encT_len r]; omega
theorem encT_drop : ∀ (os : List Nat) (j : Nat), (encT os).drop (3 * j) = encT (os.drop j)
  | os, 0 => rfl
  | [], j + 1 => by simp [encT]
  | o :: r, j + 1 => by
    rw [show 3 * (j + 1) = 3 * j + 1 + 1 + 1 by omega, encT]
    simp only [List.drop_succ_cons]
    exact encT_drop r j
theorem encT_mem : ∀ (os : List Nat), (∀ o ∈ os, o < 256) → ∀ c ∈ encT os, c = 61 ∨ ∃ n, n < 16 ∧ c = hexd n
  | [], _, c, h => by cases h
  | o :: r, ho, c, h => by
    have h0 := ho o (.head _)
    simp only [encT, List.mem_cons] at h
    rcases h with rfl | rfl | rfl | h
    · exact .inl rfl
    · exact .inr ⟨_, by omega, rfl⟩
    · exact .inr ⟨_, by omega, rfl⟩
    · exact encT_mem r (fun o h => ho o (.tail _ h)) c h
theorem enc_chars : (Unicode.isSpace 61 = false ∧ Unicode.isLineBreak 61 = false) ∧ ∀ n, n < 16 → Unicode.isSpace (hexd n) = false ∧ Unicode.isLineBreak (hexd n) = false ∧
    Txt.contains (Str.ofString "0123456789abcdefABCDEF") (tx [hexd n]) = true ∧ Txt.contains (tx [13, 10]) (tx [hexd n]) = false ∧ hexd n ≠ 61 ∧ hexd n ≠ 44 ∧ hexd n ≠ 34 ∧ hexd n ≠ 92 ∧ hexd n ≠ 32 := by decide +kernel
end Mine
end

section
open PySem PySem.Calls PySem.Spec PyProof.Rows PySem.W PySem.NumText
set_option Elab.async false
namespace Mine

local macro_rules | `(tactic| tb_rel) => `(tactic| first | exact S.get (by assumption) (by k_mem) | assumption | (refine S.up (by assumption) ?_; tb_rel))
local macro_rules | `(tactic| kwd_rel) => `(tactic| first | (with_reducible exact look_head) | (with_reducible exact lk_head) | assumption | (refine look_tail (by kernel_rfl) ?_; kwd_rel) | (refine lk_tail (by kernel_rfl) ?_; kwd_rel))
local macro_rules | `(tactic| kwd_inv) => `(tactic| first | (with_reducible exact Upd.head) | (with_reducible apply Upd.tail; kwd_inv))
local macro_rules | `(tactic| tb_start) => `(tactic| first | kernel_rfl | decide +kernel)

theorem enc_at {os : List Nat} {j : Nat} (hj : j < os.length) : (encT os).drop (3 * j) = 61 :: hexd (os.getD j 0 / 16) :: hexd (os.getD j 0 % 16) :: encT (os.drop (j + 1)) := by
  rw [encT_drop, List.drop_eq_getElem_cons hj, encT]
  rw [List.getD_eq_getElem?_getD, List.getElem?_eq_getElem hj]; rfl
theorem enc_get {os : List Nat} {j : Nat} (hj : j < os.length) : (encT os)[3 * j]? = some 61 ∧ (encT os)[3 * j + 1]? = some (hexd (os.getD j 0 / 16)) ∧ (encT os)[3 * j + 2]? = some (hexd (os.getD j 0 % 16)) ∧
    ((encT os).drop (3 * j)).take 3 = 61 :: hexT (os.getD j 0) := by
  have e := enc_at hj
  have g : ∀ i, (encT os)[3 * j + i]? = ((encT os).drop (3 * j))[i]? := fun i => by rw [List.getElem?_drop]
  refine ⟨?_, ?_, ?_, ?_⟩
  · rw [show 3 * j = 3 * j + 0 by rfl, g 0, e]; rfl
  · rw [g 1, e]; rfl
  · rw [g 2, e]; rfl
  · rw [e]; rfl
/-- what decode has so far -/
noncomputable def decAt (os : List Nat) (j : Nat) : List Nat := if j = os.length then os ++ [10] else os.take j

section
variable {prog : Program} {w : World} {A : Around} {s : Shared} {σ : Shared} {h₀ : Heap} {fs fs' : Led} {l : List Nat} {t u : Tok} {i : Int} {c : Nat} {Q : Value → Shared → Prop}
theorem t_sign {value slice : Expr} (H : S σ h₀ fs s) (hi : 0 ≤ i ∧ i < 2 ^ 63) (hc : l[i.toNat]? = some c)
    (hs : subscripted slice false (.str (tx l) t) (.int i u) = operate [.str (tx l) t, .int i u] (getItem (.str (tx l) t) (.int i u))) (h : ∀ u s', S σ h₀ fs s' → Q (.str (tx [c]) u) s') :
    Wp prog w A (subscriptTail value slice (.str (tx l) t) (.int i u)) Q s :=
  o_sign H hi (by show l.toArray[i.toNat]? = some c; simpa using hc) hs h
theorem t_last {value slice : Expr} (H : S σ h₀ fs s) (hl : l[l.length - 1]? = some c)
    (hs : subscripted slice false (.str (tx l) t) (.int (-1) u) = operate [.str (tx l) t, .int (-1) u] (getItem (.str (tx l) t) (.int (-1) u))) (h : ∀ u s', S σ h₀ fs s' → Q (.str (tx [c]) u) s') :
    Wp prog w A (subscriptTail value slice (.str (tx l) t) (.int (-1) u)) Q s := by
  have hlt : l.length - 1 < l.length := (List.getElem?_eq_some_iff.mp hl).1
  refine tail_any (T := "str") rfl F.slot_str_getitem.lookup (getItem_str (c := c) (by decide) (StrLaws.at_neg (by decide) (by rw [tx_len]; omega) ?_) (tokS H h)) hs
  rw [tx_len, show ((-1 : Int) + (l.length : Int)).toNat = l.length - 1 by omega]
  show l.toArray[l.length - 1]? = some c
  simpa using hl
theorem o_neg {a : Int} (H : S σ h₀ fs s) (h : ∀ u s', S σ h₀ fs s' → Q (.int (-a) u) s') : Wp prog w A (unaryOp .USub (.int a t)) Q s := PyProof.Rows.neg_int (tokI H h)
end

set_option maxHeartbeats 4000000 in
theorem c_decode {T : Ad} {mg mb : Str → Option Value} {w : World} {A : Around} {s : Shared} {os : List Nat} {t tn th : Tok} (X : Tp T mg mb s.heap) (Bi : mg "int" = none) (F : IsDef T.unquote 17 s.heap)
    (Nu : mg "unquote" = some (.ref T.unquote)) (Nh : mg "hexdigits" = some (.str (Str.ofString "0123456789abcdefABCDEF") th))
    (F2 : IsDefD T.decode 22 #[.str (tx [10]) tn] s.heap) (R : Room A 3 40) (ho : ∀ o ∈ os, o < 256) (hne : os ≠ []) (hz : os.length ≤ 100) :
    Wp PySem.Challenge.pw_if0009_01 w A (call (.ref T.decode) [.str (tx (encT os)) t]) (fun v s' => IsT os v ∧ Keeps s s') s := by
  have hlen := encT_len os
  have hpos : 0 < os.length := List.length_pos_iff.mpr hne
  have hch : ∀ c ∈ encT os, Unicode.isSpace c = false ∧ Unicode.isLineBreak c = false := fun c hc => by
    rcases encT_mem os ho c hc with rfl | ⟨n, hn, rfl⟩
    · exact enc_chars.1
    · exact ⟨(enc_chars.2 n hn).1, (enc_chars.2 n hn).2.1⟩
  have hemp : encT os ≠ [] := fun e => by rw [e] at hlen; simp at hlen; omega
  have hst : (encT os).isEmpty = false := by cases h : encT os with
    | nil => exact absurd h hemp
    | cons _ _ => rfl
  refine enterD F2 X.G (d := 2) (u := 37) R (bs := [("encoded", .str (tx (encT os)) t), ("eol", .str (tx [10]) tn)]) (fun _ _ _ _ _ _ _ _ e d => BindsTo.of_defaults rfl e d rfl rfl) (by tb_start) (by kernel_rfl) (by tb_start) (by tb_start) (by tb_start) fun A' env L s1 R' he H => ?_
  simp only [List.reverse_cons, List.reverse_nil, List.nil_append, List.cons_append] at H
  refine wpAny_execs_cons ?_
  refine wpAny_If ?_
  refine wpAny_isTrue_Not ?_
  refine wpAny_isTrue_value ?_
  refine n_local he (by tb_start) (by tb_start) (by tb_start) (by tb_rel) (by kwd_rel) ?_  -- encoded
  refine truthyT H (by omega) fun s1 H => ?_
  rw [if_neg (by rw [hst]; decide)]
  refine wpAny_execs_nil ?_
  refine wpAny_execs_cons ?_
  refine wpAny_Assign_Name ?_
  refine c_tx H [] (by tb_start) fun u s1 H => ?_
  refine st_local he (by tb_start) (by tb_start) H (by kwd_inv) fun s1 H => ?_  -- decoded
  refine wpAny_execs_cons ?_
  refine f_for (α := Value) ?_ (fun _ => rfl) (fun _ _ => rfl)
  refine MethodCall_ ?_
  refine n_local he (by tb_start) (by tb_start) (by tb_start) (by tb_rel) (by kwd_rel) ?_  -- encoded
  with_reducible refine GM.splitlines ?_
  refine callWith_method0 ?_
  refine x_lines H (by rw [sizeLine_eq]; omega) hemp (fun c hc => (hch c hc).2) fun D s1 H => ?_
  obtain ⟨h₁, H, hD, k₁, -⟩ := H.freeze
  have hDl : h₁.IsList D [Value.str (tx (encT os)) t].toArray := Heap.PlainList.isList hD
  refine ⟨[Value.str (tx (encT os)) t], fun a v => a = v, _, h₁, _, fun k fs => ∃ (td : Tok) (l' : List (Str × Value)), fs = [(L, .loc l')] ∧ look l' "encoded" = some (.str (tx (encT os)) t) ∧ look l' "eol" = some (.str (tx [10]) tn) ∧
    look l' "decoded" = some (.str (tx (if k = 0 then [] else os ++ [10])) td), Iter.list R'.handled hDl (Heap.PlainList.isList (H.up hD)), H, ?_, ?_, ?_⟩
  · exact ⟨_, _, rfl, by kwd_rel, by kwd_rel, by kwd_rel⟩
  · rintro k a v fs I o s1 hk rfl ⟨td, l', rfl, e1, e2, e3⟩ H
    obtain ⟨rfl, rfl⟩ : k = 0 ∧ a = Value.str (tx (encT os)) t := by
      cases k with
      | zero => simp at hk; exact ⟨rfl, hk.symm⟩
      | succ k => simp at hk
    rw [if_pos rfl] at e3
    refine wpAny_assign_Name ?_
    refine st_local he (by tb_start) (by tb_start) H (by kwd_inv) fun s1 H => ?_  -- line
    refine W_gen fun Q1 hQ1 => ?_
    refine wpAny_execs_cons ?_
    refine wpAny_Assign_Name ?_
    refine MethodCall_ ?_
    refine n_local he (by tb_start) (by tb_start) (by tb_start) (by tb_rel) (by kwd_rel) ?_  -- line
    with_reducible refine GM.rstrip ?_
    refine callWith_method0 ?_
    refine x_rstrip H (by rw [sizeLine_eq]; omega) (fun c hc => (hch c hc).1) fun u s1 H => ?_
    refine st_local he (by tb_start) (by tb_start) H (by kwd_inv) fun s1 H => ?_  -- line
    refine wpAny_execs_cons ?_
    refine wpAny_If ?_
    refine wpAny_isTrue_Not ?_
    refine wpAny_isTrue_value ?_
    refine n_local he (by tb_start) (by tb_start) (by tb_start) (by tb_rel) (by kwd_rel) ?_  -- line
    refine truthyT H (by omega) fun s1 H => ?_
    rw [if_neg (by rw [hst]; decide)]
    refine wpAny_execs_nil ?_
    refine wpAny_execs_cons ?_
    refine wpAny_Assign_Name ?_
    refine c_int H fun u s1 H => ?_
    refine st_local he (by tb_start) (by tb_start) H (by kwd_inv) fun s1 H => ?_  -- i
    refine wpAny_execs_cons ?_
    refine wpAny_Assign_Name ?_
    refine x_blt he (by tb_start) (by tb_start) (by tb_start) (X.G.keeps fun b o e => H.keep b o (k₁ b o e)) X.b_len (id := "len") (by tb_start) (by tb_start) rfl rfl ?_
    refine wpAny_items_cons ?_
    refine n_local he (by tb_start) (by tb_start) (by tb_start) (by tb_rel) (by kwd_rel) ?_  -- line
    refine wpAny_items_nil ?_
    refine x_lenT H (by rw [sizeLine_eq]; omega) fun u s1 H => ?_
    refine st_local he (by tb_start) (by tb_start) H (by kwd_inv) fun s1 H => ?_  -- n
    refine wpAny_execs_cons ?_
    refine f_while (fun m s' => ∃ (j : Nat) (l' : List (Str × Value)) (ti tn' td tl : Tok), m = os.length - j ∧ j ≤ os.length ∧ S s h₁ [(I, .raw o), (L, .loc l')] s' ∧ look l' "encoded" = some (.str (tx (encT os)) t) ∧ look l' "eol" = some (.str (tx [10]) tn) ∧
      look l' "i" = some (.int (3 * j : Nat) ti) ∧ look l' "n" = some (.int (encT os).length tn') ∧ look l' "line" = some (.str (tx (encT os)) tl) ∧ look l' "decoded" = some (.str (tx (decAt os j)) td)) os.length ?_ ?_
    · have e0 : decAt os 0 = [] := by unfold decAt; rw [if_neg (by omega)]; rfl
      exact ⟨0, _, _, _, _, _, rfl, Nat.zero_le _, H, by kwd_rel, by kwd_rel, by kwd_rel, by kwd_rel, by kwd_rel, by rw [e0]; kwd_rel⟩
    · rintro m s1 ⟨j, l', ti, tn', td, tl, rfl, hj, H, f1, f2, f3, f4, f5, f6⟩
      refine wpAny_isTrue_Compare1 ?_
      refine n_local he (by tb_start) (by tb_start) (by tb_start) (by tb_rel) (by kwd_rel) ?_  -- i
      refine n_local he (by tb_start) (by tb_start) (by tb_start) (by tb_rel) (by kwd_rel) ?_  -- n
      refine o_lt ?_
      refine wpAny_truthy_bool ?_
      by_cases hjl : j < os.length
      · rw [if_pos (decide_eq_true (by omega))]
        refine W_gen fun Q2 hQ2 => ?_
        obtain ⟨g0, g1, g2, g3⟩ := enc_get hjl
        have hoj : os.getD j 0 < 256 := ho _ (List.mem_of_getElem? (getD_of hjl))
        have hc1 := enc_chars.2 (os.getD j 0 / 16) (by omega)
        have hc2 := enc_chars.2 (os.getD j 0 % 16) (by omega)
        have hdl : (decAt os j).length ≤ os.length + 1 := by
          unfold decAt
          split
          · simp
          · rw [List.length_take]; omega
        have hdec : decAt os j = os.take j := by unfold decAt; rw [if_neg (by omega)]
        have X2 : Tp T mg mb s1.heap := X.keeps fun b o e => H.keep b o (k₁ b o e)
        refine wpAny_execs_cons ?_
        refine wpAny_Assign_Name ?_
        refine Subscript_ ?_
        refine n_local he (by tb_start) (by tb_start) (by tb_start) (by tb_rel) (by kwd_rel) ?_  -- line
        refine n_local he (by tb_start) (by tb_start) (by tb_start) (by tb_rel) (by kwd_rel) ?_  -- i
        refine t_sign H (by omega) g0 (by with_unfolding_all rfl) fun u s1 H => ?_
        refine st_local he (by tb_start) (by tb_start) H (by kwd_inv) fun s1 H => ?_  -- c
        refine wpAny_execs_cons ?_
        refine wpAny_mono (?_ : Wp _ _ _ _ (fun f s₂ => f = .next ∧ ∃ (ti td : Tok) (l2 : List (Str × Value)), S s h₁ [(I, .raw o), (L, .loc l2)] s₂ ∧ look l2 "encoded" = some (.str (tx (encT os)) t) ∧ look l2 "eol" = some (.str (tx [10]) tn) ∧
            look l2 "i" = some (.int (3 * (j + 1) : Nat) ti) ∧ look l2 "n" = some (.int (encT os).length tn') ∧ look l2 "line" = some (.str (tx (encT os)) tl) ∧ look l2 "decoded" = some (.str (tx (os.take (j + 1))) td)) s1) (fun f s₂ h₂ => ?_) fun _ _ e => e.elim
        · refine W_gen fun Q3 hQ3 => ?_
          refine wpAny_If ?_
          refine wpAny_isTrue_Compare1 ?_
          refine n_local he (by tb_start) (by tb_start) (by tb_start) (by tb_rel) (by kwd_rel) ?_  -- c
          refine c_tx H [61] (by tb_start) fun u s1 H => ?_
          refine o_neT ?_
          refine wpAny_truthy_bool ?_
          rw [if_neg (by simp)]
          refine wpAny_execs_cons ?_
          refine wpAny_If ?_
          refine wpAny_isTrue_Compare1 ?_
          refine wpAny_BinOp ?_
          refine n_local he (by tb_start) (by tb_start) (by tb_start) (by tb_rel) (by kwd_rel) ?_  -- i
          refine c_int H fun u s1 H => ?_
          refine o_add H fun u s1 H => ?_
          refine n_local he (by tb_start) (by tb_start) (by tb_start) (by tb_rel) (by kwd_rel) ?_  -- n
          refine o_eq ?_
          refine wpAny_truthy_bool ?_
          rw [if_neg (by rw [beq_eq_false_iff_ne.mpr (by omega)]; decide)]
          refine wpAny_execs_cons ?_
          refine wpAny_If ?_
          refine wpAny_isTrue_BoolOp ?_
          refine wpAny_allTrue_And_cons ?_
          refine wpAny_isTrue_Compare1 ?_
          refine wpAny_BinOp ?_
          refine n_local he (by tb_start) (by tb_start) (by tb_start) (by tb_rel) (by kwd_rel) ?_  -- i
          refine c_int H fun u s1 H => ?_
          refine o_add H fun u s1 H => ?_
          refine n_local he (by tb_start) (by tb_start) (by tb_start) (by tb_rel) (by kwd_rel) ?_  -- n
          refine o_lt ?_
          refine wpAny_truthy_bool ?_
          rw [if_pos (decide_eq_true (by omega))]
          refine wpAny_allTrue_And_cons ?_
          refine wpAny_isTrue_Compare1 ?_
          refine Subscript_ ?_
          refine n_local he (by tb_start) (by tb_start) (by tb_start) (by tb_rel) (by kwd_rel) ?_  -- line
          refine wpAny_BinOp ?_
          refine n_local he (by tb_start) (by tb_start) (by tb_start) (by tb_rel) (by kwd_rel) ?_  -- i
          refine c_int H fun u s1 H => ?_
          refine o_add H fun u s1 H => ?_
          have ei1 : ((3 * j : Nat) : Int) + 1 = ((3 * j + 1 : Nat) : Int) := by push_cast; rfl
          have ei2 : ((3 * j : Nat) : Int) + 2 = ((3 * j + 2 : Nat) : Int) := by push_cast; rfl
          have ei3 : ((3 * j : Nat) : Int) + 3 = ((3 * (j + 1) : Nat) : Int) := by push_cast; omega
          rw [ei1]
          refine t_sign H (by omega) g1 (by with_unfolding_all rfl) fun u s1 H => ?_
          refine n_global he (by tb_start) (by tb_start) (by tb_start) (X.G.keeps fun b o e => H.keep b o (k₁ b o e)) Nh ?_
          refine SB.contains ?_
          rw [hc1.2.2.1]
          refine wpAny_truthy_bool ?_
          rw [if_pos rfl]
          refine wpAny_allTrue_And_cons ?_
          refine wpAny_isTrue_Compare1 ?_
          refine Subscript_ ?_
          refine n_local he (by tb_start) (by tb_start) (by tb_start) (by tb_rel) (by kwd_rel) ?_  -- line
          refine wpAny_BinOp ?_
          refine n_local he (by tb_start) (by tb_start) (by tb_start) (by tb_rel) (by kwd_rel) ?_  -- i
          refine c_int H fun u s1 H => ?_
          refine o_add H fun u s1 H => ?_
          rw [ei2]
          refine t_sign H (by omega) g2 (by with_unfolding_all rfl) fun u s1 H => ?_
          refine n_global he (by tb_start) (by tb_start) (by tb_start) (X.G.keeps fun b o e => H.keep b o (k₁ b o e)) Nh ?_
          refine SB.contains ?_
          rw [hc2.2.2.1]
          refine wpAny_truthy_bool ?_
          rw [if_pos rfl]
          refine wpAny_allTrue_And_nil ?_
          rw [if_pos rfl]
          refine wpAny_execs_cons ?_
          refine wpAny_AugAssign_Name ?_
          refine n_load he (by tb_start) (by tb_start) (by tb_rel) (by kwd_rel) ?_  -- decoded
          refine x_call he (by tb_start) (by tb_start) (by tb_start) (X.G.keeps fun b o e => H.keep b o (k₁ b o e)) Nu rfl rfl ?_
          refine wpAny_items_cons ?_
          refine t_slice ?_ (fun _ _ => rfl)
          refine n_local he (by tb_start) (by tb_start) (by tb_start) (by tb_rel) (by kwd_rel) ?_  -- line
          refine evalPart_some_step ?_
          refine n_local he (by tb_start) (by tb_start) (by tb_start) (by tb_rel) (by kwd_rel) ?_  -- i
          refine evalPart_some_step ?_
          refine wpAny_BinOp ?_
          refine n_local he (by tb_start) (by tb_start) (by tb_start) (by tb_rel) (by kwd_rel) ?_  -- i
          refine c_int H fun u s1 H => ?_
          refine o_add H fun u s1 H => ?_
          rw [ei3]
          refine ⟨encT os, _, some (((3 * j : Nat) : Int), _), some (((3 * (j + 1) : Nat) : Int), _), rfl, rfl, rfl, by rw [sizeLine_eq]; omega, _, _, _, H, fun u s1 H => ?_⟩
          have e : ∀ (t1 t2 : Tok), Txt.slice (tx (encT os)) ((some (((3 * j : Nat) : Int), t1)).map (·.1)) ((some (((3 * (j + 1) : Nat) : Int), t2)).map (·.1)) = tx (61 :: hexT (os.getD j 0)) := fun _ _ => by
            refine (slice_tx (l := encT os) (a := 3 * j) (b := 3 * (j + 1)) (by omega) (by omega)).trans ?_
            rw [show 3 * (j + 1) - 3 * j = 3 by omega, g3]
          rw [e]
          refine wpAny_items_nil ?_
          have F3 : IsDef T.unquote 17 s1.heap := F.keeps fun b o e => H.keep b o (k₁ b o e)
          refine ⟨⟨_, _, _, _, F3⟩, ?_⟩
          refine wpAny_mono (c_unquote (X.keeps fun b o e => H.keep b o (k₁ b o e)) Bi F3 (R'.less (by omega) (by omega)) hoj) (fun v s2 h2 => ?_) fun _ _ e => e.elim
          obtain ⟨⟨tv, rfl⟩, kk⟩ := h2
          have H := H.grow kk
          refine o_icatT H (by rw [sizeLine_eq, List.length_singleton]; omega) fun u s1 H => ?_
          refine st_local he (by tb_start) (by tb_start) H (by kwd_inv) fun s1 H => ?_  -- decoded
          refine wpAny_execs_cons ?_
          refine wpAny_AugAssign_Name ?_
          refine n_load he (by tb_start) (by tb_start) (by tb_rel) (by kwd_rel) ?_  -- i
          refine c_int H fun u s1 H => ?_
          refine o_iadd H fun u s1 H => ?_
          rw [ei3]
          refine st_local he (by tb_start) (by tb_start) H (by kwd_inv) fun s1 H => ?_  -- i
          refine wpAny_execs_nil ?_
          refine wpAny_execs_nil ?_
          refine wpAny_execs_nil ?_
          have e1 : os.take (j + 1) = decAt os j ++ [os.getD j 0] := by
            rw [hdec, List.take_add_one, getD_of (d := 0) hjl]; rfl
          refine hQ3 _ _ ?_
          exact ⟨rfl, _, _, _, H, by kwd_rel, by kwd_rel, by kwd_rel, by kwd_rel, by kwd_rel, by rw [e1]; kwd_rel⟩
        · obtain ⟨rfl, ti, td, l2, H, f1, f2, f3, f4, f5, f6⟩ := h₂
          refine wpAny_execs_cons ?_
          refine wpAny_If ?_
          refine wpAny_isTrue_Compare1 ?_
          refine n_local he (by tb_start) (by tb_start) (by tb_start) (by tb_rel) (by kwd_rel) ?_  -- i
          refine n_local he (by tb_start) (by tb_start) (by tb_start) (by tb_rel) (by kwd_rel) ?_  -- n
          refine o_eq ?_
          refine wpAny_truthy_bool ?_
          by_cases hl1 : j + 1 = os.length
          · rw [if_pos (beq_iff_eq.mpr (by omega))]
            refine wpAny_execs_cons ?_
            refine wpAny_AugAssign_Name ?_
            refine n_load he (by tb_start) (by tb_start) (by tb_rel) (by kwd_rel) ?_  -- decoded
            refine n_local he (by tb_start) (by tb_start) (by tb_start) (by tb_rel) (by kwd_rel) ?_  -- eol
            refine o_icatT H (by rw [sizeLine_eq, List.length_take, List.length_singleton]; omega) fun u s1 H => ?_
            refine st_local he (by tb_start) (by tb_start) H (by kwd_inv) fun s1 H => ?_  -- decoded
            refine wpAny_execs_nil ?_
            have e1 : decAt os (j + 1) = os.take (j + 1) ++ [10] := by unfold decAt; rw [if_pos hl1, hl1, List.take_length]
            refine wpAny_execs_nil ?_
            refine hQ2 _ _ ?_
            exact ⟨_, by omega, j + 1, _, _, _, _, _, rfl, by omega, H, by kwd_rel, by kwd_rel, by kwd_rel, by kwd_rel, by kwd_rel, by rw [e1]; kwd_rel⟩
          · rw [if_neg (by rw [beq_eq_false_iff_ne.mpr (by omega)]; decide)]
            refine wpAny_execs_nil ?_
            have e1 : decAt os (j + 1) = os.take (j + 1) := by unfold decAt; rw [if_neg hl1]
            refine wpAny_execs_nil ?_
            refine hQ2 _ _ ?_
            exact ⟨_, by omega, j + 1, _, _, _, _, _, rfl, by omega, H, by kwd_rel, by kwd_rel, by kwd_rel, by kwd_rel, by kwd_rel, by rw [e1]; kwd_rel⟩
      · have hj' : j = os.length := by omega
        subst hj'
        rw [if_neg (by rw [decide_eq_false (by omega)]; decide)]
        refine wpAny_execs_nil ?_
        refine hQ1 _ _ ?_
        refine ⟨_, H, td, l', rfl, f1, f2, ?_⟩
        rw [f6]
        unfold decAt
        rw [if_pos rfl]; rfl
  · rintro fs s1 ⟨td, l', rfl, e1, e2, e3⟩ H
    rw [if_neg (by simp)] at e3
    have hG : ∀ {s' : Shared} {fs' : Led}, S s h₁ fs' s' → Gnd mg mb s'.heap := fun H => X.G.keeps fun b o e => H.keep b o (k₁ b o e)
    have hlast : (encT os)[(encT os).length - 1]? = some (hexd (os.getD (os.length - 1) 0 % 16)) := by
      have := (enc_get (os := os) (j := os.length - 1) (by omega)).2.2.1
      rw [show 3 * (os.length - 1) + 2 = (encT os).length - 1 by omega] at this
      exact this
    have hoj : os.getD (os.length - 1) 0 < 256 := ho _ (List.mem_of_getElem? (getD_of (by omega)))
    have hc := enc_chars.2 (os.getD (os.length - 1) 0 % 16) (by omega)
    refine wpAny_execs_cons ?_
    refine wpAny_If ?_
    refine wpAny_isTrue_BoolOp ?_
    refine wpAny_allTrue_And_cons ?_
    refine wpAny_isTrue_Compare1 ?_
    refine Subscript_ ?_
    refine n_local he (by tb_start) (by tb_start) (by tb_start) (by tb_rel) (by kwd_rel) ?_  -- encoded
    refine wpAny_UnaryOp ?_
    refine c_int H fun u s1 H => ?_
    refine o_neg H fun u s1 H => ?_
    refine t_last H hlast (by with_unfolding_all rfl) fun u s1 H => ?_
    refine c_tx H [13, 10] (by tb_start) fun u s1 H => ?_
    refine SB.notContains ?_
    rw [hc.2.2.2.1]
    refine wpAny_truthy_bool ?_
    rw [if_pos (by decide)]
    refine wpAny_allTrue_And_cons ?_
    refine wpAny_isTrue_value ?_
    refine PySem.Call_method1 (by rfl) (by rfl) (by rfl) ?_
    refine n_local he (by tb_start) (by tb_start) (by tb_start) (by tb_rel) (by kwd_rel) ?_  -- decoded
    refine SB.endswith ?_
    refine n_local he (by tb_start) (by tb_start) (by tb_start) (by tb_rel) (by kwd_rel) ?_  -- eol
    refine ⟨_, _, rfl, ?_⟩
    rw [endswith_tx]
    refine wpAny_truthy_bool ?_
    rw [if_pos rfl]
    refine wpAny_allTrue_And_nil ?_
    rw [if_pos rfl]
    refine wpAny_execs_cons ?_
    refine wpAny_Assign_Name ?_
    refine t_slice ?_ (fun _ _ => rfl)
    refine n_local he (by tb_start) (by tb_start) (by tb_start) (by tb_rel) (by kwd_rel) ?_  -- decoded
    refine evalPart_none_step ?_
    refine evalPart_some_step ?_
    refine wpAny_UnaryOp ?_
    refine x_blt he (by tb_start) (by tb_start) (by tb_start) (hG H) X.b_len (id := "len") (by tb_start) (by tb_start) rfl rfl ?_
    refine wpAny_items_cons ?_
    refine n_local he (by tb_start) (by tb_start) (by tb_start) (by tb_rel) (by kwd_rel) ?_  -- eol
    refine wpAny_items_nil ?_
    refine x_lenT H (by rw [sizeLine_eq]; exact Nat.le_of_ble_eq_true rfl) fun u s1 H => ?_
    refine o_neg H fun u s1 H => ?_
    refine ⟨os ++ [10], _, none, some (-(([10] : List Nat).length : Int), _), rfl, rfl, rfl, by rw [sizeLine_eq, List.length_append, List.length_singleton]; omega, _, _, _, H, fun u s1 H => ?_⟩
    have e : ∀ (t2 : Tok), Txt.slice (tx (os ++ [10])) ((none : Option (Int × Tok)).map (·.1)) ((some (-(([10] : List Nat).length : Int), t2)).map (·.1)) = tx os := fun _ => by
      refine (slice_neg_hi (l := os ++ [10]) (a := 1) (by omega) (by rw [List.length_append, List.length_singleton]; omega)).trans ?_
      rw [List.length_append, List.length_singleton, Nat.add_sub_cancel, List.take_left]
    rw [e]
    refine st_local he (by tb_start) (by tb_start) H (by kwd_inv) fun s1 H => ?_  -- decoded
    refine wpAny_execs_nil ?_
    refine wpAny_execs_cons ?_
    refine wpAny_Return_some ?_
    refine n_local he (by tb_start) (by tb_start) (by tb_start) (by tb_rel) (by kwd_rel) ?_  -- decoded
    exact ⟨⟨_, rfl⟩, H.keepsOf k₁⟩
end Mine
end

section
open PySem PySem.Calls PySem.Spec PyProof.Rows PySem.W
set_option Elab.async false
namespace Mine

/-! walks under a stack where no code holds a table of octets -/
noncomputable def holds : Code → Bool
  | .builtin id _ => Builtin.Bytes.decodersThatHold.contains id
  | _ => false
structure Clean (Γ : PySem.Ctx) : Prop where
  code : holds Γ.code = false
  below : ∀ q ∈ Γ.below, holds q.1 = false
theorem Clean.enter {Γ : PySem.Ctx} (C : Clean Γ) {c : Code} (hc : holds c = false) (h : Option Value) (p : Pos) : Clean (Γ.enter c h p) :=
  ⟨hc, fun q hq => by
    rcases List.mem_cons.mp (show q ∈ (Γ.code, p) :: Γ.below from hq) with rfl | hq
    · exact C.code
    · exact C.below q hq⟩
theorem Clean.goto {Γ : PySem.Ctx} (C : Clean Γ) {c : Code} (hc : holds c = false) : Clean (Γ.goto c) := ⟨hc, C.below⟩

noncomputable def WpC {α : Type} (prog : Program) (w : World) (A : Around) (t : Sem α) (Q : α → Shared → Prop) (s : Shared) : Prop :=
  ∀ Γ p, Γ.In A → Clean Γ → Sem.wp (model prog w) Γ t (fun a _ s' => Q a s') (fun _ _ _ => False) p s
noncomputable def okR (R : Flow → Shared → Prop) : Result → Shared → Prop := fun r s' => match r with | .ok f => R f s' | .error _ => False
noncomputable def CodeC (prog : Program) (w : World) (A : Around) (c : Code) (R : Flow → Shared → Prop) (s : Shared) : Prop :=
  ∀ Γ p, Γ.code = c → Γ.Below A → Clean Γ → wpCode (model prog w) Γ (okR R) p s

section
variable {α β : Type} {prog : Program} {w : World} {A : Around} {s : Shared} {env : Env}

theorem WpC.of {t : Sem α} {Q : α → Shared → Prop} (h : Wp prog w A t Q s) : WpC prog w A t Q s := fun Γ p hΓ _ => h Γ p hΓ
theorem WpC.bind {m : Sem α} {f : α → Sem β} {Q : β → Shared → Prop} (h : WpC prog w A m (fun a s' => WpC prog w A (f a) Q s') s) : WpC prog w A (m >>= f) Q s := fun Γ p hΓ C => by
  rw [Sem.wp_bind']
  exact Sem.wp_mono _ Γ m (fun a p' s' h' => h' Γ p' hΓ C) (fun _ _ _ h' => h') p s (h Γ p hΓ C)
theorem WpC.mono {t : Sem α} {Q Q' : α → Shared → Prop} (h : WpC prog w A t Q s) (hQ : ∀ a s, Q a s → Q' a s) : WpC prog w A t Q' s :=
  fun Γ p hΓ C => Sem.wp_mono _ Γ t (fun a _ s => hQ a s) (fun _ _ _ h' => h') p s (h Γ p hΓ C)
theorem WpC.pure {a : α} {Q : α → Shared → Prop} (h : Q a s) : WpC prog w A (pure a) Q s := .of (wpAny_pure h)
theorem WpC.hold {vs : List Value} {m : Sem α} {Q : α → Shared → Prop} (h : WpC prog w A m Q s) : WpC prog w A (holding vs m) Q s :=
  fun Γ p hΓ C => by rw [Sem.wp_holding]; exact h Γ p hΓ C
theorem WpC.raise {m : Sem α} {k : Value → Sem Unit} {Q : α → Shared → Prop} (h : WpC prog w A m Q s) : WpC prog w A (m.onRaise k) Q s := fun Γ p hΓ C => by
  rw [Sem.wp_onRaise]
  exact Sem.wp_mono _ Γ m (fun _ _ _ h' => h') (fun _ _ _ h' => h'.elim) p s (h Γ p hΓ C)
theorem WpC.attempt {m : Sem α} {Q : Except Value α → Shared → Prop} (h : WpC prog w A m (fun a => Q (.ok a)) s) : WpC prog w A m.attempt Q s := fun Γ p hΓ C => by
  rw [Sem.wp_attempt]
  exact Sem.wp_mono _ Γ m (fun _ _ _ h' => h') (fun _ _ _ h' => h'.elim) p s (h Γ p hΓ C)
/-- what is walked as ever comes first -/
theorem WpC.seq {m : Sem α} {f : α → Sem β} {Q : β → Shared → Prop} (h : Wp prog w A m (fun a s' => WpC prog w A (f a) Q s') s) : WpC prog w A (m >>= f) Q s := .bind (.of h)

theorem WpC.run {c : Code} {h : Option Value} {Q : Flow → Shared → Prop} (hh : holds c = false) (hc : CodeC prog w (A.mark h) c Q s) (hnb : h ≠ some byPass) : WpC prog w A (run c h) Q s :=
  fun Γ p hΓ C => by
    rw [Sem.wp_run]
    obtain ⟨r, s', h1, h2⟩ := hc _ p rfl (hΓ.enter c h p hnb) (C.enter hh h p)
    refine ⟨r, s', h1, ?_⟩
    cases r <;> exact h2
theorem WpC.call {f : Value} {vs : List Value} {Q : Value → Shared → Prop} (hc : CodeC prog w A (.call f ⟨vs, []⟩) (fun f s' => match f with | .ret v => Q v s' | _ => False) s) :
    WpC prog w A (PySem.call f vs) Q s := fun Γ p hΓ C => by
  show Sem.wp _ Γ (runValue (.call f ⟨vs, []⟩)) _ _ p s
  rw [Sem.wp_runValue]
  obtain ⟨r, s', h1, h2⟩ := hc _ p rfl (hΓ.enter (.call f ⟨vs, []⟩) none p (by intro x; cases x)) (C.enter rfl none p)
  refine ⟨r, s', h1, ?_⟩
  cases r with
  | error e => exact h2.elim
  | ok f => cases f <;> exact h2
theorem CodeC.mono {c : Code} {R R' : Flow → Shared → Prop} (h : CodeC prog w A c R s) (hR : ∀ f s, R f s → R' f s) : CodeC prog w A c R' s :=
  fun Γ p hc hΓ C => wpCode_mono (fun r s' x => by cases r with | ok f => exact hR _ _ x | error e => exact x) (h Γ p hc hΓ C)
theorem CodeC.tree {c : Code} {R : Flow → Shared → Prop}
    (h : WpC prog w (A.under c) ((model prog w).den c) (fun fin s' => match fin with | .done f => R f s' | .again c' => c'.quiet = true ∧ holds c' = false ∧ CodeC prog w A c' R s') s) : CodeC prog w A c R s := fun Γ p hc hΓ C => by
  rw [wpCode_iff_wp, hc]
  refine Sem.wp_mono _ Γ _ (fun fin p' s' h' => ?_) (fun _ _ _ h' => h'.elim) p s (h Γ p (hc ▸ hΓ.in) C)
  cases fin with
  | done f => exact h'
  | again c' => exact ⟨h'.1, h'.2.2 (Γ.goto c') p' rfl (hΓ.goto c') (C.goto h'.2.1)⟩
theorem CodeC.loop {c : Code} {R : Flow → Shared → Prop} (hq : c.quiet = true) (hh : holds c = false) (I : Nat → Shared → Prop)
    (turn : ∀ n s, I n s → WpC prog w (A.under c) ((model prog w).den c) (fun fin s' => match fin with
        | .done f => R f s'
        | .again c' => (c' = c ∧ ∃ m, m < n ∧ I m s') ∨ (c'.quiet = true ∧ holds c' = false ∧ CodeC prog w A c' R s')) s)
    (n : Nat) (h : I n s) : CodeC prog w A c R s := by
  induction n using Nat.strongRecOn generalizing s with
  | ind n ih =>
    refine CodeC.tree ((turn n s h).mono fun fin s' hf => ?_)
    cases fin with
    | done f => exact hf
    | again c' =>
      rcases hf with ⟨rfl, m, hm, hI⟩ | hf
      · exact ⟨hq, hh, ih m hm hI⟩
      · exact hf
end

section
variable {prog : Program} {w : World} {A : Around} {s : Shared} {env : Env}

theorem C_nil {Q : Flow → Shared → Prop} (h : Q .next s) : WpC prog w A (execs [] env) Q s := .of (wpAny_execs_nil h)
theorem C_cons {st : Stmt} {rest : List Stmt} {Q : Flow → Shared → Prop}
    (h : WpC prog w A (exec st env) (fun f s' => match f with | .next => WpC prog w A (execs rest env) Q s' | f => Q f s') s) : WpC prog w A (execs (st :: rest) env) Q s := fun Γ p hΓ C => by
  rw [execs_cons, Sem.wp_bind']
  refine Sem.wp_mono _ Γ _ (fun f p' s' h' => ?_) (fun _ _ _ h' => h') p s (h Γ p hΓ C)
  cases f <;> first | exact h' Γ p' hΓ C | exact h'
theorem C_Assign {x : Str} {pos' pos : Pos} {value : Expr} {Q : Flow → Shared → Prop}
    (h : WpC prog w A (eval value env) (fun v s₁ => Wp prog w A (storeName env x v) (fun _ => Q .next) s₁) s) (hs : swapsWith value (some (.Name x pos')) pos.line env = pure false) :
    WpC prog w A (exec (.Assign [.Name x pos'] value pos) env) Q s := fun Γ p hΓ C => by
  simp only [exec_Assign_Name env x pos' value pos hs, Sem.wp_bind', Sem.wp_cmd_standAt, Sem.wp_bindName, Sem.wp_pure']
  exact Sem.wp_mono _ Γ _ (fun v _ s₁ h₁ => h₁ Γ _ hΓ) (fun _ _ _ h' => h') _ _ (h Γ _ hΓ C)
theorem C_Return {e : Expr} {pos : Pos} {Q : Flow → Shared → Prop} (h : WpC prog w A (eval e env) (fun v => Q (.ret v)) s) : WpC prog w A (exec (.Return (some e) pos) env) Q s := fun Γ p hΓ C => by
  simp only [exec_Return_some, Sem.wp_bind', Sem.wp_cmd_standAt, Sem.wp_pure']
  exact h Γ _ hΓ C
theorem C_If {test : Expr} {body orelse : List Stmt} {pos : Pos} {Q : Flow → Shared → Prop}
    (h : Wp prog w A (isTrue test env (eval test env)) (fun b s₂ => if b then WpC prog w A (execs body env) Q s₂ else WpC prog w A (execs orelse env) Q s₂) s) : WpC prog w A (exec (.If test body orelse pos) env) Q s := fun Γ p hΓ C => by
  simp only [exec_If, Sem.wp_bind', Sem.wp_cmd_standAt]
  refine Sem.wp_mono _ Γ _ (fun b p₂ s₂ h₂ => ?_) (fun _ _ _ h' => h') _ _ (h Γ _ hΓ)
  cases b <;> exact h₂ Γ p₂ hΓ C
theorem C_BinOp {l r : Expr} {op : Operator} {pos : Pos} {Q : Value → Shared → Prop}
    (h : Wp prog w A (eval l env) (fun a s₁ => WpC prog w A (eval r env) (fun b s₂ => Wp prog w A (binaryOp op a b) Q s₂) s₁) s) : WpC prog w A (eval (.BinOp l op r pos) env) Q s := by
  rw [arm_eval_BinOp]
  refine .seq (wpAny_mono h (fun a s₁ h₁ => ?_) fun _ _ e => e)
  refine .bind (.hold (h₁.mono fun b s₂ h₂ => ?_))
  refine .of ?_
  first
    | exact wpAny_bind (wpAny_standAt (wpAny_operating h₂))
    | exact wpAny_bind (wpAny_standAt (wpAny_bind (wpAny_operating (wpAny_mono h₂ (fun _ _ q => wpAny_pure q) fun _ _ e => e))))
end
theorem C_gen {α : Type} {prog : Program} {w : World} {A : Around} {s : Shared} {t : Sem α} {Q : α → Shared → Prop} (h : ∀ Q' : α → Shared → Prop, (∀ a s', Q a s' → Q' a s') → WpC prog w A t Q' s) : WpC prog w A t Q s := h Q fun _ _ x => x
end Mine
end

section
open PySem PySem.Calls PySem.Spec PyProof.Rows PySem.W
set_option Elab.async false
namespace Mine

section
variable {prog : Program} {w : World} {A : Around} {s : Shared} {env : Env} {sc : Scope} {L : Addr} {cs : List (Str × Addr)}

theorem C_own {c : Code} {Q : Flow → Shared → Prop} (hh : holds c = false) (hc : CodeC prog w A c Q s) : WpC prog w A (runOwn c env) Q s := by
  unfold runOwn
  exact .raise (.run hh hc (by intro x; cases x))

theorem C_forLoop {R : Flow → Shared → Prop} {target : Expr} {it : Value} {body : List Stmt} (I : Nat → Shared → Prop)
    (turn : ∀ n s, I n s → Wp prog w A (pyNext it) (fun r s₁ => match r with
      | none => R .next s₁
      | some v => Wp prog w A (assign target env v) (fun _ s₂ => WpC prog w A (execs body env) (fun f s₃ => match f with
          | .next | .cont => ∃ m, m < n ∧ I m s₃
          | .brk => R .next s₃
          | .ret v => R (.ret v) s₃) s₂) s₁) s)
    (n : Nat) (h : I n s) (ht : ∀ v, letOwnedTupleGo target it v = pure ()) : CodeC prog w A (.forLoop target it body [] env) R s := by
  refine CodeC.loop rfl rfl I (fun n s hI => ?_) n h
  show WpC prog w A ((forTurn target it body [] env).onRaise (fun x => do noteFrame x env; theTreesLotGoes x)) _ s
  refine .raise ?_
  simp only [forTurn]
  refine .seq (wpAny_standAt (.seq (wpAny_onRaise (wpAny_mono (turn n s hI) (fun r s₁ h₁ => ?_) fun _ _ h' => h'.elim))))
  cases r with
  | none => exact .pure (.inr ⟨rfl, rfl, .tree (by
      show WpC prog w A (do return Fin.done (← (execs [] env).onRaise (fun x => do noteFrame x env; theTreesLotGoes x))) _ s₁
      exact .bind (.raise (C_nil (.pure h₁))))⟩)
  | some v =>
    refine .seq (wpAny_of_eq (ht v) ?_)
    refine .seq (wpAny_mono h₁ (fun _ s₂ h₂ => .bind (h₂.mono fun f s₃ h₃ => ?_)) fun _ _ h' => h')
    cases f with
    | next => exact .pure (.inl ⟨rfl, h₃⟩)
    | cont => exact .pure (.inl ⟨rfl, h₃⟩)
    | brk => exact .pure h₃
    | ret v => exact .pure h₃

/-- a for whose turns change what stood before, as the ledger tells -/
theorem f_forC {α : Type} {target iter : Expr} {body : List Stmt} {pos : Pos} {Q : Flow → Shared → Prop}
    (h : Wp prog w A (eval iter env) (fun xv s₁ => ∃ (xs : List α) (Is : α → Value → Prop) (σ : Shared) (h₀ : Heap) (fs : Led) (J : Nat → Shared → Led → Prop), Iter prog w A xv xs Is h₀ s₁ ∧ S σ h₀ fs s₁ ∧ J 0 σ fs ∧
      (∀ i a v σ fs I o s, xs[i]? = some a → Is a v → J i σ fs → S σ h₀ ((I, .raw o) :: fs) s →
        Wp prog w A (assign target env v) (fun _ s₂ => WpC prog w A (execs body env) (fun f s₃ => match f with
          | .next | .cont => ∃ σ' fs', S σ' h₀ ((I, .raw o) :: fs') s₃ ∧ J (i + 1) σ' fs'
          | .brk => Q .next s₃
          | .ret v => Q (.ret v) s₃) s₂) s) ∧
      (∀ σ fs s, J xs.length σ fs → S σ h₀ fs s → Q .next s)) s)
    (hs : ∀ x, foldedSetIterable iter env x = pure x) (ht : ∀ it v, letOwnedTupleGo target it v = pure ()) :
    WpC prog w A (exec (.For target iter body [] pos) env) Q s := by
  rw [exec_For]
  refine .seq (wpAny_standAt (.seq (wpAny_mono h (fun xv s₁ h₁ => ?_) fun _ _ e => e)))
  obtain ⟨xs, Is, σ, h₀, fs, J, IT, H, hJ, turn, done⟩ := h₁
  refine .seq (wpAny_of_eq (hs xv) (.seq (wpAny_standAt (.seq (wpAny_holding (IT.go _ (fun I fp wr St s₂ W st hfp hwr hIw hlive hI k => ?_)))))))
  have H₂ : S σ h₀ fs s₂ := H.grow k
  have hI0 : h₀.get? I = none := H.fresh hI
  obtain ⟨o₂, ho₂⟩ := hlive _ _ st
  have H₂' : S σ h₀ ((I, .raw o₂) :: fs) s₂ := H.add k hI ho₂
  refine C_own rfl (C_forLoop (fun n s' => ∃ i σ fs o, n = xs.length + 1 - i ∧ i ≤ xs.length ∧ St i s'.heap ∧ S σ h₀ ((I, .raw o) :: fs) s' ∧ J i σ fs) ?_ (xs.length + 1) ⟨0, σ, fs, o₂, rfl, Nat.zero_le _, st, H₂', hJ⟩ (fun v => ht _ v))
  rintro n s' ⟨i, σ', fs', o, rfl, hi, st', H', hJ'⟩
  by_cases hlt : i < xs.length
  · refine W.item i _ _ _ hlt st' fun v h' tk ⟨a, ha, hv⟩ st₁ hk₁ => ?_
    obtain ⟨o₁, ho₁⟩ := hlive _ _ st₁
    have H₁ : S σ' h₀ ((I, .raw o₁) :: fs') { s' with heap := h', toks := tk } := H'.upd .head tk (fun b o hb e => hk₁ b o (fun hw => hb (hwr b hw)) e) ho₁
    refine wpAny_mono (turn i a v σ' fs' I o₁ _ ha hv hJ' H₁) (fun _ s₃ h₃ => h₃.mono fun f s₄ h₄ => ?_) fun _ _ e => e.elim
    have fin : (∃ σ'' fs'', S σ'' h₀ ((I, .raw o₁) :: fs'') s₄ ∧ J (i + 1) σ'' fs'') → ∃ m, m < xs.length + 1 - i ∧ ∃ i σ fs o, m = xs.length + 1 - i ∧ i ≤ xs.length ∧ St i s₄.heap ∧ S σ h₀ ((I, .raw o) :: fs) s₄ ∧ J i σ fs := by
      rintro ⟨σ'', fs'', H₄, hJ₄⟩
      refine ⟨xs.length + 1 - (i + 1), by omega, i + 1, σ'', fs'', o₁, rfl, hlt, W.frame _ _ _ st₁ fun b hb o e => ?_, H₄, hJ₄⟩
      rcases hfp b hb with rfl | ⟨o', e'⟩
      · have e1 : s₄.heap.get? b = some o₁ := H₄.get (.head _)
        rw [e1]; rw [ho₁] at e; exact e
      · have e1 := H₁.keep b o' e'
        have e2 := H₄.keep b o' e'
        rw [e2]; rw [show h'.get? b = some o from e] at e1; exact e1.symm
    cases f with
    | next => exact fin h₄
    | cont => exact fin h₄
    | brk => exact h₄
    | ret v => exact h₄
  · have hin : i = xs.length := by omega
    subst hin
    refine W.done _ _ _ st' fun h' tk hk₁ => ?_
    refine done σ' fs' _ hJ' ?_
    have live : ∀ b o, b ≠ I → s'.heap.get? b = some o → h'.get? b = some o := fun b o hb e => hk₁ b o (fun hw => hb (hwr b hw)) e
    have nd := List.nodup_cons.mp H'.nd
    refine ⟨?_, fun b o e => live b o (fun e' => by subst e'; rw [hI0] at e; cases e) (H'.keep b o e), fun q hq => Fact.congr (fun o e => live _ o (fun e' => nd.1 (by rw [← e']; exact List.mem_map_of_mem (f := (·.1)) hq)) e) (H'.holds q (.tail _ hq)), fun q hq => H'.new q (.tail _ hq), nd.2⟩
    obtain ⟨⟨h1, t1, e1⟩, _⟩ := H'
    exact ⟨h', tk, by rw [e1]⟩
end
end Mine
end

section
open PySem PySem.Calls PySem.Spec PyProof.Rows PySem.W
set_option Elab.async false
namespace Mine

section
variable {prog : Program} {w : World} {A : Around} {s : Shared} {env : Env} {sc : Scope} {L : Addr} {cs : List (Str × Addr)}

theorem C_compLoop {R : Flow → Shared → Prop} {elt target iter : Expr} {scope : Scope} {pos : Pos} {it acc : Value} (I : Nat → Shared → Prop)
    (turn : ∀ n s, I n s → Wp prog w A (pyNext it) (fun r s₁ => match r with
      | none => R .next s₁
      | some v => Wp prog w A (assign target env v) (fun _ s₂ => WpC prog w A (eval elt env) (fun x s₃ =>
          Wp prog w A (PySem.call (.builtin "list.append") [acc, x]) (fun _ s₄ => ∃ m, m < n ∧ I m s₄) s₃) s₂) s₁) s)
    (n : Nat) (h : I n s) (ht : ∀ v, letOwnedTupleGo target it v = pure ()) :
    CodeC prog w A (.compLoop (.ListComp elt [⟨target, iter, [], 0⟩] scope pos) 0 it acc env) R s := by
  refine CodeC.loop rfl rfl I (fun n s hI => ?_) n h
  show WpC prog w A ((compTurn (.ListComp elt [⟨target, iter, [], 0⟩] scope pos) 0 it acc env).onRaise (fun x => do noteFrame x env; theTreesLotGoes x)) _ s
  refine .raise ?_
  rw [compTurn_list1]
  refine .seq (wpAny_standAt (.seq (wpAny_mono (turn n s hI) (fun r s₁ h₁ => ?_) fun _ _ h' => h')))
  cases r with
  | none => exact .pure h₁
  | some v =>
    refine .seq (wpAny_of_eq (ht v) ?_)
    refine .seq (wpAny_mono h₁ (fun _ s₂ h₂ => ?_) fun _ _ h' => h')
    refine .bind (.bind (h₂.mono fun x s₃ h₃ => ?_))
    refine .seq (wpAny_mono h₃ (fun _ s₄ h₄ => ?_) fun _ _ h' => h')
    exact .pure (.pure (.inl ⟨rfl, h₄⟩))

theorem C_compStart {R : Flow → Shared → Prop} {elt target iter : Expr} {scope : Scope} {pos : Pos} {it acc : Value}
    (h0 : CodeC prog w A (.compLoop (.ListComp elt [⟨target, iter, [], 0⟩] scope pos) 0 it acc env) R s)
    (h : Wp prog w A (pyIter it) (fun it' s' => CodeC prog w A (.compLoop (.ListComp elt [⟨target, iter, [], 0⟩] scope pos) 0 it' acc env) R s') s) :
    CodeC prog w A (.compStart (.ListComp elt [⟨target, iter, [], 0⟩] scope pos) 0 it acc env) R s := by
  refine .tree ?_
  show WpC prog w A ((compStart (.ListComp elt [⟨target, iter, [], 0⟩] scope pos) 0 it acc env).onRaise (fun x => do noteFrame x env; standAt theWindowsPlace)) _ s
  refine .raise ?_
  unfold compStart
  show WpC prog w A (ask >>= _) _ s
  refine .seq (wpAny_askSetting ?_)
  split
  · first
      | exact .seq (wpAny_pure (.pure ⟨rfl, rfl, h0⟩))
      | exact .pure ⟨rfl, rfl, h0⟩
  · first
      | exact .seq (wpAny_rule (.seq (wpAny_standAt (.seq (wpAny_mono h (fun it' s' h' => .pure ⟨rfl, rfl, h'⟩) fun _ _ x => x)))))
      | (refine .seq (wpAny_rule ?_); show WpC prog w A (standAt iter.pos >>= _) _ _; exact .seq (wpAny_standAt (.seq (wpAny_mono h (fun it' s' h' => .pure ⟨rfl, rfl, h'⟩) fun _ _ x => x))))

/-- a comprehension whose turns change what stood before, as the ledger tells -/
theorem l_compC {α : Type} {elt iter : Expr} {x : Str} {px pos : Pos} {scope : Scope} {cl : List (Str × Addr)} {Q : Value → Shared → Prop}
    (he : EnvAt env sc L cs) (hcl : closL cs scope.names [] = some cl) (CF : CompFacts scope x) (hs : ∀ v, foldedSetIterable iter env v = pure v)
    (h : WpC prog w A (eval iter env) (fun xv s₁ => ∃ (xs : List α) (Is : α → Value → Prop) (R : α → Value → Prop) (σ : Shared) (h₀ : Heap) (fs : Led) (J : Nat → Shared → Led → Prop), Iter prog w A xv xs Is h₀ s₁ ∧ S σ h₀ fs s₁ ∧ J 0 σ fs ∧ xs.length ≤ sizeLine ∧
      (∀ i a v σ fs I o C D l ys env' s, xs[i]? = some a → Is a v → J i σ fs → EnvAt env' (relabelS scope sc) C cl → S σ h₀ ((C, .loc ((x, v) :: l)) :: (D, .list ys) :: (I, .raw o) :: fs) s →
        WpC prog w A (eval elt env') (fun y s' => R a y ∧ ∃ σ' fs', S σ' h₀ ((C, .loc ((x, v) :: l)) :: (D, .list ys) :: (I, .raw o) :: fs') s' ∧ J (i + 1) σ' fs') s) ∧
      (∀ σ fs D ys s, J xs.length σ fs → Paired R xs ys → S σ h₀ ((D, .list ys) :: fs) s → Q (.ref D) s)) s) :
    WpC prog w A (eval (.ListComp elt [⟨.Name x px, iter, [], 0⟩] scope pos) env) Q s := by
  rw [eval_ListComp]
  unfold comprehension
  rw [closureFor_of (by rw [he.cells]; exact hcl)]
  refine .bind (h.mono fun xv s₁ h₁ => ?_)
  obtain ⟨xs, Is, R, σ, h₀, fs, J, IT, H, hJ, hz, turn, done⟩ := h₁
  refine .seq (wpAny_standAt (.seq (wpAny_of_eq (hs xv) (.seq (wpAny_holding (IT.go _ (fun I fp wr St s₂ W st hfp hwr hIw hlive hI k => ?_)))))))
  dsimp only [Option.isSome]
  rw [if_neg (by decide)]
  have H₂ : S σ h₀ fs s₂ := H.grow k
  have hI0 : h₀.get? I = none := H.fresh hI
  obtain ⟨o₂, ho₂⟩ := hlive _ _ st
  have HI : S σ h₀ ((I, .raw o₂) :: fs) s₂ := H.add k hI ho₂
  have HD := HI.add (f := .list []) (keeps_push s₂ { cls := .type "list", data := .seq #[] } s₂.toks) (get_size_none _) ⟨0, Heap.get?_push_size _ rfl⟩
  have hDI : s₂.heap.objs.size ≠ I := Ne.symm (Nat.ne_of_lt (Heap.lt_size ho₂))
  refine .seq (wpAny_newObj_type (.seq (wpAny_pure (.seq (wpAny_newFunctionEnv CF.cell' (by intro y hy; simp at hy) (fun h₁ hns₁ hsb₁ => ?_) CF.kind)))))
  have old : ∀ b o, (s₂.heap.push { cls := .type "list", data := .seq #[] }).get? b = some o → h₁.get? b = some o := fun b o e => hsb₁.extBut b o (Nat.ne_of_lt (Heap.lt_size e)) (Heap.get?_push_of_some _ e)
  have HC := HD.add (f := .loc []) (a := (s₂.heap.push { cls := .type "list", data := .seq #[] }).objs.size) (s' := { s₂ with heap := h₁, toks := s₂.toks + ([] : List (Str × Value)).length }) ⟨h₁, _, rfl, old⟩ (get_size_none _) ⟨_, hns₁, fun x v e => by cases e⟩
  have st₁ : St 0 h₁ := W.frame _ _ _ st fun b _ o e => old b o (Heap.get?_push_of_some _ e)
  dsimp only [newEnv]
  have erel : relabel scope env = relabelS scope sc := by
    unfold relabel relabelS Env.kindOf
    rw [he.scope]
  generalize hCC : (s₂.heap.push { cls := .type "list", data := .seq #[] }).objs.size = C at *
  generalize hDD : s₂.heap.objs.size = D at *
  refine .hold (.bind (.attempt (.hold (WpC.mono (Q := fun f s' => ∃ σ fs l ys, S σ h₀ ((C, .loc l) :: (D, .list ys) :: fs) s' ∧ J xs.length σ fs ∧ Paired R xs ys) (.run (h := none) rfl ?_ (by intro x; cases x)) ?_))))
  · have henv : ∀ E' : Env, E' = { scope := relabel scope env, locals := C, globals := env.globals, cells := cl, qual := env.qual, func := none, code := env.code, frame := env.frame, builtins := env.builtins } → EnvAt E' (relabelS scope sc) C cl := fun E' e => by
      subst e; exact ⟨erel, rfl, rfl, he.globals, he.builtins⟩
    have hloop : ∀ E' : Env, EnvAt E' (relabelS scope sc) C cl → CodeC prog w (A.mark none) (.compLoop (.ListComp elt [⟨.Name x px, iter, [], 0⟩] scope pos) 0 (.ref I) (.ref D) E')
        (fun f s' => ∃ σ fs l ys, S σ h₀ ((C, .loc l) :: (D, .list ys) :: fs) s' ∧ J xs.length σ fs ∧ Paired R xs ys) { s₂ with heap := h₁, toks := s₂.toks + ([] : List (Str × Value)).length } := fun E' hE => by
      refine C_compLoop (fun n s' => ∃ i σ fs o l ys, n = xs.length + 1 - i ∧ i ≤ xs.length ∧ St i s'.heap ∧ S σ h₀ ((C, .loc l) :: (D, .list ys) :: (I, .raw o) :: fs) s' ∧ J i σ fs ∧ Paired R (xs.take i) ys) ?_ (xs.length + 1)
        ⟨0, σ, fs, o₂, [], [], rfl, Nat.zero_le _, st₁, HC, hJ, .nil⟩ (fun _ => rfl)
      rintro n s' ⟨i, σ', fs', o, l, ys, rfl, hi, st', H', hJ', hys⟩
      have nd := H'.nd
      by_cases hlt : i < xs.length
      · refine W.item i _ _ _ hlt st' fun v h' tk ⟨a, ha, hv⟩ st₁ hk₁ => ?_
        obtain ⟨o₁, ho₁⟩ := hlive _ _ st₁
        have H₁ : S σ' h₀ ((C, .loc l) :: (D, .list ys) :: (I, .raw o₁) :: fs') { s' with heap := h', toks := tk } := H'.upd (.tail (.tail .head)) tk (fun b o hb e => hk₁ b o (fun hw => hb (hwr b hw)) e) ho₁
        refine wpAny_assign_Name ?_
        refine st_local hE (by show (relabelS scope sc).names.lookup x = some .local; rw [← erel]; exact lookup_relabel_local CF.var) CF.kind H₁ .head fun s₃ H₃ => ?_
        refine (turn i a v σ' fs' I o₁ C D l ys E' s₃ ha hv hJ' hE H₃).mono fun y s₄ h₄ => ?_
        obtain ⟨hR, σ'', fs'', H₄, hJ₄⟩ := h₄
        have hyl := hys.length
        rw [List.length_take] at hyl
        refine l_append H₄ (its := ys) (.tail .head) (by omega) fun s₅ H₅ => ?_
        refine ⟨xs.length + 1 - (i + 1), by omega, i + 1, σ'', fs'', o₁, _, _, rfl, hlt, W.frame _ _ _ st₁ fun b hb o e => ?_, H₅, hJ₄, ?_⟩
        · rcases hfp b hb with rfl | ⟨o', e'⟩
          · have e1 : s₅.heap.get? b = some o₁ := H₅.get (.tail _ (.tail _ (.head _)))
            rw [e1]; rw [ho₁] at e; exact e
          · have e1 := H₁.keep b o' e'
            have e2 := H₅.keep b o' e'
            rw [e2]; rw [show h'.get? b = some o from e] at e1; exact e1.symm
        · rw [List.take_add_one, ha]
          exact hys.snoc hR
      · have hin : i = xs.length := by omega
        subst hin
        rw [List.take_length] at hys
        refine W.done _ _ _ st' fun h' tk hk₁ => ?_
        obtain ⟨o₁, ho₁⟩ : ∃ o, True := ⟨o, trivial⟩
        have live : ∀ b o, b ≠ I → s'.heap.get? b = some o → h'.get? b = some o := fun b o hb e => hk₁ b o (fun hw => hb (hwr b hw)) e
        have nd1 := List.nodup_cons.mp nd
        have nd2 := List.nodup_cons.mp nd1.2
        have nd3 := List.nodup_cons.mp nd2.2
        have hne : ∀ q ∈ (C, Fact.loc l) :: (D, .list ys) :: fs', q.1 ≠ I := fun q hq e => by
          rcases List.mem_cons.mp hq with rfl | hq
          · exact nd1.1 (by simp [show C = I from e])
          · rcases List.mem_cons.mp hq with rfl | hq
            · exact nd2.1 (by simp [show D = I from e])
            · exact nd3.1 (by rw [← e]; exact List.mem_map_of_mem (f := (·.1)) hq)
        have hsub : ((C, Fact.loc l) :: (D, .list ys) :: fs').Sublist ((C, .loc l) :: (D, .list ys) :: (I, .raw o) :: fs') := .cons_cons _ (.cons_cons _ (.cons _ (.refl _)))
        have HS := H'.drop hsub
        refine ⟨σ', fs', l, ys, ⟨?_, fun b o e => live b o (fun e' => by subst e'; rw [hI0] at e; cases e) (H'.keep b o e), fun q hq => Fact.congr (fun o e => live _ o (hne q hq) e) (HS.holds q hq), HS.new, HS.nd⟩, hJ', hys⟩
        obtain ⟨⟨h1, t1, e1⟩, _⟩ := H'
        exact ⟨h', tk, by rw [e1]⟩
    refine C_compStart (hloop _ (henv _ rfl)) (W.self 0 _ _ _ st₁ (hloop _ (henv _ rfl)))
  · rintro f s₄ ⟨σ', fs', l, ys, H₄, hJ₄, hys⟩
    dsimp only
    obtain ⟨m, hn, _⟩ := H₄.get (.head _)
    refine .of (wpAny_bind (wpAny_holding (wpAny_comp_letGo CF.kind _ s₄ m (fun y hy hl => ?_) hn fun h' m' hn' hs' => wpAny_pure ?_)))
    · exact lookup_relabel_local (env := env) (CF.names' y (List.mem_filter.mp (List.mem_reverse.mp hy)).1 hl)
    · have H₅ : S σ' h₀ ((C, .loc []) :: (D, .list ys) :: fs') { s₄ with heap := h' } := H₄.upd .head s₄.toks hs'.extBut ⟨m', hn', fun x v e => by cases e⟩
      exact done σ' fs' D ys _ hJ₄ hys (H₅.drop (.cons _ (.refl _)))
end
end Mine
end

section
open PySem PySem.Calls PySem.Spec PyProof.Rows PySem.W
set_option Elab.async false
set_option maxRecDepth 100000
namespace Mine

section
variable {prog : Program} {w : World} {A : Around} {s : Shared} {env : Env}

theorem C_func {body : List Stmt} {R : Flow → Shared → Prop} (h : WpC prog w (A.deeper env) (execs body env) (fun f s' => R (.ret (match f with | .ret v => v | _ => .none)) s') s) : CodeC prog w A (.func body env) R s := by
  refine .tree ?_
  show WpC prog w (A.deeper env) (do point; match ← (execs body env).onRaise (leaving env) with | .ret v => ret v | _ => ret .none) _ s
  refine .seq (wpAny_point (.bind (.raise (h.mono fun f s' h' => ?_))))
  cases f <;> exact .pure h'
theorem C_call_function {a : Addr} {args : Args} {o : Obj} {fd : FuncData} {body : List Stmt} {R : Flow → Shared → Prop} (hroom : A.depth < recursionLimit) (ho : s.heap.get? a = some o)
    (hd' : o.data = .func fd) (hco : fd.scope.isCoroutine = false) (hgen : fd.scope.isGenerator = false) (hbody : fd.body = .stmts body) (hcd : s.heap.CodeRec fd.code fd.qualname)
    (h : Wp prog w A.in1 (bindArgs fd args) (fun binds s₁ => Wp prog w A.in1 (newFunctionEnv fd.scope fd.globals fd.closure binds (fd.qualname ++ ".<locals>.") (some a) fd.code none fd.builtins)
        (fun env s₂ => s₂.heap.NoLimit ∧ CodeC prog w A (.func body env) R s₂) s₁) s) : CodeC prog w A (.call (.ref a) args) R s := by
  refine .tree ?_
  show WpC prog w A.in1 (callAny (.ref a) args) _ s
  simp only [callAny]
  refine .seq (wpAny_load ho ?_)
  obtain ⟨c, oc, vs, tq, hc, hoc, hdc, hq⟩ := hcd
  simp only [hd', callFunction, hco, hgen, hbody, hc]
  rw [hc] at h
  refine .seq (m := field (.ref c) 1) (wpAny_field hoc hdc hq (.seq (wpAny_pure ?_)))
  exact .seq (wpAny_mono h (fun binds s₁ h₁ => .seq (wpAny_mono h₁ (fun env s₂ h₂ => .seq (wpAny_enterFrame h₂.1 hroom (.pure ⟨rfl, rfl, h₂.2⟩))) fun _ _ h' => h')) fun _ _ h' => h')
theorem C_call_builtin {id : String} {args : Args} {b : Builtin} {R : Flow → Shared → Prop} (hq : (Code.builtin id args).quiet = true) (hp : plainId id = true) (hh : Builtin.Bytes.decodersThatHold.contains id = false) (hb : entryFor table id = some b)
    (h : Wp prog w A.in1 (checkBuiltinCall id args) (fun _ s₁ => WpC prog w A.in1 (b args) (fun fin s' => match fin with | .done f => R f s' | .again c' => c'.quiet = true ∧ holds c' = false ∧ CodeC prog w A c' R s') s₁) s) :
    CodeC prog w A (.call (.builtin id) args) R s := by
  refine .tree ?_
  show WpC prog w A.in1 (do checkBuiltinCall id args; again (.builtin id args)) _ s
  refine .seq (wpAny_mono h (fun _ s₁ h₁ => .pure ⟨hq, hh, .tree ?_⟩) fun _ _ h' => h')
  rw [Around.under_plainId hp _]
  show WpC prog w _ (match entryFor table id with | some b => b args | none => unsupported ((withoutEnding? id "#data").getD id)) _ s₁
  rw [hb]; exact h₁
end

/-! bytearray(n) -/
theorem ba_mro : mroOf (.type "bytearray") = pure [.type "bytearray", .type "object"] := by rw [mroOf_type]; kernel_rfl
theorem ba_lookup_new : typeLookup (.type "bytearray") "__new__" = pure (some (.builtin "bytearray.__new__")) := by rw [typeLookup_type, builtinLookup_eq_fast]; kernel_rfl
theorem ba_slot_init : Slot "bytearray" "__init__" "bytearray.__init__" :=
  .of (owner := "bytearray") (n := "__init__") (by rw [typeLookup_type, builtinLookup_eq_fast]; kernel_rfl) (by decide +kernel) (by decide +kernel) (by decide +kernel)
    (by first | exact .inl (by decide +kernel) | exact .inr (by decide +kernel)) (by rw [isSubtype_type]; kernel_rfl)
theorem ba_called : TypeCalled "bytearray" "bytearray.__new__" "bytearray.__init__" :=
  ⟨by decide +kernel, by decide +kernel, ⟨_, _, ba_mro⟩, madeBy_type ba_mro ba_lookup_new (by decide +kernel), by decide +kernel, by rw [isSubtype_type]; kernel_rfl, ba_slot_init⟩
theorem ba_typeCall (a : Value) : checkTypeCall "bytearray" ⟨[a], []⟩ = pure () := by kernel_rfl
theorem ba_newCall (a : Value) : checkBuiltinCall "bytearray.__new__" ⟨[.type "bytearray", a], []⟩ = pure () := by kernel_rfl
theorem ba_entry_new : entryFor table "bytearray.__new__" = some Builtin.«list.__new__» := entryFor_alias (id' := "list.__new__") (by kernel_rfl) (by decide +kernel) (by decide +kernel) (by kernel_rfl)
theorem ba_entry_init : entryFor table "bytearray.__init__" = some Builtin.«bytearray.__init__» := entryFor_of_tree (by kernel_rfl)
theorem ba_plain_new : plainId "bytearray.__new__" = true := by decide +kernel
theorem ba_plain_init : plainId "bytearray.__init__" = true := by decide +kernel
theorem ba_sub : isSubtype (.type "bytearray") (.type "bytearray") = pure true := by rw [isSubtype_type]; kernel_rfl
theorem ba_no_release : ∃ id, typeLookup (.type "bytearray") "__release_buffer__" = pure (some (.builtin id)) := ⟨"bytearray.__release_buffer__", by rw [typeLookup_type, builtinLookup_eq_fast]; kernel_rfl⟩
theorem ba_bind (v : Value) : Builtin.Bytes.bindOptional "bytearray.__init__" "bytearray" ["source", "encoding", "errors"] [v] [] = pure [some v, none, none] := by kernel_rfl
theorem ba_sig : Manifest.owners.lookup (String.ofList ['y', 'a', 'r', 'r', 'a', 'e', 't', 'y', 'b'].reverse) = some Manifest.sig_bytearray := by kernel_rfl
theorem ba_args (a b : Value) : argsOk "bytearray.__init__" ⟨[a, b], []⟩ := by
  unfold argsOk; rw [signature?_of (id := "bytearray.__init__") (n := ['_', '_', 't', 'i', 'n', 'i', '_', '_']) (o := ['y', 'a', 'r', 'r', 'a', 'e', 't', 'y', 'b']) (by kernel_rfl) ba_sig]; kernel_rfl
set_option maxRecDepth 1000000 in
set_option maxHeartbeats 4000000 in
theorem ba_owner : ("bytearray.__new__".splitOn ".__new__").headD "" = "bytearray" := by simp +decide [String.splitOn, String.splitOnAux]
section
variable {prog : Program} {w : World} {A : Around} {s : Shared}

theorem ba_new (a : Value) {Q : Value → Shared → Prop}
    (h : Q (.ref s.heap.objs.size) { s with heap := s.heap.push { cls := .type "bytearray", data := .bytearray #[] } }) :
    Wp prog w A (PySem.call (.builtin "bytearray.__new__") [.type "bytearray", a]) Q s := by
  refine wpAny_call (codeAny_of_tree ?_)
  show wpAny _ A.in1 (do checkBuiltinCall "bytearray.__new__" ⟨[.type "bytearray", a], []⟩; again (.builtin "bytearray.__new__" ⟨[.type "bytearray", a], []⟩)) _ _ s
  refine wpAny_bind (wpAny_of_eq (ba_newCall a) (wpAny_pure ⟨plainId_quiet ba_plain_new _, codeAny_builtin_stack ba_entry_new rfl fun p st => ?_⟩))
  rw [Around.under_plainId ba_plain_new _]
  have hsub := ba_sub
  have hown := ba_owner
  obtain ⟨hp, g, d, tk, os⟩ := s
  simp only [hown]
  wp_walk
  exact h

noncomputable def noHold (D : Addr) : Code × Pos → Bool
  | (.builtin "bytearray.__contains__" ⟨v :: _, _⟩, _) | (.builtin "bytearray.__mod__" ⟨v :: _, _⟩, _)
  | (.builtin "bytearray.__rmod__" ⟨_ :: v :: _, _⟩, _) | (.builtin "_struct.pack_into.held" ⟨v :: _, _⟩, _) => Builtin.Bytes.sameRef v (.ref D)
  | (.builtin "bytearray.find.held" ⟨_ :: _ :: held, _⟩, _) => held.any (Builtin.Bytes.sameRef (.ref D))
  | (.builtin id ⟨v :: _, _⟩, _) => Builtin.Bytes.sameRef v (.ref D) && Builtin.Bytes.decodersThatHold.contains id
  | _ => false
theorem noHold_false {D : Addr} (q : Code × Pos) (h1 : q.1.isGuard = false) (h2 : holds q.1 = false) : noHold D q = false := by
  unfold noHold
  split
  · exact absurd h1 (by simp [Code.isGuard, guardIds])
  · exact absurd h1 (by simp [Code.isGuard, guardIds])
  · exact absurd h1 (by simp [Code.isGuard, guardIds])
  · exact absurd h1 (by simp [Code.isGuard, guardIds])
  · exact absurd h1 (by simp [Code.isGuard, guardIds])
  · unfold holds at h2
    dsimp only at h2
    rw [h2, Bool.and_false]
  · rfl
theorem ba_exported {D : Addr} {Q : Bool → Shared → Prop} (hg : A.guards = some []) (h : Q false s) : WpC prog w A (Builtin.Bytes.exported (.ref D)) Q s := fun Γ p hΓ C => by
  have e : Builtin.Bytes.exported (.ref D) = (PySem.stack >>= fun st => pure (st.any (noHold D))) := rfl
  rw [e]
  show Q (((Γ.code, p) :: Γ.below).any (noHold D)) s
  have hgs : guardsOf ((Γ.code, p) :: Γ.below) = [] := by rw [guardsOf_cons]; exact hΓ.2.2.2.1 [] hg
  have hno : ∀ q ∈ (Γ.code, p) :: Γ.below, q.1.isGuard = false := fun q hq => by
    cases hb : q.1.isGuard with
    | false => rfl
    | true =>
      have : q.1 ∈ guardsOf ((Γ.code, p) :: Γ.below) := List.mem_filter.mpr ⟨List.mem_map_of_mem (f := (·.1)) hq, hb⟩
      rw [hgs] at this; cases this
  have : ((Γ.code, p) :: Γ.below).any (noHold D) = false := by
    rw [List.any_eq_false]
    intro q hq
    have h2 : holds q.1 = false := by
      rcases List.mem_cons.mp hq with rfl | hq
      · exact C.code
      · exact C.below q hq
    have := noHold_false (D := D) q (hno q hq) h2
    simpa using this
  rw [this]; exact h
end
end Mine
end

section
open PySem PySem.Calls PySem.Spec PyProof.Rows PySem.W
set_option Elab.async false
set_option maxRecDepth 100000
namespace Mine

noncomputable def baObj (b : Array UInt8) : Obj := { cls := .type "bytearray", data := .bytearray b }
theorem baObj_type {s : Shared} {D : Addr} {b : Array UInt8} (h : s.heap.get? D = some (baObj b)) : s.TypeIs (.ref D) "bytearray" := ⟨_, h, rfl⟩
theorem ba_release_slot : typeLookup (.type "bytearray") "__release_buffer__" = pure (some (.builtin "bytearray.__release_buffer__")) := by rw [typeLookup_type, builtinLookup_eq_fast]; kernel_rfl

section
variable {prog : Program} {w : World} {A : Around} {s : Shared}

theorem ba_write {D : Addr} {b : Array UInt8} {f : Array UInt8 → Array UInt8} {Q : Unit → Shared → Prop} (hD : s.heap.get? D = some (baObj b)) (hz : (f b).size ≤ sizeLine)
    (h : (s.heap.update D (Obj.mapBytearray f)).get? D = some (baObj (f b)) → Q () { s with heap := s.heap.update D (Obj.mapBytearray f) }) : Wp prog w A (Builtin.Bytes.write (.ref D) f) Q s := by
  show Wp prog w A (updateBytearray D f) Q s
  unfold updateBytearray
  refine wpAny_bind (wpAny_load hD ?_)
  show Wp prog w A (update D (Obj.mapBytearray f) >>= fun _ => lookBehind D) _ _
  refine wpAny_bind (wpAny_update hD ?_)
  have hS₂ : (s.heap.update D (Obj.mapBytearray f)).get? D = some (baObj (f b)) := Heap.get?_update_self (Obj.mapBytearray f) hD rfl
  refine wpAny_lookBehind hS₂ ?_ (h hS₂)
  show (if (f b).size > sizeLine then some "bytearray:memory" else none) = none
  rw [if_neg (by omega)]
theorem ba_ownRelease {D : Addr} {b : Array UInt8} {Q : Bool → Shared → Prop} (hD : s.heap.get? D = some (baObj b)) (h : Q false s) : Wp prog w A (Builtin.Bytes.ownRelease (.ref D)) Q s := by
  unfold Builtin.Bytes.ownRelease Builtin.Bytes.slotIsOwn
  refine wpAny_bind (wpAny_bind (wpAny_specialOf (baObj_type hD) ba_release_slot ?_))
  dsimp only
  have e1 : ("bytearray.__release_buffer__".endsWith ("." ++ "__release_buffer__")) = true := by decide +kernel
  have e2 : ("bytearray.__release_buffer__".dropRight ("__release_buffer__".length + 1)) = "bytearray" := by decide +kernel
  rw [e1, e2]
  exact wpAny_isInstance (baObj_type hD) ba_sub (wpAny_pure h)
theorem ba_exportsOf {D : Addr} {b : Array UInt8} {Q : Nat → Shared → Prop} (hD : s.heap.get? D = some (baObj b)) (h : Q 0 s) : Wp prog w A (Builtin.Bytes.exportsOf (.ref D)) Q s := by
  unfold Builtin.Bytes.exportsOf
  exact wpAny_bind (wpAny_load hD (wpAny_pure h))

theorem ba_init {D : Addr} {n : Int} {t : Tok} {Q : Fin → Shared → Prop} (hg : A.guards = some []) (hD : s.heap.get? D = some (baObj #[])) (hn : 0 ≤ n ∧ n < 1000000)
    (h : ∀ h', h'.get? D = some (baObj (Array.replicate n.toNat 0)) → Heap.ExtBut D s.heap h' → Q (.done (.ret .none)) { s with heap := h' }) :
    WpC prog w A (Builtin.«bytearray.__init__» ⟨[.ref D, .int n t], []⟩) Q s := by
  unfold Builtin.«bytearray.__init__»
  refine .seq (ba_ownRelease hD ?_)
  rw [if_neg (by decide)]
  refine .seq (wpAny_of_eq (ba_bind _) ?_)
  dsimp only
  refine .seq (wpAny_of_eq (a := ()) rfl ?_)
  refine .seq (wpAny_of_eq (a := ()) rfl ?_)
  refine .bind (WpC.mono (Q := fun b s' => b = false ∧ s' = s) ?_ ?_)
  · unfold orM
    refine .bind (ba_exported hg ?_)
    exact .of (wpAny_bind (ba_exportsOf hD (wpAny_pure ⟨rfl, rfl⟩)))
  rintro b s' ⟨rfl, rfl⟩
  rw [if_neg (by decide)]
  refine .seq (ba_write hD (Nat.zero_le _) fun hD1 => ?_)
  refine .seq (wpAny_of_eq (a := none) rfl ?_)
  rw [if_neg (by decide)]
  refine .seq (wpAny_of_eq (a := ()) rfl ?_)
  refine .seq (wpAny_specialOf (T := "int") rfl int_index ?_)
  rw [if_pos (by rfl)]
  refine .seq (wpAny_attempt (wpAny_of_eq (rfl : asIndex (.int n t) = pure n) ?_))
  dsimp only
  rw [if_neg (by unfold Builtin.Bytes.fitsIndex; simp; omega)]
  rw [if_neg (by omega), if_neg (by simp; omega)]
  rw [if_neg (by unfold Builtin.Bytes.tooLong; simp; rw [sizeLine_eq]; omega)]
  refine .seq (wpAny_rule ?_)
  have hx : Heap.ExtBut D s'.heap (s'.heap.update D (Obj.mapBytearray fun _ => #[])) := (Heap.SameBut.update ..).extBut
  by_cases h0 : n > 0
  · rw [if_pos h0]
    refine .seq (ba_write hD1 (by rw [Array.size_replicate, sizeLine_eq]; omega) fun hD2 => ?_)
    exact .pure (h _ hD2 fun b o hb e => (Heap.SameBut.update ..).extBut b o hb (hx b o hb e))
  · rw [if_neg h0]
    have : n.toNat = 0 := by omega
    rw [this] at h
    exact .pure (h _ hD1 hx)

theorem C_builtin {id : String} {args : Args} {b : Builtin} {R : Flow → Shared → Prop} (hb : entryFor table id = some b)
    (h : WpC prog w (A.under (.builtin id args)) (b args) (fun fin s' => match fin with | .done f => R f s' | .again c' => c'.quiet = true ∧ holds c' = false ∧ CodeC prog w A c' R s') s) : CodeC prog w A (.builtin id args) R s := by
  refine .tree ?_
  show WpC prog w _ (match entryFor table id with | some b => b args | none => unsupported ((withoutEnding? id "#data").getD id)) _ s
  rw [hb]; exact h
theorem C_special {self : Value} {T : String} {name : Str} {id : String} {args : List Value} {Q : Option Value → Shared → Prop} (hT : s.TypeIs self T) (h : Slot T name id)
    (hc : WpC prog w A (PySem.call (.builtin id) (self :: args)) (fun v => Q (some v)) s) : WpC prog w A (callSpecial? self name args) Q s := by
  simp only [callSpecial?]
  refine .seq (wpAny_specialOf hT h.lookup ?_)
  simp only [h.bind]
  exact .hold (.seq (wpAny_pure (.bind (hc.mono fun v s' h' => .pure h'))))
theorem x_bytearray {σ : Shared} {h₀ : Heap} {fs : Led} {n : Int} {t : Tok} {Q : Value → Shared → Prop} (hg : A.guards = some []) (H : S σ h₀ fs s) (hn : 0 ≤ n ∧ n < 1000000)
    (h : ∀ D s', S σ h₀ ((D, .raw (baObj (Array.replicate n.toNat 0))) :: fs) s' → Q (.ref D) s') : WpC prog w A (PySem.call (.type "bytearray") [.int n t]) Q s := by
  refine .call (.tree ?_)
  show WpC prog w A.in1 (callAny (.type "bytearray") _) _ _
  refine .pure ⟨Code.quiet_builtin _ (by decide +kernel), (by decide +kernel : Builtin.Bytes.decodersThatHold.contains "type.__call__" = false), C_builtin F.entry_type_call ?_⟩
  rw [Around.under_plain (weight_type_call_type "bytearray" _ []) (units_type_call_type "bytearray" _ [])]
  unfold Builtin.«type.__call__»
  dsimp only
  rw [if_neg (by decide)]
  rw [if_neg (by rw [ba_called.canCreate]; decide)]
  refine .seq (wpAny_of_eq (ba_typeCall _) ?_)
  refine .seq (wpAny_of_eq ba_mro ?_)
  rw [if_neg (by decide)]
  refine .seq (wpAny_of_eq ba_called.made ?_)
  dsimp only
  refine .seq (wpAny_pure ?_)
  refine .seq (wpAny_holding (ba_new _ ?_))
  have hDs : (s.heap.push { cls := .type "bytearray", data := .bytearray #[] }).get? s.heap.objs.size = some (baObj #[]) := Heap.get?_push_size _ rfl
  have H1 := H.add (f := .raw (baObj #[])) (keeps_push s { cls := .type "bytearray", data := .bytearray #[] } s.toks) (get_size_none _) hDs
  refine .seq (wpAny_isInstance (T := "bytearray") ⟨_, hDs, rfl⟩ ba_sub ?_)
  rw [if_neg (by decide)]
  refine .bind (.hold (C_special (T := "bytearray") (id := "bytearray.__init__") ⟨_, hDs, rfl⟩ ba_slot_init (.call (C_call_builtin (plainId_quiet ba_plain_init _) ba_plain_init (by decide +kernel) ba_entry_init ?_))))
  refine ba_slot_init.check _ _ _ _ _ _ _ _ ⟨_, hDs, rfl⟩ (ba_args _ _) ?_
  refine (ba_init (A := A.in1.in1) (Q := fun fin s' => fin = .done (.ret .none) ∧ S σ h₀ ((s.heap.objs.size, .raw (baObj (Array.replicate n.toNat 0))) :: fs) s') hg hDs hn fun h' e1 e2 => ⟨rfl, H1.upd .head _ e2 e1⟩).mono fun fin s' hf => ?_
  obtain ⟨rfl, hS⟩ := hf
  dsimp only
  rw [if_neg (by decide)]
  exact .pure (h _ _ hS)
end
end Mine
end

section
open PySem PySem.Calls PySem.Spec PyProof.Rows PySem.W
set_option Elab.async false
set_option maxRecDepth 100000
namespace Mine

theorem ba_slot_set : Slot "bytearray" "__setitem__" "bytearray.__setitem__" :=
  .of (owner := "bytearray") (n := "__setitem__") (by rw [typeLookup_type, builtinLookup_eq_fast]; kernel_rfl) (by decide +kernel) (by decide +kernel) (by decide +kernel)
    (by first | exact .inl (by decide +kernel) | exact .inr (by decide +kernel)) (by rw [isSubtype_type]; kernel_rfl)
theorem ba_entry_set : entryFor table "bytearray.__setitem__" = some Builtin.«bytearray.__setitem__» := entryFor_of_tree (by kernel_rfl)
theorem ba_args_set (a b c : Value) : argsOk "bytearray.__setitem__" ⟨[a, b, c], []⟩ := by
  unfold argsOk; rw [signature?_of (id := "bytearray.__setitem__") (n := ['_', '_', 'm', 'e', 't', 'i', 't', 'e', 's', '_', '_']) (o := ['y', 'a', 'r', 'r', 'a', 'e', 't', 'y', 'b']) (by kernel_rfl) ba_sig]; kernel_rfl

section
variable {prog : Program} {w : World} {A : Around} {s : Shared} {σ : Shared} {h₀ : Heap} {fs fs' : Led}

theorem ba_set {D : Addr} {b : Array UInt8} {i n : Int} {t u : Tok} {Q : Unit → Shared → Prop} (H : S σ h₀ fs s) (up : Upd D (.raw (baObj b)) (.raw (baObj (b.setIfInBounds i.toNat n.toNat.toUInt8))) fs fs')
    (h0 : 0 ≤ i) (hi : i.toNat < b.size) (hz : b.size ≤ sizeLine) (hn : 0 ≤ n ∧ n < 256) (h : ∀ s', S σ h₀ fs' s' → Q () s') : Wp prog w A (setItem (.ref D) (.int i t) (.int n u)) Q s := by
  have hD : s.heap.get? D = some (baObj b) := H.get up.mem
  rw [sizeLine_eq] at hz
  unfold setItem
  try with_reducible refine wpAny_holding ?_
  first | refine wpAny_bind (wpAny_pure ?_) | skip
  have hT := baObj_type hD
  refine wpAny_bind (wpAny_sequenceKey hT (by decide) ?_)
  refine wpAny_bind (wpAny_callSpecial?_slot (name := Str.ofString "__setitem__") hT ba_slot_set
    (wpAny_call_entry ba_slot_set hT ba_entry_set ?_ (ba_args_set _ _ _)))
  unfold Builtin.«bytearray.__setitem__»
  dsimp only
  rw [if_neg (by decide)]
  have hsub : ∀ {P : Option Int → Shared → Prop}, P (some i) s → Wp prog w A.in1 (Builtin.Bytes.subscript? (.int i t)) P s := fun hp => by
    unfold Builtin.Bytes.subscript?
    refine wpAny_bind (wpAny_specialOf (T := "int") rfl int_index ?_)
    rw [if_neg (by decide)]
    refine wpAny_bind (wpAny_of_eq (rfl : asIndex (.int i t) = pure i) ?_)
    rw [if_neg (by unfold Builtin.Bytes.fitsIndex; simp; omega)]
    exact wpAny_pure hp
  refine wpAny_bind (hsub ?_)
  dsimp only
  have hbv : ∀ {P : UInt8 → Shared → Prop}, P n.toNat.toUInt8 s → Wp prog w A.in1 (Builtin.Bytes.byteValue (.int n u)) P s := fun hp => by
    unfold Builtin.Bytes.byteValue
    refine wpAny_bind (wpAny_of_eq (rfl : asIndex (.int n u) = pure n) ?_)
    rw [if_neg (by simp; omega)]
    exact wpAny_pure hp
  refine wpAny_bind (hbv ?_)
  have hpl : ∀ {P : Array UInt8 → Shared → Prop}, P b s → Wp prog w A.in1 (Builtin.Bytes.payload (.ref D)) P s := fun hp => by
    unfold Builtin.Bytes.payload Builtin.Bytes.payload?
    exact wpAny_bind (wpAny_bind (wpAny_load hD (wpAny_pure (wpAny_pure hp))))
  refine wpAny_bind (hpl ?_)
  rw [seqIndex_of h0 hi]
  dsimp only
  refine wpAny_bind (ba_write hD (by rw [Array.size_setIfInBounds, sizeLine_eq]; exact hz) fun hD2 => ?_)
  have fin : Q () { s with heap := s.heap.update D (Obj.mapBytearray fun x => x.setIfInBounds i.toNat n.toNat.toUInt8) } := h _ (H.upd up s.toks (Heap.SameBut.update ..).extBut hD2)
  first
    | exact wpAny_pure ⟨.none, rfl, wpAny_pure fin⟩
    | exact wpAny_bind (wpAny_pure (wpAny_pure ⟨.none, rfl, wpAny_pure fin⟩))

theorem ba_no_bytes : typeLookup (.type "bytearray") "__bytes__" = pure none := by rw [typeLookup_type, builtinLookup_eq_fast]; kernel_rfl
theorem ba_no_index : typeLookup (.type "bytearray") "__index__" = pure none := by rw [typeLookup_type, builtinLookup_eq_fast]; kernel_rfl
theorem ba_buffer : typeLookup (.type "bytearray") "__buffer__" = pure (some (.builtin "bytearray.__buffer__")) := by rw [typeLookup_type, builtinLookup_eq_fast]; kernel_rfl

theorem x_bytes_ba {D : Addr} {b : Array UInt8} {Q : Value → Shared → Prop} (H : S σ h₀ fs s) (hD : s.heap.get? D = some (baObj b)) (hz : b.size ≤ sizeLine)
    (h : ∀ t s', S σ h₀ fs s' → Q (.bytes b t) s') : Wp prog w A (PySem.call (.type "bytes") [.ref D]) Q s := by
  have hT := baObj_type hD
  refine callType_codes (Q₁ := fun obj s₁ => s₁.TypeIs obj "bytes" ∧ Q obj s₁) F.bm_called (F.bm_typeCall _) F.entry_object_init ?_ fun obj s₁ h₁ => ?_
  · refine codeAny_of_tree ?_
    show wpAny _ _ (do checkBuiltinCall "bytes.__new__" ⟨[.type "bytes", .ref D], []⟩; again (.builtin "bytes.__new__" ⟨[.type "bytes", .ref D], []⟩)) _ _ s
    refine wpAny_bind (wpAny_of_eq (F.bm_newCall _) (wpAny_pure ⟨plainId_quiet F.bm_plain _, codeAny_builtin F.bm_entry ?_⟩))
    rw [Around.under_plainId F.bm_plain _]
    unfold Builtin.«bytes.__new__»
    refine wpAny_bind (wpAny_of_eq (a := true) rfl ?_)
    refine bm_if_false rfl ?_
    refine wpAny_bind (wpAny_of_eq F.bm_sub ?_)
    refine bm_if_false rfl ?_
    refine wpAny_bind (wpAny_of_eq (F.bm_bind _) ?_)
    refine wpAny_bind (wpAny_of_eq (a := ()) rfl ?_)
    refine wpAny_bind (wpAny_of_eq (a := ()) rfl ?_)
    refine bm_if_false rfl ?_
    refine wpAny_bind (wpAny_specialOf hT ba_no_bytes ?_)
    refine wpAny_bind (wpAny_bind ?_)
    show wpAny _ _ (load D >>= _) _ _ _
    refine wpAny_bind (wpAny_load hD ?_)
    refine wpAny_pure (wpAny_pure ?_)
    refine bm_if_false rfl ?_
    refine wpAny_bind (wpAny_specialOf hT ba_no_index ?_)
    refine bm_if_true rfl ?_
    show wpAny _ _ (Builtin.Bytes.buffer? "bytes.__new__" (.ref D) true >>= _) _ _ _
    have hbuf : ∀ {B : Around} {P : Option (Array UInt8) → Shared → Prop} {E : Value → Shared → Prop}, P (some b) s → wpAny (model prog w) B (Builtin.Bytes.buffer? "bytes.__new__" (.ref D) true) P E s := fun hp => by
      unfold Builtin.Bytes.buffer?
      refine wpAny_bind (wpAny_specialOf hT ba_buffer ?_)
      dsimp only
      refine wpAny_bind ?_
      unfold Builtin.Bytes.slotIsOwn
      refine wpAny_bind (wpAny_specialOf hT ba_buffer ?_)
      dsimp only
      have e1 : ("bytearray.__buffer__".endsWith ("." ++ "__buffer__")) = true := by decide +kernel
      have e2 : ("bytearray.__buffer__".dropRight ("__buffer__".length + 1)) = "bytearray" := by decide +kernel
      rw [e1, e2]
      refine wpAny_isInstance hT ba_sub ?_
      rw [if_neg (by decide)]
      refine wpAny_bind (wpAny_specialOf hT ba_buffer ?_)
      refine wpAny_bind (wpAny_mono (ba_ownRelease (Q := fun b s' => b = false ∧ s' = s) hD ⟨rfl, rfl⟩) (fun c s' hc => ?_) fun _ _ e => e.elim)
      obtain ⟨rfl, rfl⟩ := hc
      rw [if_neg (by decide)]
      unfold Builtin.Bytes.payload Builtin.Bytes.payload?
      exact wpAny_bind (wpAny_bind (wpAny_bind (wpAny_load hD (wpAny_pure (wpAny_pure (wpAny_pure hp))))))
    refine wpAny_bind (hbuf ?_)
    dsimp only
    refine wpAny_bind (wpAny_rule (wpAny_bind (wpAny_mkBytes ?_ hz)))
    show wpAny _ _ (if (Value.type "bytes" == Value.type "bytes") = true then _ else _) _ _ _
    refine bm_if_true (by decide) ?_
    have fin : Q (.bytes b s.toks) { s with toks := s.toks + 1 } := h _ _ (H.tok _)
    first
      | exact wpAny_pure ⟨PySem.W.typeIs_bytes _ _ _, fin⟩
      | exact wpAny_bind (wpAny_pure (wpAny_pure ⟨PySem.W.typeIs_bytes _ _ _, fin⟩))
  · exact ⟨h₁.1, F.args_object_init_2 obj _, object_init_meets F.bm_called.init.lookup F.bm_called.made (by decide) prog w A.in1 _ s₁ ⟨h₁.1, rfl, h₁.2⟩⟩
end
end Mine
end

section
open PySem PySem.Calls PySem.Spec PyProof.Rows PySem.W
set_option Elab.async false
namespace Mine

section
variable {prog : Program} {w : World} {A : Around} {s : Shared} {σ : Shared} {h₀ : Heap} {fs fs' : Led} {env : Env} {sc : Scope} {L : Addr} {cs : List (Str × Addr)} {x : Str} {pos : Pos} {v : Value}

theorem WpC.keep {α : Type} {vs : List Value} {m : Sem α} {Q : α → Shared → Prop} (h : WpC prog w A m Q s) : WpC prog w A (m.keep vs) Q s :=
  fun Γ p hΓ C => by rw [Sem.wp_keep]; exact h Γ p hΓ C

/-- the arguments, walked at this level: one alone, or all as ever -/
theorem C_args {f : Value} {trees : List (Bool × Sem Value)} {t : Bool × Sem Value} {rest : List (Bool × Sem Value)} {Q : Args → Shared → Prop} (ht : trees = t :: rest) (hf : t.1 = false)
    (h : WpC prog w A (spliced trees) (fun vs s' => Q ⟨vs, []⟩ s') s) : WpC prog w A (evalArgs f true trees []) Q s := by
  subst ht
  obtain ⟨b, x⟩ := t
  obtain rfl : b = false := hf
  unfold evalArgs
  show WpC prog w A (spliced ((false, x) :: rest) >>= _) Q s
  refine .bind (h.mono fun vs s' h' => ?_)
  exact .hold (.seq (wpAny_pure (.seq (wpAny_pure (.pure h')))))
theorem C_items1 {e : Expr} {Q : List Value → Shared → Prop} (h : WpC prog w A (eval e env) (fun v s₁ => Q [v] s₁) s) (he : starEach [e] env = [(false, eval e env)]) :
    WpC prog w A (spliced (backTo pos (starEach [e] env))) Q s := by
  rw [he]
  show WpC prog w A (do
    let v ← eval e env
    let here ← (pure [v] : Sem (List Value))
    return here ++ (← holding here (spliced (backTo pos [])))) Q s
  exact .bind (h.mono fun v s₁ h₁ => .seq (wpAny_pure (.seq (wpAny_holding (wpAny_pure (.pure h₁))))))

/-- a type that is called, by its name -/
theorem C_typ {mg mb : Str → Option Value} {f : Str} {fp : Pos} {id : String} {e : Expr} {rest : List Expr} {Q : Value → Shared → Prop} (he : EnvAt env sc L cs) (hl : sc.names.lookup f = some .globalImplicit) (hk : sc.kind = .function) (hd : (f == ("__debug__" : Str)) = false)
    (G : Gnd mg mb s.heap) (hn : mg f = none) (hb : bootBuiltins f = some (.type id)) (hne : (f == ("__name__" : Str)) = false)
    (hst : starEach (e :: rest) env = (false, eval e env) :: starEach rest env) (hplain : (backTo pos (starEach rest env)).any (·.1) = false)
    (h : Wp prog w A (spliced (backTo pos (starEach (e :: rest) env))) (fun vs s₁ => WpC prog w A (PySem.call (.type id) vs) Q s₁) s) :
    WpC prog w A (eval (.Call (.Name f fp) (e :: rest) [] pos) env) Q s := by
  refine .seq (m := eval (.Name f fp) env) (f := fun fv => callWith pos fv [] (backTo pos (starEach (e :: rest) env)) []) (n_builtin he hl hk hd G hn hb hne ?_)
  rw [hst] at h ⊢
  unfold callWith
  refine .bind (.hold ((C_args (Q := fun a s₁ => WpC prog w A (PySem.call (.type id) a.pos a.kw) Q s₁) (t := (false, eval e env)) rfl rfl (.of h)).mono fun a s₁ h₁ => ?_))
  refine .seq (wpAny_standAt ?_)
  have hp : (backTo pos ((false, eval e env) :: starEach rest env)).any (·.1) = false := by show (false || (backTo pos (starEach rest env)).any (·.1)) = false; rw [hplain]; rfl
  simp only [hp, List.any_nil, Bool.or_false]
  refine .seq (wpAny_pure ?_)
  have h₁' : WpC prog w A (PySem.call (.type id) ([] ++ a.pos) a.kw) Q s₁ := by simpa using h₁
  exact .bind (h₁'.mono fun r s₂ hr => .seq (wpAny_holding (wpAny_point (.pure hr))))

/-- a def of the text, by its name; its arguments are walked as ever -/
theorem C_callA {mg mb : Str → Option Value} {f : Str} {fp : Pos} {a : Addr} {e : Expr} {rest : List Expr} {Q : Value → Shared → Prop} (he : EnvAt env sc L cs) (hl : sc.names.lookup f = some .globalImplicit) (hk : sc.kind = .function) (hd : (f == ("__debug__" : Str)) = false)
    (G : Gnd mg mb s.heap) (hv : mg f = some (.ref a)) (hst : starEach (e :: rest) env = (false, eval e env) :: starEach rest env) (hplain : (backTo pos (starEach rest env)).any (·.1) = false)
    (h : WpC prog w A (spliced (backTo pos (starEach (e :: rest) env))) (fun vs s₁ => (∃ nm ar b sc', IsFn a nm ar b sc' s₁.heap) ∧ WpC prog w A (PySem.call (.ref a) vs) Q s₁) s) :
    WpC prog w A (eval (.Call (.Name f fp) (e :: rest) [] pos) env) Q s := by
  refine .seq (m := eval (.Name f fp) env) (f := fun fv => callWith pos fv [] (backTo pos (starEach (e :: rest) env)) []) (n_global he hl hk hd G hv ?_)
  rw [hst] at h ⊢
  unfold callWith
  refine .bind (.hold ((C_args (Q := fun a' s₁ => (∃ nm ar b sc', IsFn a nm ar b sc' s₁.heap) ∧ a'.kw = [] ∧ WpC prog w A (PySem.call (.ref a) a'.pos) Q s₁) (t := (false, eval e env)) rfl rfl (h.mono fun vs s₁ q => ⟨q.1, rfl, q.2⟩)).mono fun a' s₁ h₁ => ?_))
  obtain ⟨⟨nm, ar, b, sc', ⟨o, doc, pm, an, cdv, ct, ho, hdd, _⟩⟩, hkw, h₁⟩ := h₁
  refine .seq (wpAny_standAt ?_)
  have hp : (backTo pos ((false, eval e env) :: starEach rest env)).any (·.1) = false := by show (false || (backTo pos (starEach rest env)).any (·.1)) = false; rw [hplain]; rfl
  simp only [hp, List.any_nil, Bool.or_false]
  have L : Looks (model prog w) s₁.heap (keeperOf (.ref a)) .frame := (Looks.ld (part := none) ho).andThen (by rw [hdd]; exact .now)
  refine .seq (L.here ?_)
  obtain ⟨ap, akw⟩ := a'
  obtain rfl : akw = [] := hkw
  have tail : ∀ {t : Sem Value}, WpC prog w A t Q s₁ → WpC prog w A (t >>= fun r => holding [r] point >>= fun _ => pure r) Q s₁ :=
    fun ht => .bind (ht.mono fun r s₂ hr => .seq (wpAny_holding (wpAny_point (.pure hr))))
  have h₁' : WpC prog w A (PySem.call (.ref a) ([] ++ ap) []) Q s₁ := by simpa using h₁
  dsimp only
  split
  · exact tail h₁'
  · exact tail (by unfold callMarked; exact .keep h₁')
end

section
variable {prog : Program} {w : World} {A : Around} {s : Shared} {a : Addr} {nm : Str} {args : Arguments} {body : List Stmt} {sc : Scope} {vals : List Value} {ns : List Str} {Q : Value → Shared → Prop}

theorem C_enter (F : IsFn a nm args body sc s.heap) {mg mb : Str → Option Value} (G : Gnd mg mb s.heap) {d u : Nat} (R : Room A (d + 1) (u + 3)) (hgd : A.guards = some []) {lb : List (Str × Value)}
    (hbind : ∀ doc pm an cdv ct, bindArgs (W.fnOf nm nm args body sc .none .none doc pm an cdv ct) ⟨vals, []⟩ = pure (ns.zip vals)) (hlb : (ns.zip vals).reverse = lb)
    (hcell : (sc.names.all fun x => x.2 != .cell) = true) (hloc : (ns.all fun x => decide (sc.names.lookup x = some .local)) = true)
    (hco : sc.isCoroutine = false) (hgen : sc.isGenerator = false) (hk : sc.kind = .function)
    (h : ∀ (A' : Around) (env : Env) (L : Addr) (s₁ : Shared), Room A' d u → A'.guards = some [] → EnvAt env sc L [] → S s s.heap [(L, .loc lb)] s₁ →
      WpC prog w A' (execs body env) (fun f s' => Q (match f with | .ret v => v | _ => .none) s') s₁) :
    WpC prog w A (PySem.call (.ref a) vals) Q s := by
  obtain ⟨o, doc, pm, an, cdv, ct, ho, hd, hc⟩ := F.ex
  refine .call (C_call_function (fd := W.fnOf nm nm args body sc .none .none doc pm an cdv ct) (body := body) (by have := R.depth; omega) ho hd hco hgen rfl hc ?_)
  refine wpAny_of_eq (hbind ..) ?_
  refine wpAny_newFunctionEnv (fun x hx => by simpa using List.all_eq_true.mp hcell x hx) (fun x hx => by simpa using List.all_eq_true.mp hloc x.1 (List.of_mem_zip hx).1) (fun h' hns hsb => ?_) hk
  have kk : ∀ b o, s.heap.get? b = some o → h'.get? b = some o := fun b o e => hsb.extBut b o (Nat.ne_of_lt (Heap.lt_size e)) (Heap.get?_push_of_some _ e)
  refine ⟨(G.keeps kk).nolimit, C_func ((h (A.deeper _) _ s.heap.objs.size _ (R.deeper _) hgd ⟨rfl, rfl, rfl, rfl, rfl⟩ ?_).mono fun f s' hq => hq)⟩
  exact (S.start s).add ⟨h', _, rfl, kk⟩ (get_size_none _) ⟨_, hns, fun x v e => look_of_lookup (by rw [hlb]; exact e)⟩
end

section
variable {prog : Program} {w : World} {A : Around} {s : Shared} {σ : Shared} {h₀ : Heap} {fs fs' : Led} {env : Env} {x y : List UInt8} {t u : Tok} {pos : Pos}
theorem c_by {k : Nat} {Q : Value → Shared → Prop} (H : S σ h₀ fs s) (h : ∀ u s', S σ h₀ fs s' → Q (.bytes x.toArray u) s') : Wp prog w A (eval (.Constant (.bytes x) k pos) env) Q s := Constant_bytes (tokY H h)
theorem x_lenB {Q : Value → Shared → Prop} (H : S σ h₀ fs s) (hz : x.length ≤ sizeLine) (h : ∀ u s', S σ h₀ fs s' → Q (.int x.length u) s') : Wp prog w A (PySem.call (.builtin "len") [.bytes x.toArray t]) Q s := by
  refine len_bytes (by rw [List.size_toArray]; rw [sizeLine_eq] at hz; omega) ?_
  rw [List.size_toArray]
  exact tokI H h
theorem b_item {value slice : Expr} {i : Int} {Q : Value → Shared → Prop} (H : S σ h₀ fs s) (hz : x.length ≤ sizeLine) (h0 : 0 ≤ i) (h1 : i < (x.length : Int))
    (hs : subscripted slice false (.bytes x.toArray t) (.int i u) = operate [.bytes x.toArray t, .int i u] (getItem (.bytes x.toArray t) (.int i u)))
    (ht : ∀ r, letTemporaryGo value (.bytes x.toArray t) r = pure ()) (h : ∀ u s', S σ h₀ fs s' → Q (.int (x.getD i.toNat 0).toNat u) s') :
    Wp prog w A (subscriptTail value slice (.bytes x.toArray t) (.int i u)) Q s :=
  KBy.item_N (by rw [sizeLine_eq] at hz; omega) h0 h1 (tokI H h) hs ht
theorem o_catB {Q : Value → Shared → Prop} (H : S σ h₀ fs s) (hz : x.length + y.length ≤ sizeLine) (h : ∀ u s', S σ h₀ fs s' → Q (.bytes (x ++ y).toArray u) s') : Wp prog w A (binaryOp .Add (.bytes x.toArray t) (.bytes y.toArray u)) Q s := by
  refine KBy.add_bytes (by rw [List.size_toArray, List.size_toArray]; rw [sizeLine_eq] at hz; exact hz) fun t' k => ?_
  rw [List.append_toArray]
  exact h t' _ (H.tok k)
end
end Mine
end

section
open PySem PySem.Calls PySem.Spec PyProof.Rows PySem.W
set_option Elab.async false
namespace Mine

local macro_rules | `(tactic| tb_rel) => `(tactic| first | exact S.get (by assumption) (by k_mem) | assumption | (refine S.up (by assumption) ?_; tb_rel))
local macro_rules | `(tactic| kwd_rel) => `(tactic| first | (with_reducible exact look_head) | (with_reducible exact lk_head) | assumption | (refine look_tail (by kernel_rfl) ?_; kwd_rel) | (refine lk_tail (by kernel_rfl) ?_; kwd_rel))
local macro_rules | `(tactic| kwd_inv) => `(tactic| first | (with_reducible exact Upd.head) | (with_reducible apply Upd.tail; kwd_inv))
local macro_rules | `(tactic| tb_start) => `(tactic| first | kernel_rfl | decide +kernel)

/-- the octets so far turned about -/
noncomputable def turned (x : List UInt8) (j : Nat) : List UInt8 := List.replicate (x.length - j) 0 ++ (x.take j).reverse
theorem turned_len (x : List UInt8) (j : Nat) (h : j ≤ x.length) : (turned x j).length = x.length := by
  unfold turned
  rw [List.length_append, List.length_replicate, List.length_reverse, List.length_take]; omega
theorem turned_end (x : List UInt8) : turned x x.length = x.reverse := by
  unfold turned
  rw [Nat.sub_self, List.take_length]; rfl
theorem turned_set (x : List UInt8) (j : Nat) (h : j < x.length) : (turned x j).toArray.setIfInBounds (x.length - 1 - j) (x.getD j 0) = (turned x (j + 1)).toArray := by
  rw [List.setIfInBounds_toArray]
  congr 1
  unfold turned
  rw [show x.length - j = (x.length - 1 - j) + 1 by omega, show x.length - (j + 1) = x.length - 1 - j by omega, List.replicate_succ', List.append_assoc]
  rw [List.set_append_right (h := by rw [List.length_replicate]; exact Nat.le_refl _), List.length_replicate, Nat.sub_self]
  rw [List.take_add_one, getD_of (d := 0) h, List.reverse_append]
  rfl
theorem back8 (c : UInt8) : ((c.toNat : Int)).toNat.toUInt8 = c := by
  rw [Int.toNat_natCast]
  simp

theorem c_swap {T : Ad} {mg mb : Str → Option Value} {w : World} {A : Around} {s : Shared} {x : List UInt8} {t u : Tok} (X : Tp T mg mb s.heap) (Ba : mg "bytearray" = none) (Bb : mg "bytes" = none) (F : IsDef T.swap 24 s.heap) (R : Room A 1 20) (hgd : A.guards = some [])
    (h1 : 0 < x.length) (hz : x.length ≤ 1000) :
    WpC PySem.Challenge.pw_if0009_01 w A (PySem.call (.ref T.swap) [.bytes x.toArray t, .int x.length u]) (fun v s' => (∃ t', v = .bytes x.reverse.toArray t') ∧ Keeps s s') s := by
  refine C_enter F X.G (d := 0) (u := 17) R hgd (ns := ["data", "width"]) (lb := [("width", .int x.length u), ("data", .bytes x.toArray t)]) (fun _ _ _ _ _ => by kernel_rfl) rfl (by tb_start) (by tb_start) (by tb_start) (by tb_start) (by tb_start) fun A' env L s1 R' hg' he H => ?_
  refine C_cons ?_
  refine C_Assign ?_ rfl
  refine C_typ he (by tb_start) (by tb_start) (by tb_start) (X.G.up H) Ba (id := "bytearray") (by tb_start) (by tb_start) rfl rfl ?_
  refine wpAny_items_cons ?_
  refine x_blt he (by tb_start) (by tb_start) (by tb_start) (X.G.up H) X.b_len (id := "len") (by tb_start) (by tb_start) rfl rfl ?_
  refine wpAny_items_cons ?_
  refine n_local he (by tb_start) (by tb_start) (by tb_start) (by tb_rel) (by kwd_rel) ?_  -- data
  refine wpAny_items_nil ?_
  refine x_lenB H (by rw [sizeLine_eq]; omega) fun u1 s1 H => ?_
  refine wpAny_items_nil ?_
  refine x_bytearray hg' H (by omega) fun D s1 H => ?_
  rw [Int.toNat_natCast] at H
  have e0 : (Array.replicate x.length 0 : Array UInt8) = (turned x 0).toArray := by
    unfold turned
    simp
  rw [e0] at H
  refine st_local he (by tb_start) (by tb_start) H (by kwd_inv) fun s1 H => ?_
  refine .of ?_
  refine wpAny_execs_cons ?_
  refine f_for (α := Nat) ?_ (fun _ => rfl) (fun _ _ => rfl)
  refine x_typ he (by tb_start) (by tb_start) (by tb_start) (X.G.up H) X.b_range (id := "range") (by tb_start) (by tb_start) rfl rfl ?_
  refine wpAny_items_cons ?_
  refine c_int H fun u2 s1 H => ?_
  refine wpAny_items_cons ?_
  refine x_blt he (by tb_start) (by tb_start) (by tb_start) (X.G.up H) X.b_len (id := "len") (by tb_start) (by tb_start) rfl rfl ?_
  refine wpAny_items_cons ?_
  refine n_local he (by tb_start) (by tb_start) (by tb_start) (by tb_rel) (by kwd_rel) ?_  -- data
  refine wpAny_items_nil ?_
  refine x_lenB H (by rw [sizeLine_eq]; omega) fun u3 s1 H => ?_
  refine wpAny_items_cons ?_
  refine n_local he (by tb_start) (by tb_start) (by tb_start) (by tb_rel) (by kwd_rel) ?_  -- width
  refine wpAny_items_nil ?_
  refine call_range_3 (by omega) ?_ (.inl (PyProof.noPylong_small (by omega)))
  have Hr := H.grow (keeps_push s1 { cls := .type "range", data := .fields #[.int 0 u2, .int x.length u3, .int x.length u] } s1.toks)
  have er : Builtin.Range.rangeSize 0 x.length x.length = ((1 : Nat) : Int) := by
    unfold Builtin.Range.rangeSize
    rw [if_pos (by omega), if_pos (by omega)]
    have : ((x.length : Int) - 0 - 1) / x.length = 0 := Int.ediv_eq_zero_of_lt (by omega) (by omega)
    omega
  have es : Builtin.Range.small 0 x.length x.length = true := by
    have f : ∀ k : Int, -(2 ^ 62) < k → k < 2 ^ 62 → Builtin.Range.rangeFitsLong k = true := fun k h1 h2 => by
      unfold Builtin.Range.rangeFitsLong
      rw [decide_eq_true (by omega), decide_eq_true (by omega)]; rfl
    unfold Builtin.Range.small
    rw [er, f 0 (by omega) (by omega), f (x.length : Int) (by omega) (by omega)]
    rw [if_pos (by omega), f _ (by omega) (by omega)]
    simp
    exact f _ (by omega) (by omega)
  refine ⟨_, _, _, _, _, fun k fs => ∃ (l' : List (Str × Value)), fs = [(D, .raw (baObj (turned x (if k = 0 then 0 else x.length)).toArray)), (L, .loc l')] ∧ look l' "data" = some (.bytes x.toArray t) ∧ look l' "width" = some (.int x.length u) ∧ look l' "swapped_data" = some (.ref D),
    Iter.rangeG R'.handled (IsRange.new ..) er es, Hr, ?_, ?_, ?_⟩
  · refine ⟨_, rfl, ?_, ?_, ?_⟩
    · exact look_tail (by kernel_rfl) (look_tail (by kernel_rfl) look_head)
    · exact look_tail (by kernel_rfl) look_head
    · kwd_rel
  · rintro k i v fs I o s1 hk ⟨tv, rfl⟩ ⟨l', rfl, e1, e2, e3⟩ H
    obtain ⟨rfl, hlt⟩ := range_item hk
    obtain rfl : i = 0 := by omega
    rw [if_pos rfl] at H
    have ez : (0 : Int) + ((0 : Nat) : Int) * (x.length : Int) = 0 := by simp
    rw [ez]
    refine wpAny_assign_Name ?_
    refine st_local he (by tb_start) (by tb_start) H (by kwd_inv) fun s1 H => ?_  -- i
    refine W_gen fun Q1 hQ1 => ?_
    refine wpAny_execs_cons ?_
    refine f_for (α := Nat) ?_ (fun _ => rfl) (fun _ _ => rfl)
    refine x_typ he (by tb_start) (by tb_start) (by tb_start) (X.G.up H) X.b_range (id := "range") (by tb_start) (by tb_start) rfl rfl ?_
    refine wpAny_items_cons ?_
    refine n_local he (by tb_start) (by tb_start) (by tb_start) (by tb_rel) (by kwd_rel) ?_  -- width
    refine wpAny_items_nil ?_
    refine x_range1 H (by omega) R'.handled fun xv s1 H IT _ => ?_
    refine ⟨_, _, _, _, _, fun j fs => ∃ (l' : List (Str × Value)), fs = [(I, .raw o), (D, .raw (baObj (turned x j).toArray)), (L, .loc l')] ∧ j ≤ x.length ∧ look l' "data" = some (.bytes x.toArray t) ∧ look l' "width" = some (.int x.length u) ∧ look l' "swapped_data" = some (.ref D) ∧ look l' "i" = some (.int 0 tv),
      IT, H, ?_, ?_, ?_⟩
    · exact ⟨_, rfl, Nat.zero_le _, by kwd_rel, by kwd_rel, by kwd_rel, by kwd_rel⟩
    · rintro j j' v fs I2 o2 s1 hk2 ⟨tj, rfl⟩ ⟨l', rfl, hj, e1, e2, e3, e4⟩ H
      obtain ⟨rfl, hjl⟩ := range_item hk2
      refine wpAny_assign_Name ?_
      refine st_local he (by tb_start) (by tb_start) H (by kwd_inv) fun s1 H => ?_  -- j
      refine W_gen fun Q2 hQ2 => ?_
      refine wpAny_execs_cons ?_
      refine wpAny_Assign_Subscript ?_
      refine Subscript_ ?_
      refine n_local he (by tb_start) (by tb_start) (by tb_start) (by tb_rel) (by kwd_rel) ?_  -- data
      refine wpAny_BinOp ?_
      refine n_local he (by tb_start) (by tb_start) (by tb_start) (by tb_rel) (by kwd_rel) ?_  -- i
      refine n_local he (by tb_start) (by tb_start) (by tb_start) (by tb_rel) (by kwd_rel) ?_  -- j
      refine o_add H fun u4 s1 H => ?_
      refine b_item H (by rw [sizeLine_eq]; omega) (by omega) (by omega) (by with_unfolding_all rfl) (by intro _; with_unfolding_all rfl) fun u5 s1 H => ?_
      refine n_local he (by tb_start) (by tb_start) (by tb_start) (by tb_rel) (by kwd_rel) ?_  -- swapped
      refine wpAny_BinOp ?_
      refine wpAny_BinOp ?_
      refine wpAny_BinOp ?_
      refine n_local he (by tb_start) (by tb_start) (by tb_start) (by tb_rel) (by kwd_rel) ?_  -- i
      refine n_local he (by tb_start) (by tb_start) (by tb_start) (by tb_rel) (by kwd_rel) ?_  -- width
      refine o_add H fun u6 s1 H => ?_
      refine c_int H fun u7 s1 H => ?_
      refine o_sub H fun u8 s1 H => ?_
      refine n_local he (by tb_start) (by tb_start) (by tb_start) (by tb_rel) (by kwd_rel) ?_  -- j
      refine o_sub H fun u9 s1 H => ?_
      have ei : (0 : Int) + (x.length : Int) - 1 - (j' : Int) = ((x.length - 1 - j' : Nat) : Int) := by omega
      have ej : ((0 : Int) + (j' : Int)).toNat = j' := by omega
      rw [ei, ej]
      have hc : (x.getD j' 0).toNat < 256 := (x.getD j' 0).toNat_lt
      refine ba_set H (b := (turned x j').toArray) (fs' := [(I2, .raw o2), (I, .raw o), (D, .raw (baObj (turned x (j' + 1)).toArray)), (L, .loc (("j", .int j' tj) :: l'))]) (by rw [Int.toNat_natCast, back8, turned_set x j' hjl]; kwd_inv)
        (by omega) (by rw [Int.toNat_natCast, List.size_toArray, turned_len x j' hj]; omega) (by rw [List.size_toArray, turned_len x j' hj, sizeLine_eq]; omega) (by omega) fun s1 H => ?_
      refine wpAny_execs_nil ?_
      refine hQ2 _ _ ?_
      exact ⟨_, H, _, rfl, by omega, by kwd_rel, by kwd_rel, by kwd_rel, by kwd_rel⟩
    · rintro fs s1 ⟨l', rfl, hj, e1, e2, e3, e4⟩ H
      refine wpAny_execs_nil ?_
      rw [List.length_range] at H
      refine hQ1 _ _ ?_
      refine ⟨_, H, l', ?_, e1, e2, e3⟩
      rw [if_neg (by decide)]
  · rintro fs s1 ⟨l', rfl, e1, e2, e3⟩ H
    rw [if_neg (by simp), turned_end] at H
    refine wpAny_execs_cons ?_
    refine wpAny_Return_some ?_
    refine x_typ he (by tb_start) (by tb_start) (by tb_start) (X.G.up H) Bb (id := "bytes") (by tb_start) (by tb_start) rfl rfl ?_
    refine wpAny_items_cons ?_
    refine n_local he (by tb_start) (by tb_start) (by tb_start) (by tb_rel) (by kwd_rel) ?_
    refine wpAny_items_nil ?_
    have hD : s1.heap.get? D = some (baObj x.reverse.toArray) := H.get (.head _)
    refine x_bytes_ba H hD (by rw [List.size_toArray, List.length_reverse, sizeLine_eq]; omega) fun tb s1 H => ?_
    exact ⟨⟨_, rfl⟩, H.keeps⟩
end Mine
end

section
open PySem PySem.Calls PySem.Spec PyProof.Rows PySem.W
set_option Elab.async false
namespace Mine

/-- the j-th statement of the i-th statement's body, a class -/
noncomputable def methAt (i j : Nat) : Str × Arguments × List Stmt × Scope := match PySem.Challenge.pw_if0009_01.main.body[i]? with
  | some (.ClassDef _ _ _ b _ _ _ _ _ _ _) => (match b[j]? with
    | some (.FunctionDef n a b _ _ _ sc _ _ _) => (n, a, b, sc)
    | _ => default)
  | _ => default
/-- a def within a class or a def -/
structure IsFnQ (a : Addr) (nm qn : Str) (args : Arguments) (body : List Stmt) (sc : Scope) (h : Heap) : Prop where
  ex : ∃ o doc pm an cdv ct, h.get? a = some o ∧ o.data = .func (W.fnOf nm qn args body sc .none .none doc pm an cdv ct) ∧ h.CodeRec cdv qn
theorem IsFnQ.keeps {a : Addr} {nm qn : Str} {args : Arguments} {body : List Stmt} {sc : Scope} {h h' : Heap} (x : IsFnQ a nm qn args body sc h) (k : ∀ b o, h.get? b = some o → h'.get? b = some o) : IsFnQ a nm qn args body sc h' :=
  ⟨let ⟨o, doc, pm, an, cdv, ct, e, d, c⟩ := x.ex; ⟨o, doc, pm, an, cdv, ct, k _ _ e, d, c.keeps k⟩⟩

section
variable {prog : Program} {w : World} {A : Around} {s : Shared} {a : Addr} {nm qn : Str} {args : Arguments} {body : List Stmt} {sc : Scope} {vals : List Value} {ns : List Str} {Q : Value → Shared → Prop}
theorem enterQ (F : IsFnQ a nm qn args body sc s.heap) {mg mb : Str → Option Value} (G : Gnd mg mb s.heap) {d u : Nat} (R : Room A (d + 1) (u + 3)) {lb : List (Str × Value)}
    (hbind : ∀ doc pm an cdv ct, bindArgs (W.fnOf nm qn args body sc .none .none doc pm an cdv ct) ⟨vals, []⟩ = pure (ns.zip vals)) (hlb : (ns.zip vals).reverse = lb)
    (hcell : (sc.names.all fun x => x.2 != .cell) = true) (hloc : (ns.all fun x => decide (sc.names.lookup x = some .local)) = true)
    (hco : sc.isCoroutine = false) (hgen : sc.isGenerator = false) (hk : sc.kind = .function)
    (h : ∀ (A' : Around) (env : Env) (L : Addr) (s₁ : Shared), Room A' d u → EnvAt env sc L [] → S s s.heap [(L, .loc lb)] s₁ →
      Wp prog w A' (execs body env) (fun f s' => Q (match f with | .ret v => v | _ => .none) s') s₁) :
    Wp prog w A (call (.ref a) vals) Q s := by
  obtain ⟨o, doc, pm, an, cdv, ct, ho, hd, hc⟩ := F.ex
  refine wpAny_call (codeAny_call_def (fd := W.fnOf nm qn args body sc .none .none doc pm an cdv ct) (body := body) (binds := ns.zip vals) (by have := R.depth; omega) ho hd G.nolimit hc rfl (.of_eq (hbind ..))
    (fun x hx => by simpa using List.all_eq_true.mp hcell x hx) (fun x hx => by simpa using List.all_eq_true.mp hloc x.1 (List.of_mem_zip hx).1) (fun h₁ hns hk₁ => ?_) hco hgen hk)
  refine wpAny_mono (h _ _ s.heap.objs.size _ (R.deeper _) ⟨rfl, rfl, rfl, rfl, rfl⟩ ?_) (fun f s' hq => hq) (fun _ _ q => q.elim)
  refine (S.start s).add ⟨h₁, _, rfl, hk₁⟩ (get_size_none _) ⟨_, hns, fun x v e => look_of_lookup (by rw [hlb]; exact e)⟩
end

noncomputable def okT (l : List Nat) : Prop := PyData.strOk (tx l) = true
theorem okT_of {l : List Nat} (h : ∀ c ∈ l, c < 1114112) : okT l := by
  unfold okT PyData.strOk
  rw [← Array.all_toList]
  refine List.all_eq_true.mpr fun c hc => ?_
  rw [tx_cps] at hc
  exact decide_eq_true (h c hc)

section
variable {prog : Program} {w : World} {A : Around} {s : Shared} {σ : Shared} {h₀ : Heap} {fs : Led}
theorem eq_pair {a b : Addr} {h1 p1 h2 p2 : List Nat} {t1 t2 t3 t4 : Tok} {Q : Value → Shared → Prop} (ha : IsTup s.heap a #[.str (tx h1) t1, .str (tx p1) t2]) (hb : IsTup s.heap b #[.str (tx h2) t3, .str (tx p2) t4])
    (k1 : okT h1) (k2 : okT p1) (k3 : okT h2) (k4 : okT p2) (hu : A.units + 64 < cLine) (h : Q (.bool (h1 == h2 && p1 == p2)) s) : Wp prog w A (compareOp .Eq (.ref a) (.ref b)) Q s := by
  obtain ⟨oa, ea, ca, na, da⟩ := ha
  obtain ⟨ob, eb, cb, nb, db⟩ := hb
  refine eq_dataH (da := .tuple [.str (tx h1), .str (tx p1)]) (db := .tuple [.str (tx h2), .str (tx p2)]) (reads_tuple_at ea ca da (.cons (.str _ _) (.cons (.str _ _) .nil))) (reads_tuple_at eb cb db (.cons (.str _ _) (.cons (.str _ _) .nil))) ?_ ?_ hu ?_
  · unfold okT at k1 k2
    simp [SeqAt.shaped, PyData.canLay0, PyData.canLayAll0, PyData.depth, PyData.depthAll, k1, k2]
  · unfold okT at k3 k4
    simp [SeqAt.shaped, PyData.canLay0, PyData.canLayAll0, PyData.depth, PyData.depthAll, k3, k4]
  · have e : PyData.eqv (.tuple [.str (tx h1), .str (tx p1)]) (.tuple [.str (tx h2), .str (tx p2)]) = (h1 == h2 && p1 == p2) := by
      simp [PyData.eqv, PyData.eqvAll, tx_beq]
    rw [e]; exact h
end
local macro_rules | `(tactic| tb_rel) => `(tactic| first | exact S.get (by assumption) (by k_mem) | assumption | (refine S.up (by assumption) ?_; tb_rel))
local macro_rules | `(tactic| kwd_rel) => `(tactic| first | (with_reducible exact look_head) | (with_reducible exact lk_head) | assumption | (refine look_tail (by kernel_rfl) ?_; kwd_rel) | (refine lk_tail (by kernel_rfl) ?_; kwd_rel))
local macro_rules | `(tactic| kwd_inv) => `(tactic| first | (with_reducible exact Upd.head) | (with_reducible apply Upd.tail; kwd_inv))
local macro_rules | `(tactic| tb_start) => `(tactic| first | kernel_rfl | decide +kernel)

/-- what is_suburi tells -/
noncomputable def slashed (p : List Nat) : List Nat := if p.drop (p.length - 1) == [47] then p else p ++ [47]
noncomputable def subOf (h1 p1 h2 p2 : List Nat) : Bool := if (h1 == h2 && p1 == p2) = true then true else if (h1 == h2) = true then (p2.take (slashed p1).length == slashed p1) else false
theorem slashed_len (p : List Nat) : (slashed p).length ≤ p.length + 1 := by
  unfold slashed
  split
  · omega
  · simp

theorem c_suburi {T : Ad} {mg mb : Str → Option Value} {w : World} {A : Around} {s : Shared} {self : Value} {a b : Addr} {h1 p1 h2 p2 : List Nat} {t1 t2 t3 t4 : Tok} (X : Tp T mg mb s.heap)
    (F : IsFnQ T.isub (methAt 2 4).1 (Str.ofString "HTTPPasswordMgr.is_suburi") (methAt 2 4).2.1 (methAt 2 4).2.2.1 (methAt 2 4).2.2.2 s.heap) (R : Room A 1 100)
    (ha : IsTup s.heap a #[.str (tx h1) t1, .str (tx p1) t2]) (hb : IsTup s.heap b #[.str (tx h2) t3, .str (tx p2) t4])
    (k1 : okT h1) (k2 : okT p1) (k3 : okT h2) (k4 : okT p2) (hp : 0 < p1.length) (hz : p1.length ≤ 1000) :
    Wp PySem.Challenge.pw_if0009_01 w A (call (.ref T.isub) [self, .ref a, .ref b]) (fun v s' => v = .bool (subOf h1 p1 h2 p2) ∧ Keeps s s') s := by
  refine enterQ F X.G (d := 0) (u := 97) R (ns := ["self", "base", "test"]) (lb := [("test", .ref b), ("base", .ref a), ("self", self)]) (fun _ _ _ _ _ => by kernel_rfl) rfl (by tb_start) (by tb_start) (by tb_start) (by tb_start) (by tb_start) fun A' env L s1 R' he H => ?_
  refine wpAny_execs_cons ?_
  refine wpAny_If ?_
  refine wpAny_isTrue_Compare1 ?_
  refine n_local he (by tb_start) (by tb_start) (by tb_start) (by tb_rel) (by kwd_rel) ?_
  refine n_local he (by tb_start) (by tb_start) (by tb_start) (by tb_rel) (by kwd_rel) ?_
  have up : ∀ {s' : Shared} {fs : Led} {c : Addr} {its : Array Value}, S s s.heap fs s' → IsTup s.heap c its → IsTup s'.heap c its := fun H h => h.keeps H.keep
  refine eq_pair (up H ha) (up H hb) k1 k2 k3 k4 (by have := R'.units; omega) ?_
  refine wpAny_truthy_bool ?_
  unfold subOf
  by_cases hq : (h1 == h2 && p1 == p2) = true
  · rw [if_pos hq, if_pos hq]
    refine wpAny_execs_cons ?_
    refine wpAny_Return_some ?_
    refine c_bool ?_
    exact ⟨rfl, H.keeps⟩
  · rw [if_neg hq, if_neg hq]
    refine wpAny_execs_nil ?_
    refine wpAny_execs_cons ?_
    refine wpAny_If ?_
    refine wpAny_isTrue_Compare1 ?_
    refine Subscript_ ?_
    refine n_local he (by tb_start) (by tb_start) (by tb_start) (by tb_rel) (by kwd_rel) ?_
    refine c_int H fun u s1 H => ?_
    refine item_tuple (up H ha) (by decide) (by decide) (j := 0) (by rfl) (x := .str (tx h1) t1) rfl ?_
    refine Subscript_ ?_
    refine n_local he (by tb_start) (by tb_start) (by tb_start) (by tb_rel) (by kwd_rel) ?_
    refine c_int H fun u s1 H => ?_
    refine item_tuple (up H hb) (by decide) (by decide) (j := 0) (by rfl) (x := .str (tx h2) t3) rfl ?_
    refine o_neT ?_
    refine wpAny_truthy_bool ?_
    by_cases hh : (h1 == h2) = true
    · rw [if_neg (by rw [hh]; decide), if_pos hh]
      refine wpAny_execs_nil ?_
      refine wpAny_execs_cons ?_
      refine wpAny_Assign_Name ?_
      refine Subscript_ ?_
      refine n_local he (by tb_start) (by tb_start) (by tb_start) (by tb_rel) (by kwd_rel) ?_
      refine c_int H fun u s1 H => ?_
      refine item_tuple (up H ha) (by decide) (by decide) (j := 1) (by rfl) (x := .str (tx p1) t2) rfl ?_
      refine st_local he (by tb_start) (by tb_start) H (by kwd_inv) fun s1 H => ?_
      refine wpAny_execs_cons ?_
      refine wpAny_mono (?_ : Wp _ _ _ _ (fun f s₂ => f = .next ∧ ∃ (tp : Tok) (l' : List (Str × Value)), S s s.heap [(L, .loc l')] s₂ ∧ look l' "test" = some (.ref b) ∧ look l' "prefix" = some (.str (tx (slashed p1)) tp)) s1) (fun f s₂ h₂ => ?_) fun _ _ e => e.elim
      · refine wpAny_If ?_
        refine wpAny_isTrue_Compare1 ?_
        refine t_slice ?_ (fun _ _ => rfl)
        refine n_local he (by tb_start) (by tb_start) (by tb_start) (by tb_rel) (by kwd_rel) ?_
        refine evalPart_some_step ?_
        refine wpAny_UnaryOp ?_
        refine c_int H fun u s1 H => ?_
        refine o_neg H fun u s1 H => ?_
        refine evalPart_none_step ?_
        refine ⟨p1, _, some (-1, _), none, rfl, rfl, rfl, by rw [sizeLine_eq]; omega, _, _, _, H, fun u s1 H => ?_⟩
        have e : ∀ t0 : Tok, Txt.slice (tx p1) ((some ((-1 : Int), t0)).map (·.1)) ((none : Option (Int × Tok)).map (·.1)) = tx (p1.drop (p1.length - 1)) := fun _ => slice_last hp
        rw [e]
        refine c_tx H [47] (by tb_start) fun u s1 H => ?_
        refine o_neT ?_
        refine wpAny_truthy_bool ?_
        unfold slashed
        by_cases hs : (p1.drop (p1.length - 1) == [47]) = true
        · rw [if_neg (by rw [hs]; decide), if_pos hs]
          refine wpAny_execs_nil ?_
          exact ⟨rfl, _, _, H, by kwd_rel, by kwd_rel⟩
        · have hs' : (p1.drop (p1.length - 1) == [47]) = false := by simpa using hs
          rw [if_pos (by rw [hs']; rfl), if_neg hs]
          refine wpAny_execs_cons ?_
          refine wpAny_AugAssign_Name ?_
          refine n_load he (by tb_start) (by tb_start) (by tb_rel) (by kwd_rel) ?_
          refine c_tx H [47] (by tb_start) fun u s1 H => ?_
          refine o_icatT H (by rw [sizeLine_eq, List.length_singleton]; omega) fun u s1 H => ?_
          refine st_local he (by tb_start) (by tb_start) H (by kwd_inv) fun s1 H => ?_
          refine wpAny_execs_nil ?_
          exact ⟨rfl, _, _, H, by kwd_rel, by kwd_rel⟩
      · obtain ⟨rfl, tp, l', H, f1, f2⟩ := h₂
        refine wpAny_execs_cons ?_
        refine wpAny_Return_some ?_
        refine PySem.Call_method1 (by rfl) (by rfl) (by rfl) ?_
        refine Subscript_ ?_
        refine n_local he (by tb_start) (by tb_start) (by tb_start) (by tb_rel) (by kwd_rel) ?_
        refine c_int H fun u s1 H => ?_
        refine item_tuple (up H hb) (by decide) (by decide) (j := 1) (by rfl) (x := .str (tx p2) t4) rfl ?_
        refine SB.startswith ?_
        refine n_local he (by tb_start) (by tb_start) (by tb_start) (by tb_rel) (by kwd_rel) ?_
        refine ⟨_, _, rfl, ?_⟩
        rw [startswith_tx]
        exact ⟨rfl, H.keeps⟩
    · have hh' : (h1 == h2) = false := by simpa using hh
      rw [if_pos (by rw [hh']; rfl), if_neg hh]
      refine wpAny_execs_cons ?_
      refine wpAny_Return_some ?_
      refine c_bool ?_
      exact ⟨rfl, H.keeps⟩
end Mine
end

section
open PySem PySem.Calls PySem.Spec PyProof.Rows PySem.W
set_option Elab.async false
set_option maxRecDepth 100000
namespace Mine

/-- texts one behind the other, with one between -/
noncomputable def joinT (sep : List Nat) : List (List Nat) → List Nat
  | [] => []
  | [x] => x
  | x :: y :: r => x ++ sep ++ joinT sep (y :: r)
theorem joinT_tx (sep : List Nat) : ∀ ps : List (List Nat), Str.join (tx sep) (ps.map tx) = tx (joinT sep ps)
  | [] => rfl
  | [x] => rfl
  | x :: y :: r => by
    show tx x ++ tx sep ++ Str.join (tx sep) ((y :: r).map tx) = _
    rw [joinT_tx sep (y :: r), tx_app, tx_app]; rfl
theorem texts_of : ∀ {ps : List (List Nat)} {vs : List Value}, Paired IsT ps vs → ∃ l : List (Str × Tok), strValues l = vs ∧ l.map (·.1) = ps.map tx
  | _, _, .nil => ⟨[], rfl, rfl⟩
  | _, _, .cons ⟨t, e⟩ r => by
    obtain ⟨l, h1, h2⟩ := texts_of r
    subst e
    exact ⟨(_, t) :: l, by rw [← h1]; rfl, by rw [List.map_cons, h2]; rfl⟩

section
variable {prog : Program} {w : World} {A : Around} {s : Shared} {σ : Shared} {h₀ : Heap} {fs : Led}
theorem x_join {sep : List Nat} {ps : List (List Nat)} {vs : List Value} {D : Addr} {t : Tok} {B : Nat} {Q : Value → Shared → Prop} (H : S σ h₀ fs s) (hD : s.heap.IsList D vs.toArray) (hp : Paired IsT ps vs)
    (hB : ∀ p ∈ ps, p.length ≤ B) (hz : ps.length * B + ps.length * sep.length ≤ 16777216) (h : ∀ u s', S σ h₀ fs s' → Q (.str (tx (joinT sep ps)) u) s') :
    Wp prog w A (call (.builtin "str.join") [.str (tx sep) t, .ref D]) Q s := by
  obtain ⟨l, h1, h2⟩ := texts_of hp
  have hB' : ∀ y ∈ ps.map tx, y.length ≤ B := fun y hy => by
    obtain ⟨p, hp, rfl⟩ := List.mem_map.mp hy
    rw [tx_len]; exact hB p hp
  refine SC.join (l := l) (texts := ps.map tx) (by rw [h1]; exact hD) h2 (by unfold JoinOk; rw [StrLaws.joinFits (B := B) hB' (by rw [List.length_map, tx_len]; exact hz)]; rfl) fun t' k => ?_
  show Q (.str (Builtin.Str.glued (tx sep) (ps.map tx)) t') _
  rw [StrLaws.glued_eq_join, joinT_tx]
  exact h t' _ (H.tok k)
theorem l_add {a b : Addr} {xs ys : List Value} {Q : Value → Shared → Prop} (H : S σ h₀ fs s) (ha : (Fact.list xs).at s.heap a) (hb : (Fact.list ys).at s.heap b) (hz : xs.length + ys.length ≤ sizeLine)
    (h : ∀ D s', S σ h₀ ((D, .list (xs ++ ys)) :: fs) s' → Q (.ref D) s') : Wp prog w A (binaryOp .Add (.ref a) (.ref b)) Q s := by
  obtain ⟨n, ea⟩ := ha
  obtain ⟨k, eb⟩ := hb
  refine P.add_list ea eb (h _ _ (H.add (keeps_push s _ s.toks) (get_size_none _) ⟨0, ?_⟩)) (by simpa using hz)
  have e : (xs ++ ys).toArray = xs.toArray ++ ys.toArray := by simp
  rw [e]
  exact Heap.get?_push_size _ rfl
end
/-- a folder's family: its sign and those of the folders right in it; the letter -/
noncomputable def famOf (os as : List Nat) (k : Nat) : List Nat := os.getD k 0 :: ((List.range 5).filter fun j => as.getD j 0 == k).map fun j => os.getD j 0
noncomputable def letterOf (os as : List Nat) : List Nat := joinT [44, 32] ([4, 3, 2, 1, 0].map fun k => encT (famOf os as k))
theorem joinT_enc : ∀ os : List Nat, joinT [] (os.map fun o => 61 :: hexT o) = encT os
  | [] => rfl
  | [o] => rfl
  | o :: p :: r => by
    show (61 :: hexT o) ++ [] ++ joinT [] ((p :: r).map fun o => 61 :: hexT o) = _
    rw [joinT_enc (p :: r)]; rfl
theorem fam_len (os as : List Nat) (k : Nat) : (famOf os as k).length ≤ 6 := by
  unfold famOf
  rw [List.length_cons, List.length_map]
  have := List.length_filter_le (fun j => as.getD j 0 == k) (List.range 5)
  rw [List.length_range] at this
  omega
theorem fam_mem {os as : List Nat} {k : Nat} (h5 : os.length = 5) (hk : k < 5) (ho : ∀ o ∈ os, o < 256) : ∀ o ∈ famOf os as k, o < 256 := by
  intro o h
  unfold famOf at h
  rcases List.mem_cons.mp h with rfl | h
  · exact ho _ (List.mem_of_getElem? (getD_of (by omega)))
  · obtain ⟨j, hj, rfl⟩ := List.mem_map.mp h
    have := List.mem_range.mp (List.mem_filter.mp hj).1
    exact ho _ (List.mem_of_getElem? (getD_of (by omega)))

local macro_rules | `(tactic| tb_rel) => `(tactic| first | exact S.get (by assumption) (by k_mem) | assumption | (refine S.up (by assumption) ?_; tb_rel))
local macro_rules | `(tactic| kwd_rel) => `(tactic| first | (with_reducible exact look_head) | (with_reducible exact lk_head) | assumption | (refine look_tail (by kernel_rfl) ?_; kwd_rel) | (refine lk_tail (by kernel_rfl) ?_; kwd_rel))
local macro_rules | `(tactic| kwd_inv) => `(tactic| first | (with_reducible exact Upd.head) | (with_reducible apply Upd.tail; kwd_inv))
local macro_rules | `(tactic| kwd_less) => `(tactic| first | exact List.Sublist.refl _ | (refine List.Sublist.cons_cons _ ?_; kwd_less) | (refine List.Sublist.cons _ ?_; kwd_less))
local macro_rules | `(tactic| tb_start) => `(tactic| first | kernel_rfl | decide +kernel)

theorem paired_app {α : Type} {F : α → Value → Prop} : ∀ {xs ys : List α} {vs us : List Value}, Paired F xs vs → Paired F ys us → Paired F (xs ++ ys) (vs ++ us)
  | _, _, _, _, .nil, q => q
  | _, _, _, _, .cons h r, q => .cons h (paired_app r q)

theorem c_letter {T : Ad} {mg mb : Str → Option Value} {w : World} {A : Around} {s : Shared} {os as : List Nat} {ls la : Addr} {ss vs : List Value} (X : Tp T mg mb s.heap) (F : IsDef T.letter 33 s.heap) (R : Room A 3 60)
    (hs : (Fact.list ss).at s.heap ls) (ha : (Fact.list vs).at s.heap la) (hps : Paired IsT (os.map fun o => [o]) ss) (hpa : Paired IsN as vs) (h5 : os.length = 5) (h5' : as.length = 5) (ho : ∀ o ∈ os, o < 256) :
    Wp PySem.Challenge.pw_if0009_01 w A (call (.ref T.letter) [.ref ls, .ref la]) (fun v s' => IsT (letterOf os as) v ∧ Keeps s s') s := by
  refine enterC F X.G (d := 2) (u := 57) R ["k", "above", "signs"] [] [("above", .ref la), ("signs", .ref ls)] (ns := ["signs", "above"]) (fun _ _ _ _ _ => by kernel_rfl) (by kernel_rfl) (by kernel_rfl) (by kernel_rfl) (by tb_start) (by tb_start) (by tb_start) (by tb_start) (by tb_start) fun A' env L cs s1 R' hcs he H => ?_
  obtain ⟨ck, ca, cg, rfl⟩ := cells3 hcs
  have e1 : look [("above", Value.ref la), ("signs", Value.ref ls)] "above" = some (.ref la) := look_head
  have e2 : look [("above", Value.ref la), ("signs", Value.ref ls)] "signs" = some (.ref ls) := look_tail (by kernel_rfl) look_head
  simp only [List.map_cons, List.map_nil] at H
  rw [e1, e2] at H
  have sg : ∀ j, j < 5 → ∃ t, ss[j]? = some (.str (tx [os.getD j 0]) t) := fun j hj => by
    obtain ⟨v, hv, t, rfl⟩ := pget hps (i := j) (a := [os.getD j 0]) (by rw [List.getElem?_map, getD_of (d := 0) (by omega)]; rfl)
    exact ⟨t, hv⟩
  refine wpAny_execs_cons ?_
  refine wpAny_Assign_Name ?_
  refine l_new ?_
  refine wpAny_items_nil ?_
  refine ⟨by rw [sizeLine_eq]; exact Nat.le_of_ble_eq_true rfl, _, _, _, H, fun a s1 H => ?_⟩
  refine st_local he (by tb_start) (by tb_start) H (by kwd_inv) fun s1 H => ?_  -- items
  refine wpAny_execs_cons ?_
  refine f_for (α := Value) ?_ (fun _ => rfl) (fun _ _ => rfl)
  refine t_new ?_
  refine wpAny_items_cons ?_
  refine c_int H fun v4 s1 H => ?_
  refine wpAny_items_cons ?_
  refine c_int H fun v3 s1 H => ?_
  refine wpAny_items_cons ?_
  refine c_int H fun v2 s1 H => ?_
  refine wpAny_items_cons ?_
  refine c_int H fun v1 s1 H => ?_
  refine wpAny_items_cons ?_
  refine c_int H fun v0 s1 H => ?_
  refine wpAny_items_nil ?_
  refine ⟨by rw [sizeLine_eq]; exact Nat.le_of_ble_eq_true rfl, _, _, _, H, fun b s1 H => ?_⟩
  obtain ⟨h₁, H, hb, k₁, -⟩ := H.freeze
  have hks : Paired IsN [4, 3, 2, 1, 0] [Value.int 4 v4, .int 3 v3, .int 2 v2, .int 1 v1, .int 0 v0] := .cons ⟨_, rfl⟩ (.cons ⟨_, rfl⟩ (.cons ⟨_, rfl⟩ (.cons ⟨_, rfl⟩ (.cons ⟨_, rfl⟩ .nil))))
  have hs1 : (Fact.list ss).at h₁ ls := Fact.congr (fun o e => k₁ _ o e) hs
  have ha1 : (Fact.list vs).at h₁ la := Fact.congr (fun o e => k₁ _ o e) ha
  have XX : ∀ {s' : Shared} {fs : Led}, S s h₁ fs s' → Tp T mg mb s'.heap := fun H => X.keeps fun b o e => H.keep b o (k₁ b o e)
  refine ⟨_, _, _, _, _, fun i fs => ∃ (its : List Value) (l' : List (Str × Value)) (vk : Option Value), fs = [(a, .list its), (L, .loc l'), (ck, .cell vk), (ca, .cell (some (.ref la))), (cg, .cell (some (.ref ls)))] ∧ look l' "items" = some (.ref a) ∧
      Paired IsT (([4, 3, 2, 1, 0].take i).map fun k => encT (famOf os as k)) its ∧ i ≤ 5, Iter.tup R'.handled hb (H.up hb), H, ?_, ?_, ?_⟩
  · exact ⟨[], _, _, rfl, by kwd_rel, .nil, by decide⟩
  · rintro i v v' fs I o s1 hk rfl ⟨its, l', vk, rfl, f1, hits, hi5⟩ H
    obtain ⟨k, hki, tv, rfl⟩ := pget2 hks hk
    have hk5 : k < 5 := by
      have := List.mem_of_getElem? hki
      simp only [List.mem_cons, List.not_mem_nil, or_false] at this
      omega
    have hi5' : i < 5 := (List.getElem?_eq_some_iff.mp hki).1
    obtain ⟨tk, hsk⟩ := sg k hk5
    refine wpAny_assign_Name ?_
    refine st_cell he (by tb_start) (by tb_start) (by kwd_rel) H (by kwd_inv) fun s1 H => ?_  -- k
    refine W_gen fun Q1 hQ1 => ?_
    refine wpAny_execs_cons ?_
    refine wpAny_Assign_Name ?_
    refine wpAny_BinOp ?_
    refine l_new ?_
    refine wpAny_items_cons ?_
    refine Subscript_ ?_
    refine n_cell he (by tb_start) (by tb_start) (by tb_start) (by kwd_rel) (by tb_rel) ?_  -- signs
    refine n_cell he (by tb_start) (by tb_start) (by tb_start) (by kwd_rel) (by tb_rel) ?_  -- k
    refine l_item (its := ss) (by tb_rel) (by omega) hsk (by with_unfolding_all rfl) ?_
    refine wpAny_items_nil ?_
    refine ⟨by rw [sizeLine_eq]; exact Nat.le_of_ble_eq_true rfl, _, _, _, H, fun g1 s1 H => ?_⟩
    refine l_comp (α := Nat) (fun j => as.getD j 0 == k) (fun k v => ∃ t, v = .int ((k : Nat) : Int) t) (fun j y => IsT [os.getD j 0] y) he (cl := [("signs", cg), ("k", ck), ("above", ca)]) (by kernel_rfl) ⟨(by tb_start), (by tb_start), (by tb_start), (by tb_start)⟩ (fun _ => rfl) ?_
    refine x_typ he (by tb_start) (by tb_start) (by tb_start) (XX H).G X.b_range (id := "range") (by tb_start) (by tb_start) rfl rfl ?_
    refine wpAny_items_cons ?_
    refine c_int H fun u s1 H => ?_
    refine wpAny_items_nil ?_
    refine x_range1 (n := 5) H (by omega) R'.handled fun xv s1 H _ IT => ?_
    refine ⟨_, _, _, _, IT, H, ⟨by rw [sizeLine_eq]; decide, ?_, ?_, ?_⟩, fun g2 ys s1 hys H => ?_⟩
    · rintro x y v ⟨t, rfl⟩ ⟨t', e⟩
      injection e with e _
      omega
    · rintro j v C env' s3 hm ⟨tj, rfl⟩ he' hC hkp
      have f1 := Fact.congr (hkp _) (H.get (a := ck) (f := .cell (some (.int (k : Int) tv))) (by k_mem))
      have f2 := Fact.congr (hkp _) (H.get (a := ca) (f := .cell (some (.ref la))) (by k_mem))
      have f3 := Fact.congr (hkp _) (H.up ha1)
      have hj5 : j < 5 := List.mem_range.mp hm
      obtain ⟨va, hva, ta, rfl⟩ := pget hpa (getD_of (d := 0) (i := j) (by rw [h5']; exact hj5))
      refine ct_one ?_
      have H := S.start s3
      refine wpAny_isTrue_Compare1 ?_
      refine Subscript_ ?_
      refine n_cell he' (by tb_start) (by tb_start) (by tb_start) (by kwd_rel) (by tb_rel) ?_
      refine n_local he' (by tb_start) (by tb_start) (by tb_start) (by tb_rel) (by kwd_rel) ?_
      refine l_item (its := vs) (by tb_rel) (by omega) hva (by with_unfolding_all rfl) ?_
      refine n_cell he' (by tb_start) (by tb_start) (by tb_start) (by kwd_rel) (by tb_rel) ?_
      refine o_eq ?_
      refine wpAny_truthy_bool ?_
      refine ⟨?_, H.keeps⟩
      by_cases h : as.getD j 0 = k
      · rw [h]; simp
      · rw [beq_eq_false_iff_ne.mpr h, beq_eq_false_iff_ne.mpr (by omega)]
    · rintro j v C env' s3 hm ⟨tj, rfl⟩ hz he' hC hkp
      have f2 := Fact.congr (hkp _) (H.get (a := cg) (f := .cell (some (.ref ls))) (by k_mem))
      have f3 := Fact.congr (hkp _) (H.up hs1)
      have hj5 : j < 5 := List.mem_range.mp hm
      obtain ⟨tj', hsj⟩ := sg j hj5
      have H := S.start s3
      refine Subscript_ ?_
      refine n_cell he' (by tb_start) (by tb_start) (by tb_start) (by kwd_rel) (by tb_rel) ?_
      refine n_local he' (by tb_start) (by tb_start) (by tb_start) (by tb_rel) (by kwd_rel) ?_
      refine l_item (its := ss) (by tb_rel) (by omega) hsj (by with_unfolding_all rfl) ?_
      exact ⟨⟨_, rfl⟩, H.keeps⟩
    have hg1 : (Fact.list [Value.str (tx [os.getD k 0]) tk]).at s1.heap g1 := H.get (by k_mem)
    have hg2 : (Fact.list ys).at s1.heap g2 := H.get (by k_mem)
    have hyl := hys.length
    have hfl := List.length_filter_le (fun j => as.getD j 0 == k) (List.range 5)
    rw [List.length_range] at hfl
    refine l_add H hg1 hg2 (by rw [sizeLine_eq, List.length_singleton]; omega) fun g3 s1 H => ?_
    have hfam : Paired IsT ((famOf os as k).map fun o => [o]) ([Value.str (tx [os.getD k 0]) tk] ++ ys) := by
      refine .cons ⟨_, rfl⟩ ?_
      have := paired_mapS (G := IsT) (fun j => [os.getD j 0]) hys
      rw [List.map_map]
      exact this
    refine st_local he (by tb_start) (by tb_start) H (by kwd_inv) fun s1 H => ?_  -- family
    refine wpAny_execs_cons ?_
    refine ex_expr he (by tb_start) rfl ?_
    refine MethodCall_ ?_
    refine n_local he (by tb_start) (by tb_start) (by tb_start) (by tb_rel) (by kwd_rel) ?_  -- items
    refine l_append_m (its := its) (by tb_rel) ?_
    refine callWith_method1 ?_
    refine wpAny_items_cons ?_
    refine MethodCall_ ?_
    refine c_tx H [] (by tb_start) fun u s1 H => ?_
    with_reducible refine GM.join ?_
    refine callWith_method1 ?_
    refine wpAny_items_cons ?_
    refine l_comp (α := List Nat) (fun _ => true) (fun p v => IsT p v ∧ p.length = 1 ∧ p.getD 0 0 < 256) (fun p y => IsT (61 :: hexT (p.getD 0 0)) y) he (cl := []) (by kernel_rfl) ⟨(by tb_start), (by tb_start), (by tb_start), (by tb_start)⟩ (fun _ => rfl) ?_
    refine n_local he (by tb_start) (by tb_start) (by tb_start) (by tb_rel) (by kwd_rel) ?_  -- family
    have hg3 : (Fact.list ([Value.str (tx [os.getD k 0]) tk] ++ ys)).at s1.heap g3 := H.get (by k_mem)
    have hfam' : Paired (fun p v => IsT p v ∧ p.length = 1 ∧ p.getD 0 0 < 256) ((famOf os as k).map fun o => [o]) ([Value.str (tx [os.getD k 0]) tk] ++ ys) := by
      have hall := fam_mem (as := as) h5 hk5 ho
      generalize famOf os as k = fm at hfam hall
      generalize [Value.str (tx [os.getD k 0]) tk] ++ ys = us at hfam
      clear hg3
      induction fm generalizing us with
      | nil => cases hfam; exact .nil
      | cons o r ih =>
        cases hfam with
        | cons h1 h2 => exact .cons ⟨h1, rfl, hall o (.head _)⟩ (ih (fun o ho => hall o (.tail _ ho)) _ h2)
    refine ⟨_, _, _, _, (Iter.list R'.handled (Heap.PlainList.isList hg3) (Heap.PlainList.isList hg3)).to hfam', H, ⟨by rw [List.length_map, sizeLine_eq]; have := fam_len os as k; omega, ?_, ?_, ?_⟩, fun g4 zs s1 hzs H => ?_⟩
    · rintro x y v ⟨h1, _⟩ ⟨h2, _⟩; exact h1.inj h2
    · intro p v C env' s3 hm hv he' hC hkp
      exact ct_nil ⟨rfl, (S.start s3).keeps⟩
    · rintro p v C env' s3 hm ⟨⟨tp, rfl⟩, hp1, hp2⟩ hz he' hC hkp
      obtain ⟨o, rfl⟩ : ∃ o, p = [o] := by
        cases p with
        | nil => cases hp1
        | cons o r => cases r with
          | nil => exact ⟨o, rfl⟩
          | cons _ _ => cases hp1
      have X3 : Tp T mg mb s3.heap := (XX H).keeps hkp
      have H := S.start s3
      refine x_call he' (by tb_start) (by tb_start) (by tb_start) X3.G X.n_quote rfl rfl ?_
      refine wpAny_items_cons ?_
      refine n_local he' (by tb_start) (by tb_start) (by tb_start) (by tb_rel) (by kwd_rel) ?_
      refine wpAny_items_nil ?_
      refine ⟨⟨_, _, _, _, X3.f_quote⟩, ?_⟩
      refine wpAny_mono (c_quote X3 (R'.less (by omega) (by omega)) (o := o) hp2) (fun v s2 h2 => ?_) fun _ _ e => e.elim
      obtain ⟨⟨tv, rfl⟩, kk⟩ := h2
      exact ⟨⟨_, rfl⟩, kk⟩
    rw [List.filter_eq_self.mpr (by simp)] at hzs
    have hz' : Paired IsT ((famOf os as k).map fun o => 61 :: hexT o) zs := by
      have := paired_mapS (G := IsT) (fun p : List Nat => 61 :: hexT (p.getD 0 0)) hzs
      rw [List.map_map] at this
      exact this
    have hg4 : (Fact.list zs).at s1.heap g4 := H.get (.head _)
    refine wpAny_items_nil ?_
    have hfm := fam_len os as k
    refine x_join (B := 3) H (Heap.PlainList.isList hg4) hz' (fun p hp => by obtain ⟨o, _, rfl⟩ := List.mem_map.mp hp; exact Nat.le_of_ble_eq_true rfl) (by rw [List.length_map, List.length_nil]; omega) fun u s1 H => ?_
    rw [joinT_enc]
    refine wpAny_items_nil ?_
    have hil := hits.length
    rw [List.length_map, List.length_take] at hil
    refine l_append H (its := its) (by kwd_inv) (by rw [sizeLine_eq]; simp only [List.length_cons, List.length_nil] at hil; omega) fun s1 H => ?_
    refine wpAny_execs_nil ?_
    refine hQ1 _ _ ?_
    refine ⟨_, H.drop (by kwd_less), _, _, _, rfl, by kwd_rel, ?_, by omega⟩
    rw [List.take_add_one, hki, List.map_append]
    exact hits.snoc ⟨_, rfl⟩
  · rintro fs s1 ⟨its, l', vk, rfl, f1, hits, hi5⟩ H
    refine wpAny_execs_cons ?_
    refine wpAny_Return_some ?_
    refine MethodCall_ ?_
    refine c_tx H [44, 32] (by tb_start) fun u s1 H => ?_
    with_reducible refine GM.join ?_
    refine callWith_method1 ?_
    refine wpAny_items_cons ?_
    refine n_local he (by tb_start) (by tb_start) (by tb_start) (by tb_rel) (by kwd_rel) ?_  -- items
    refine wpAny_items_nil ?_
    have hit : (Fact.list its).at s1.heap a := H.get (.head _)
    refine x_join (B := 18) H (Heap.PlainList.isList hit) hits (fun p hp => ?_) (Nat.le_of_ble_eq_true rfl) fun u s1 H => ?_
    · obtain ⟨k, _, rfl⟩ := List.mem_map.mp hp
      rw [encT_len]; have := fam_len os as k; omega
    · exact ⟨⟨_, rfl⟩, H.keepsOf k₁⟩
end Mine
end

section
open PySem PySem.Calls PySem.Spec PyProof.Rows PySem.W
set_option Elab.async false
namespace Mine

/-- a table of texts: what it has at each, and how many at most -/
noncomputable def DV (prog : Program) (w : World) (o : Obj) (f : Str → Option Value) (n : Nat) : Prop := ∃ kvs : List (Str × Value), o.IsDictOf (strKind prog w) kvs ∧ (∀ k, valueAt kvs k = f k) ∧ kvs.length ≤ n

theorem valueAt_cons (a : Str × Value) (r : List (Str × Value)) (x : Str) : valueAt (a :: r) x = if a.1 = x then some a.2 else valueAt r x := by
  unfold valueAt
  rw [List.find?_cons]
  by_cases h : a.1 = x
  · simp [h]
  · simp [h]
theorem valueAt_map (k : Str) (v : Value) (x : Str) : ∀ kvs : List (Str × Value), valueAt (kvs.map fun kv => if kv.1 = k then (kv.1, v) else kv) x = if x = k then (valueAt kvs k).map fun _ => v else valueAt kvs x
  | [] => by simp [valueAt]
  | a :: r => by
    rw [List.map_cons, valueAt_cons, valueAt_cons, valueAt_cons, valueAt_map k v x r]
    by_cases h1 : a.1 = k
    · rw [if_pos h1]
      by_cases h2 : a.1 = x
      · rw [if_pos h2, if_pos (h2.symm.trans h1), if_pos h1]; rfl
      · have : x ≠ k := fun e => h2 (h1.trans e.symm)
        rw [if_neg h2, if_neg this, if_neg this, if_neg h2]
    · rw [if_neg h1]
      by_cases h2 : a.1 = x
      · have : x ≠ k := fun e => h1 (h2.trans e)
        rw [if_pos h2, if_neg this, if_pos h2]
      · rw [if_neg h2, if_neg h2, if_neg h1]
theorem valueAt_any (k : Str) : ∀ kvs : List (Str × Value), (kvs.any fun kv => kv.1 = k) = (valueAt kvs k).isSome
  | [] => rfl
  | a :: r => by
    rw [List.any_cons, valueAt_cons, valueAt_any k r]
    by_cases h : a.1 = k <;> simp [h]
theorem valueAt_snoc (k : Str) (v : Value) (x : Str) : ∀ kvs : List (Str × Value), valueAt (kvs ++ [(k, v)]) x = (valueAt kvs x).or (if x = k then some v else none)
  | [] => by
    rw [List.nil_append, valueAt_cons]
    by_cases h : k = x
    · subst h; simp [valueAt]
    · simp [valueAt, h, Ne.symm h]
  | a :: r => by
    rw [List.cons_append, valueAt_cons, valueAt_cons, valueAt_snoc k v x r]
    by_cases h : a.1 = x <;> simp [h]
theorem valueAt_stored (kvs : List (Str × Value)) (k : Str) (v : Value) (x : Str) : valueAt (stored kvs k v) x = if x = k then some v else valueAt kvs x := by
  unfold stored
  have ha := valueAt_any k kvs
  by_cases h : (kvs.any fun kv => kv.1 = k) = true
  · rw [if_pos h, valueAt_map]
    rw [h] at ha
    by_cases hx : x = k
    · rw [if_pos hx, if_pos hx]
      obtain ⟨u, hu⟩ := Option.isSome_iff_exists.mp ha.symm
      rw [hu]; rfl
    · rw [if_neg hx, if_neg hx]
  · rw [if_neg h, valueAt_snoc]
    have h' : (kvs.any fun kv => kv.1 = k) = false := Bool.eq_false_iff.mpr h
    rw [h'] at ha
    by_cases hx : x = k
    · rw [if_pos hx, if_pos hx, hx]
      have : valueAt kvs k = none := by simpa using ha.symm
      rw [this]; rfl
    · rw [if_neg hx, if_neg hx, Option.or_none]

section
variable {prog : Program} {w : World} {A : Around} {s : Shared} {σ : Shared} {h₀ : Heap} {fs : Led} {env : Env} {d : Addr} {f : Str → Option Value} {n : Nat} {o : Obj} {x : Str} {t : Tok} {pos : Pos}
theorem strOf (x : Str) (t : Tok) : Value.isStrOf x (.str x t) = true := by simp [Value.isStrOf]
theorem d_new {Q : Value → Shared → Prop} (H : S σ h₀ fs s) (h : ∀ D o s', DV prog w o (fun _ => none) 0 → S σ h₀ ((D, .raw o) :: fs) s' → Q (.ref D) s') : Wp prog w A (eval (.Dict [] [] pos) env) Q s := by
  refine wpAny_Dict_empty (h _ { cls := .type "dict", data := .dict #[] } _ ?_ (H.add (keeps_push s _ s.toks) (get_size_none _) (Heap.get?_push_size _ rfl)))
  obtain ⟨o, ho, hd⟩ := Heap.dictOf_iff.mp (Heap.DictOf.new (knd := strKind prog w) s.heap)
  rw [Heap.get?_push_size _ rfl] at ho
  cases ho
  exact ⟨[], hd, fun _ => rfl, Nat.le_refl _⟩
theorem d_get {v : Value} {Q : Value → Shared → Prop} (H : S σ h₀ fs s) (hd : s.heap.get? d = some o) (hf : DV prog w o f n) (hv : f x = some v) (h : ∀ s', S σ h₀ fs s' → Q v s') : Wp prog w A (getItem (.ref d) (.str x t)) Q s := by
  obtain ⟨kvs, ho, he, _⟩ := hf
  exact wpAny_getItem_of (knd := strKind prog w) (k := x) (strOf x t) (Heap.dictOf_iff.mpr ⟨o, hd, ho⟩).mapOf ((he x).trans hv) (h _ (H.tok _))
theorem d_item {v : Value} {value slice : Expr} {Q : Value → Shared → Prop} (H : S σ h₀ fs s) (hd : s.heap.get? d = some o) (hf : DV prog w o f n) (hv : f x = some v)
    (hs : subscripted slice false (.ref d) (.str x t) = operate [.ref d, .str x t] (getItem (.ref d) (.str x t))) (h : ∀ s', S σ h₀ fs s' → Q v s') : Wp prog w A (subscriptTail value slice (.ref d) (.str x t)) Q s := by
  have hf' := hf
  obtain ⟨kvs, ho, he, _⟩ := hf'
  exact tail_any (Heap.dictOf_iff.mpr ⟨o, hd, ho⟩ : s.heap.DictOf (strKind prog w) d kvs).typeIs slot_dict_getitem.lookup (d_get H hd hf hv h) hs
theorem d_in {Q : Value → Shared → Prop} (H : S σ h₀ fs s) (hd : s.heap.get? d = some o) (hf : DV prog w o f n) (hn : (d == sysModules) = false) (h : ∀ s', S σ h₀ fs s' → Q (.bool (f x).isSome) s') : Wp prog w A (compareOp .In (.str x t) (.ref d)) Q s := by
  obtain ⟨kvs, ho, he, _⟩ := hf
  refine wpAny_in_of (knd := strKind prog w) (k := x) (strOf x t) hn (Heap.dictOf_iff.mpr ⟨o, hd, ho⟩).mapOf ?_
  rw [he x]
  exact h _ (H.tok _)
theorem d_set {v : Value} {fs' : Obj → Led} {Q : Unit → Shared → Prop} (H : S σ h₀ fs s) (U : ∀ o', Upd d (.raw o) (.raw o') fs (fs' o')) (hf : DV prog w o f n) (hz : n ≤ sizeLine)
    (h : ∀ o' s', DV prog w o' (fun y => if y = x then some v else f y) (n + 1) → S σ h₀ (fs' o') s' → Q () s') : Wp prog w A (setItem (.ref d) (.str x t) v) Q s := by
  obtain ⟨kvs, ho, he, hl⟩ := hf
  have hd : s.heap.get? d = some o := H.get (U o).mem
  refine wpAny_setItem_pairs (knd := strKind prog w) (k := x) (strOf x t) (Heap.dictOf_iff.mpr ⟨o, hd, ho⟩) (fun h' hd' hs' => ?_) (by omega)
  obtain ⟨o', ho', hdo'⟩ := Heap.dictOf_iff.mp hd'
  refine h o' _ ⟨_, hdo', fun k => ?_, ?_⟩ (H.upd (U o') _ hs'.extBut ho')
  · rw [valueAt_stored, he k]
  · have := stored_length_le kvs x v; omega
end

/-- what a folder is named -/
noncomputable def nameOf (os : List Nat) (num k : Nat) : List Nat := if 0 < k ∧ num / 2 ^ k &&& 1 = 1 then encT [os.getD 0 0] ++ encT [os.getD k 0] else encT [os.getD k 0]

local macro_rules | `(tactic| tb_rel) => `(tactic| first | exact S.get (by assumption) (by k_mem) | assumption | (refine S.up (by assumption) ?_; tb_rel))
local macro_rules | `(tactic| kwd_rel) => `(tactic| first | (with_reducible exact look_head) | (with_reducible exact lk_head) | assumption | (refine look_tail (by kernel_rfl) ?_; kwd_rel) | (refine lk_tail (by kernel_rfl) ?_; kwd_rel))
local macro_rules | `(tactic| kwd_inv) => `(tactic| first | (with_reducible exact Upd.head) | (with_reducible apply Upd.tail; kwd_inv))
local macro_rules | `(tactic| tb_start) => `(tactic| first | kernel_rfl | decide +kernel)

theorem c_names {T : Ad} {mg mb : Str → Option Value} {w : World} {A : Around} {s : Shared} {os : List Nat} {ls : Addr} {ss : List Value} {num : Nat} {tn : Tok} (X : Tp T mg mb s.heap) (F : IsDef T.names 35 s.heap) (R : Room A 3 60)
    (hs : (Fact.list ss).at s.heap ls) (hps : Paired IsT (os.map fun o => [o]) ss) (h5 : os.length = 5) (ho : ∀ o ∈ os, o < 256) (hnd : os.Nodup) :
    Wp PySem.Challenge.pw_if0009_01 w A (call (.ref T.names) [.ref ls, .int num tn]) (fun v s' => ∃ d o f, v = .ref d ∧ DV PySem.Challenge.pw_if0009_01 w o f 10 ∧ (∀ j, j < 5 → ∃ t, f (tx [os.getD j 0]) = some (.str (tx (nameOf os num j)) t)) ∧ s.heap.get? d = none ∧ s'.heap.get? d = some o ∧ Keeps s s') s := by
  refine enter F X.G (d := 2) (u := 57) R (ns := ["signs", "number"]) (lb := [("number", .int num tn), ("signs", .ref ls)]) (fun _ _ _ _ _ => by kernel_rfl) rfl (by tb_start) (by tb_start) (by tb_start) (by tb_start) (by tb_start) fun A' env L s1 R' he H => ?_
  have sg : ∀ j, j < 5 → ∃ t, ss[j]? = some (.str (tx [os.getD j 0]) t) := fun j hj => by
    obtain ⟨v, hv, t, rfl⟩ := pget hps (i := j) (a := [os.getD j 0]) (by rw [List.getElem?_map, getD_of (d := 0) (by omega)]; rfl)
    exact ⟨t, hv⟩
  have hob : ∀ j, j < 5 → os.getD j 0 < 256 := fun j hj => ho _ (List.mem_of_getElem? (getD_of (by omega)))
  have hinj : ∀ i j, i < 5 → j < 5 → os.getD i 0 = os.getD j 0 → i = j := fun i j hi hj e => by
    have g : ∀ k (hk : k < 5), os.getD k 0 = os[k]'(by omega) := fun k hk => by
      rw [List.getD_eq_getElem?_getD, List.getElem?_eq_getElem (by omega)]; rfl
    have hpw := List.pairwise_iff_getElem.mp hnd
    rw [g i hi, g j hj] at e
    rcases Nat.lt_trichotomy i j with h | h | h
    · exact absurd e (hpw i j (by omega) (by omega) h)
    · exact h
    · exact absurd e.symm (hpw j i (by omega) (by omega) h)
  have call_quote : ∀ {s' : Shared} {fs : Led} {o : Nat} {t : Tok} {Q : Value → Shared → Prop}, S s s.heap fs s' → o < 256 → (∀ u s2, S s s.heap fs s2 → Q (.str (tx (encT [o])) u) s2) →
      (∃ nm ar b sc', IsFn T.quote nm ar b sc' s'.heap) ∧ Wp PySem.Challenge.pw_if0009_01 w A' (call (.ref T.quote) [.str (tx [o]) t]) Q s' := fun H ho hQ => by
    have X' := X.keeps H.keep
    refine ⟨⟨_, _, _, _, X'.f_quote⟩, wpAny_mono (c_quote X' (R'.less (by omega) (by omega)) ho) (fun v s2 h2 => ?_) fun _ _ e => e.elim⟩
    obtain ⟨⟨tv, rfl⟩, kk⟩ := h2
    exact hQ tv _ (H.grow kk)
  refine wpAny_execs_cons ?_
  refine wpAny_Assign_Name ?_
  refine d_new (prog := PySem.Challenge.pw_if0009_01) (w := w) H fun d o₀ s1 hd0 H => ?_
  refine st_local he (by tb_start) (by tb_start) H (by kwd_inv) fun s1 H => ?_  -- names
  refine wpAny_execs_cons ?_
  refine f_for (α := Nat) ?_ (fun _ => rfl) (fun _ _ => rfl)
  refine x_typ he (by tb_start) (by tb_start) (by tb_start) (X.G.up H) X.b_range (id := "range") (by tb_start) (by tb_start) rfl rfl ?_
  refine wpAny_items_cons ?_
  refine c_int H fun u s1 H => ?_
  refine wpAny_items_nil ?_
  refine x_range1 (n := 5) H (by omega) R'.handled fun xv s1 H IT _ => ?_
  refine ⟨_, _, _, _, _, fun k fs => ∃ (o : Obj) (f : Str → Option Value) (l' : List (Str × Value)), fs = [(d, .raw o), (L, .loc l')] ∧ k ≤ 5 ∧ DV PySem.Challenge.pw_if0009_01 w o f (2 * k) ∧ (∀ j, j < k → ∃ t, f (tx [os.getD j 0]) = some (.str (tx (nameOf os num j)) t)) ∧
      look l' "names" = some (.ref d) ∧ look l' "signs" = some (.ref ls) ∧ look l' "number" = some (.int num tn), IT, H, ?_, ?_, ?_⟩
  · exact ⟨_, _, _, rfl, by decide, hd0, fun j hj => absurd hj (Nat.not_lt_zero _), by kwd_rel, by kwd_rel, by kwd_rel⟩
  · rintro k i v fs I o1 s1 hk ⟨tv, rfl⟩ ⟨o, f, l', rfl, hk5, hdv, hf, e1, e2, e3⟩ H
    obtain ⟨rfl, hlt⟩ := range_item hk
    obtain ⟨t0, hs0⟩ := sg 0 (by decide)
    obtain ⟨tk, hsk⟩ := sg i hlt
    refine wpAny_assign_Name ?_
    refine st_local he (by tb_start) (by tb_start) H (by kwd_inv) fun s1 H => ?_  -- k
    refine W_gen fun Q1 hQ1 => ?_
    refine wpAny_execs_cons ?_
    refine wpAny_Assign_Subscript ?_
    refine x_call he (by tb_start) (by tb_start) (by tb_start) (X.G.up H) X.n_quote rfl rfl ?_
    refine wpAny_items_cons ?_
    refine Subscript_ ?_
    refine n_local he (by tb_start) (by tb_start) (by tb_start) (by tb_rel) (by kwd_rel) ?_
    refine n_local he (by tb_start) (by tb_start) (by tb_start) (by tb_rel) (by kwd_rel) ?_
    refine l_item (its := ss) (by tb_rel) (by omega) hsk (by with_unfolding_all rfl) ?_
    refine wpAny_items_nil ?_
    refine call_quote H (hob i hlt) fun u1 s1 H => ?_
    refine n_local he (by tb_start) (by tb_start) (by tb_start) (by tb_rel) (by kwd_rel) ?_
    refine Subscript_ ?_
    refine n_local he (by tb_start) (by tb_start) (by tb_start) (by tb_rel) (by kwd_rel) ?_
    refine n_local he (by tb_start) (by tb_start) (by tb_start) (by tb_rel) (by kwd_rel) ?_
    refine l_item (its := ss) (by tb_rel) (by omega) hsk (by with_unfolding_all rfl) ?_
    refine d_set H (fun o' => by kwd_inv) hdv (by rw [sizeLine_eq]; omega) fun o2 s1 hdv2 H => ?_
    refine wpAny_execs_cons ?_
    have old : ∀ j, j < i → ∀ v1 : Value, (fun y => if y = tx [os.getD i 0] then some v1 else f y) (tx [os.getD j 0]) = f (tx [os.getD j 0]) := fun j hj v1 => by
      have : tx [os.getD j 0] ≠ tx [os.getD i 0] := fun e => by
        have := tx_inj e
        injection this with this _
        exact absurd (hinj j i (by omega) hlt this) (by omega)
      show (if _ then _ else _) = _
      rw [if_neg this]
    have es : (num : Int) / 2 ^ ((i : Int)).toNat = ((num / 2 ^ i : Nat) : Int) := by rw [Int.toNat_natCast]; push_cast; rfl
    refine wpAny_If ?_
    refine wpAny_isTrue_BoolOp ?_
    refine wpAny_allTrue_And_cons ?_
    refine wpAny_isTrue_Compare1 ?_
    refine n_local he (by tb_start) (by tb_start) (by tb_start) (by tb_rel) (by kwd_rel) ?_
    refine c_int H fun u2 s1 H => ?_
    refine gt_int ?_
    refine wpAny_truthy_bool ?_
    by_cases h0 : 0 < i
    · rw [if_pos (by simpa using h0)]
      refine wpAny_allTrue_And_cons ?_
      refine wpAny_isTrue_Compare1 ?_
      refine wpAny_BinOp ?_
      refine wpAny_BinOp ?_
      refine n_local he (by tb_start) (by tb_start) (by tb_start) (by tb_rel) (by kwd_rel) ?_
      refine n_local he (by tb_start) (by tb_start) (by tb_start) (by tb_rel) (by kwd_rel) ?_
      refine o_shr H (by omega) fun u3 s1 H => ?_
      refine c_int H fun u4 s1 H => ?_
      rw [es]
      refine o_and H (Int.natCast_nonneg _) (by omega) fun u5 s1 H => ?_
      refine c_int H fun u6 s1 H => ?_
      refine o_eq ?_
      refine wpAny_truthy_bool ?_
      rw [Int.toNat_natCast]
      have ec : (((num / 2 ^ i &&& (1 : Int).toNat : Nat) : Int) == 1) = (num / 2 ^ i &&& 1 == 1) := by
        show (((num / 2 ^ i &&& 1 : Nat) : Int) == 1) = _
        generalize num / 2 ^ i &&& 1 = m
        by_cases h : m = 1
        · subst h; rfl
        · rw [beq_eq_false_iff_ne.mpr h, beq_eq_false_iff_ne.mpr (by omega)]
      rw [ec]
      by_cases hb : num / 2 ^ i &&& 1 = 1
      · rw [if_pos (by simpa using hb)]
        refine wpAny_allTrue_And_nil ?_
        rw [if_pos rfl]
        refine wpAny_execs_cons ?_
        refine wpAny_Assign_Subscript ?_
        refine wpAny_BinOp ?_
        refine x_call he (by tb_start) (by tb_start) (by tb_start) (X.G.up H) X.n_quote rfl rfl ?_
        refine wpAny_items_cons ?_
        refine Subscript_ ?_
        refine n_local he (by tb_start) (by tb_start) (by tb_start) (by tb_rel) (by kwd_rel) ?_
        refine c_int H fun u7 s1 H => ?_
        refine l_item (its := ss) (by tb_rel) (by omega) hs0 (by with_unfolding_all rfl) ?_
        refine wpAny_items_nil ?_
        refine call_quote H (hob 0 (by decide)) fun u8 s1 H => ?_
        refine x_call he (by tb_start) (by tb_start) (by tb_start) (X.G.up H) X.n_quote rfl rfl ?_
        refine wpAny_items_cons ?_
        refine Subscript_ ?_
        refine n_local he (by tb_start) (by tb_start) (by tb_start) (by tb_rel) (by kwd_rel) ?_
        refine n_local he (by tb_start) (by tb_start) (by tb_start) (by tb_rel) (by kwd_rel) ?_
        refine l_item (its := ss) (by tb_rel) (by omega) hsk (by with_unfolding_all rfl) ?_
        refine wpAny_items_nil ?_
        refine call_quote H (hob i hlt) fun u9 s1 H => ?_
        refine o_catT H (by rw [sizeLine_eq]; exact Nat.le_of_ble_eq_true rfl) fun u10 s1 H => ?_
        refine n_local he (by tb_start) (by tb_start) (by tb_start) (by tb_rel) (by kwd_rel) ?_
        refine Subscript_ ?_
        refine n_local he (by tb_start) (by tb_start) (by tb_start) (by tb_rel) (by kwd_rel) ?_
        refine n_local he (by tb_start) (by tb_start) (by tb_start) (by tb_rel) (by kwd_rel) ?_
        refine l_item (its := ss) (by tb_rel) (by omega) hsk (by with_unfolding_all rfl) ?_
        refine d_set H (fun o' => by kwd_inv) hdv2 (by rw [sizeLine_eq]; omega) fun o3 s1 hdv3 H => ?_
        refine wpAny_execs_nil ?_
        refine wpAny_execs_nil ?_
        refine hQ1 _ _ ?_
        refine ⟨_, H, o3, _, _, rfl, by omega, hdv3, fun j hj => ?_, by kwd_rel, by kwd_rel, by kwd_rel⟩
        by_cases hji : j = i
        · subst hji
          refine ⟨u10, ?_⟩
          show (if _ then _ else _) = _
          rw [if_pos rfl]
          unfold nameOf
          rw [if_pos ⟨h0, hb⟩]
        · obtain ⟨tt, ht⟩ := hf j (by omega)
          refine ⟨tt, ?_⟩
          have hne : tx [os.getD j 0] ≠ tx [os.getD i 0] := fun e => by
            have := tx_inj e
            injection this with this _
            exact hji (hinj j i (by omega) hlt this)
          show (if _ then _ else (if _ then _ else _)) = _
          rw [if_neg hne, if_neg hne]
          exact ht
      · rw [if_neg (by simpa using hb), if_neg (by decide)]
        refine wpAny_execs_nil ?_
        refine wpAny_execs_nil ?_
        refine hQ1 _ _ ?_
        refine ⟨_, H, o2, _, _, rfl, by omega, ⟨hdv2.choose, hdv2.choose_spec.1, hdv2.choose_spec.2.1, by have := hdv2.choose_spec.2.2; omega⟩, fun j hj => ?_, by kwd_rel, by kwd_rel, by kwd_rel⟩
        by_cases hji : j = i
        · subst hji
          refine ⟨u1, ?_⟩
          show (if _ then _ else _) = _
          rw [if_pos rfl]
          unfold nameOf
          rw [if_neg (fun q => hb q.2)]
        · obtain ⟨tt, ht⟩ := hf j (by omega)
          exact ⟨tt, (old j (by omega) _).trans ht⟩
    · rw [if_neg (by simpa using h0), if_neg (by decide)]
      refine wpAny_execs_nil ?_
      refine wpAny_execs_nil ?_
      refine hQ1 _ _ ?_
      refine ⟨_, H, o2, _, _, rfl, by omega, ⟨hdv2.choose, hdv2.choose_spec.1, hdv2.choose_spec.2.1, by have := hdv2.choose_spec.2.2; omega⟩, fun j hj => ?_, by kwd_rel, by kwd_rel, by kwd_rel⟩
      by_cases hji : j = i
      · subst hji
        refine ⟨u1, ?_⟩
        show (if _ then _ else _) = _
        rw [if_pos rfl]
        unfold nameOf
        rw [if_neg (fun q => h0 q.1)]
      · obtain ⟨tt, ht⟩ := hf j (by omega)
        exact ⟨tt, (old j (by omega) _).trans ht⟩
  · rintro fs s1 ⟨o, f, l', rfl, hk5, hdv, hf, e1, e2, e3⟩ H
    refine wpAny_execs_cons ?_
    refine wpAny_Return_some ?_
    refine n_local he (by tb_start) (by tb_start) (by tb_start) (by tb_rel) e1 ?_
    rw [List.length_range] at hdv hf
    exact ⟨d, o, f, rfl, hdv, hf, H.new' (.head _), H.get (.head _), H.keeps⟩
end Mine
end

section
open PySem PySem.Calls PySem.Spec PyProof.Rows PySem.W
set_option Elab.async false
set_option maxRecDepth 100000
namespace Mine

section
variable {prog : Program} {w : World} {A : Around} {s : Shared} {σ : Shared} {h₀ : Heap} {fs : Led} {K : Frag} {C x dx : Addr} {ox : Obj} {name : Str} {v : Value} {es : List DictEntry} {n : Nat}

/-- an attribute is set -/
theorem x_setattr {fs' : Tok → Led} {Q : Unit → Shared → Prop} (X : K.In s.heap) (I : InstAt s.heap x ox C (some (dictOf es n))) (hd : ox.dict = some dx) (H : S σ h₀ fs s)
    (U : ∀ tk, Mine.Upd dx (.raw (dictOf es n)) (.raw (dictOf (putL name (PyData.keyHash w.params name) (.str name tk) v es) (putN name es n))) fs (fs' tk))
    (hs : findIn K (.ref C) "__setattr__" = some (some (.builtin "object.__setattr__"))) (hp : plainOver K C = true) (ht : takerIn K C name = some none) (hh : (clsIn K C).any (·.hasDict) = true) (hl : (getL name es).isSome = true)
    (hz : ∀ tk, (putL name (PyData.keyHash w.params name) (.str name tk) v es).length ≤ 1000) (h : ∀ tk s', S σ h₀ (fs' tk) s' → Q () s') : Wp prog w A (setAttr (.ref x) name v) Q s := by
  refine set_plain X I hs ?_
  refine osa_open (s := { s with toks := s.toks + 1 }) X I hp ht fun b => ?_
  obtain ⟨cd, hc, hd'⟩ := any_some hh
  have D : s.heap.get? dx = some (dictOf es n) := H.get (U 0).mem
  obtain ⟨hx, hcl, hn, -⟩ := I
  obtain ⟨oc, odi, oda, osl⟩ := ox
  dsimp only at hcl hd
  subst hcl hd
  refine wpAny_bind (wpAny_pure (wpAny_bind (wpAny_bind (wpAny_loadPart hx (wpAny_bind (Looks.here (s := { s with toks := s.toks + 1 }) (looks_clsIn X hc) ?_))))))
  rw [hd']
  refine wpAny_pure (a := some dx) (wpAny_bind (wpAny_pure (wpAny_bind ?_)))
  unfold nsSet
  refine wpAny_bind (wpAny_bind (wpAny_askSetting (wpAny_pure (wpAny_bind (wpAny_mkText (wpAny_bind (wpAny_loadPart D ?_)))))))
  have hl' : (lookIn name (dictOf es n)).isSome = true := hl
  unfold lookIn at hl'
  dsimp only [dictOf] at hl' ⊢
  have c : (!es.toArray.any (·.key.isStr name) && es.toArray.any (·.refKey)) = false := by
    rw [← Array.any_toList, ← Array.any_toList]
    split at hl'
    · rename_i en he
      rw [List.any_eq_true.mpr ⟨en, List.mem_of_find?_eq_some he, List.find?_some he⟩]; rfl
    · split at hl'
      · cases hl'
      · rename_i z; rw [Bool.not_eq_true] at z; rw [z, Bool.and_false]
  rw [aRefKeyMayBeTheName_at, c]
  refine wpAny_updatePart D ?_
  have e := putName_dict name (PyData.keyHash w.params name) (.str name (s.toks + 1)) v es n
  have D' : (s.heap.update dx (Obj.putName name (PyData.keyHash w.params name) (.str name (s.toks + 1)) v)).get? dx = some (dictOf (putL name (PyData.keyHash w.params name) (.str name (s.toks + 1)) v es) (putN name es n)) := by
    rw [← e]; exact Heap.get?_update_self _ D (by rw [e]; rfl)
  refine wpAny_bind (wpAny_lookBehind D' (pastItsLine_dict (by rw [List.size_toArray, sizeLine_eq]; have := hz (s.toks + 1); omega)) ?_)
  have H' : S σ h₀ (fs' (s.toks + 1)) { s with heap := s.heap.update dx (Obj.putName name (PyData.keyHash w.params name) (.str name (s.toks + 1)) v), toks := s.toks + 1 + 1 } :=
    H.upd (U (s.toks + 1)) _ (Heap.SameBut.update ..).extBut D'
  exact wpAny_pure (h _ _ H')
end
end Mine
end

section
open PySem PySem.Calls PySem.Spec PyProof.Rows PySem.W
set_option Elab.async false
set_option maxRecDepth 100000
namespace Mine

local macro_rules | `(tactic| tb_rel) => `(tactic| first | exact S.get (by assumption) (by k_mem) | assumption | (refine S.up (by assumption) ?_; tb_rel))
local macro_rules | `(tactic| kwd_rel) => `(tactic| first | (with_reducible exact look_head) | (with_reducible exact lk_head) | assumption | (refine look_tail (by kernel_rfl) ?_; kwd_rel) | (refine lk_tail (by kernel_rfl) ?_; kwd_rel))
local macro_rules | `(tactic| kwd_inv) => `(tactic| first | (with_reducible exact Upd.head) | (with_reducible apply Upd.tail; kwd_inv))
local macro_rules | `(tactic| kwd_less) => `(tactic| first | exact List.Sublist.refl _ | (refine List.Sublist.cons_cons _ ?_; kwd_less) | (refine List.Sublist.cons _ ?_; kwd_less))
local macro_rules | `(tactic| tb_start) => `(tactic| first | kernel_rfl | decide +kernel)

theorem Room.made {A : Around} {d u : Nat} (R : Room A (d + 1) (u + 1)) (C : Addr) (rest : List Value) : Room (A.under (.builtin "type.__call__" ⟨.ref C :: rest, []⟩)) d u := by
  have e1 : (Code.builtin "type.__call__" ⟨.ref C :: rest, []⟩).weight = 1 := rfl
  have e2 : (Code.builtin "type.__call__" ⟨.ref C :: rest, []⟩).cUnits = 1 := rfl
  refine ⟨R.handled, ?_, ?_⟩
  · show A.depth + (Code.builtin "type.__call__" ⟨.ref C :: rest, []⟩).weight + d < _
    rw [e1]; have := R.depth; omega
  · show A.units + (Code.builtin "type.__call__" ⟨.ref C :: rest, []⟩).cUnits + u < _
    rw [e2]; have := R.units; omega

section
variable {prog : Program} {w : World} {A : Around} {s : Shared} {σ : Shared} {h₀ : Heap} {fs : Led} {a : Addr} {nm qn : Str} {args : Arguments} {body : List Stmt} {sc : Scope} {vals : List Value} {ns : List Str}
/-- a def within a class is called from a ledger; told as a code -/
theorem enterL {R : Result → Shared → Prop} (H : S σ h₀ fs s) (F : IsFnQ a nm qn args body sc s.heap) (hlim : s.heap.NoLimit) {d u : Nat} (Rm : Room A (d + 1) (u + 3)) {lb : List (Str × Value)}
    (hbind : ∀ doc pm an cdv ct, bindArgs (W.fnOf nm qn args body sc .none .none doc pm an cdv ct) ⟨vals, []⟩ = pure (ns.zip vals)) (hlb : (ns.zip vals).reverse = lb)
    (hcell : (sc.names.all fun x => x.2 != .cell) = true) (hloc : (ns.all fun x => decide (sc.names.lookup x = some .local)) = true)
    (hco : sc.isCoroutine = false) (hgen : sc.isGenerator = false) (hk : sc.kind = .function)
    (h : ∀ (A' : Around) (env : Env) (L : Addr) (s₁ : Shared), Room A' d u → EnvAt env sc L [] → S σ h₀ ((L, .loc lb) :: fs) s₁ →
      Wp prog w A' (execs body env) (fun f s' => R (.ok (.ret (match f with | .ret v => v | _ => .none))) s') s₁) :
    codeAny (model prog w) A (.call (.ref a) ⟨vals, []⟩) R s := by
  obtain ⟨o, doc, pm, an, cdv, ct, ho, hd, hc⟩ := F.ex
  refine codeAny_call_def (fd := W.fnOf nm qn args body sc .none .none doc pm an cdv ct) (body := body) (binds := ns.zip vals) (by have := Rm.depth; omega) ho hd hlim hc rfl (.of_eq (hbind ..))
    (fun x hx => by simpa using List.all_eq_true.mp hcell x hx) (fun x hx => by simpa using List.all_eq_true.mp hloc x.1 (List.of_mem_zip hx).1) (fun h₁ hns hk₁ => ?_) hco hgen hk
  refine wpAny_mono (h _ _ s.heap.objs.size _ (Rm.deeper _) ⟨rfl, rfl, rfl, rfl, rfl⟩ ?_) (fun f s' hq => hq) (fun _ _ q => q.elim)
  exact H.add ⟨h₁, _, rfl, hk₁⟩ (get_size_none _) ⟨_, hns, fun x v e => look_of_lookup (by rw [hlb]; exact e)⟩

theorem x_new {K : Frag} {C fI : Addr} {rest : List Value} {Q : Value → Shared → Prop} (X : K.In s.heap) (hm : makesIn K C = true) (hi : findIn K (.ref C) "__init__" = some (some (.ref fI))) (hf : typeIn K (.ref fI) = some (.type "function"))
    (H : S σ h₀ fs s) (h : ∀ x dx s', S σ h₀ ((x, .raw (instObj C dx)) :: (dx, .raw (dictOf [] 0)) :: fs) s' →
      codeAny (model prog w) (A.under (.builtin "type.__call__" ⟨.ref C :: rest, []⟩)) (.call (.ref fI) ⟨.ref x :: rest, []⟩) (InitBack x fun r s' => match r with | .ok (.ret v) => Q v s' | _ => False) s') :
    Wp prog w A (call (.ref C) rest) Q s := by
  have H1 := H.push emptyDict s.toks
  have H2 := H1.push (instObj C s.heap.objs.size) s.toks
  rw [show (s.heap.push emptyDict).objs.size = s.heap.objs.size + 1 from Heap.size_push _ _] at H2
  have hq := h _ _ _ H2
  obtain ⟨hh, g, dr, t, os⟩ := s
  refine wpAny_call (codeAny_mono (make_core (makes_of X hm) (looks_findIn X hi) (fun self => bind_fn X self hf) (.inl rfl) hq) fun r s' z => ?_)
  rcases r with e | (v | _ | _ | _) <;> first | exact z | exact z.elim
end

/-- what the written part tells of the two classes -/
structure Kf (K : Frag) (T : Ad) (mi ci : Addr) : Prop where
  mk_m : makesIn K T.mgr = true
  in_m : findIn K (.ref T.mgr) "__init__" = some (some (.ref mi))
  ty_m : typeIn K (.ref mi) = some (.type "function")
  kp_m : keepIn K (.ref T.mgr) = true
  sa_m : findIn K (.ref T.mgr) "__setattr__" = some (some (.builtin "object.__setattr__"))
  po_m : plainOver K T.mgr = true
  tk_m : takerIn K T.mgr "passwd" = some none
  hd_m : (clsIn K T.mgr).any (·.hasDict) = true
  ga_m : findIn K (.ref T.mgr) "__getattribute__" = some (some (.builtin "object.__getattribute__"))
  gt_m : findIn K (.ref T.mgr) "__getattr__" = some none
  su_m : findIn K (.ref T.mgr) "is_suburi" = some (some (.ref T.isub))
  ts_m : typeIn K (.ref T.isub) = some (.type "function")
  mk_c : makesIn K T.ctx = true
  in_c : findIn K (.ref T.ctx) "__init__" = some (some (.ref ci))
  ty_c : typeIn K (.ref ci) = some (.type "function")
  kp_c : keepIn K (.ref T.ctx) = true
  sa_c : findIn K (.ref T.ctx) "__setattr__" = some (some (.builtin "object.__setattr__"))
  po_c : plainOver K T.ctx = true
  tk_r : takerIn K T.ctx "root" = some none
  tk_i : takerIn K T.ctx "iter" = some none
  tk_p : takerIn K T.ctx "parent_map" = some none
  hd_c : (clsIn K T.ctx).any (·.hasDict) = true
  hh_c : hasDictIn K T.ctx = true
  ga_c : findIn K (.ref T.ctx) "__getattribute__" = some (some (.builtin "object.__getattribute__"))
  gt_c : findIn K (.ref T.ctx) "__getattr__" = some none
  fr_c : findIn K (.ref T.ctx) "root" = some none
  fi_c : findIn K (.ref T.ctx) "iter" = some none
  fp_c : findIn K (.ref T.ctx) "parent_map" = some (some .none)
  sp_c : specialIn K .none "__get__" = some none
  np_c : noGet K (some .none) = true
  nr_c : noGet K none = true

section
variable {prog : Program} {w : World} {A : Around} {s : Shared} {σ : Shared} {h₀ : Heap} {fs : Led} {K : Frag} {pos : Pos} {env : Env} {sc : Scope} {L : Addr} {cs : List (Str × Addr)}
/-- a class of the text, by its name, with nothing -/
theorem x_cls0 {mg mb : Str → Option Value} {f : Str} {fp : Pos} {C : Addr} {Q : Value → Shared → Prop} (he : EnvAt env sc L cs) (hl : sc.names.lookup f = some .globalImplicit) (hk : sc.kind = .function) (hd : (f == ("__debug__" : Str)) = false)
    (G : Gnd mg mb s.heap) (hv : mg f = some (.ref C)) (X : K.In s.heap) (hkp : keepIn K (.ref C) = true) (h : Wp prog w A (call (.ref C) []) Q s) : Wp prog w A (eval (.Call (.Name f fp) [] [] pos) env) Q s := by
  refine Call_Name rfl (n_global he hl hk hd G hv ?_)
  refine callWith_of (P := fun H => K.In H) rfl (fun H hP => keeps_K hkp H hP) (PySem.evalArgs_none ⟨X, h⟩)
theorem x_cls1 {mg mb : Str → Option Value} {f : Str} {fp : Pos} {C : Addr} {e : Expr} {Q : Value → Shared → Prop} (he : EnvAt env sc L cs) (hl : sc.names.lookup f = some .globalImplicit) (hk : sc.kind = .function) (hd : (f == ("__debug__" : Str)) = false)
    (G : Gnd mg mb s.heap) (hv : mg f = some (.ref C)) (hkp : keepIn K (.ref C) = true) (hst : starEach [e] env = [(false, eval e env)])
    (h : Wp prog w A (spliced (backTo pos (starEach [e] env))) (fun vs s₁ => K.In s₁.heap ∧ Wp prog w A (call (.ref C) vs) Q s₁) s) : Wp prog w A (eval (.Call (.Name f fp) [e] [] pos) env) Q s := by
  refine Call_Name rfl (n_global he hl hk hd G hv ?_)
  rw [hst] at h ⊢
  exact callWith_of (P := fun H => K.In H) rfl (fun H hP => keeps_K hkp H hP) (evalArgs_plain h)
/-- a def that a lookup gave, with what comes first -/
theorem x_callM {a : Addr} {nm qn : Str} {ar : Arguments} {b : List Stmt} {sc' : Scope} {first : List Value} {e : Expr} {rest : List Expr} {Q : Value → Shared → Prop} (hst : starEach (e :: rest) env = (false, eval e env) :: starEach rest env) (hplain : (backTo pos (starEach rest env)).any (·.1) = false)
    (h : Wp prog w A (spliced (backTo pos (starEach (e :: rest) env))) (fun vs s₁ => IsFnQ a nm qn ar b sc' s₁.heap ∧ Wp prog w A (call (.ref a) (first ++ vs)) Q s₁) s) :
    Wp prog w A (callWith pos (.ref a) first (backTo pos (starEach (e :: rest) env)) []) Q s := by
  rw [hst] at h ⊢
  refine callWith_of (P := fun H => IsFnQ a nm qn ar b sc' H) (by show ((false || (backTo pos (starEach rest env)).any (·.1)) || false) = false; rw [hplain]; rfl) (fun H hP => ⟨.frame, .inl rfl, ?_⟩) (evalArgs_plain h)
  obtain ⟨o, doc, pm, an, cdv, ct, ho, hdd, _⟩ := hP
  exact (Looks.ld (part := none) ho).andThen (by rw [hdd]; exact .now)
end

theorem c_mgr {T : Ad} {mg mb : Str → Option Value} {w : World} {A : Around} {s : Shared} {σ : Shared} {h₀ : Heap} {fs : Led} {K : Frag} {mi ci : Addr} {Q : Value → Shared → Prop} (kf : Kf K T mi ci) (X : K.In s.heap) (Xk : K.In h₀) (G : Gnd mg mb h₀) (H : S σ h₀ fs s) (R : Room A 3 40)
    (F : IsFnQ mi (methAt 2 0).1 (Str.ofString "HTTPPasswordMgr.__init__") (methAt 2 0).2.1 (methAt 2 0).2.2.1 (methAt 2 0).2.2.2 h₀)
    (h : ∀ x dx es n s', getL (Str.ofString "is_suburi") es = some none → S σ h₀ ((x, .raw (instObj T.mgr dx)) :: (dx, .raw (dictOf es n)) :: fs) s' → Q (.ref x) s') :
    Wp PySem.Challenge.pw_if0009_01 w A (call (.ref T.mgr) []) Q s := by
  refine x_new X kf.mk_m kf.in_m kf.ty_m H fun x dx s1 H => ?_
  refine enterL (d := 1) (u := 36) H (F.keeps H.keep) (G.up H).nolimit ((Room.made (d := 2) (u := 39) R _ _)) (ns := ["self"]) (lb := [("self", .ref x)]) (fun _ _ _ _ _ => by kernel_rfl) rfl (by tb_start) (by tb_start) (by tb_start) (by tb_start) (by tb_start) fun A' env L s1 R' he H => ?_
  refine wpAny_execs_cons ?_
  refine plainObj_wpAny_Assign_Attribute ?_
  refine d_new (prog := PySem.Challenge.pw_if0009_01) (w := w) H fun d o₀ s1 hd0 H => ?_
  refine n_local he (by tb_start) (by tb_start) (by tb_start) (by tb_rel) (by kwd_rel) ?_
  have hx : s1.heap.get? x = some (instObj T.mgr dx) := H.get (a := x) (f := .raw (instObj T.mgr dx)) (by k_mem)
  have hdx : s1.heap.get? dx = some (dictOf [] 0) := H.get (a := dx) (f := .raw (dictOf [] 0)) (by k_mem)
  refine x_setattr (K := K) (C := T.mgr) (x := x) (dx := dx) (ox := instObj T.mgr dx) (es := []) (n := 0) (Xk.keeps H.keep) ⟨hx, rfl, rfl, hdx⟩ rfl H (fun tk => by kwd_inv) kf.sa_m kf.po_m kf.tk_m kf.hd_m rfl (fun tk => by show (1 : Nat) ≤ 1000; decide) fun tk s1 H => ?_
  refine wpAny_execs_nil ?_
  refine ⟨rfl, h x dx _ _ _ ?_ (H.drop (by kwd_less))⟩
  rfl
end Mine
end

section
open PySem PySem.Calls PySem.Spec PyProof.Rows PySem.W
set_option Elab.async false
set_option maxRecDepth 100000
namespace Mine

local macro_rules | `(tactic| tb_rel) => `(tactic| first | exact S.get (by assumption) (by k_mem) | assumption | (refine S.up (by assumption) ?_; tb_rel))
local macro_rules | `(tactic| kwd_rel) => `(tactic| first | (with_reducible exact look_head) | (with_reducible exact lk_head) | assumption | (refine look_tail (by kernel_rfl) ?_; kwd_rel) | (refine lk_tail (by kernel_rfl) ?_; kwd_rel))
local macro_rules | `(tactic| kwd_inv) => `(tactic| first | (with_reducible exact Upd.head) | (with_reducible apply Upd.tail; kwd_inv))
local macro_rules | `(tactic| kwd_less) => `(tactic| first | exact List.Sublist.refl _ | (refine List.Sublist.cons_cons _ ?_; kwd_less) | (refine List.Sublist.cons _ ?_; kwd_less))
local macro_rules | `(tactic| tb_start) => `(tactic| first | kernel_rfl | decide +kernel)

theorem vb (a b : Bool) : (Value.bool a == Value.bool b) = (a == b) := by cases a <;> cases b <;> decide +kernel

/-- what is in the box of one path -/
noncomputable def maskAt (ps : List (List Nat)) (k : Nat) : Nat → Nat
  | 0 => 0
  | j + 1 => maskAt ps k j + if subOf [104] (ps.getD k []) [104] (ps.getD j []) = true then 2 ^ j else 0
noncomputable def masksOf (ps : List (List Nat)) : List Nat := (List.range 5).map fun k => maskAt ps k 5
structure PathsOk (ps : List (List Nat)) : Prop where
  len : ps.length = 5
  pos : ∀ k, k < 5 → 0 < (ps.getD k []).length
  small : ∀ k, k < 5 → (ps.getD k []).length ≤ 900
  ok : ∀ k, k < 5 → ∀ c ∈ ps.getD k [], c < 1114112
  below : ∀ k j, k < 5 → j < 5 → subOf [104] (ps.getD k [] ++ [47]) [104] (ps.getD j []) = (subOf [104] (ps.getD k []) [104] (ps.getD j []) && (j != k))
  beside : ∀ k j, k < 5 → j < 5 → subOf [104] (ps.getD k []) [104] ([47, 120] ++ ps.getD j []) = false

section
variable {prog : Program} {w : World} {A : Around} {s : Shared} {σ : Shared} {h₀ : Heap} {fs : Led} {K : Frag} {mi ci : Addr} {T : Ad} {x dx : Addr} {es : List DictEntry} {n : Nat} {env : Env} {pos : Pos}
theorem m_isub {pl : Sem Bool} {Q : Value × List Value → Shared → Prop} (kf : Kf K T mi ci) (X : K.In s.heap) (H : S σ h₀ fs s) (m1 : (x, Fact.raw (instObj T.mgr dx)) ∈ fs) (m2 : (dx, Fact.raw (dictOf es n)) ∈ fs) (hn : getL (Str.ofString "is_suburi") es = some none)
    (h : Q (.ref T.isub, [.ref x]) s) : Wp prog w A (getMethod (.ref x) "is_suburi" pl) Q s := by
  have hx : s.heap.get? x = some (instObj T.mgr dx) := H.get m1
  have hdx : s.heap.get? dx = some (dictOf es n) := H.get m2
  refine method_fn (C := T.mgr) (od := some (dictOf es n)) X ⟨hx, rfl, rfl, hdx⟩ kf.ga_m kf.gt_m kf.su_m kf.ts_m ?_ h
  have e : lookIn "is_suburi" (dictOf es n) = some none := hn
  show (lookIn "is_suburi" (dictOf es n)).map (·.isSome) = some false
  rw [e]; rfl
theorem x_isub {mg mb : Str → Option Value} {a b : Addr} {h1 p1 h2 p2 : List Nat} {t1 t2 t3 t4 : Tok} {Q : Value → Shared → Prop} (X : Tp T mg mb h₀)
    (F : IsFnQ T.isub (methAt 2 4).1 (Str.ofString "HTTPPasswordMgr.is_suburi") (methAt 2 4).2.1 (methAt 2 4).2.2.1 (methAt 2 4).2.2.2 h₀) (H : S σ h₀ fs s) (R : Room A 1 100)
    (ma : (a, Fact.tup [.str (tx h1) t1, .str (tx p1) t2]) ∈ fs) (mb' : (b, Fact.tup [.str (tx h2) t3, .str (tx p2) t4]) ∈ fs)
    (k1 : ∀ c ∈ h1, c < 1114112) (k2 : ∀ c ∈ p1, c < 1114112) (k3 : ∀ c ∈ h2, c < 1114112) (k4 : ∀ c ∈ p2, c < 1114112) (hp : 0 < p1.length) (hz : p1.length ≤ 1000)
    (h : ∀ s', S σ h₀ fs s' → Q (.bool (subOf h1 p1 h2 p2)) s') : Wp PySem.Challenge.pw_if0009_01 w A (call (.ref T.isub) ([.ref x] ++ [.ref a, .ref b])) Q s := by
  refine wpAny_mono (c_suburi (X.keeps H.keep) (F.keeps H.keep) R (H.get ma) (H.get mb') (okT_of k1) (okT_of k2) (okT_of k3) (okT_of k4) hp hz) (fun v s' hv => ?_) fun _ _ e => e.elim
  obtain ⟨rfl, kk⟩ := hv
  exact h _ (H.grow kk)
theorem x_callS {a : Addr} {first : List Value} {e : Expr} {rest : List Expr} {Q : Value → Shared → Prop} (hst : starEach (e :: rest) env = (false, eval e env) :: starEach rest env) (hplain : (backTo pos (starEach rest env)).any (·.1) = false)
    (h : Wp prog w A (spliced (backTo pos (starEach (e :: rest) env))) (fun vs s₁ => IsFnQ a (methAt 2 4).1 (Str.ofString "HTTPPasswordMgr.is_suburi") (methAt 2 4).2.1 (methAt 2 4).2.2.1 (methAt 2 4).2.2.2 s₁.heap ∧ Wp prog w A (call (.ref a) (first ++ vs)) Q s₁) s) :
    Wp prog w A (callWith pos (.ref a) first (backTo pos (starEach (e :: rest) env)) []) Q s := x_callM hst hplain h
theorem b_and {e1 e2 : Expr} {Q : Value → Shared → Prop} (h : Wp prog w A (eval e1 env) (fun v s₁ => Wp prog w A (truthy v) (fun b s₂ => if b = true then Wp prog w A (eval e2 env) Q s₂ else Q v s₂) s₁) s) : Wp prog w A (eval (.BoolOp .And [e1, e2] pos) env) Q s := by
  rw [arm_eval_BoolOp]
  show Wp prog w A (do
    let v ← eval e1 env
    standAt pos
    let t ← holding [v] (truthy v)
    match BoolOp.And, t with
    | .And, false | .Or, true => pure v
    | _, _ => boolOp pos .And [eval e2 env]) Q s
  refine wpAny_bind (wpAny_mono h (fun v s₁ h₁ => wpAny_bind (wpAny_standAt (wpAny_bind (wpAny_holding (wpAny_mono h₁ (fun b s₂ h₂ => ?_) fun _ _ e => e.elim))))) fun _ _ e => e.elim)
  cases b
  · exact wpAny_pure h₂
  · exact h₂
end

set_option maxHeartbeats 4000000 in
theorem c_masks {T : Ad} {mg mb : Str → Option Value} {w : World} {A : Around} {s : Shared} {K : Frag} {mi ci : Addr} {ps : List (List Nat)} {lp : Addr} {vs : List Value} (X : Tp T mg mb s.heap) (kf : Kf K T mi ci) (Xk : K.In s.heap) (n_mgr : mg "HTTPPasswordMgr" = some (.ref T.mgr))
    (Fm : IsFnQ mi (methAt 2 0).1 (Str.ofString "HTTPPasswordMgr.__init__") (methAt 2 0).2.1 (methAt 2 0).2.2.1 (methAt 2 0).2.2.2 s.heap)
    (Fs : IsFnQ T.isub (methAt 2 4).1 (Str.ofString "HTTPPasswordMgr.is_suburi") (methAt 2 4).2.1 (methAt 2 4).2.2.1 (methAt 2 4).2.2.2 s.heap)
    (F : IsDef T.masks 37 s.heap) (R : Room A 4 150) (hl : (Fact.list vs).at s.heap lp) (hp : Paired IsT ps vs) (hok : PathsOk ps) :
    Wp PySem.Challenge.pw_if0009_01 w A (call (.ref T.masks) [.ref lp]) (fun v s' => ∃ a ws, v = .ref a ∧ Paired IsN (masksOf ps) ws ∧ s.heap.get? a = none ∧ (Fact.list ws).at s'.heap a ∧ Keeps s s') s := by
  refine W_gen fun Q hQ => ?_
  refine enter F X.G (d := 3) (u := 147) R (ns := ["paths"]) (lb := [("paths", .ref lp)]) (fun _ _ _ _ _ => by kernel_rfl) rfl (by tb_start) (by tb_start) (by tb_start) (by tb_start) (by tb_start) fun A' env L s1 R' he H => ?_
  refine wpAny_execs_cons ?_
  refine wpAny_Assign_Name ?_
  refine x_cls0 (mg := mg) (mb := mb) (C := T.mgr) he (by tb_start) (by tb_start) (by tb_start) (X.G.up H) n_mgr (Xk.keeps H.keep) kf.kp_m ?_
  refine c_mgr kf (Xk.keeps H.keep) Xk X.G H (R'.less (by omega) (by omega)) Fm fun x dx es n s1 hsu H => ?_
  refine st_local he (by tb_start) (by tb_start) H (by kwd_inv) fun s1 H => ?_
  refine wpAny_execs_cons ?_
  refine wpAny_Assign_Name ?_
  refine l_new ?_
  refine wpAny_items_nil ?_
  refine ⟨by rw [sizeLine_eq]; exact Nat.le_of_ble_eq_true rfl, _, _, _, H, fun a s1 H => ?_⟩
  refine st_local he (by tb_start) (by tb_start) H (by kwd_inv) fun s1 H => ?_
  refine wpAny_execs_cons ?_
  refine f_for (α := Nat) ?_ (fun _ => rfl) (fun _ _ => rfl)
  refine x_typ he (by tb_start) (by tb_start) (by tb_start) (X.G.up H) X.b_range (id := "range") (by tb_start) (by tb_start) rfl rfl ?_
  refine wpAny_items_cons ?_
  refine c_int H fun u s1 H => ?_
  refine wpAny_items_nil ?_
  refine x_range1 (n := 5) H (by omega) R'.handled fun xv s1 H IT _ => ?_
  refine ⟨_, _, _, _, _, fun k fs => ∃ (ws : List Value) (l' : List (Str × Value)), fs = [(a, .list ws), (x, .raw (instObj T.mgr dx)), (dx, .raw (dictOf es n)), (L, .loc l')] ∧ k ≤ 5 ∧ Paired IsN ((List.range k).map fun i => maskAt ps i 5) ws ∧
      look l' "paths" = some (.ref lp) ∧ look l' "manager" = some (.ref x) ∧ look l' "masks" = some (.ref a), IT, H, ?_, ?_, ?_⟩
  · exact ⟨[], _, rfl, by decide, .nil, by kwd_rel, by kwd_rel, by kwd_rel⟩
  · rintro k i v fs I o s1 hk ⟨tv, rfl⟩ ⟨ws, l', rfl, hk5, hws, e1, e2, e3⟩ H
    obtain ⟨rfl, hlt⟩ := range_item hk
    obtain ⟨vk, hvk, tk, rfl⟩ := pget hp (getD_of (d := []) (i := i) (by rw [hok.len]; exact hlt))
    have hsk : vs[((i : Int)).toNat]? = some (.str (tx (ps.getD i [])) tk) := hvk
    refine wpAny_assign_Name ?_
    refine st_local he (by tb_start) (by tb_start) H (by kwd_inv) fun s1 H => ?_
    refine W_gen fun Q1 hQ1 => ?_
    refine wpAny_execs_cons ?_
    refine wpAny_Assign_Name ?_
    refine c_int H fun u0 s1 H => ?_
    refine st_local he (by tb_start) (by tb_start) H (by kwd_inv) fun s1 H => ?_
    refine wpAny_execs_cons ?_
    refine f_for (α := Nat) ?_ (fun _ => rfl) (fun _ _ => rfl)
    refine x_typ he (by tb_start) (by tb_start) (by tb_start) (X.G.up H) X.b_range (id := "range") (by tb_start) (by tb_start) rfl rfl ?_
    refine wpAny_items_cons ?_
    refine c_int H fun u s1 H => ?_
    refine wpAny_items_nil ?_
    refine x_range1 (n := 5) H (by omega) R'.handled fun xv s1 H IT _ => ?_
    refine ⟨_, _, _, _, _, fun j fs => ∃ (l' : List (Str × Value)) (tm : Tok), fs = [(I, .raw o), (a, .list ws), (x, .raw (instObj T.mgr dx)), (dx, .raw (dictOf es n)), (L, .loc l')] ∧ j ≤ 5 ∧
      look l' "paths" = some (.ref lp) ∧ look l' "manager" = some (.ref x) ∧ look l' "masks" = some (.ref a) ∧ look l' "k" = some (.int (i : Int) tv) ∧ look l' "mask" = some (.int ((maskAt ps i j : Nat) : Int) tm), IT, H, ?_, ?_, ?_⟩
    · exact ⟨_, u0, rfl, by decide, by kwd_rel, by kwd_rel, by kwd_rel, by kwd_rel, look_head⟩
    · rintro j i' v fs I2 o2 s1 hj ⟨tj, rfl⟩ ⟨l', tm, rfl, hj5, f1, f2, f3, f4, f5⟩ H
      obtain ⟨rfl, hjt⟩ := range_item hj
      obtain ⟨vj, hvj, tk2, rfl⟩ := pget hp (getD_of (d := []) (i := i') (by rw [hok.len]; exact hjt))
      have hsj : vs[((i' : Int)).toNat]? = some (.str (tx (ps.getD i' [])) tk2) := hvj
      have okk := hok.ok i hlt
      have okj := hok.ok i' hjt
      have pk1 := hok.pos i hlt
      have pk2 := hok.small i hlt
      have pj2 := hok.small i' hjt
      have okks : ∀ c ∈ ps.getD i [] ++ [47], c < 1114112 := fun c hc => by
        rcases List.mem_append.mp hc with h | h
        · exact okk c h
        · obtain rfl := List.mem_singleton.mp h; decide
      have okxj : ∀ c ∈ [47, 120] ++ ps.getD i' [], c < 1114112 := fun c hc => by
        rcases List.mem_append.mp hc with h | h
        · simp only [List.mem_cons, List.not_mem_nil, or_false] at h; omega
        · exact okj c h
      have hbel := hok.below i i' hlt hjt
      have hbes := hok.beside i i' hlt hjt
      have hh1 : subOf [104, 104] (ps.getD i []) [104] (ps.getD i' []) = false := by unfold subOf; simp
      have hh2 : subOf [104] (ps.getD i []) [104, 104] (ps.getD i' []) = false := by unfold subOf; simp
      have hstep : maskAt ps i (i' + 1) = maskAt ps i i' + if subOf [104] (ps.getD i []) [104] (ps.getD i' []) = true then 2 ^ i' else 0 := rfl
      generalize ht : subOf [104] (ps.getD i []) [104] (ps.getD i' []) = t at hbel hstep
      refine wpAny_assign_Name ?_
      refine st_local he (by tb_start) (by tb_start) H (by kwd_inv) fun s1 H => ?_
      refine W_gen fun Q2 hQ2 => ?_
      refine wpAny_execs_cons ?_
      refine wpAny_Assign_Name ?_
      refine MethodCall_ ?_
      refine n_local he (by tb_start) (by tb_start) (by tb_start) (by tb_rel) (by kwd_rel) ?_
      refine m_isub kf (Xk.keeps H.keep) H (by k_mem) (by k_mem) hsu ?_
      refine x_callS (by rfl) (by rfl) ?_
      refine wpAny_items_cons ?_
      refine t_new ?_
      refine wpAny_items_cons ?_
      refine c_tx H [104] (by tb_start) fun u s1 H => ?_
      refine wpAny_items_cons ?_
      refine Subscript_ ?_
      refine n_local he (by tb_start) (by tb_start) (by tb_start) (by tb_rel) (by kwd_rel) ?_
      refine n_local he (by tb_start) (by tb_start) (by tb_start) (by tb_rel) (by kwd_rel) ?_
      refine l_item (its := vs) (by tb_rel) (by omega) hsk (by with_unfolding_all rfl) ?_
      refine wpAny_items_nil ?_
      refine ⟨by rw [sizeLine_eq]; exact Nat.le_of_ble_eq_true rfl, _, _, _, H, fun a1 s1 H => ?_⟩
      refine wpAny_items_cons ?_
      refine t_new ?_
      refine wpAny_items_cons ?_
      refine c_tx H [104] (by tb_start) fun u s1 H => ?_
      refine wpAny_items_cons ?_
      refine Subscript_ ?_
      refine n_local he (by tb_start) (by tb_start) (by tb_start) (by tb_rel) (by kwd_rel) ?_
      refine n_local he (by tb_start) (by tb_start) (by tb_start) (by tb_rel) (by kwd_rel) ?_
      refine l_item (its := vs) (by tb_rel) (by omega) hsj (by with_unfolding_all rfl) ?_
      refine wpAny_items_nil ?_
      refine ⟨by rw [sizeLine_eq]; exact Nat.le_of_ble_eq_true rfl, _, _, _, H, fun b1 s1 H => ?_⟩
      refine wpAny_items_nil ?_
      refine ⟨Fs.keeps H.keep, ?_⟩
      refine x_isub X Fs H (R'.less (by omega) (by omega)) (by k_mem) (by k_mem) (by decide +kernel) okk (by decide +kernel) okj pk1 (by omega) fun s1 H => ?_
      refine st_local he (by tb_start) (by tb_start) H (by kwd_inv) fun s1 H => ?_
      refine wpAny_execs_cons ?_
      refine wpAny_Assign_Name ?_
      refine MethodCall_ ?_
      refine n_local he (by tb_start) (by tb_start) (by tb_start) (by tb_rel) (by kwd_rel) ?_
      refine m_isub kf (Xk.keeps H.keep) H (by k_mem) (by k_mem) hsu ?_
      refine x_callS (by rfl) (by rfl) ?_
      refine wpAny_items_cons ?_
      refine t_new ?_
      refine wpAny_items_cons ?_
      refine c_tx H [104] (by tb_start) fun u s1 H => ?_
      refine wpAny_items_cons ?_
      refine wpAny_BinOp ?_
      refine Subscript_ ?_
      refine n_local he (by tb_start) (by tb_start) (by tb_start) (by tb_rel) (by kwd_rel) ?_
      refine n_local he (by tb_start) (by tb_start) (by tb_start) (by tb_rel) (by kwd_rel) ?_
      refine l_item (its := vs) (by tb_rel) (by omega) hsk (by with_unfolding_all rfl) ?_
      refine c_tx H [47] (by tb_start) fun u s1 H => ?_
      refine o_catT H (by rw [sizeLine_eq, List.length_singleton]; omega) fun u s1 H => ?_
      refine wpAny_items_nil ?_
      refine ⟨by rw [sizeLine_eq]; exact Nat.le_of_ble_eq_true rfl, _, _, _, H, fun a2 s1 H => ?_⟩
      refine wpAny_items_cons ?_
      refine t_new ?_
      refine wpAny_items_cons ?_
      refine c_tx H [104] (by tb_start) fun u s1 H => ?_
      refine wpAny_items_cons ?_
      refine Subscript_ ?_
      refine n_local he (by tb_start) (by tb_start) (by tb_start) (by tb_rel) (by kwd_rel) ?_
      refine n_local he (by tb_start) (by tb_start) (by tb_start) (by tb_rel) (by kwd_rel) ?_
      refine l_item (its := vs) (by tb_rel) (by omega) hsj (by with_unfolding_all rfl) ?_
      refine wpAny_items_nil ?_
      refine ⟨by rw [sizeLine_eq]; exact Nat.le_of_ble_eq_true rfl, _, _, _, H, fun b2 s1 H => ?_⟩
      refine wpAny_items_nil ?_
      refine ⟨Fs.keeps H.keep, ?_⟩
      refine x_isub X Fs H (R'.less (by omega) (by omega)) (by k_mem) (by k_mem) (by decide +kernel) okks (by decide +kernel) okj (by rw [List.length_append]; omega) (by rw [List.length_append, List.length_singleton]; omega) fun s1 H => ?_
      rw [hbel]
      refine st_local he (by tb_start) (by tb_start) H (by kwd_inv) fun s1 H => ?_
      refine wpAny_execs_cons ?_
      refine wpAny_Assign_Name ?_
      refine l_new ?_
      refine wpAny_items_cons ?_
      refine MethodCall_ ?_
      refine n_local he (by tb_start) (by tb_start) (by tb_start) (by tb_rel) (by kwd_rel) ?_
      refine m_isub kf (Xk.keeps H.keep) H (by k_mem) (by k_mem) hsu ?_
      refine x_callS (by rfl) (by rfl) ?_
      refine wpAny_items_cons ?_
      refine t_new ?_
      refine wpAny_items_cons ?_
      refine c_tx H [104, 104] (by tb_start) fun u s1 H => ?_
      refine wpAny_items_cons ?_
      refine Subscript_ ?_
      refine n_local he (by tb_start) (by tb_start) (by tb_start) (by tb_rel) (by kwd_rel) ?_
      refine n_local he (by tb_start) (by tb_start) (by tb_start) (by tb_rel) (by kwd_rel) ?_
      refine l_item (its := vs) (by tb_rel) (by omega) hsk (by with_unfolding_all rfl) ?_
      refine wpAny_items_nil ?_
      refine ⟨by rw [sizeLine_eq]; exact Nat.le_of_ble_eq_true rfl, _, _, _, H, fun a3 s1 H => ?_⟩
      refine wpAny_items_cons ?_
      refine t_new ?_
      refine wpAny_items_cons ?_
      refine c_tx H [104] (by tb_start) fun u s1 H => ?_
      refine wpAny_items_cons ?_
      refine Subscript_ ?_
      refine n_local he (by tb_start) (by tb_start) (by tb_start) (by tb_rel) (by kwd_rel) ?_
      refine n_local he (by tb_start) (by tb_start) (by tb_start) (by tb_rel) (by kwd_rel) ?_
      refine l_item (its := vs) (by tb_rel) (by omega) hsj (by with_unfolding_all rfl) ?_
      refine wpAny_items_nil ?_
      refine ⟨by rw [sizeLine_eq]; exact Nat.le_of_ble_eq_true rfl, _, _, _, H, fun b3 s1 H => ?_⟩
      refine wpAny_items_nil ?_
      refine ⟨Fs.keeps H.keep, ?_⟩
      refine x_isub X Fs H (R'.less (by omega) (by omega)) (by k_mem) (by k_mem) (by decide +kernel) okk (by decide +kernel) okj pk1 (by omega) fun s1 H => ?_
      rw [hh1]
      refine wpAny_items_nil ?_
      refine ⟨by rw [sizeLine_eq]; exact Nat.le_of_ble_eq_true rfl, _, _, _, H, fun g s1 H => ?_⟩
      refine st_local he (by tb_start) (by tb_start) H (by kwd_inv) fun s1 H => ?_
      refine wpAny_execs_cons ?_
      refine ex_expr he (by tb_start) rfl ?_
      refine MethodCall_ ?_
      refine n_local he (by tb_start) (by tb_start) (by tb_start) (by tb_rel) (by kwd_rel) ?_
      refine l_append_m (its := [.bool false]) (by tb_rel) ?_
      refine callWith_method1 ?_
      refine wpAny_items_cons ?_
      refine MethodCall_ ?_
      refine n_local he (by tb_start) (by tb_start) (by tb_start) (by tb_rel) (by kwd_rel) ?_
      refine m_isub kf (Xk.keeps H.keep) H (by k_mem) (by k_mem) hsu ?_
      refine x_callS (by rfl) (by rfl) ?_
      refine wpAny_items_cons ?_
      refine t_new ?_
      refine wpAny_items_cons ?_
      refine c_tx H [104] (by tb_start) fun u s1 H => ?_
      refine wpAny_items_cons ?_
      refine Subscript_ ?_
      refine n_local he (by tb_start) (by tb_start) (by tb_start) (by tb_rel) (by kwd_rel) ?_
      refine n_local he (by tb_start) (by tb_start) (by tb_start) (by tb_rel) (by kwd_rel) ?_
      refine l_item (its := vs) (by tb_rel) (by omega) hsk (by with_unfolding_all rfl) ?_
      refine wpAny_items_nil ?_
      refine ⟨by rw [sizeLine_eq]; exact Nat.le_of_ble_eq_true rfl, _, _, _, H, fun a4 s1 H => ?_⟩
      refine wpAny_items_cons ?_
      refine t_new ?_
      refine wpAny_items_cons ?_
      refine c_tx H [104, 104] (by tb_start) fun u s1 H => ?_
      refine wpAny_items_cons ?_
      refine Subscript_ ?_
      refine n_local he (by tb_start) (by tb_start) (by tb_start) (by tb_rel) (by kwd_rel) ?_
      refine n_local he (by tb_start) (by tb_start) (by tb_start) (by tb_rel) (by kwd_rel) ?_
      refine l_item (its := vs) (by tb_rel) (by omega) hsj (by with_unfolding_all rfl) ?_
      refine wpAny_items_nil ?_
      refine ⟨by rw [sizeLine_eq]; exact Nat.le_of_ble_eq_true rfl, _, _, _, H, fun b4 s1 H => ?_⟩
      refine wpAny_items_nil ?_
      refine ⟨Fs.keeps H.keep, ?_⟩
      refine x_isub X Fs H (R'.less (by omega) (by omega)) (by k_mem) (by k_mem) (by decide +kernel) okk (by decide +kernel) okj pk1 (by omega) fun s1 H => ?_
      rw [hh2]
      refine wpAny_items_nil ?_
      refine l_append H (its := [.bool false]) (by kwd_inv) (by rw [sizeLine_eq]; exact Nat.le_of_ble_eq_true rfl) fun s1 H => ?_
      simp only [List.cons_append, List.nil_append] at H
      refine wpAny_execs_cons ?_
      refine ex_expr he (by tb_start) rfl ?_
      refine MethodCall_ ?_
      refine n_local he (by tb_start) (by tb_start) (by tb_start) (by tb_rel) (by kwd_rel) ?_
      refine l_append_m (its := [.bool false, .bool false]) (by tb_rel) ?_
      refine callWith_method1 ?_
      refine wpAny_items_cons ?_
      refine MethodCall_ ?_
      refine n_local he (by tb_start) (by tb_start) (by tb_start) (by tb_rel) (by kwd_rel) ?_
      refine m_isub kf (Xk.keeps H.keep) H (by k_mem) (by k_mem) hsu ?_
      refine x_callS (by rfl) (by rfl) ?_
      refine wpAny_items_cons ?_
      refine t_new ?_
      refine wpAny_items_cons ?_
      refine c_tx H [104] (by tb_start) fun u s1 H => ?_
      refine wpAny_items_cons ?_
      refine Subscript_ ?_
      refine n_local he (by tb_start) (by tb_start) (by tb_start) (by tb_rel) (by kwd_rel) ?_
      refine n_local he (by tb_start) (by tb_start) (by tb_start) (by tb_rel) (by kwd_rel) ?_
      refine l_item (its := vs) (by tb_rel) (by omega) hsk (by with_unfolding_all rfl) ?_
      refine wpAny_items_nil ?_
      refine ⟨by rw [sizeLine_eq]; exact Nat.le_of_ble_eq_true rfl, _, _, _, H, fun a5 s1 H => ?_⟩
      refine wpAny_items_cons ?_
      refine t_new ?_
      refine wpAny_items_cons ?_
      refine c_tx H [104] (by tb_start) fun u s1 H => ?_
      refine wpAny_items_cons ?_
      refine wpAny_BinOp ?_
      refine c_tx H [47, 120] (by tb_start) fun u s1 H => ?_
      refine Subscript_ ?_
      refine n_local he (by tb_start) (by tb_start) (by tb_start) (by tb_rel) (by kwd_rel) ?_
      refine n_local he (by tb_start) (by tb_start) (by tb_start) (by tb_rel) (by kwd_rel) ?_
      refine l_item (its := vs) (by tb_rel) (by omega) hsj (by with_unfolding_all rfl) ?_
      refine o_catT H (by rw [sizeLine_eq]; simp only [List.length_cons, List.length_nil]; omega) fun u s1 H => ?_
      refine wpAny_items_nil ?_
      refine ⟨by rw [sizeLine_eq]; exact Nat.le_of_ble_eq_true rfl, _, _, _, H, fun b5 s1 H => ?_⟩
      refine wpAny_items_nil ?_
      refine ⟨Fs.keeps H.keep, ?_⟩
      refine x_isub X Fs H (R'.less (by omega) (by omega)) (by k_mem) (by k_mem) (by decide +kernel) okk (by decide +kernel) okxj pk1 (by omega) fun s1 H => ?_
      rw [hbes]
      refine wpAny_items_nil ?_
      refine l_append H (its := [.bool false, .bool false]) (by kwd_inv) (by rw [sizeLine_eq]; exact Nat.le_of_ble_eq_true rfl) fun s1 H => ?_
      simp only [List.cons_append, List.nil_append] at H
      refine wpAny_execs_cons ?_
      refine wpAny_If ?_
      refine wpAny_mono (?_ : Wp _ _ _ _ (fun (b : Bool) s₂ => b = false ∧ s₂ = s1) s1) (fun b s₂ h₂ => ?_) fun _ _ e => e.elim
      · refine wpAny_isTrue_BoolOp ?_
        refine wpAny_allTrue_And_cons ?_
        refine wpAny_isTrue_Compare1 ?_
        refine n_local he (by tb_start) (by tb_start) (by tb_start) (by tb_rel) (by kwd_rel) ?_
        refine c_bool ?_
        refine wpAny_isNot_plain rfl ?_
        refine wpAny_truthy_bool ?_
        rw [vb, ht]
        cases t
        · rw [if_pos (by decide)]
          refine wpAny_allTrue_And_cons ?_
          refine wpAny_isTrue_Compare1 ?_
          refine n_local he (by tb_start) (by tb_start) (by tb_start) (by tb_rel) (by kwd_rel) ?_
          refine c_bool ?_
          refine wpAny_isNot_plain rfl ?_
          refine wpAny_truthy_bool ?_
          rw [vb, ht, if_neg (by decide)]
          exact ⟨rfl, rfl⟩
        · rw [if_neg (by decide)]
          exact ⟨rfl, rfl⟩
      obtain ⟨rfl, rfl⟩ := h₂
      rw [if_neg (by decide)]
      refine wpAny_execs_nil ?_
      refine wpAny_execs_cons ?_
      refine wpAny_If ?_
      refine wpAny_isTrue_BoolOp ?_
      refine wpAny_allTrue_Or_cons ?_
      refine wpAny_isTrue_Compare1 ?_
      refine n_local he (by tb_start) (by tb_start) (by tb_start) (by tb_rel) (by kwd_rel) ?_
      refine wpAny_mono (?_ : Wp _ _ _ _ (fun (v : Value) s₃ => v = .bool (t && (i' != i)) ∧ s₃ = s₂) s₂) (fun v s₃ h₃ => ?_) fun _ _ e => e.elim
      · refine b_and ?_
        refine n_local he (by tb_start) (by tb_start) (by tb_start) (by tb_rel) (by kwd_rel) ?_
        rw [ht]
        refine wpAny_truthy_bool ?_
        cases t
        · rw [if_neg (by decide)]
          exact ⟨rfl, rfl⟩
        · rw [if_pos rfl]
          refine wpAny_Compare1 ?_
          refine n_local he (by tb_start) (by tb_start) (by tb_start) (by tb_rel) (by kwd_rel) ?_
          refine n_local he (by tb_start) (by tb_start) (by tb_start) (by tb_rel) (by kwd_rel) ?_
          refine ne_int ?_
          have e : ((i' : Int) != (i : Int)) = (i' != i) := by
            by_cases h : i' = i
            · subst h; simp
            · rw [bne_iff_ne.mpr h, bne_iff_ne.mpr (by omega)]
          rw [e]
          exact ⟨rfl, rfl⟩
      obtain ⟨rfl, rfl⟩ := h₃
      refine wpAny_isNot_plain rfl ?_
      refine wpAny_truthy_bool ?_
      rw [vb, beq_self_eq_true, if_neg (by decide)]
      refine wpAny_allTrue_Or_cons ?_
      refine wpAny_isTrue_Compare1 ?_
      refine l_comp (α := Bool) (fun b => b) (fun b v => v = .bool b) (fun b y => y = .bool b) he (cl := []) (by kernel_rfl) ⟨(by tb_start), (by tb_start), (by tb_start), (by tb_start)⟩ (fun _ => rfl) ?_
      refine n_local he (by tb_start) (by tb_start) (by tb_start) (by tb_rel) (by kwd_rel) ?_
      have hg : (Fact.list [Value.bool false, .bool false, .bool false]).at s₃.heap g := H.get (by k_mem)
      have hp3 : Paired (fun b v => v = Value.bool b) [false, false, false] [Value.bool false, .bool false, .bool false] := .cons rfl (.cons rfl (.cons rfl .nil))
      refine ⟨_, _, _, _, (Iter.list R'.handled (Heap.PlainList.isList hg) (Heap.PlainList.isList hg)).to hp3, H, ⟨by rw [sizeLine_eq]; exact Nat.le_of_ble_eq_true rfl, ?_, ?_, ?_⟩, fun g4 zs s1 hzs H => ?_⟩
      · rintro b c v rfl e; cases e; rfl
      · rintro b v C env' s3 hm rfl he' hC hkp
        refine ct_one ?_
        have H := S.start s3
        refine wpAny_isTrue_Compare1 ?_
        refine n_local he' (by tb_start) (by tb_start) (by tb_start) (by tb_rel) (by kwd_rel) ?_
        refine c_bool ?_
        refine wpAny_isNot_plain rfl ?_
        refine wpAny_truthy_bool ?_
        rw [vb]
        exact ⟨by cases b <;> rfl, H.keeps⟩
      · rintro b v C env' s3 hm rfl hz he' hC hkp
        have H := S.start s3
        refine n_local he' (by tb_start) (by tb_start) (by tb_start) (by tb_rel) (by kwd_rel) ?_
        exact ⟨rfl, H.keeps⟩
      have hz0 : zs = [] := by cases hzs; rfl
      subst hz0
      refine l_new ?_
      refine wpAny_items_nil ?_
      refine ⟨by rw [sizeLine_eq]; exact Nat.le_of_ble_eq_true rfl, _, _, _, H, fun g5 s1 H => ?_⟩
      have q4 : (Fact.list []).at s1.heap g4 := H.get (by k_mem)
      have q5 : (Fact.list []).at s1.heap g5 := H.get (by k_mem)
      obtain ⟨n4, q4⟩ := q4
      obtain ⟨n5, q5⟩ := q5
      refine ne_dataH (reads_list_at q4 rfl rfl .nil) (reads_list_at q5 rfl rfl .nil) rfl rfl (by have := R'.units; omega) ?_
      refine wpAny_truthy_bool ?_
      rw [if_neg (by decide)]
      refine wpAny_allTrue_Or_nil ?_
      rw [if_neg (by decide)]
      refine wpAny_execs_nil ?_
      refine wpAny_execs_cons ?_
      refine wpAny_If ?_
      refine wpAny_isTrue_value ?_
      refine n_local he (by tb_start) (by tb_start) (by tb_start) (by tb_rel) (by kwd_rel) ?_
      rw [ht]
      refine wpAny_truthy_bool ?_
      cases t
      · rw [if_neg (by decide)]
        refine wpAny_execs_nil ?_
        refine wpAny_execs_nil ?_
        refine hQ2 _ _ ?_
        refine ⟨_, H.drop (by kwd_less), _, tm, rfl, by omega, by kwd_rel, by kwd_rel, by kwd_rel, by kwd_rel, ?_⟩
        rw [hstep, if_neg (by decide), Nat.add_zero]
        kwd_rel
      · rw [if_pos rfl]
        refine wpAny_execs_cons ?_
        refine wpAny_AugAssign_Name ?_
        refine n_load he (by tb_start) (by tb_start) (by tb_rel) (by kwd_rel) ?_
        refine wpAny_BinOp ?_
        refine c_int H fun u s1 H => ?_
        refine n_local he (by tb_start) (by tb_start) (by tb_start) (by tb_rel) (by kwd_rel) ?_
        refine o_pow H (by omega) (by decide) fun u s1 H => ?_
        refine o_iadd H fun um s1 H => ?_
        refine st_local he (by tb_start) (by tb_start) H (by kwd_inv) fun s1 H => ?_
        refine wpAny_execs_nil ?_
        refine wpAny_execs_nil ?_
        refine hQ2 _ _ ?_
        refine ⟨_, H.drop (by kwd_less), _, um, rfl, by omega, by kwd_rel, by kwd_rel, by kwd_rel, by kwd_rel, ?_⟩
        have e : ((maskAt ps i (i' + 1) : Nat) : Int) = ((maskAt ps i i' : Nat) : Int) + 2 ^ ((i' : Int)).toNat := by
          rw [hstep, if_pos rfl, Int.toNat_natCast]; push_cast; rfl
        rw [e]
        exact look_head
    · rintro fs s1 ⟨l', tm, rfl, hj5, f1, f2, f3, f4, f5⟩ H
      rw [List.length_range] at f5
      have hwl := hws.length
      rw [List.length_map, List.length_range] at hwl
      refine wpAny_execs_cons ?_
      refine ex_expr he (by tb_start) rfl ?_
      refine MethodCall_ ?_
      refine n_local he (by tb_start) (by tb_start) (by tb_start) (by tb_rel) (by kwd_rel) ?_
      refine l_append_m (its := ws) (by tb_rel) ?_
      refine callWith_method1 ?_
      refine wpAny_items_cons ?_
      refine n_local he (by tb_start) (by tb_start) (by tb_start) (by tb_rel) (by kwd_rel) ?_
      refine wpAny_items_nil ?_
      refine l_append H (its := ws) (by kwd_inv) (by rw [sizeLine_eq]; omega) fun s1 H => ?_
      refine wpAny_execs_nil ?_
      refine hQ1 _ _ ?_
      refine ⟨_, H, _, _, rfl, by omega, ?_, by kwd_rel, by kwd_rel, by kwd_rel⟩
      rw [List.range_succ, List.map_append]
      exact hws.snoc ⟨_, rfl⟩
  · rintro fs s1 ⟨ws, l', rfl, hk5, hws, e1, e2, e3⟩ H
    refine wpAny_execs_cons ?_
    refine wpAny_Return_some ?_
    refine n_local he (by tb_start) (by tb_start) (by tb_start) (by tb_rel) (by kwd_rel) ?_
    refine hQ _ _ ?_
    exact ⟨a, ws, rfl, hws, H.new' (.head _), H.get (.head _), H.keeps⟩
end Mine
end

section
open PySem PySem.Calls PySem.Spec PyProof.Rows PySem.W
set_option Elab.async false
set_option maxRecDepth 100000
namespace Mine


section
variable {σ : Shared} {h₀ : Heap} {fs gs : Led} {s s₁ : Shared} {a : Addr} {f : Fact}
theorem S.lt {q : Addr × Fact} (H : S σ h₀ fs s) (hm : q ∈ fs) : q.1 < s.heap.objs.size := Fact.lt (H.holds q hm)
/-- what came is told of -/
theorem S.reveal (H : S σ h₀ fs s) (hs : ∀ q ∈ fs, q.1 ≠ a) (hn : h₀.get? a = none) (x : f.at s.heap a) : S σ h₀ ((a, f) :: fs) s :=
  ⟨H.same, H.keep, fun q hq => (List.mem_cons.mp hq).elim (fun e => by subst e; exact x) (H.holds q), fun q hq => (List.mem_cons.mp hq).elim (fun e => by subst e; exact hn) (H.new q),
    List.nodup_cons.mpr ⟨fun hm => by obtain ⟨q, hq, e⟩ := List.mem_map.mp hm; exact hs q hq e, H.nd⟩⟩
/-- a ledger from a later start is laid upon an earlier one -/
theorem S.join (H : S σ h₀ fs s) (H' : S s s.heap gs s₁) : S σ h₀ (gs ++ fs) s₁ := by
  obtain ⟨⟨h, tk, rfl⟩, r2, r3, r4, r5⟩ := H
  obtain ⟨⟨h', tk', rfl⟩, k2, k3, k4, k5⟩ := H'
  have fr : ∀ q ∈ gs, h₀.get? q.1 = none := fun q hq => by
    have e := k4 q hq
    cases e' : h₀.get? q.1 with
    | none => rfl
    | some o => rw [r2 _ _ e'] at e; cases e
  refine ⟨⟨h', tk', rfl⟩, fun b o e => k2 b o (r2 b o e), fun q hq => ?_, fun q hq => ?_, ?_⟩
  · rcases List.mem_append.mp hq with hq | hq
    · exact k3 q hq
    · exact Fact.congr (fun o e => k2 _ o e) (r3 q hq)
  · rcases List.mem_append.mp hq with hq | hq
    · exact fr q hq
    · exact r4 q hq
  · rw [List.map_append]
    refine List.nodup_append.mpr ⟨k5, r5, fun x hx y hy e => ?_⟩
    obtain ⟨q, hq, rfl⟩ := List.mem_map.mp hx
    obtain ⟨r, hr, rfl⟩ := List.mem_map.mp hy
    obtain ⟨o, eo⟩ := Fact.live (r3 r hr)
    have := k4 q hq
    rw [e] at this
    rw [show ({ σ with heap := h, toks := tk } : Shared).heap.get? r.1 = some o from eo] at this
    cases this
end

/-- what the top holds of the built-ins' module -/
noncomputable def BMain (mg : Str → Option Value) (h : Heap) : Prop := ∃ bm ob, mg "__builtins__" = some (.ref bm) ∧ bm ≠ builtinsNs ∧ h.get? bm = some ob ∧ ob.cls = .type "module" ∧ ob.dict = some builtinsNs ∧ ob.data = .plain
theorem BMain.keeps {mg : Str → Option Value} {h h' : Heap} (B : BMain mg h) (k : ∀ b o, h.get? b = some o → h'.get? b = some o) : BMain mg h' :=
  let ⟨bm, ob, h1, h2, h3, r⟩ := B; ⟨bm, ob, h1, h2, k _ _ h3, r⟩
theorem BMain.at {mg mb : Str → Option Value} {h : Heap} {P : Addr} {ps : Array Value} (B : BMain mg h) (G : Gnd mg mb h) (hP : h.get? P = some (tabObj ps)) : mainGlobals ≠ P ∧ h.BuiltinsAt mg P := by
  obtain ⟨bm, ob, b1, b2, b3, b4, b5, b6⟩ := B
  refine ⟨fun q => ?_, bm, ob, b1, b2, fun q => ?_, fun q => ?_, b3, b4, b5, b6⟩
  · obtain ⟨o, es, ep, e, hd, _⟩ := G.g
    rw [q, hP] at e; cases e; cases hd
  · obtain ⟨o, es, ep, e, hd, _⟩ := G.g
    rw [q, e] at b3; cases b3; rw [hd] at b6; cases b6
  · rw [q, hP] at b3; cases b3; cases b4

/-- a def of the top whose code is known -/
structure IsFnC (a : Addr) (nm : Str) (args : Arguments) (body : List Stmt) (sc : Scope) (c P : Addr) (h : Heap) : Prop where
  ex : ∃ o doc pm an ct, h.get? a = some o ∧ o.data = .func (W.fnOf nm nm args body sc .none .none doc pm an (.ref c) ct) ∧ h.CodeRec (.ref c) nm
  hd : CodeHd h c P
theorem IsFnC.keeps {a : Addr} {nm : Str} {args : Arguments} {body : List Stmt} {sc : Scope} {c P : Addr} {h h' : Heap} (x : IsFnC a nm args body sc c P h) (k : ∀ b o, h.get? b = some o → h'.get? b = some o) : IsFnC a nm args body sc c P h' :=
  ⟨let ⟨o, doc, pm, an, ct, e, d, q⟩ := x.ex; ⟨o, doc, pm, an, ct, k _ _ e, d, q.keeps k⟩, x.hd.keeps k⟩
theorem IsFnC.fn {a : Addr} {nm : Str} {args : Arguments} {body : List Stmt} {sc : Scope} {c P : Addr} {h : Heap} (x : IsFnC a nm args body sc c P h) : IsFn a nm args body sc h :=
  ⟨let ⟨o, doc, pm, an, ct, r⟩ := x.ex; ⟨o, doc, pm, an, _, ct, r⟩⟩
noncomputable abbrev IsDefC (a : Addr) (i : Nat) (c P : Addr) (h : Heap) : Prop := IsFnC a (fnAt i).1 (fnAt i).2.1 (fnAt i).2.2.1 (fnAt i).2.2.2 c P h

section
variable {prog : Program} {w : World} {A : Around} {s : Shared} {a c P : Addr} {nm : Str} {args : Arguments} {body : List Stmt} {sc : Scope} {vals : List Value} {ns : List Str} {Q : Value → Shared → Prop}
theorem enterE (F : IsFnC a nm args body sc c P s.heap) (hlim : s.heap.NoLimit) {d u : Nat} (R : Room A (d + 1) (u + 3)) {lb : List (Str × Value)}
    (hbind : ∀ doc pm an cdv ct, bindArgs (W.fnOf nm nm args body sc .none .none doc pm an cdv ct) ⟨vals, []⟩ = pure (ns.zip vals)) (hlb : (ns.zip vals).reverse = lb)
    (hcell : (sc.names.all fun x => x.2 != .cell) = true) (hloc : (ns.all fun x => decide (sc.names.lookup x = some .local)) = true)
    (hco : sc.isCoroutine = false) (hgen : sc.isGenerator = false) (hk : sc.kind = .function)
    (h : ∀ (A' : Around) (env : Env) (L : Addr) (s₁ : Shared), Room A' d u → EnvAt env sc L [] → env.code = .ref c → env.qual = nm ++ ".<locals>." → S s s.heap [(L, .loc lb)] s₁ →
      Wp prog w A' (execs body env) (fun f s' => Q (match f with | .ret v => v | _ => .none) s') s₁) :
    Wp prog w A (call (.ref a) vals) Q s := by
  obtain ⟨o, doc, pm, an, ct, ho, hd, hc⟩ := F.ex
  refine wpAny_call (codeAny_call_def (fd := W.fnOf nm nm args body sc .none .none doc pm an (.ref c) ct) (body := body) (binds := ns.zip vals) (by have := R.depth; omega) ho hd hlim hc rfl (.of_eq (hbind ..))
    (fun x hx => by simpa using List.all_eq_true.mp hcell x hx) (fun x hx => by simpa using List.all_eq_true.mp hloc x.1 (List.of_mem_zip hx).1) (fun h₁ hns hk₁ => ?_) hco hgen hk)
  refine wpAny_mono (h _ _ s.heap.objs.size _ (R.deeper _) ⟨rfl, rfl, rfl, rfl, rfl⟩ rfl rfl ?_) (fun f s' hq => hq) (fun _ _ q => q.elim)
  refine (S.start s).add ⟨h₁, _, rfl, hk₁⟩ (get_size_none _) ⟨_, hns, fun x v e => look_of_lookup (by rw [hlb]; exact e)⟩

theorem enterEC (F : IsFnC a nm args body sc c P s.heap) (hlim : s.heap.NoLimit) {d u : Nat} (R : Room A (d + 1) (u + 3)) (cn : List Str) (lb cb : List (Str × Value))
    (hbind : ∀ doc pm an cdv ct, bindArgs (W.fnOf nm nm args body sc .none .none doc pm an cdv ct) ⟨vals, []⟩ = pure (ns.zip vals))
    (hlb : ((ns.zip vals).filter fun y => sc.names.lookup y.1 == some .local).reverse = lb) (hcb : ((ns.zip vals).filter fun y => sc.names.lookup y.1 != some .local).reverse = cb)
    (hcn : (cellsFrom 0 sc.names []).map (·.1) = cn) (hnd : cn.Nodup)
    (hkind : (ns.all fun x => decide (sc.names.lookup x = some .local) || (decide (sc.names.lookup x = some .cell) && decide (x ∈ cn))) = true)
    (hco : sc.isCoroutine = false) (hgen : sc.isGenerator = false) (hk : sc.kind = .function)
    (h : ∀ (A' : Around) (env : Env) (L : Addr) (cs : List (Str × Addr)) (s₁ : Shared), Room A' d u → cs.map (·.1) = cn → EnvAt env sc L cs → env.code = .ref c → env.qual = nm ++ ".<locals>." → S s s.heap ((L, .loc lb) :: cs.map fun q => (q.2, .cell (look cb q.1))) s₁ →
      Wp prog w A' (execs body env) (fun f s' => Q (match f with | .ret v => v | _ => .none) s') s₁) :
    Wp prog w A (call (.ref a) vals) Q s := by
  obtain ⟨o, doc, pm, an, ct, ho, hd, hc⟩ := F.ex
  have hnames : (cellsFrom (s.heap.objs.size + 1) sc.names []).map (·.1) = cn := (cellsFrom_names _ _ _ _ _ rfl).trans hcn
  refine wpAny_call (codeAny_call_cells (fd := W.fnOf nm nm args body sc .none .none doc pm an (.ref c) ct) (body := body) (binds := ns.zip vals) (by have := R.depth; omega) ho hd hlim hc rfl (hbind ..) rfl
    (fun x hx => ?_) (fun s₁ I => ?_) hco hgen hk)
  · have := List.all_eq_true.mp hkind x.1 (List.of_mem_zip hx).1
    rcases Bool.or_eq_true_iff.mp this with e | e
    · exact .inl (of_decide_eq_true e)
    · obtain ⟨e1, e2⟩ := Bool.and_eq_true_iff.mp e
      refine .inr ⟨of_decide_eq_true e1, isSome_of_names ?_⟩
      show x.1 ∈ (cellsFrom (s.heap.objs.size + 1) sc.names []).map (·.1)
      rw [hnames]; exact of_decide_eq_true e2
  · have kk := I.toInCall.keep
    have fr : ∀ b, s.heap.objs.size ≤ b → s.heap.get? b = none := fun b hb => by
      cases e : s.heap.get? b with
      | none => rfl
      | some o => exact absurd (Heap.lt_size e) (Nat.not_lt.mpr hb)
    refine wpAny_mono (h _ _ s.heap.objs.size (cellsFrom (s.heap.objs.size + 1) sc.names []) _ (R.deeper _) hnames ⟨rfl, rfl, rfl, rfl, rfl⟩ rfl rfl ⟨I.toInCall.same, kk, fun q hq => ?_, fun q hq => ?_, ?_⟩) (fun f s' hq => hq) (fun _ _ q => q.elim)
    · rcases List.mem_cons.mp hq with rfl | hq
      · refine ⟨_, I.toInCall.ns, fun x v e => ?_⟩
        rw [bindL_look]
        rw [← hlb] at e
        rw [show (look (List.filter (fun y => Env.kindOf (callEnvC (W.fnOf nm nm args body sc .none .none doc pm an (.ref c) ct) s.heap.objs.size a) y.1 == some NameKind.local) (ns.zip vals)).reverse x) = some v from e]
        rfl
      · obtain ⟨⟨n, c⟩, hm, rfl⟩ := List.mem_map.mp hq
        have hl := lookup_of_mem_names (by rw [hnames]; exact hnd) hm
        have := I.cell n c hl
        rw [bindC_look] at this
        rw [← hcb]
        rw [Option.or_none] at this
        exact this
    · rcases List.mem_cons.mp hq with rfl | hq
      · exact fr _ (Nat.le_refl _)
      · obtain ⟨⟨n, c⟩, hm, rfl⟩ := List.mem_map.mp hq
        exact fr _ (Nat.le_of_lt (I.above n c hm))
    · rw [List.map_cons, List.map_map]
      refine List.nodup_cons.mpr ⟨fun hm => ?_, ?_⟩
      · obtain ⟨⟨n, c⟩, hm, e⟩ := List.mem_map.mp hm
        have := I.above n c hm
        exact absurd this (by rw [show c = s.heap.objs.size from e]; exact Nat.lt_irrefl _)
      · exact List.pairwise_map.mpr I.apart
end

section
variable {prog : Program} {w : World} {A : Around} {s : Shared} {σ : Shared} {h₀ : Heap} {fs : Led} {env : Env} {sc : Scope} {L : Addr} {cs : List (Str × Addr)} {mg mb : Str → Option Value} {c P : Addr} {pos : Pos} {clos : List (Str × Addr)}
theorem n_free {x : Str} {v : Value} {Q : Value → Shared → Prop} {cc : Addr} (he : EnvAt env sc L cs) (hl : sc.names.lookup x = some .free) (hk : sc.kind = .function) (hd : (x == ("__debug__" : Str)) = false) (hd' : (x == ("__classdict__" : Str)) = false)
    (hc : cs.lookup x = some cc) (hv : (Fact.cell (some v)).at s.heap cc) (h : Q v s) : Wp prog w A (eval (.Name x pos) env) Q s :=
  wpAny_Name (wpAny_loadName_free (he.scope ▸ hk) (by unfold Env.kindOf; rw [he.scope]; exact hl) (by rw [he.cells]; exact hc) hv h hd') hd

/-- what is left where a def or a lambda was made for the first time -/
theorem S.made {fs' : Addr → Led} {qual : Str} {p q : Value} (H : S σ h₀ fs s) (U : ∀ c', Upd P (.raw (tabObj #[])) (.raw (tabObj #[p, q, .ref c'])) fs (fs' c'))
    {c' : Addr} {h' : Heap} {tk : Nat} {fo : Obj} (hfo : fo.isFreed = false) (hx : Heap.ExtBut P s.heap h') (hge : s.heap.objs.size ≤ c') (hrec : h'.CodeRec (.ref c') qual) (htb : h'.get? P = some (tabObj (#[] ++ #[p, q, .ref c']))) :
    ∃ oc vs t, oc.data = .fields vs ∧ vs[1]? = some (.str qual t) ∧ S σ h₀ ((h'.objs.size, .raw fo) :: (c', .raw oc) :: fs' c') { s with heap := h'.push fo, toks := tk } := by
  obtain ⟨c₂, oc, vs, t, e2, hoc, hd, hv⟩ := hrec
  cases e2
  have H1 : S σ h₀ (fs' c') { s with heap := h', toks := tk } := H.upd (U c') tk hx (show h'.get? P = some (tabObj #[p, q, .ref c']) by simpa using htb)
  have lt : ∀ r ∈ fs' c', r.1 ≠ c' := fun r hr e => by
    have hm : r.1 ∈ (fs' c').map (·.1) := List.mem_map_of_mem (f := (·.1)) hr
    rw [(U c').addrs] at hm
    obtain ⟨r', hr', e'⟩ := List.mem_map.mp hm
    have := H.lt hr'
    rw [e', e] at this
    exact absurd this (Nat.not_lt.mpr hge)
  have hn : h₀.get? c' = none := by
    cases e' : h₀.get? c' with
    | none => rfl
    | some o => exact absurd (Heap.lt_size (H.keep _ _ e')) (Nat.not_lt.mpr hge)
  have H2 := H1.reveal (a := c') (f := .raw oc) lt hn hoc
  exact ⟨oc, vs, t, hd, hv, H2.push fo tk hfo⟩

theorem x_lambda {params : Arguments} {body : Expr} {scope : Scope} {fs' : Addr → Led} {Q : Value → Shared → Prop} (he : EnvAt env sc L cs) (hcode : env.code = .ref c) (hdef : defaultsOf params env = ([], [])) (hclos : closL cs scope.names [] = some clos) (G : Gnd mg mb s.heap) (B : BMain mg s.heap)
    (C : CodeHd s.heap c P) (H : S σ h₀ fs s) (U : ∀ c', Upd P (.raw (tabObj #[])) (.raw (tabObj #[rawInt pos.line, rawInt pos.col, .ref c'])) fs (fs' c'))
    (h : ∀ f c' oc vs t pm ctv s', oc.data = .fields vs → vs[1]? = some (.str (env.qual ++ "<lambda>") t) →
      S σ h₀ ((f, .raw (kla_obj "<lambda>" (env.qual ++ "<lambda>") params body scope clos pm c' ctv)) :: (c', .raw oc) :: fs' c') s' → Q (.ref f) s') : Wp prog w A (eval (.Lambda params body scope pos) env) Q s := by
  have hP : s.heap.get? P = some (tabObj #[]) := H.get (U 0).mem
  obtain ⟨b1, b2⟩ := B.at G hP
  refine kla_eval hdef (kla_makeFunction (mg := mg) (c := c) (P := P) (ps := #[]) (closureFor_of (by rw [he.cells]; exact hclos)) he.globals G.g hcode C hP trivial rfl b1 b2 fun c' ctv h' tk hx hge hlt hrec htb => ?_)
  obtain ⟨oc, vs, t, e1, e2, H'⟩ := S.made H U (tk := tk) (fo := kla_obj "<lambda>" (env.qual ++ "<lambda>") params body scope clos ((mg "__name__").getD .none) c' ctv) rfl hx hge hrec htb
  exact h _ c' oc vs t _ ctv _ e1 e2 H'

theorem x_def {name : Str} {params : Arguments} {body : List Stmt} {scope : Scope} {fs' : Addr → Led} {Q : Flow → Shared → Prop} (he : EnvAt env sc L cs) (hcode : env.code = .ref c) (hd0 : params.defaults = []) (hk0 : params.kw_defaults = []) (ha : annTrees params none env = []) (hclos : closL cs scope.names [] = some clos)
    (hgl : (sc.names.lookup name == some .globalExplicit) = false) (G : Gnd mg mb s.heap) (B : BMain mg s.heap)
    (C : CodeHd s.heap c P) (H : S σ h₀ fs s) (U : ∀ c', Upd P (.raw (tabObj #[])) (.raw (tabObj #[rawInt pos.line, rawInt pos.col, .ref c'])) fs (fs' c'))
    (h : ∀ f c' oc vs t doc pm ctv s', oc.data = .fields vs → vs[1]? = some (.str (env.qual ++ name) t) →
      S σ h₀ ((f, .raw (fnMade name (env.qual ++ name) params body scope clos doc pm c' ctv)) :: (c', .raw oc) :: fs' c') s' → Wp prog w A (storeName env name (.ref f)) (fun _ s'' => Q .next s'') s') :
    Wp prog w A (exec (.FunctionDef name params body [] none [] scope none name pos) env) Q s := by
  have hP : s.heap.get? P = some (tabObj #[]) := H.get (U 0).mem
  obtain ⟨b1, b2⟩ := B.at G hP
  have hq : qualnameIn env name name = env.qual ++ name := by
    unfold qualnameIn Env.kindOf
    rw [he.scope, hgl]; rfl
  refine nestDef_K hd0 hk0 ha ?_
  rw [hq]
  refine makeFunction_K (mg := mg) (c := c) (P := P) (ps := #[]) (closureFor_of (by rw [he.cells]; exact hclos)) he.globals G.g hcode C hP trivial rfl b1 b2 fun c' ctv doc h' tk hx hge hlt hrec htb => ?_
  obtain ⟨oc, vs, t, e1, e2, H'⟩ := S.made H U (tk := tk) (fo := fnMade name (env.qual ++ name) params body scope clos doc ((mg "__name__").getD .none) c' ctv) rfl hx hge hrec htb
  exact h _ c' oc vs t doc _ ctv _ e1 e2 H'

theorem x_def_again {name : Str} {params : Arguments} {body : List Stmt} {scope : Scope} {c' : Addr} {Q : Flow → Shared → Prop} (he : EnvAt env sc L cs) (hcode : env.code = .ref c) (hd0 : params.defaults = []) (hk0 : params.kw_defaults = []) (ha : annTrees params none env = []) (hclos : closL cs scope.names [] = some clos)
    (hgl : (sc.names.lookup name == some .globalExplicit) = false) (G : Gnd mg mb s.heap) (B : BMain mg s.heap)
    (C : CodeHd s.heap c P) (H : S σ h₀ fs s) (hm : (P, Fact.raw (tabObj #[rawInt pos.line, rawInt pos.col, .ref c'])) ∈ fs)
    (h : ∀ f doc pm ctv s', S σ h₀ ((f, .raw (fnMade name (env.qual ++ name) params body scope clos doc pm c' ctv)) :: fs) s' → Wp prog w A (storeName env name (.ref f)) (fun _ s'' => Q .next s'') s') :
    Wp prog w A (exec (.FunctionDef name params body [] none [] scope none name pos) env) Q s := by
  have hP : s.heap.get? P = some (tabObj #[rawInt pos.line, rawInt pos.col, .ref c']) := H.get hm
  obtain ⟨b1, b2⟩ := B.at G hP
  have hq : qualnameIn env name name = env.qual ++ name := by
    unfold qualnameIn Env.kindOf
    rw [he.scope, hgl]; rfl
  refine nestDef_K hd0 hk0 ha ?_
  rw [hq]
  refine makeFunction_hit (mg := mg) (c := c) (P := P) (closureFor_of (by rw [he.cells]; exact hclos)) he.globals G.g hcode C hP (by simp [TriplesOk, rawInt]) (cv := .ref c') (by simp [codeAmong, rawInt]) b2 fun ctv doc h' tk hk hsz => ?_
  have H1 : S σ h₀ fs { s with heap := h', toks := tk } := H.grow ⟨h', tk, rfl, hk⟩
  exact h _ doc _ ctv _ (H1.push _ tk)
end
end Mine
end

section
open PySem PySem.Calls PySem.Spec PyProof.Rows PySem.W
set_option Elab.async false
set_option maxRecDepth 100000
namespace Mine

local macro_rules | `(tactic| tb_rel) => `(tactic| first | exact S.get (by assumption) (by k_mem) | assumption | (refine S.up (by assumption) ?_; tb_rel))
local macro_rules | `(tactic| kwd_rel) => `(tactic| first | (with_reducible exact look_head) | (with_reducible exact lk_head) | assumption | (refine look_tail (by kernel_rfl) ?_; kwd_rel) | (refine lk_tail (by kernel_rfl) ?_; kwd_rel))
local macro_rules | `(tactic| kwd_inv) => `(tactic| first | (with_reducible exact Upd.head) | (with_reducible apply Upd.tail; kwd_inv))
local macro_rules | `(tactic| kwd_less) => `(tactic| first | exact List.Sublist.refl _ | (refine List.Sublist.cons_cons _ ?_; kwd_less) | (refine List.Sublist.cons _ ?_; kwd_less))
local macro_rules | `(tactic| tb_start) => `(tactic| first | kernel_rfl | decide +kernel)

theorem hexd_inj {a b : Nat} (h : hexd a = hexd b) : a = b := by
  unfold hexd at h
  split at h <;> split at h <;> omega
theorem encT_inj : ∀ {a b : List Nat}, encT a = encT b → a = b
  | [], [], _ => rfl
  | [], _ :: _, h => by cases h
  | _ :: _, [], h => by cases h
  | o :: r, o' :: r', h => by
    unfold encT at h
    injection h with _ h
    injection h with h1 h
    injection h with h2 h
    have e1 := hexd_inj h1
    have e2 := hexd_inj h2
    have : o = o' := by omega
    rw [this, encT_inj h]
theorem paired_unmap {α β : Type} {G : β → Value → Prop} (f : α → β) : ∀ {xs : List α} {ys : List Value}, Paired G (xs.map f) ys → Paired (fun a y => G (f a) y) xs ys
  | [], _, .nil => .nil
  | _ :: _, _, .cons h r => .cons h (paired_unmap f r)

noncomputable abbrev attrs1 (w : World) (x : Str) (tk : Tok) (v : Value) : List DictEntry := putL x (PyData.keyHash w.params x) (.str x tk) v []

theorem c_selctx {T : Ad} {mg mb : Str → Option Value} {w : World} {A : Around} {s : Shared} {σ : Shared} {h₀ : Heap} {fs : Led} {K : Frag} {mi ci : Addr} {v : Value} {Q : Value → Shared → Prop} (kf : Kf K T mi ci) (Xk : K.In h₀) (G : Gnd mg mb h₀) (H : S σ h₀ fs s) (R : Room A 3 40)
    (F : IsFnQ ci (methAt 28 1).1 (Str.ofString "_SelectorContext.__init__") (methAt 28 1).2.1 (methAt 28 1).2.2.1 (methAt 28 1).2.2.2 h₀)
    (h : ∀ x dx tk s', S σ h₀ ((x, .raw (instObj T.ctx dx)) :: (dx, .raw (dictOf (attrs1 w "root" tk v) (putN "root" [] 0))) :: fs) s' → Q (.ref x) s') :
    Wp PySem.Challenge.pw_if0009_01 w A (call (.ref T.ctx) [v]) Q s := by
  refine x_new (Xk.keeps H.keep) kf.mk_c kf.in_c kf.ty_c H fun x dx s1 H => ?_
  refine enterL (d := 1) (u := 36) H (F.keeps H.keep) (G.up H).nolimit ((Room.made (d := 2) (u := 39) R _ _)) (ns := ["self", "root"]) (lb := [("root", v), ("self", .ref x)]) (fun _ _ _ _ _ => by kernel_rfl) rfl (by tb_start) (by tb_start) (by tb_start) (by tb_start) (by tb_start) fun A' env L s1 R' he H => ?_
  refine wpAny_execs_cons ?_
  refine plainObj_wpAny_Assign_Attribute ?_
  refine n_local he (by tb_start) (by tb_start) (by tb_start) (by tb_rel) (by kwd_rel) ?_
  refine n_local he (by tb_start) (by tb_start) (by tb_start) (by tb_rel) (by kwd_rel) ?_
  have hx : s1.heap.get? x = some (instObj T.ctx dx) := H.get (a := x) (f := .raw (instObj T.ctx dx)) (by k_mem)
  have hdx : s1.heap.get? dx = some (dictOf [] 0) := H.get (a := dx) (f := .raw (dictOf [] 0)) (by k_mem)
  refine x_setattr (K := K) (C := T.ctx) (x := x) (dx := dx) (ox := instObj T.ctx dx) (es := []) (n := 0) (Xk.keeps H.keep) ⟨hx, rfl, rfl, hdx⟩ rfl H (fun tk => by kwd_inv) kf.sa_c kf.po_c kf.tk_r kf.hd_c rfl (fun tk => by show (1 : Nat) ≤ 1000; decide) fun tk s1 H => ?_
  refine wpAny_execs_nil ?_
  exact ⟨rfl, h x dx tk _ (H.drop (by kwd_less))⟩

/-- the lambda within _law_context -/
noncomputable def lamCtx : Arguments × Expr × Scope := match ((fnAt 34).2.2.1[2]? : Option Stmt) with
  | some (.Assign _ (.Lambda p b s _) _) => (p, b, s)
  | _ => default
noncomputable abbrev attrs2 (w : World) (tk tk2 : Tok) (v f : Value) : List DictEntry := putL "iter" (PyData.keyHash w.params "iter") (.str "iter" tk2) f (attrs1 w "root" tk v)
theorem attrs1_root (w : World) (tk : Tok) (v : Value) : getL "root" (attrs1 w "root" tk v) = some (some v) := rfl
theorem attrs1_pm (w : World) (tk : Tok) (v : Value) : getL "parent_map" (attrs1 w "root" tk v) = some none := rfl
theorem attrs2_iter (w : World) (tk tk2 : Tok) (v f : Value) : getL "iter" (attrs2 w tk tk2 v f) = some (some f) := rfl

theorem c_context {T : Ad} {mg mb : Str → Option Value} {w : World} {A : Around} {s : Shared} {σ : Shared} {h₀ : Heap} {fs : Led} {K : Frag} {mi ci c P : Addr} {l : List Nat} {t tn th : Tok} {fams : List (List Nat)} {fs' : Obj → Led} {Q : Value → Shared → Prop}
    (X : Tp T mg mb h₀) (B : BMain mg h₀) (kf : Kf K T mi ci) (Xk : K.In h₀) (Bi : mg "int" = none) (Fu : IsDef T.unquote 17 h₀) (Nu : mg "unquote" = some (.ref T.unquote)) (Nh : mg "hexdigits" = some (.str (Str.ofString "0123456789abcdefABCDEF") th))
    (Fd : IsDefD T.decode 22 #[.str (tx [10]) tn] h₀) (Nd : mg "decode" = some (.ref T.decode)) (Fp : IsDef T.parse 3 h₀) (Np : mg "parse_http_list" = some (.ref T.parse)) (Nc : mg "_SelectorContext" = some (.ref T.ctx))
    (Fi : IsFnQ ci (methAt 28 1).1 (Str.ofString "_SelectorContext.__init__") (methAt 28 1).2.1 (methAt 28 1).2.2.1 (methAt 28 1).2.2.2 h₀) (F : IsDefC T.context 34 c P h₀) (R : Room A 6 100)
    (H : S σ h₀ fs s) (U : ∀ o', Upd P (.raw (tabObj #[])) (.raw o') fs (fs' o'))
    (hl : ∀ c ∈ l, c ≠ 34 ∧ c ≠ 92) (hz : l.length ≤ 1000) (hp : partsOf l = fams.map fun f => tx (encT f)) (hf : ∀ f ∈ fams, f ≠ [] ∧ f.length ≤ 100 ∧ ∀ o ∈ f, o < 256) (hfl : fams.length ≤ 100)
    (h : ∀ x dx y dy f c' oc cf D ys tk tk2 tk3 ps vs t pm ctv qual s', oc.data = .fields vs → vs[1]? = some (.str qual t) → Paired IsT fams ys →
      S σ h₀ ((x, .raw (instObj T.ctx dx)) :: (dx, .raw (dictOf (attrs1 w "root" tk (.ref y)) (putN "root" [] 0))) :: (f, .raw (kla_obj "<lambda>" qual lamCtx.1 lamCtx.2.1 lamCtx.2.2 [("families", cf)] pm c' ctv)) :: (c', .raw oc) ::
        (y, .raw (instObj T.ctx dy)) :: (dy, .raw (dictOf (attrs2 w tk2 tk3 .none (.ref f)) (putN "iter" (attrs1 w "root" tk2 .none) (putN "root" [] 0)))) :: (D, .list ys) :: (cf, .cell (some (.ref D))) :: fs' (tabObj ps)) s' → Q (.ref x) s') :
    Wp PySem.Challenge.pw_if0009_01 w A (call (.ref T.context) [.str (tx l) t]) Q s := by
  refine enterEC (F.keeps H.keep) (X.G.up H).nolimit (d := 5) (u := 97) R ["families"] [("letter", .str (tx l) t)] [] (ns := ["letter"]) (fun _ _ _ _ _ => by kernel_rfl) (by kernel_rfl) (by kernel_rfl) (by kernel_rfl) (by tb_start) (by tb_start) (by tb_start) (by tb_start) (by tb_start) fun A' env L cs s1 R' hcs he hcode hqual H' => ?_
  obtain ⟨cf, rfl⟩ := cells1 hcs
  replace H := H.join H'
  simp only [List.map_cons, List.map_nil, List.cons_append, List.nil_append] at H
  clear H'
  refine wpAny_execs_cons ?_
  refine wpAny_Assign_Name ?_ (noswap_cell he (by tb_start))
  refine l_comp (α := List Nat) (fun _ => true) (fun f v => IsT (encT f) v) (fun f y => IsT f y) he (cl := []) (by kernel_rfl) ⟨(by tb_start), (by tb_start), (by tb_start), (by tb_start)⟩ (fun _ => rfl) ?_
  refine x_call he (by tb_start) (by tb_start) (by tb_start) (X.G.up H) Np rfl rfl ?_
  refine wpAny_items_cons ?_
  refine n_local he (by tb_start) (by tb_start) (by tb_start) (by tb_rel) (by kwd_rel) ?_
  refine wpAny_items_nil ?_
  refine ⟨⟨_, _, _, _, Fp.keeps H.keep⟩, ?_⟩
  refine wpAny_mono (c_parse (X.keeps H.keep) (Fp.keeps H.keep) (R'.less (by omega) (by omega)) hl hz) (fun v s2 h2 => ?_) fun _ _ e => e.elim
  obtain ⟨a, vs, rfl, hps, hna, hla, kk⟩ := h2
  replace H := H.grow kk
  rw [hp] at hps
  refine ⟨_, _, _, _, (Iter.list R'.handled (Heap.PlainList.isList hla) (Heap.PlainList.isList hla)).to (paired_unmap (G := IsS) (fun f : List Nat => tx (encT f)) hps), H, ⟨by rw [sizeLine_eq]; omega, ?_, ?_, ?_⟩, fun D ys s1 hys H => ?_⟩
  · intro x y v h1 h2; exact encT_inj (IsT.inj h1 h2)
  · intro p v C env' s3 hm hv he' hC hkp
    exact ct_nil ⟨rfl, (S.start s3).keeps⟩
  · rintro p v C env' s3 hm ⟨tp, rfl⟩ hz he' hC hkp
    have kp : ∀ b o, h₀.get? b = some o → s3.heap.get? b = some o := fun b o e => hkp b o (H.keep b o e)
    have X3 : Tp T mg mb s3.heap := X.keeps kp
    have H := S.start s3
    refine x_callD he' (by tb_start) (by tb_start) (by tb_start) X3.G Nd rfl rfl ?_
    refine wpAny_items_cons ?_
    refine n_local he' (by tb_start) (by tb_start) (by tb_start) (by tb_rel) (by kwd_rel) ?_
    refine wpAny_items_nil ?_
    refine ⟨⟨_, _, _, _, _, Fd.keeps kp⟩, ?_⟩
    obtain ⟨f1, f2, f3⟩ := hf p hm
    exact c_decode X3 Bi (Fu.keeps kp) Nu Nh (Fd.keeps kp) (R'.less (by omega) (by omega)) f3 f1 f2
  rw [List.filter_eq_self.mpr (by simp)] at hys
  refine st_cell he (by tb_start) (by tb_start) (by kwd_rel) H (by kwd_inv) fun s1 H => ?_
  refine wpAny_execs_cons ?_
  refine wpAny_Assign_Name ?_
  refine x_cls1 (mg := mg) (mb := mb) (C := T.ctx) he (by tb_start) (by tb_start) (by tb_start) (X.G.up H) Nc kf.kp_c rfl ?_
  refine wpAny_items_cons ?_
  refine c_none ?_
  refine wpAny_items_nil ?_
  refine ⟨Xk.keeps H.keep, ?_⟩
  refine c_selctx kf Xk X.G H (R'.less (by omega) (by omega)) Fi fun y dy tk2 s1 H => ?_
  refine st_local he (by tb_start) (by tb_start) H (by kwd_inv) fun s1 H => ?_
  refine wpAny_execs_cons ?_
  refine plainObj_wpAny_Assign_Attribute ?_
  refine x_lambda (mg := mg) (mb := mb) (c := c) (P := P) (clos := [("families", cf)]) he hcode rfl (by kernel_rfl) (X.G.up H) (B.keeps H.keep) (F.hd.keeps H.keep) H (fun c' => by repeat (first | (with_reducible exact (U _)) | (with_reducible apply Upd.tail))) fun f c' oc vs t pm ctv s1 e1 e2 H => ?_
  refine n_local he (by tb_start) (by tb_start) (by tb_start) (by tb_rel) (by kwd_rel) ?_
  have hx : s1.heap.get? y = some (instObj T.ctx dy) := H.get (a := y) (f := .raw (instObj T.ctx dy)) (by k_mem)
  have hdx : s1.heap.get? dy = some (dictOf (attrs1 w "root" tk2 .none) (putN "root" [] 0)) := H.get (a := dy) (f := .raw (dictOf (attrs1 w "root" tk2 .none) (putN "root" [] 0))) (by k_mem)
  refine x_setattr (K := K) (C := T.ctx) (x := y) (dx := dy) (ox := instObj T.ctx dy) (es := attrs1 w "root" tk2 .none) (n := putN "root" [] 0) (Xk.keeps H.keep) ⟨hx, rfl, rfl, hdx⟩ rfl H (fun tk => by kwd_inv) kf.sa_c kf.po_c kf.tk_i kf.hd_c rfl (fun tk => by show (2 : Nat) ≤ 1000; decide) fun tk3 s1 H => ?_
  refine wpAny_execs_cons ?_
  refine wpAny_Return_some ?_
  refine x_cls1 (mg := mg) (mb := mb) (C := T.ctx) he (by tb_start) (by tb_start) (by tb_start) (X.G.up H) Nc kf.kp_c rfl ?_
  refine wpAny_items_cons ?_
  refine n_local he (by tb_start) (by tb_start) (by tb_start) (by tb_rel) (by kwd_rel) ?_
  refine wpAny_items_nil ?_
  refine ⟨Xk.keeps H.keep, ?_⟩
  refine c_selctx kf Xk X.G H (R'.less (by omega) (by omega)) Fi fun x dx tk s1 H => ?_
  exact h x dx y dy f c' oc cf D ys tk tk2 tk3 _ vs t pm ctv _ _ e1 e2 hys (H.drop (by kwd_less))
end Mine
end

section
open PySem PySem.Calls PySem.Spec PyProof.Rows PySem.W
set_option Elab.async false
set_option maxRecDepth 100000
namespace Mine

local macro_rules | `(tactic| tb_rel) => `(tactic| first | exact S.get (by assumption) (by k_mem) | assumption | (refine S.up (by assumption) ?_; tb_rel))
local macro_rules | `(tactic| kwd_rel) => `(tactic| first | (with_reducible exact look_head) | (with_reducible exact lk_head) | assumption | (refine look_tail (by kernel_rfl) ?_; kwd_rel) | (refine lk_tail (by kernel_rfl) ?_; kwd_rel))
local macro_rules | `(tactic| kwd_inv) => `(tactic| first | (with_reducible exact Upd.head) | (with_reducible apply Upd.tail; kwd_inv))
local macro_rules | `(tactic| kwd_less) => `(tactic| first | exact List.Sublist.refl _ | (refine List.Sublist.cons_cons _ ?_; kwd_less) | (refine List.Sublist.cons _ ?_; kwd_less))
local macro_rules | `(tactic| tb_start) => `(tactic| first | kernel_rfl | decide +kernel)

section
variable {prog : Program} {w : World} {A : Around} {s : Shared} {σ : Shared} {h₀ : Heap} {fs : Led} {env : Env}
theorem as_attr {o : Expr} {attr : Str} {pos : Pos} {v : Value} {Q : Unit → Shared → Prop} (h : Wp prog w A (eval o env) (fun ov s₂ => Wp prog w A (setAttr ov attr v) Q s₂) s) : Wp prog w A (assign (.Attribute o attr pos) env v) Q s := fun Γ p hΓ => by
  simp only [assign_Attribute, Sem.wp_bind', Sem.wp_holding, Sem.wp_cmd_standAt, Sem.wp_release, Sem.wp_pure']
  exact Sem.wp_mono _ Γ _ (fun ov _ s₂ h₂ => h₂ Γ _ hΓ) (fun _ _ _ h' => h') _ _ (h Γ p hΓ)

/-- the lambda of _law_context is called -/
theorem x_callLam {qual : Str} {cf f c' : Addr} {oc : Obj} {vs : Array Value} {t : Tok} {pm ctv v : Value} {Q : Value → Shared → Prop} (hlim : s.heap.NoLimit) {d u : Nat} (R : Room A (d + 1) (u + 3)) (H : S σ h₀ fs s)
    (m1 : (f, Fact.raw (kla_obj "<lambda>" qual lamCtx.1 lamCtx.2.1 lamCtx.2.2 [("families", cf)] pm c' ctv)) ∈ fs) (m2 : (c', Fact.raw oc) ∈ fs) (m3 : (cf, Fact.cell (some v)) ∈ fs) (e1 : oc.data = .fields vs) (e2 : vs[1]? = some (.str qual t))
    (h : ∀ s', S σ h₀ fs s' → Q v s') : Wp prog w A (call (.ref f) []) Q s := by
  have hf : s.heap.get? f = some (kla_obj "<lambda>" qual lamCtx.1 lamCtx.2.1 lamCtx.2.2 [("families", cf)] pm c' ctv) := H.get m1
  have hc : s.heap.get? c' = some oc := H.get m2
  obtain ⟨ps, hps⟩ : ∃ ps, lamCtx.2.1 = .Name "families" ps := ⟨_, rfl⟩
  have k1 : lamCtx.2.2.isCoroutine = false := by decide +kernel
  have k2 : lamCtx.2.2.isGenerator = false := by decide +kernel
  have k3 : ∀ x ∈ lamCtx.2.2.names, x.2 ≠ .cell := by decide +kernel
  have k4 : lamCtx.2.2.kind = .function := by decide +kernel
  refine wpAny_call (kla_callFunE (fd := kla_fn "<lambda>" qual lamCtx.1 lamCtx.2.1 lamCtx.2.2 [("families", cf)] pm (.ref c') ctv) (by have := R.depth; omega) hf rfl k1 k2 rfl ⟨c', oc, vs, t, rfl, hc, e1, e2⟩ ?_)
  rw [show bindArgs (kla_fn "<lambda>" qual lamCtx.1 lamCtx.2.1 lamCtx.2.2 [("families", cf)] pm (.ref c') ctv) ⟨[], []⟩ = pure [] from by kernel_rfl]
  refine wpAny_pure (wpAny_newFunctionEnv k3 (fun _ h => nomatch h) (fun h₁ hns hsb => ⟨hlim.fresh _ hsb, ?_⟩) k4)
  have H1 : S σ h₀ fs { s with heap := h₁, toks := s.toks + 0 } := H.grow ⟨h₁, _, rfl, fun b o e => hsb.extBut b o (Nat.ne_of_lt (Heap.lt_size e)) (Heap.get?_push_of_some _ e)⟩
  refine kla_codeExpr (wpAny_mono (?_ : Wp _ _ _ _ (fun v s' => Q v s') _) (fun v s' q => q) fun _ _ q => q.elim)
  rw [hps]
  refine n_free (sc := lamCtx.2.2) (L := s.heap.objs.size) (cs := [("families", cf)]) (x := "families") (by exact ⟨rfl, rfl, rfl, rfl, rfl⟩) (by decide +kernel) k4 (by decide +kernel) (by decide +kernel) (by with_reducible exact lk_head) (H1.get m3) ?_
  exact h _ H1
end

theorem S.perm {σ : Shared} {h₀ : Heap} {fs fs' : Led} {s : Shared} (H : S σ h₀ fs s) (p : fs.Perm fs') : S σ h₀ fs' s :=
  ⟨H.same, H.keep, fun q hq => H.holds q (p.mem_iff.mpr hq), fun q hq => H.new q (p.mem_iff.mpr hq), (p.map (·.1)).nodup_iff.mp H.nd⟩
/-- where a context's parts stand -/
structure CtxP where
  (x dx y dy f c' cf D : Addr) (oc fo : Obj) (ys : List Value) (tk tk2 tk3 : Tok)
noncomputable abbrev ctxRest (T : Ad) (w : World) (p : CtxP) : Led := [(p.f, .raw p.fo), (p.c', .raw p.oc), (p.y, .raw (instObj T.ctx p.dy)), (p.dy, .raw (dictOf (attrs2 w p.tk2 p.tk3 .none (.ref p.f)) (putN "iter" (attrs1 w "root" p.tk2 .none) (putN "root" [] 0)))), (p.D, .list p.ys), (p.cf, .cell (some (.ref p.D)))]
noncomputable abbrev ctx0 (T : Ad) (w : World) (p : CtxP) : Led := (p.x, .raw (instObj T.ctx p.dx)) :: (p.dx, .raw (dictOf (attrs1 w "root" p.tk (.ref p.y)) (putN "root" [] 0))) :: ctxRest T w p
noncomputable abbrev attrs3 (w : World) (tk tk4 : Tok) (y M : Addr) : List DictEntry := putL "parent_map" (PyData.keyHash w.params "parent_map") (.str "parent_map" tk4) (.ref M) (attrs1 w "root" tk (.ref y))
noncomputable abbrev ctx1 (T : Ad) (w : World) (p : CtxP) (tk4 : Tok) (M : Addr) (o : Obj) : Led :=
  (M, .raw o) :: (p.x, .raw (instObj T.ctx p.dx)) :: (p.dx, .raw (dictOf (attrs3 w p.tk tk4 p.y M) (putN "parent_map" (attrs1 w "root" p.tk (.ref p.y)) (putN "root" [] 0)))) :: ctxRest T w p
structure CtxOk (p : CtxP) (fams : List (List Nat)) : Prop where
  fo : ∃ qual pm ctv vs t, p.fo = kla_obj "<lambda>" qual lamCtx.1 lamCtx.2.1 lamCtx.2.2 [("families", p.cf)] pm p.c' ctv ∧ p.oc.data = .fields vs ∧ vs[1]? = some (.str qual t)
  ys : Paired IsT fams p.ys
  small : fams.length ≤ 100 ∧ ∀ f ∈ fams, f.length ≤ 100

/-- who holds whom -/
noncomputable def parentAt (fams : List (List Nat)) : Nat → Nat → Option (List Nat)
  | 0, _ => none
  | i + 1, e => if e ∈ fams.getD i [] then some (fams.getD i []) else parentAt fams i e
noncomputable def PMap (g : Nat → Option (List Nat)) (f : Str → Option Value) : Prop := f (tx []) = none ∧ ∀ e, match g e with
  | some p => ∃ t, f (tx [e]) = some (.str (tx p) t)
  | none => f (tx [e]) = none
noncomputable def PObj (prog : Program) (w : World) (fams : List (List Nat)) (o : Obj) : Prop := ∃ f n, DV prog w o f n ∧ n ≤ 10000 ∧ PMap (parentAt fams fams.length) f
noncomputable def CtxSt (T : Ad) (w : World) (p : CtxP) (fams : List (List Nat)) (led : Led) : Prop := led = ctx0 T w p ∨ ∃ tk4 M o, led = ctx1 T w p tk4 M o ∧ PObj PySem.Challenge.pw_if0009_01 w fams o

theorem DV.le {prog : Program} {w : World} {o : Obj} {f : Str → Option Value} {n n' : Nat} (h : DV prog w o f n) (hn : n ≤ n') : DV prog w o f n' :=
  let ⟨kvs, a, b, c⟩ := h; ⟨kvs, a, b, Nat.le_trans c hn⟩
theorem PMap.congr {g g' : Nat → Option (List Nat)} {f : Str → Option Value} (h : PMap g f) (e : ∀ x, g' x = g x) : PMap g' f := by
  rw [show g' = g from funext e]; exact h
theorem PMap.set {g : Nat → Option (List Nat)} {f : Str → Option Value} (h : PMap g f) (c : Nat) (p : List Nat) (t : Tok) : PMap (fun e => if e = c then some p else g e) (fun y => if y = tx [c] then some (.str (tx p) t) else f y) := by
  refine ⟨?_, fun e => ?_⟩
  · have : tx [] ≠ tx [c] := fun e => by have := tx_inj e; cases this
    show (if _ then _ else _) = _
    rw [if_neg this]; exact h.1
  · by_cases he : e = c
    · subst he
      simp only [if_true]
      exact ⟨t, rfl⟩
    · have hne : tx [e] ≠ tx [c] := fun q => by have := tx_inj q; injection this with this _; exact he this
      simp only [if_neg he, if_neg hne]
      exact h.2 e

section
variable {T : Ad} {mg mb : Str → Option Value} {w : World} {A : Around} {s : Shared} {σ : Shared} {h₀ : Heap} {K : Frag} {mi ci : Addr} {p : CtxP} {fams : List (List Nat)} {led rest : Led} {Q : Value → Shared → Prop}
theorem c_gpm (X : Tp T mg mb h₀) (kf : Kf K T mi ci) (Xk : K.In h₀) (F : IsDef T.gpm 26 h₀) (R : Room A 3 60) (ok : CtxOk p fams) (cs : CtxSt T w p fams led) (H : S σ h₀ (led ++ rest) s)
    (h : ∀ tk4 M o s', PObj PySem.Challenge.pw_if0009_01 w fams o → S σ h₀ (ctx1 T w p tk4 M o ++ rest) s' → Q (.ref M) s') :
    Wp PySem.Challenge.pw_if0009_01 w A (call (.ref T.gpm) [.ref p.x]) Q s := by
  refine enter (F.keeps H.keep) (X.G.up H) (d := 2) (u := 57) R (ns := ["context"]) (lb := [("context", .ref p.x)]) (fun _ _ _ _ _ => by kernel_rfl) rfl (by tb_start) (by tb_start) (by tb_start) (by tb_start) (by tb_start) fun A' env L s1 R' he H' => ?_
  replace H := H.join H'
  clear H'
  rcases cs with rfl | ⟨tk4, M, o, rfl, hp⟩
  · simp only [List.cons_append, List.nil_append] at H
    obtain ⟨qual, pm, ctv, vs, t, q1, q2, q3⟩ := ok.fo
    refine wpAny_execs_cons ?_
    refine wpAny_Assign_Name ?_
    refine Attribute_Name_ ?_
    refine n_local he (by tb_start) (by tb_start) (by tb_start) (by tb_rel) (by kwd_rel) ?_
    have hx : s1.heap.get? p.x = some (instObj T.ctx p.dx) := H.get (a := p.x) (f := .raw (instObj T.ctx p.dx)) (by k_mem)
    have hdx : s1.heap.get? p.dx = some (dictOf (attrs1 w "root" p.tk (.ref p.y)) (putN "root" [] 0)) := H.get (a := p.dx) (f := .raw (dictOf (attrs1 w "root" p.tk (.ref p.y)) (putN "root" [] 0))) (by k_mem)
    refine get_value (C := T.ctx) (Xk.keeps H.keep) ⟨hx, rfl, rfl, hdx⟩ kf.ga_c (findObj_cls kf.hh_c kf.fp_c kf.sp_c rfl (by decide +kernel) rfl) rfl ?_
    replace H := H.tok (s1.toks + 1)
    generalize ({ s1 with toks := s1.toks + 1 } : Shared) = s1 at H
    refine st_local he (by tb_start) (by tb_start) H (by kwd_inv) fun s1 H => ?_
    refine wpAny_execs_cons ?_
    refine wpAny_If ?_
    refine wpAny_isTrue_Compare1 ?_
    refine n_local he (by tb_start) (by tb_start) (by tb_start) (by tb_rel) (by kwd_rel) ?_
    refine c_none ?_
    refine wpAny_is_plain rfl ?_
    refine wpAny_truthy_bool ?_
    rw [if_pos (by decide +kernel)]
    refine wpAny_execs_cons ?_
    refine wpAny_Assign_two ?_
    refine d_new (prog := PySem.Challenge.pw_if0009_01) (w := w) H fun M o s1 hdv H => ?_
    refine as_attr ?_
    refine n_local he (by tb_start) (by tb_start) (by tb_start) (by tb_rel) (by kwd_rel) ?_
    have hx : s1.heap.get? p.x = some (instObj T.ctx p.dx) := H.get (a := p.x) (f := .raw (instObj T.ctx p.dx)) (by k_mem)
    have hdx : s1.heap.get? p.dx = some (dictOf (attrs1 w "root" p.tk (.ref p.y)) (putN "root" [] 0)) := H.get (a := p.dx) (f := .raw (dictOf (attrs1 w "root" p.tk (.ref p.y)) (putN "root" [] 0))) (by k_mem)
    refine x_setattr (K := K) (C := T.ctx) (x := p.x) (dx := p.dx) (ox := instObj T.ctx p.dx) (es := attrs1 w "root" p.tk (.ref p.y)) (n := putN "root" [] 0) (Xk.keeps H.keep) ⟨hx, rfl, rfl, hdx⟩ rfl H (fun tk => by kwd_inv) kf.sa_c kf.po_c kf.tk_p kf.hd_c rfl (fun tk => by show (2 : Nat) ≤ 1000; decide) fun tk4 s1 H => ?_
    refine wpAny_assign_Name ?_
    refine st_local he (by tb_start) (by tb_start) H (by kwd_inv) fun s1 H => ?_
    replace H := H.perm (List.perm_middle (l₁ := [_, _, _, _, _, _, _, _]))
    obtain ⟨h₁, H, hb, k₁, thaw⟩ := H.freeze
    simp only [List.cons_append, List.nil_append] at H
    have XX : ∀ {s' : Shared} {fs : Led}, S σ h₁ fs s' → Tp T mg mb s'.heap := fun H => X.keeps fun b o e => H.keep b o (k₁ b o e)
    have XK : ∀ {s' : Shared} {fs : Led}, S σ h₁ fs s' → K.In s'.heap := fun H => Xk.keeps fun b o e => H.keep b o (k₁ b o e)
    refine wpAny_execs_cons ?_
    refine f_for (α := List Nat) ?_ (fun _ => rfl) (fun _ _ => rfl)
    refine MethodCall_ ?_
    refine Attribute_Name_ ?_
    refine n_local he (by tb_start) (by tb_start) (by tb_start) (by tb_rel) (by kwd_rel) ?_
    have hx : s1.heap.get? p.x = some (instObj T.ctx p.dx) := H.get (a := p.x) (f := .raw (instObj T.ctx p.dx)) (by k_mem)
    have hdx : s1.heap.get? p.dx = some (dictOf (attrs3 w p.tk tk4 p.y M) (putN "parent_map" (attrs1 w "root" p.tk (.ref p.y)) (putN "root" [] 0))) := H.get (a := p.dx) (f := .raw (dictOf (attrs3 w p.tk tk4 p.y M) (putN "parent_map" (attrs1 w "root" p.tk (.ref p.y)) (putN "root" [] 0)))) (by k_mem)
    refine get_value (C := T.ctx) (XK H) ⟨hx, rfl, rfl, hdx⟩ kf.ga_c (findObj_own (v := .ref p.y) kf.hh_c kf.fr_c kf.nr_c rfl) rfl ?_
    replace H := H.tok (s1.toks + 1)
    generalize ({ s1 with toks := s1.toks + 1 } : Shared) = s1 at H
    have hy : s1.heap.get? p.y = some (instObj T.ctx p.dy) := H.get (a := p.y) (f := .raw (instObj T.ctx p.dy)) (by k_mem)
    have hdy : s1.heap.get? p.dy = some (dictOf (attrs2 w p.tk2 p.tk3 .none (.ref p.f)) (putN "iter" (attrs1 w "root" p.tk2 .none) (putN "root" [] 0))) := H.get (a := p.dy) (f := .raw (dictOf (attrs2 w p.tk2 p.tk3 .none (.ref p.f)) (putN "iter" (attrs1 w "root" p.tk2 .none) (putN "root" [] 0)))) (by k_mem)
    refine method_usual (C := T.ctx) (od := some (dictOf (attrs2 w p.tk2 p.tk3 .none (.ref p.f)) (putN "iter" (attrs1 w "root" p.tk2 .none) (putN "root" [] 0)))) (r := none) (XK H) ⟨hy, rfl, rfl, hdy⟩ kf.ga_c kf.gt_c kf.fi_c rfl ?_
    refine get_value (C := T.ctx) (XK H) ⟨hy, rfl, rfl, hdy⟩ kf.ga_c (findObj_own (v := .ref p.f) kf.hh_c kf.fi_c kf.nr_c rfl) rfl ?_
    replace H := H.tok (s1.toks + 1)
    generalize ({ s1 with toks := s1.toks + 1 } : Shared) = s1 at H
    have hfo : s1.heap.get? p.f = some p.fo := H.get (a := p.f) (f := .raw p.fo) (by k_mem)
    rw [q1] at hfo
    refine callWith_F0 ⟨_, _, _, _, hfo⟩ ?_
    refine x_callLam (f := p.f) (c' := p.c') (cf := p.cf) (oc := p.oc) (v := .ref p.D) (XX H).G.nolimit (d := 0) (u := 1) (R'.less (by omega) (by omega)) H (by rw [← q1]; k_mem) (by k_mem) (by k_mem) q2 q3 fun s1 H => ?_
    have hD : (Fact.list p.ys).at s1.heap p.D := H.up hb
    refine ⟨_, _, _, _, _, fun i fs => ∃ (o : Obj) (f : Str → Option Value) (l' : List (Str × Value)), fs = (M, .raw o) :: (L, .loc l') :: (p.x, .raw (instObj T.ctx p.dx)) :: (p.dx, .raw (dictOf (attrs3 w p.tk tk4 p.y M) (putN "parent_map" (attrs1 w "root" p.tk (.ref p.y)) (putN "root" [] 0)))) ::
        (p.f, .raw p.fo) :: (p.c', .raw p.oc) :: (p.y, .raw (instObj T.ctx p.dy)) :: (p.dy, .raw (dictOf (attrs2 w p.tk2 p.tk3 .none (.ref p.f)) (putN "iter" (attrs1 w "root" p.tk2 .none) (putN "root" [] 0)))) :: (p.cf, .cell (some (.ref p.D))) :: rest ∧ i ≤ fams.length ∧
        DV PySem.Challenge.pw_if0009_01 w o f (100 * i) ∧ PMap (parentAt fams i) f ∧ look l' "parent_map" = some (.ref M), (Iter.list R'.handled (Heap.PlainList.isList hb) (Heap.PlainList.isList hD)).to ok.ys, H, ?_, ?_, ?_⟩
    · exact ⟨o, _, _, rfl, Nat.zero_le _, hdv, ⟨rfl, fun e => rfl⟩, by kwd_rel⟩
    · rintro i a v fs I oi s1 ha ⟨tv, rfl⟩ ⟨o, f, l', rfl, hi, hdv, hpm, g1⟩ H
      have hil : i < fams.length := (List.getElem?_eq_some_iff.mp ha).1
      have hga : fams.getD i [] = a := by rw [List.getD_eq_getElem?_getD, ha]; rfl
      have hal := ok.small.2 a (List.mem_of_getElem? ha)
      have hfl := ok.small.1
      refine wpAny_assign_Name ?_
      refine st_local he (by tb_start) (by tb_start) H (by kwd_inv) fun s1 H => ?_
      refine W_gen fun Q1 hQ1 => ?_
      refine wpAny_execs_cons ?_
      refine f_for (α := Nat) ?_ (fun _ => rfl) (fun _ _ => rfl)
      refine n_local he (by tb_start) (by tb_start) (by tb_start) (by tb_rel) (by kwd_rel) ?_
      have IT := Iter.str (prog := PySem.Challenge.pw_if0009_01) (w := w) (h₀ := h₁) (s := s1) (x := tx a) (t := tv) R'.handled
      rw [tx_cps] at IT
      refine ⟨_, _, _, _, _, fun j fs => ∃ (o : Obj) (f : Str → Option Value) (l' : List (Str × Value)), fs = (I, .raw oi) :: (M, .raw o) :: (L, .loc l') :: (p.x, .raw (instObj T.ctx p.dx)) :: (p.dx, .raw (dictOf (attrs3 w p.tk tk4 p.y M) (putN "parent_map" (attrs1 w "root" p.tk (.ref p.y)) (putN "root" [] 0)))) ::
        (p.f, .raw p.fo) :: (p.c', .raw p.oc) :: (p.y, .raw (instObj T.ctx p.dy)) :: (p.dy, .raw (dictOf (attrs2 w p.tk2 p.tk3 .none (.ref p.f)) (putN "iter" (attrs1 w "root" p.tk2 .none) (putN "root" [] 0)))) :: (p.cf, .cell (some (.ref p.D))) :: rest ∧ j ≤ a.length ∧
        DV PySem.Challenge.pw_if0009_01 w o f (100 * i + j) ∧ PMap (fun e => if e ∈ a.take j then some a else parentAt fams i e) f ∧ look l' "parent_map" = some (.ref M) ∧ look l' "p" = some (.str (tx a) tv), IT, H, ?_, ?_, ?_⟩
      · exact ⟨o, f, _, rfl, Nat.zero_le _, hdv, hpm.congr (fun e => by simp), by kwd_rel, by kwd_rel⟩
      · rintro j c v fs I2 o2 s1 hc ⟨tc, rfl⟩ ⟨o, f, l', rfl, hj, hdv, hpm, g1, g2⟩ H
        have hjl : j < a.length := (List.getElem?_eq_some_iff.mp hc).1
        refine wpAny_assign_Name ?_
        refine st_local he (by tb_start) (by tb_start) H (by kwd_inv) fun s1 H => ?_
        refine W_gen fun Q2 hQ2 => ?_
        refine wpAny_execs_cons ?_
        refine wpAny_Assign_Subscript ?_
        refine n_local he (by tb_start) (by tb_start) (by tb_start) (by tb_rel) (by kwd_rel) ?_
        refine n_local he (by tb_start) (by tb_start) (by tb_start) (by tb_rel) (by kwd_rel) ?_
        refine n_local he (by tb_start) (by tb_start) (by tb_start) (by tb_rel) (by kwd_rel) ?_
        refine d_set H (fun o' => by kwd_inv) hdv (by rw [sizeLine_eq]; omega) fun o3 s1 hdv3 H => ?_
        refine wpAny_execs_nil ?_
        refine hQ2 _ _ ?_
        refine ⟨_, H.drop (by kwd_less), o3, _, _, rfl, by omega, hdv3, (hpm.set c a tv).congr (fun e => ?_), by kwd_rel, by kwd_rel⟩
        rw [List.take_add_one, hc]
        by_cases h1 : e = c
        · subst h1; simp
        · simp [h1]
      · rintro fs s1 ⟨o, f, l', rfl, hj, hdv, hpm, g1, g2⟩ H
        refine wpAny_execs_nil ?_
        refine hQ1 _ _ ?_
        refine ⟨_, H, o, f, l', rfl, by omega, hdv.le (by omega), hpm.congr (fun e => ?_), g1⟩
        rw [List.take_length]
        show (if e ∈ fams.getD i [] then some (fams.getD i []) else parentAt fams i e) = _
        rw [hga]
    · rintro fs s1 ⟨o, f, l', rfl, hi, hdv, hpm, g1⟩ H
      have hfl := ok.small.1
      refine wpAny_execs_nil ?_
      refine wpAny_execs_cons ?_
      refine wpAny_Return_some ?_
      refine n_local he (by tb_start) (by tb_start) (by tb_start) (by tb_rel) g1 ?_
      have H := (thaw _ _ (H.drop (fs' := (M, .raw o) :: (p.x, .raw (instObj T.ctx p.dx)) :: (p.dx, .raw (dictOf (attrs3 w p.tk tk4 p.y M) (putN "parent_map" (attrs1 w "root" p.tk (.ref p.y)) (putN "root" [] 0)))) ::
        (p.f, .raw p.fo) :: (p.c', .raw p.oc) :: (p.y, .raw (instObj T.ctx p.dy)) :: (p.dy, .raw (dictOf (attrs2 w p.tk2 p.tk3 .none (.ref p.f)) (putN "iter" (attrs1 w "root" p.tk2 .none) (putN "root" [] 0)))) :: (p.cf, .cell (some (.ref p.D))) :: rest) (by kwd_less))).perm (List.perm_middle (l₁ := [_, _, _, _, _, _, _])).symm
      exact h tk4 M o _ ⟨f, _, hdv, by omega, hpm⟩ H
  · simp only [List.cons_append, List.nil_append] at H
    refine wpAny_execs_cons ?_
    refine wpAny_Assign_Name ?_
    refine Attribute_Name_ ?_
    refine n_local he (by tb_start) (by tb_start) (by tb_start) (by tb_rel) (by kwd_rel) ?_
    have hx : s1.heap.get? p.x = some (instObj T.ctx p.dx) := H.get (a := p.x) (f := .raw (instObj T.ctx p.dx)) (by k_mem)
    have hdx : s1.heap.get? p.dx = some (dictOf (attrs3 w p.tk tk4 p.y M) (putN "parent_map" (attrs1 w "root" p.tk (.ref p.y)) (putN "root" [] 0))) := H.get (a := p.dx) (f := .raw (dictOf (attrs3 w p.tk tk4 p.y M) (putN "parent_map" (attrs1 w "root" p.tk (.ref p.y)) (putN "root" [] 0)))) (by k_mem)
    refine get_value (C := T.ctx) (Xk.keeps H.keep) ⟨hx, rfl, rfl, hdx⟩ kf.ga_c (findObj_own (v := .ref M) kf.hh_c kf.fp_c kf.np_c rfl) rfl ?_
    replace H := H.tok (s1.toks + 1)
    generalize ({ s1 with toks := s1.toks + 1 } : Shared) = s1 at H
    refine st_local he (by tb_start) (by tb_start) H (by kwd_inv) fun s1 H => ?_
    refine wpAny_execs_cons ?_
    refine wpAny_If ?_
    refine wpAny_isTrue_Compare1 ?_
    refine n_local he (by tb_start) (by tb_start) (by tb_start) (by tb_rel) (by kwd_rel) ?_
    refine c_none ?_
    refine wpAny_is_plain rfl ?_
    refine wpAny_truthy_bool ?_
    rw [beq_eq_false_iff_ne.mpr (by nofun), if_neg (by decide)]
    refine wpAny_execs_nil ?_
    refine wpAny_execs_cons ?_
    refine wpAny_Return_some ?_
    refine n_local he (by tb_start) (by tb_start) (by tb_start) (by tb_rel) (by kwd_rel) ?_
    exact h tk4 M o _ hp (H.drop (by kwd_less))
end
end Mine
end

section
open PySem PySem.Calls PySem.Spec PyProof.Rows PySem.W
set_option Elab.async false
set_option maxRecDepth 100000
namespace Mine

local macro_rules | `(tactic| tb_rel) => `(tactic| first | exact S.get (by assumption) (by k_mem) | assumption | (refine S.up (by assumption) ?_; tb_rel))
local macro_rules | `(tactic| kwd_rel) => `(tactic| first | (with_reducible exact look_head) | (with_reducible exact lk_head) | assumption | (refine look_tail (by kernel_rfl) ?_; kwd_rel) | (refine lk_tail (by kernel_rfl) ?_; kwd_rel))
local macro_rules | `(tactic| kwd_inv) => `(tactic| first | (with_reducible exact Upd.head) | (with_reducible apply Upd.tail; kwd_inv))
local macro_rules | `(tactic| kwd_less) => `(tactic| first | exact List.Sublist.refl _ | (refine List.Sublist.cons_cons _ ?_; kwd_less) | (refine List.Sublist.cons _ ?_; kwd_less))
local macro_rules | `(tactic| tb_start) => `(tactic| first | kernel_rfl | decide +kernel)

/-- the def within prepare_parent -/
noncomputable def selDef : Arguments × List Stmt × Scope × Pos := match ((fnAt 27).2.2.1[0]? : Option Stmt) with
  | some (.FunctionDef _ a b _ _ _ sc _ _ p) => (a, b, sc, p)
  | _ => default
noncomputable abbrev selQual : Str := (fnAt 27).1 ++ ".<locals>." ++ "select"
/-- its code is made but once -/
noncomputable def TabSt (P : Addr) (led : Led) : Prop := led = [(P, .raw (tabObj #[]))] ∨ ∃ c' oc vs t, led = [(c', .raw oc), (P, .raw (tabObj #[rawInt selDef.2.2.2.line, rawInt selDef.2.2.2.col, .ref c']))] ∧ oc.data = .fields vs ∧ vs[1]? = some (.str selQual t)

theorem c_pp {T : Ad} {mg mb : Str → Option Value} {w : World} {A : Around} {s : Shared} {σ : Shared} {h₀ : Heap} {c P : Addr} {tab rest : Led} {Q : Value → Shared → Prop} (X : Tp T mg mb h₀) (B : BMain mg h₀) (F : IsDefC T.pp 27 c P h₀) (R : Room A 1 20) (ts : TabSt P tab) (H : S σ h₀ (tab ++ rest) s)
    (h : ∀ f c' oc vs t doc pm ctv s', oc.data = .fields vs → vs[1]? = some (.str selQual t) →
      S σ h₀ ((f, .raw (fnMade "select" selQual selDef.1 selDef.2.1 selDef.2.2.1 [] doc pm c' ctv)) :: (c', .raw oc) :: (P, .raw (tabObj #[rawInt selDef.2.2.2.line, rawInt selDef.2.2.2.col, .ref c'])) :: rest) s' → Q (.ref f) s') :
    Wp PySem.Challenge.pw_if0009_01 w A (call (.ref T.pp) [.none, .none]) Q s := by
  refine enterE (F.keeps H.keep) (X.G.up H).nolimit (d := 0) (u := 17) R (ns := ["next", "token"]) (lb := [("token", .none), ("next", .none)]) (fun _ _ _ _ _ => by kernel_rfl) rfl (by tb_start) (by tb_start) (by tb_start) (by tb_start) (by tb_start) fun A' env L s1 R' he hcode hqual H' => ?_
  replace H := H.join H'
  clear H'
  refine wpAny_execs_cons ?_
  rcases ts with rfl | ⟨c', oc, vs, t, rfl, e1, e2⟩
  · simp only [List.cons_append, List.nil_append] at H
    refine x_def (mg := mg) (mb := mb) (c := c) (P := P) (clos := []) he hcode (by kernel_rfl) (by kernel_rfl) (by kernel_rfl) (by kernel_rfl) (by tb_start) (X.G.up H) (B.keeps H.keep) (F.hd.keeps H.keep) H (fun c' => by kwd_inv) fun f c' oc vs t doc pm ctv s1 e1 e2 H => ?_
    rw [hqual] at e2 H
    refine st_local he (by tb_start) (by tb_start) H (by kwd_inv) fun s1 H => ?_
    refine wpAny_execs_cons ?_
    refine wpAny_Return_some ?_
    refine n_local he (by tb_start) (by tb_start) (by tb_start) (by tb_rel) (by kwd_rel) ?_
    exact h f c' oc vs t doc pm ctv _ e1 e2 (H.drop (by kwd_less))
  · simp only [List.cons_append, List.nil_append] at H
    refine x_def_again (mg := mg) (mb := mb) (c := c) (P := P) (c' := c') (clos := []) he hcode (by kernel_rfl) (by kernel_rfl) (by kernel_rfl) (by kernel_rfl) (by tb_start) (X.G.up H) (B.keeps H.keep) (F.hd.keeps H.keep) H (by exact .tail _ (.tail _ (.head _))) fun f doc pm ctv s1 H => ?_
    rw [hqual] at H
    refine st_local he (by tb_start) (by tb_start) H (by kwd_inv) fun s1 H => ?_
    refine wpAny_execs_cons ?_
    refine wpAny_Return_some ?_
    refine n_local he (by tb_start) (by tb_start) (by tb_start) (by tb_rel) (by kwd_rel) ?_
    exact h f c' oc vs t doc pm ctv _ e1 e2 (H.drop (by kwd_less))
end Mine
end

section
open PySem PySem.Calls PySem.Spec PyProof.Rows PySem.W
set_option Elab.async false
set_option maxRecDepth 100000
namespace Mine


section
variable {prog : Program} {w : World} {A : Around} {R : GenEnd} {Y : Protocol} {n : Nat} {s₀ : Shared} {c : Code} {fs : List Frame} {s : Shared} {env : Env} {K : Flow → Sem Fin} {H : Value → Sem Fin} {gd : Bool → Bool} {lv : List Value → List Value}
theorem g_wp {α : Type} {m : Sem α} {K : α → Sem Fin} {H : Value → Sem Fin} (h : Wp prog w (A.over c fs) m (fun a s' => Seg (model prog w) A R Y n s₀ c (K a) fs s') s) : Seg (model prog w) A R Y n s₀ c (m.wrap K H gd lv) fs s :=
  seg_wrap (wpAny_mono h (fun _ _ q => q) fun _ _ e => e.elim)
theorem g_bind {α β : Type} {m : Sem α} {f : α → Sem β} {K : β → Sem Fin} {H : Value → Sem Fin} (h : Wp prog w (A.over c fs) m (fun a s' => Seg (model prog w) A R Y n s₀ c ((f a).wrap K H gd lv) fs s') s) : Seg (model prog w) A R Y n s₀ c ((m >>= f).wrap K H gd lv) fs s :=
  seg_bind_wrap (wpAny_mono h (fun _ _ q => q) fun _ _ e => e.elim)
theorem g_If {test : Expr} {body orelse : List Stmt} {pos : Pos} (h : Wp prog w (A.over c fs) (isTrue test env (eval test env)) (fun b s' => if b = true then Seg (model prog w) A R Y n s₀ c ((execs body env).wrap K H gd lv) fs s' else Seg (model prog w) A R Y n s₀ c ((execs orelse env).wrap K H gd lv) fs s') s) :
    Seg (model prog w) A R Y n s₀ c ((exec (.If test body orelse pos) env).wrap K H gd lv) fs s := by
  rw [exec_If]
  refine g_bind (wpAny_standAt (g_bind (wpAny_mono h (fun b s' h' => ?_) fun _ _ e => e.elim)))
  cases b
  · exact h'
  · exact h'
/-- what a for in a generator leaves on its stack -/
noncomputable abbrev forFrame (K : Flow → Sem Fin) (H : Value → Sem Fin) (gd : Bool → Bool) (lv : List Value → List Value) (env : Env) (c : Code) (p : Pos) : Frame :=
  .ret (fun r => ((match r with | .ok f => (.pure f : Sem Flow) | .error e => .raise e).onRaise fun (x : Value) => do
        if (← field x 1) == Value.none then unsupported "frame.own-activation:exception-without-traceback"
        setFlight x env.frame).wrap K H gd lv) none (gd false) (lv []) c p []
theorem g_For {target iter : Expr} {body : List Stmt} {pos : Pos} (h : Wp prog w (A.over c fs) (eval iter env) (fun x s₁ => Wp prog w (A.over c fs) (pyIter x) (fun it s₂ => ∀ p,
      Seg (model prog w) A R Y n s₀ (.forLoop target it body [] env) ((model prog w).den (.forLoop target it body [] env)) (forFrame K H gd lv env c p :: fs) s₂) s₁) s)
    (hs : ∀ x, foldedSetIterable iter env x = pure x) : Seg (model prog w) A R Y n s₀ c ((exec (.For target iter body [] pos) env).wrap K H gd lv) fs s := by
  rw [exec_For]
  refine g_bind (wpAny_standAt (g_bind (wpAny_mono h (fun x s₁ h₁ => ?_) fun _ _ e => e.elim)))
  rw [hs]
  refine g_bind (wpAny_pure (g_bind (wpAny_standAt (g_bind (wpAny_holding (wpAny_mono h₁ (fun it s₂ h₂ => ?_) fun _ _ e => e.elim))))))
  exact seg_call h₂
theorem g_done {r : Result} {k : Result → Sem Fin} {hd : Option Value} {g : Bool} {l : List Value} {c₁ : Code} {p₁ : Pos} (hk : Seg (model prog w) A R Y n s₀ c₁ (k r) fs s) : Seg (model prog w) A R Y n s₀ c (leafOf r) (.ret k hd g l c₁ p₁ [] :: fs) s := seg_leaf r hk

theorem g_turn {x : Str} {px : Pos} {it : Value} {body : List Stmt} (h : Wp prog w (A.over (.forLoop (.Name x px) it body [] env) fs) (pyNext it) (fun ov s' => match ov with
      | none => Seg (model prog w) A R Y n s₀ (.forLoop (.Name x px) it body [] env) (.pure (.again (.block [] env))) fs s'
      | some v => Wp prog w (A.over (.forLoop (.Name x px) it body [] env) fs) (assign (.Name x px) env v) (fun _ s'' => Seg (model prog w) A R Y n s₀ (.forLoop (.Name x px) it body [] env) ((execs body env).wrap (fun f => match f with
            | .next | .cont => .pure (.again (.forLoop (.Name x px) it body [] env))
            | .brk => .pure (.done .next)
            | .ret v => .pure (.done (.ret v))) (fun e => (do noteFrame e env; theTreesLotGoes e : Sem Unit).wrap (fun _ => .raise e) .raise id id) id id) fs s'') s') s) :
    Seg (model prog w) A R Y n s₀ (.forLoop (.Name x px) it body [] env) ((model prog w).den (.forLoop (.Name x px) it body [] env)) fs s := by
  show Seg _ A R Y n s₀ _ ((forTurn (.Name x px) it body [] env).onRaise (fun x => do noteFrame x env; theTreesLotGoes x)) fs s
  unfold forTurn
  rw [Sem.onRaise_eq_wrap]
  refine g_bind (wpAny_standAt (g_bind (wpAny_onRaise (wpAny_mono h (fun ov s' h' => ?_) fun _ _ e => e.elim))))
  cases ov with
  | none => exact h'
  | some v =>
    refine g_bind (wpAny_pure (g_bind (wpAny_mono h' (fun _ s'' h'' => ?_) fun _ _ e => e.elim)))
    show Seg _ A R Y n s₀ _ ((execs body env >>= _).wrap _ _ _ _) fs s''
    rw [Sem.bind_eq_wrap', Sem.wrap_wrap]
    rw [Sem.wrap_congr (execs body env) _ _ (K' := fun f => match f with
            | .next | .cont => .pure (.again (.forLoop (.Name x px) it body [] env))
            | .brk => .pure (.done .next)
            | .ret v => .pure (.done (.ret v))) (H' := (fun e => (do noteFrame e env; theTreesLotGoes e : Sem Unit).wrap (fun _ => .raise e) .raise id id))
        (fun f => by cases f <;> rfl) (fun e => by show (do noteFrame e env; theTreesLotGoes e : Sem Unit).bind (fun _ => .raise e) = _; rw [Sem.bind_eq_wrap])]
    exact h''
theorem g_again {it : Value} {x : Expr} {body : List Stmt} {c : Code} (h : Seg (model prog w) A R Y n s₀ (.forLoop x it body [] env) ((model prog w).den (.forLoop x it body [] env)) fs s) :
    Seg (model prog w) A R Y n s₀ c (.pure (.again (.forLoop x it body [] env))) fs s := seg_again rfl h
theorem g_over {p : Pos} {c₁ : Code} (h : Seg (model prog w) A R Y n s₀ c₁ (K .next) fs s) : Seg (model prog w) A R Y n s₀ c (.pure (.again (.block [] env))) (forFrame K H gd lv env c₁ p :: fs) s := by
  refine seg_again rfl ?_
  exact seg_leaf (.ok .next) h
end
end Mine
end

section
open PySem PySem.Calls PySem.Spec PyProof.Rows PySem.W
set_option Elab.async false
set_option maxRecDepth 100000
namespace Mine


section
variable {prog : Program} {w : World} {A : Around} {s : Shared} {σ : Shared} {h₀ : Heap} {fs : Led} {env : Env}
theorem d_notin {d : Addr} {o : Obj} {f : Str → Option Value} {n : Nat} {x : Str} {t : Tok} {Q : Value → Shared → Prop} (H : S σ h₀ fs s) (hd : s.heap.get? d = some o) (hf : DV prog w o f n) (hn : (d == sysModules) = false) (h : ∀ s', S σ h₀ fs s' → Q (.bool (!(f x).isSome)) s') : Wp prog w A (compareOp .NotIn (.str x t) (.ref d)) Q s := by
  obtain ⟨kvs, ho, he, _⟩ := hf
  refine wpAny_notIn_of (knd := strKind prog w) (k := x) (strOf x t) hn (Heap.dictOf_iff.mpr ⟨o, hd, ho⟩).mapOf ?_
  rw [he x]
  exact h _ (H.tok _)

noncomputable def ItAt (o : Obj) (ax : Addr) (i : Nat) : Prop := o.cls = .type "list_iterator" ∧ o.data = .fields #[.ref ax, .int i 0]
theorem it_next {I ax : Addr} {its : List Value} {i : Nat} {v : Value} {o : Obj} {fs' : Obj → Led} {Q : Option Value → Shared → Prop} (hh : A.handled = none) (H : S σ h₀ fs s) (U : ∀ o', Upd I (.raw o) (.raw o') fs (fs' o')) (ho : ItAt o ax i) (hl : (Fact.list its).at s.heap ax) (hne : ax ≠ I) (hv : its[i]? = some v)
    (h : ∀ o' s', ItAt o' ax (i + 1) → S σ h₀ (fs' o') s' → Q (some v) s') : Wp prog w A (pyNext (.ref I)) Q s := by
  have hI : s.heap.get? I = some o := H.get (U o).mem
  have hi : i < its.toArray.size := by rw [List.size_toArray]; exact (List.getElem?_eq_some_iff.mp hv).1
  refine (Walks.list (prog := prog) (w := w) (A := A) hh I ax hne its.toArray).item i s _ _ hi ⟨⟨o, hI, ho.1, ho.2⟩, Heap.PlainList.isList hl⟩ fun v' h' tk hp st hk => ?_
  have : v' = v := by
    have hp' : its[i]? = some v' := by simpa using hp
    rw [hv] at hp'; cases hp'; rfl
  subst this
  obtain ⟨⟨o', ho', c1, c2⟩, -⟩ := st
  exact h o' _ ⟨c1, c2⟩ (H.upd (U o') tk (fun b o hb e => hk b o (by simpa using hb) e) ho')
theorem it_end {I ax : Addr} {its : List Value} {o : Obj} {Q : Option Value → Shared → Prop} (hh : A.handled = none) (H : S σ h₀ ((I, .raw o) :: fs) s) (ho : ItAt o ax its.length) (hl : (Fact.list its).at s.heap ax) (hne : ax ≠ I)
    (h : ∀ s', S σ h₀ fs s' → Q none s') : Wp prog w A (pyNext (.ref I)) Q s := by
  have hI : s.heap.get? I = some o := H.get (.head _)
  have hsz : its.toArray.size = its.length := List.size_toArray
  refine (Walks.list (prog := prog) (w := w) (A := A) hh I ax hne its.toArray).done s _ _ ⟨⟨o, hI, ho.1, by rw [hsz]; exact ho.2⟩, Heap.PlainList.isList hl⟩ fun h' tk hk => h _ ?_
  have nd := List.nodup_cons.mp H.nd
  refine ⟨?_, fun b o e => ?_, fun q hq => ?_, fun q hq => H.new q (.tail _ hq), nd.2⟩
  · obtain ⟨h1, t1, rfl⟩ := H.same; exact ⟨h', tk, rfl⟩
  · refine hk b o (fun hb => ?_) (H.keep b o e)
    have : b = I := by simpa using hb
    rw [this, H.new' (.head _)] at e; cases e
  · refine Fact.congr (fun o e => hk _ o (fun hb => ?_) e) (H.holds q (.tail _ hq))
    have : q.1 = I := by simpa using hb
    exact nd.1 (this ▸ List.mem_map_of_mem (f := (·.1)) hq)
end

theorem Room.gen0 {A : Around} {d u : Nat} (R : Room A (d + 1) (u + 4)) (b : List Stmt) (env : Env) : Room (A.in1.over (.func b env) []) d u := by
  refine ⟨R.handled, ?_, ?_⟩
  · show A.depth + 0 + (Code.func b env).weight + d < _
    rw [show (Code.func b env).weight = 1 from rfl]; have := R.depth; omega
  · show A.units + 1 + 0 + (Code.func b env).cUnits + u < _
    rw [show (Code.func b env).cUnits = 3 from rfl]; have := R.units; omega
theorem Room.gen1 {A : Around} {d u : Nat} (R : Room A (d + 1) (u + 4)) (b b' : List Stmt) (env env' : Env) (x : Expr) (it : Value) (K : Flow → Sem Fin) (H : Value → Sem Fin) (gd : Bool → Bool) (lv : List Value → List Value) (p : Pos) :
    Room (A.in1.over (.forLoop x it b [] env) [forFrame K H gd lv env (.func b' env') p]) d u := by
  refine ⟨R.handled, ?_, ?_⟩
  · show A.depth + ((Code.func b' env').weight + 0) + (Code.forLoop x it b [] env).weight + d < _
    rw [show (Code.func b' env').weight = 1 from rfl, show (Code.forLoop x it b [] env).weight = 0 from rfl]; have := R.depth; omega
  · show A.units + 1 + ((Code.func b' env').cUnits + 0) + (Code.forLoop x it b [] env).cUnits + u < _
    rw [show (Code.func b' env').cUnits = 3 from rfl, show (Code.forLoop x it b [] env).cUnits = 0 from rfl]; have := R.units; omega

/-- a generator's last stretch writes its own locals and its iterator, no more -/
structure Done2 (Kn : Addr → Prop) (L : Addr) (s₀ s₁ : Shared) : Prop where
  same : ∃ h tk, s₁ = { s₀ with heap := h, toks := tk }
  keep : ∀ b o, b ≠ L → (Kn b ∨ o.cls ≠ .type "list_iterator") → s₀.heap.get? b = some o → s₁.heap.get? b = some o
theorem S.rebase {σ : Shared} {h₀ : Heap} {fs : Led} {s : Shared} (H : S σ h₀ fs s) : S s h₀ fs s := ⟨⟨s.heap, s.toks, rfl⟩, H.keep, H.holds, H.new, H.nd⟩
theorem S.regen {σ : Shared} {h₀ : Heap} {fs : Led} {s : Shared} (H : S σ h₀ fs s) (g : Array GenState) : S { s with gens := g } h₀ fs { s with gens := g } := ⟨⟨s.heap, s.toks, rfl⟩, H.keep, H.holds, H.new, H.nd⟩
theorem S.done2 {Kn : Addr → Prop} {L : Addr} {σ : Shared} {h₀ : Heap} {fs : Led} {s₀ s₁ : Shared} (D : Done2 Kn L s₀ s₁) (H : S σ h₀ fs s₀) (hb : ∀ b o, h₀.get? b = some o → b ≠ L ∧ Kn b) (hf : ∀ q ∈ fs, q.1 ≠ L ∧ (Kn q.1 ∨ ∀ o, s₀.heap.get? q.1 = some o → o.cls ≠ .type "list_iterator")) : S σ h₀ fs s₁ := by
  obtain ⟨⟨h, tk, rfl⟩, k⟩ := D
  refine ⟨?_, fun b o e => k b o (hb b o e).1 (.inl (hb b o e).2) (H.keep b o e), fun q hq => ?_, H.new, H.nd⟩
  · obtain ⟨h1, t1, rfl⟩ := H.same; exact ⟨h, tk, rfl⟩
  · obtain ⟨n1, n2⟩ := hf q hq
    exact Fact.congr (fun o e => k _ o n1 (n2.imp id (fun z => z o e)) e) (H.holds q hq)

/-- what stood already when the generator was first woken, as far as it is told of -/
noncomputable def selKnown (T : Ad) (w : World) (h₀ : Heap) (lst : Addr) (p : CtxP) (rest : Led) : Addr → Prop := fun b => h₀.get? b ≠ none ∨ b ∈ lst :: p.x :: p.dx :: (ctxRest T w p ++ rest).map (·.1)
/-- how the generator ends, and what it hands out on the way -/
noncomputable def selEnd (Kn : Addr → Prop) (L : Addr) : GenEnd := fun n s₀ r s₁ => r = .ok (.ret .none) ∧ (n = 0 ∧ Done2 Kn L s₀ s₁)
noncomputable def selOut (T : Ad) (w : World) (h₀ : Heap) (L lst : Addr) (p : CtxP) (fams : List (List Nat)) (q : List Nat) (its : List Value) (rest : Led) : Protocol := fun m s₀ v s kap => m = 0 ∧ IsT q v ∧
  ∃ tk4 M o I it RM o2 l, PObj PySem.Challenge.pw_if0009_01 w fams o ∧
    S s₀ h₀ ((I, .raw it) :: (RM, .raw o2) :: (L, .loc l) :: (lst, .list its) :: (ctx1 T w p tk4 M o ++ rest)) s ∧
    ∀ s'' rest'', S s'' h₀ ((I, .raw it) :: (RM, .raw o2) :: (L, .loc l) :: (lst, .list its) :: (M, .raw o) :: rest'') s'' → kap (.send .none) s''
end Mine
end

section
open PySem PySem.Calls PySem.Spec PyProof.Rows PySem.W
set_option Elab.async false
set_option maxRecDepth 100000
namespace Mine

local macro_rules | `(tactic| tb_rel) => `(tactic| first | exact S.get (by assumption) (by k_mem) | assumption | (refine S.up (by assumption) ?_; tb_rel))
local macro_rules | `(tactic| kwd_rel) => `(tactic| first | (with_reducible exact look_head) | (with_reducible exact lk_head) | assumption | (refine look_tail (by kernel_rfl) ?_; kwd_rel) | (refine lk_tail (by kernel_rfl) ?_; kwd_rel))
local macro_rules | `(tactic| kwd_inv) => `(tactic| first | (with_reducible exact Upd.head) | (with_reducible apply Upd.tail; kwd_inv))
local macro_rules | `(tactic| tb_start) => `(tactic| first | kernel_rfl | decide +kernel)

section
variable {prog : Program} {w : World} {A : Around} {R : GenEnd} {Y : Protocol} {n : Nat} {s₀ : Shared} {c : Code} {fs : List Frame} {s : Shared} {K : Flow → Sem Fin} {H : Value → Sem Fin} {gd : Bool → Bool} {lv : List Value → List Value}
theorem S.own2 {s : Shared} {I L : Addr} {f g : Fact} (hne : I ≠ L) (h1 : f.at s.heap I) (h2 : g.at s.heap L) : S s (hideAll s.heap [I, L]) [(I, f), (L, g)] s :=
  ⟨⟨s.heap, s.toks, rfl⟩, fun _ _ e => of_hideAll _ e, fun q hq => by
    rcases List.mem_cons.mp hq with rfl | hq
    · exact h1
    · obtain rfl := List.mem_singleton.mp hq; exact h2, fun q hq => hideAll_none _ (by
    rcases List.mem_cons.mp hq with rfl | hq
    · exact .head _
    · obtain rfl := List.mem_singleton.mp hq; exact .tail _ (.head _)), List.nodup_cons.mpr ⟨fun h => hne (List.mem_singleton.mp h), List.nodup_cons.mpr ⟨List.not_mem_nil, List.nodup_nil⟩⟩⟩
/-- a yield that stands as a statement, in a def -/
theorem g_yield {env : Env} {e : Expr} {ypos pos : Pos} (hfs : splitAtGen fs = none) (hgd : gd false = false) (hfg : fs.any Frame.guarded = false) (hco : env.scope.isCoroutine = false) (hk : env.scope.kind = .function)
    (h : Wp prog w (A.over c fs) (eval e env) (fun v s' => ∀ kap : Resume → Shared → Prop, (∀ s'', Seg (model prog w) A R Y n s'' c (K .next) fs s'' → kap (.send .none) s'') → Y n s₀ v s' kap) s) :
    Seg (model prog w) A R Y (n + 1) s₀ c ((exec (.Expr (.Yield (some e) ypos) pos) env).wrap K H gd lv) fs s :=
  seg_Expr_Yield hfs hgd hfg (wpAny_mono h (fun v s' h' kap hk => h' kap fun s'' q => hk .none s'' q) fun _ _ e => e.elim) hco (by unfold interactive; rw [hk]; rfl)
end

set_option maxHeartbeats 4000000 in
theorem g_first {T : Ad} {mg mb : Str → Option Value} {w : World} {A : Around} {s : Shared} {h₀ : Heap} {K : Frag} {mi ci : Addr} {p : CtxP} {fams : List (List Nat)} {led rest : Led} {e : Nat} {q : List Nat} {env : Env} {L lst : Addr} {t0 t1 t2 : Tok}
    (X : Tp T mg mb h₀) (kf : Kf K T mi ci) (Xk : K.In h₀) (Sm : (h₀.get? sysModules).isSome = true) (Ng : mg "get_parent_map" = some (.ref T.gpm)) (F : IsDef T.gpm 26 h₀) (R : Room A 6 120) (ok : CtxOk p fams) (cs : CtxSt T w p fams led)
    (hq : parentAt fams fams.length e = some q) (he : EnvAt env selDef.2.2.1 L [])
    (H : S s h₀ ((L, .loc [("result", .ref lst), ("context", .ref p.x)]) :: (lst, .list [.str (tx []) t0, .str (tx [e]) t1, .str (tx [e]) t2]) :: (led ++ rest)) s) :
    Seg (model PySem.Challenge.pw_if0009_01 w) A.in1 (selEnd (selKnown T w h₀ lst p rest) L) (selOut T w h₀ L lst p fams q [.str (tx []) t0, .str (tx [e]) t1, .str (tx [e]) t2] rest) 1 s (.func selDef.2.1 env) ((model PySem.Challenge.pw_if0009_01 w).den (.func selDef.2.1 env)) [] s := by
  have hsm0 : ∀ {σ s' : Shared} {fs : Led} {a : Addr} {f : Fact}, S σ h₀ fs s' → (a, f) ∈ fs → (a == sysModules) = false := fun H hm => by
    refine beq_eq_false_iff_ne.mpr fun e => ?_
    have := H.new _ hm
    rw [show (_ : Addr × Fact).1 = sysModules from e] at this
    rw [this] at Sm; cases Sm
  have hsm : ∀ {s' : Shared} {fs : Led} {a : Addr} {f : Fact}, S s h₀ fs s' → (a, f) ∈ fs → (a == sysModules) = false := fun H hm => hsm0 H hm
  refine seg_func ?_
  have R' : Room (A.in1.over (.func selDef.2.1 env) []) 5 116 := Room.gen0 R _ _
  refine seg_execs_cons ?_
  refine g_wp ?_
  refine wpAny_Assign_Name ?_
  refine x_call he (by tb_start) (by tb_start) (by tb_start) (X.G.up H) Ng rfl rfl ?_
  refine wpAny_items_cons ?_
  refine n_local he (by tb_start) (by tb_start) (by tb_start) (by tb_rel) (by kwd_rel) ?_
  refine wpAny_items_nil ?_
  refine ⟨⟨_, _, _, _, F.keeps H.keep⟩, ?_⟩
  refine c_gpm X kf Xk F (R'.less (by omega) (by omega)) ok cs (H.perm (List.perm_append_comm_assoc [_, _] led rest)) fun tk4 M o s1 hpo H => ?_
  simp only [List.cons_append, List.nil_append] at H
  refine st_local he (by tb_start) (by tb_start) H (by kwd_inv) fun s1 H => ?_
  refine seg_execs_cons ?_
  refine g_wp ?_
  refine wpAny_Assign_Name ?_
  refine d_new (prog := PySem.Challenge.pw_if0009_01) (w := w) H fun RM o2 s1 hdv2 H => ?_
  refine st_local he (by tb_start) (by tb_start) H (by kwd_inv) fun s1 H => ?_
  refine seg_execs_cons ?_
  refine g_For ?_ (fun _ => rfl)
  refine n_local he (by tb_start) (by tb_start) (by tb_start) (by tb_rel) (by kwd_rel) ?_
  have hl : (Fact.list [.str (tx []) t0, .str (tx [e]) t1, .str (tx [e]) t2]).at s1.heap lst := H.get (by k_mem)
  refine wpAny_pyIter_list (Heap.PlainList.isList hl) ?_
  intro ps
  have hne : lst ≠ s1.heap.objs.size := Nat.ne_of_lt (Fact.lt hl)
  replace H := H.push { cls := .type "list_iterator", data := .fields #[.ref lst, .int 0 0] } s1.toks
  generalize ({ s1 with heap := s1.heap.push { cls := .type "list_iterator", data := .fields #[.ref lst, .int 0 0] }, toks := s1.toks } : Shared) = s2 at H ⊢
  generalize s1.heap.objs.size = I at H hne ⊢
  obtain ⟨f, nf, hdv, hnf, hpm⟩ := hpo
  have hf0 := hpm.1
  have hf1 := hpm.2 e
  rw [hq] at hf1
  obtain ⟨tq, hf1⟩ := hf1
  have hit : ItAt { cls := .type "list_iterator", data := .fields #[.ref lst, .int 0 0] } lst 0 := ⟨rfl, rfl⟩
  refine g_turn ?_
  refine it_next (I := I) (ax := lst) (i := 0) (v := .str (tx []) t0) R.handled H (fun o' => by kwd_inv) hit (by tb_rel) hne rfl fun it0 s1 hit H => ?_
  refine wpAny_assign_Name ?_
  refine st_local he (by tb_start) (by tb_start) H (by kwd_inv) fun s1 H => ?_
  refine seg_execs_cons ?_
  refine g_If ?_
  refine wpAny_isTrue_Compare1 ?_
  refine n_local he (by tb_start) (by tb_start) (by tb_start) (by tb_rel) (by kwd_rel) ?_
  refine n_local he (by tb_start) (by tb_start) (by tb_start) (by tb_rel) (by kwd_rel) ?_
  refine d_in H (H.get (a := M) (f := .raw o) (by k_mem)) hdv (hsm (a := M) (f := .raw o) H (by k_mem)) fun s1 H => ?_
  refine wpAny_truthy_bool ?_
  rw [hf0, if_neg (by decide)]
  refine seg_execs_nil ?_
  refine seg_execs_nil ?_
  refine g_again ?_
  refine g_turn ?_
  refine it_next (I := I) (ax := lst) (i := 1) (v := .str (tx [e]) t1) R.handled H (fun o' => by kwd_inv) hit (by tb_rel) hne rfl fun it1 s1 hit H => ?_
  refine wpAny_assign_Name ?_
  refine st_local he (by tb_start) (by tb_start) H (by kwd_inv) fun s1 H => ?_
  refine seg_execs_cons ?_
  refine g_If ?_
  refine wpAny_isTrue_Compare1 ?_
  refine n_local he (by tb_start) (by tb_start) (by tb_start) (by tb_rel) (by kwd_rel) ?_
  refine n_local he (by tb_start) (by tb_start) (by tb_start) (by tb_rel) (by kwd_rel) ?_
  refine d_in H (H.get (a := M) (f := .raw o) (by k_mem)) hdv (hsm (a := M) (f := .raw o) H (by k_mem)) fun s1 H => ?_
  refine wpAny_truthy_bool ?_
  rw [hf1, if_pos (by rfl)]
  refine seg_execs_cons ?_
  refine g_wp ?_
  refine wpAny_Assign_Name ?_
  refine Subscript_ ?_
  refine n_local he (by tb_start) (by tb_start) (by tb_start) (by tb_rel) (by kwd_rel) ?_
  refine n_local he (by tb_start) (by tb_start) (by tb_start) (by tb_rel) (by kwd_rel) ?_
  refine d_item H (H.get (a := M) (f := .raw o) (by k_mem)) hdv hf1 (by with_unfolding_all rfl) fun s1 H => ?_
  refine st_local he (by tb_start) (by tb_start) H (by kwd_inv) fun s1 H => ?_
  refine seg_execs_cons ?_
  refine g_If ?_
  refine wpAny_isTrue_Compare1 ?_
  refine n_local he (by tb_start) (by tb_start) (by tb_start) (by tb_rel) (by kwd_rel) ?_
  refine n_local he (by tb_start) (by tb_start) (by tb_start) (by tb_rel) (by kwd_rel) ?_
  refine d_notin H (H.get (a := RM) (f := .raw o2) (by k_mem)) hdv2 (hsm (a := RM) (f := .raw o2) H (by k_mem)) fun s1 H => ?_
  refine wpAny_truthy_bool ?_
  rw [if_pos (by rfl)]
  refine seg_execs_cons ?_
  refine g_wp ?_
  refine wpAny_Assign_Subscript ?_
  refine c_none ?_
  refine n_local he (by tb_start) (by tb_start) (by tb_start) (by tb_rel) (by kwd_rel) ?_
  refine n_local he (by tb_start) (by tb_start) (by tb_start) (by tb_rel) (by kwd_rel) ?_
  refine d_set H (fun o' => by kwd_inv) hdv2 (by rw [sizeLine_eq]; omega) fun o3 s1 hdv3 H => ?_
  refine seg_execs_cons ?_
  refine g_yield rfl rfl rfl (by rw [he.scope]; decide +kernel) (by rw [he.scope]; decide +kernel) ?_
  refine n_local he (by tb_start) (by tb_start) (by tb_start) (by tb_rel) (by kwd_rel) ?_
  intro kap hkap
  replace H := H.perm (.cons _ (.cons _ (List.perm_append_comm_assoc [_, _, _, _, _, _, _, _, _] [_, _] rest)))
  simp only [List.cons_append, List.nil_append] at H
  have hKn : ¬ selKnown T w h₀ lst p rest I := by
    rintro (hk | hk)
    · exact hk (H.new' (.head _))
    · have nd := (List.nodup_cons.mp H.nd).1
      refine nd ?_
      simp only [List.map_cons, List.map_append, List.mem_cons, List.map_nil, List.mem_append, List.cons_append, List.nil_append] at hk ⊢
      rcases hk with h | h | h | h
      · exact .inr (.inr (.inl h))
      · exact .inr (.inr (.inr (.inr (.inl h))))
      · exact .inr (.inr (.inr (.inr (.inr (.inl h)))))
      · exact .inr (.inr (.inr (.inr (.inr (.inr h)))))
  refine ⟨rfl, ⟨_, rfl⟩, tk4, M, o, I, it1, RM, o3, _, ⟨f, nf, hdv, hnf, hpm⟩, H, fun s'' rest'' H => hkap s'' ?_⟩
  have hit1 := hit
  clear hkap
  have hIL : I ≠ L := fun h => (List.nodup_cons.mp H.nd).1 (by rw [h]; exact .tail _ (.head _))
  have no2 : ∀ {a : Addr} {fa : Fact}, (a, fa) ∈ (RM, Fact.raw o3) :: (lst, Fact.list [.str (tx []) t0, .str (tx [e]) t1, .str (tx [e]) t2]) :: (M, Fact.raw o) :: rest'' → a ∉ [I, L] := fun {a fa} hm hb => by
    have nd1 := List.nodup_cons.mp H.nd
    have nd2 := List.nodup_cons.mp nd1.2
    have nd3 := List.nodup_cons.mp nd2.2
    rcases List.mem_cons.mp hb with rfl | hb
    · refine nd1.1 ?_
      rcases List.mem_cons.mp hm with h | h
      · cases h; exact .head _
      · exact .tail _ (.tail _ (List.mem_map_of_mem (f := (·.1)) h))
    · obtain rfl := List.mem_singleton.mp hb
      rcases List.mem_cons.mp hm with h | h
      · cases h; exact nd2.1 (.head _)
      · exact nd3.1 (List.mem_map_of_mem (f := (·.1)) h)
  have up : ∀ {a : Addr} {fa : Fact}, (a, fa) ∈ (RM, Fact.raw o3) :: (lst, Fact.list [.str (tx []) t0, .str (tx [e]) t1, .str (tx [e]) t2]) :: (M, Fact.raw o) :: rest'' → fa.at (hideAll s''.heap [I, L]) a := fun {a fa} hm => by
    refine Fact.congr (fun o e => hideAll_get _ e (no2 hm)) (H.get (f := fa) ?_)
    rcases List.mem_cons.mp hm with h | h
    · cases h; exact .tail _ (.head _)
    · exact .tail _ (.tail _ (.tail _ h))
  have hbase : ∀ b o, h₀.get? b = some o → (hideAll s''.heap [I, L]).get? b = some o := fun b o e => hideAll_get _ (H.keep b o e) fun hb => by
    rcases List.mem_cons.mp hb with rfl | hb
    · rw [H.new' (.head _)] at e; cases e
    · obtain rfl := List.mem_singleton.mp hb; rw [H.new' (.tail _ (.tail _ (.head _)))] at e; cases e
  have fRM := up (.head _)
  have flst := up (.tail _ (.head _))
  have fM := up (.tail _ (.tail _ (.head _)))
  have nM : (M == sysModules) = false := hsm0 H (.tail _ (.tail _ (.tail _ (.tail _ (.head _)))))
  have nRM : (RM == sysModules) = false := hsm0 H (.tail _ (.head _))
  have hI0 : s''.heap.get? I = some it1 := H.get (a := I) (f := .raw it1) (.head _)
  replace H := S.own2 hIL (H.get (.head _)) (H.get (.tail _ (.tail _ (.head _))))
  refine seg_execs_nil ?_
  refine seg_execs_nil ?_
  refine seg_execs_nil ?_
  refine g_again ?_
  refine g_turn ?_
  refine it_next (I := I) (ax := lst) (i := 2) (v := .str (tx [e]) t2) R.handled H (fun o' => by kwd_inv) hit (by tb_rel) hne rfl fun it2 s1 hit H => ?_
  refine wpAny_assign_Name ?_
  refine st_local he (by tb_start) (by tb_start) H (by kwd_inv) fun s1 H => ?_
  refine seg_execs_cons ?_
  refine g_If ?_
  refine wpAny_isTrue_Compare1 ?_
  refine n_local he (by tb_start) (by tb_start) (by tb_start) (by tb_rel) (by kwd_rel) ?_
  refine n_local he (by tb_start) (by tb_start) (by tb_start) (by tb_rel) (by kwd_rel) ?_
  refine d_in H (show s1.heap.get? M = some o from H.up (f := .raw o) fM) hdv nM fun s1 H => ?_
  refine wpAny_truthy_bool ?_
  rw [hf1, if_pos (by rfl)]
  refine seg_execs_cons ?_
  refine g_wp ?_
  refine wpAny_Assign_Name ?_
  refine Subscript_ ?_
  refine n_local he (by tb_start) (by tb_start) (by tb_start) (by tb_rel) (by kwd_rel) ?_
  refine n_local he (by tb_start) (by tb_start) (by tb_start) (by tb_rel) (by kwd_rel) ?_
  refine d_item H (show s1.heap.get? M = some o from H.up (f := .raw o) fM) hdv hf1 (by with_unfolding_all rfl) fun s1 H => ?_
  refine st_local he (by tb_start) (by tb_start) H (by kwd_inv) fun s1 H => ?_
  refine seg_execs_cons ?_
  refine g_If ?_
  refine wpAny_isTrue_Compare1 ?_
  refine n_local he (by tb_start) (by tb_start) (by tb_start) (by tb_rel) (by kwd_rel) ?_
  refine n_local he (by tb_start) (by tb_start) (by tb_start) (by tb_rel) (by kwd_rel) ?_
  refine d_notin H (show s1.heap.get? RM = some o3 from H.up (f := .raw o3) fRM) hdv3 nRM fun s1 H => ?_
  refine wpAny_truthy_bool ?_
  rw [if_pos rfl, if_neg (by decide)]
  refine seg_execs_nil ?_
  refine seg_execs_nil ?_
  refine seg_execs_nil ?_
  refine g_again ?_
  refine g_turn ?_
  refine it_end (I := I) (ax := lst) (its := [.str (tx []) t0, .str (tx [e]) t1, .str (tx [e]) t2]) R.handled H hit (H.up flst) hne fun s1 H => ?_
  refine g_over ?_
  refine seg_execs_nil ?_
  refine seg_end (.ok (.ret .none)) ⟨rfl, rfl, ⟨H.same, fun b o e2 e3 e4 => H.keep b o (hideAll_get _ e4 fun hb => ?_)⟩⟩
  rcases List.mem_cons.mp hb with rfl | hb
  · rcases e3 with e3 | e3
    · exact hKn e3
    · rw [hI0] at e4; cases e4; exact e3 hit1.1
  · exact e2 (List.mem_singleton.mp hb)
end Mine
end

section
open PySem PySem.Calls PySem.Spec PyProof.Rows PySem.W
set_option Elab.async false
set_option maxRecDepth 100000
namespace Mine


noncomputable abbrev genObj (g : Nat) (a b : Value) : Obj := { cls := .type "generator", data := .fields #[.int g 0, a, b] }
section
variable {prog : Program} {w : World} {A : Around} {s : Shared} {σ : Shared} {h₀ : Heap} {fs : Led}
/-- the generator is made -/
theorem x_gen {f c' : Addr} {oc : Obj} {vs : Array Value} {t : Tok} {doc pm ctv u v : Value} {Q : Value → Shared → Prop} (hlim : s.heap.NoLimit) {d n : Nat} (R : Room A (d + 1) (n + 3)) (H : S σ h₀ fs s)
    (m1 : (f, Fact.raw (fnMade "select" selQual selDef.1 selDef.2.1 selDef.2.2.1 [] doc pm c' ctv)) ∈ fs) (m2 : (c', Fact.raw oc) ∈ fs) (e1 : oc.data = .fields vs) (e2 : vs[1]? = some (.str selQual t))
    (h : ∀ a L env x y s', EnvAt env selDef.2.2.1 L [] → s'.gens = σ.gens.push (.fresh (.func selDef.2.1 env)) → s'.drawn = σ.drawn → s'.os = σ.os →
      S s' h₀ ((a, .raw (genObj σ.gens.size x y)) :: (L, .loc [("result", v), ("context", u)]) :: fs) s' → Q (.ref a) s') : Wp prog w A (call (.ref f) [u, v]) Q s := by
  have hf : s.heap.get? f = some (fnMade "select" selQual selDef.1 selDef.2.1 selDef.2.2.1 [] doc pm c' ctv) := H.get m1
  have hc : s.heap.get? c' = some oc := H.get m2
  have k1 : selDef.2.2.1.isCoroutine = false := by decide +kernel
  have k2 : selDef.2.2.1.isGenerator = true := by decide +kernel
  have k3 : ∀ x ∈ selDef.2.2.1.names, x.2 ≠ .cell := by decide +kernel
  have k4 : selDef.2.2.1.kind = .function := by decide +kernel
  refine wpAny_call (codeAny_call_generator (fd := fnX "select" selQual selDef.1 selDef.2.1 selDef.2.2.1 [] .none .none doc pm none (.ref c') ctv) (body := selDef.2.1) (by have := R.depth; omega) hf rfl k1 k2 rfl ⟨c', oc, vs, t, rfl, hc, e1, e2⟩ ?_)
  rw [show bindArgs (fnX "select" selQual selDef.1 selDef.2.1 selDef.2.2.1 [] .none .none doc pm none (.ref c') ctv) ⟨[u, v], []⟩ = (pure [(Str.ofString "context", u), (Str.ofString "result", v)] : Sem (List (Str × Value))) from by kernel_rfl]
  refine wpAny_pure (wpAny_newFunctionEnv k3 (fun x hx => ?_) (fun h₁ hns hsb => ⟨hlim.fresh _ hsb, ?_⟩) k4)
  · rcases List.mem_cons.mp hx with rfl | hx
    · exact (show selDef.2.2.1.names.lookup (Str.ofString "context") = some NameKind.local by decide +kernel)
    · obtain rfl := List.mem_singleton.mp hx
      exact (show selDef.2.2.1.names.lookup (Str.ofString "result") = some NameKind.local by decide +kernel)
  · have hk₁ : ∀ b o, s.heap.get? b = some o → h₁.get? b = some o := fun b o e => hsb.extBut b o (Nat.ne_of_lt (Heap.lt_size e)) (Heap.get?_push_of_some _ e)
    have H1 : S σ h₀ ((s.heap.objs.size, .loc [("result", v), ("context", u)]) :: fs) { s with heap := h₁, toks := s.toks + 2 } := H.add ⟨h₁, _, rfl, hk₁⟩ (get_size_none _) ⟨_, hns, fun x v e => look_of_lookup e⟩
    have H2 := (H1.push (genObj s.gens.size (.str "select" (s.toks + 2)) (.str selQual (s.toks + 2 + 1))) (s.toks + 2 + 1 + 1)).regen (s.gens.push (.fresh (.func selDef.2.1 (newEnv selDef.2.2.1 s.heap.objs.size mainGlobals [] (selQual ++ ".<locals>.") (some f) (.ref c') none builtinsNs))))
    obtain ⟨⟨hh, tk, rfl⟩, r2, r3, r4, r5⟩ := H
    exact h _ _ _ _ _ _ ⟨rfl, rfl, rfl, rfl, rfl⟩ rfl rfl rfl H2
end
end Mine
end

section
open PySem PySem.Calls PySem.Spec PyProof.Rows PySem.W
set_option Elab.async false
set_option maxRecDepth 100000
namespace Mine

local macro_rules | `(tactic| kwd_inv) => `(tactic| first | (with_reducible exact Upd.head) | (with_reducible apply Upd.tail; kwd_inv))
local macro_rules | `(tactic| kwd_less) => `(tactic| first | exact List.Sublist.refl _ | (refine List.Sublist.cons_cons _ ?_; kwd_less) | (refine List.Sublist.cons _ ?_; kwd_less))

theorem push_set {α : Type} (G : Array α) (x y : α) : (G.push x).setIfInBounds G.size y = G.push y := by
  apply Array.ext'
  simp
theorem PObj.cls {prog : Program} {w : World} {fams : List (List Nat)} {o : Obj} (h : PObj prog w fams o) : o.cls = .type "dict" := by
  obtain ⟨f, n, ⟨kvs, ho, _, _⟩, _⟩ := h
  obtain ⟨es, ep, h1, h2⟩ := ho
  first | exact h1 | exact h1.1 | exact h1.cls
section
variable {prog : Program} {w : World} {A : Around} {s : Shared} {σ : Shared} {h₀ : Heap} {fs : Led}
theorem u_seq {D : Addr} {its : List Value} {g : Array Value → Array Value} {Q : Unit → Shared → Prop} (H : S σ h₀ fs s) {fs' : Led} (U : Upd D (.list its) (.list (g its.toArray).toList) fs fs') (hz : its.toArray.size ≤ sizeLine) (hz' : (g its.toArray).size ≤ sizeLine + 1) (h : ∀ s', S σ h₀ fs' s' → s'.gens = s.gens → Q () s') : Wp prog w A (updateSeq D g) Q s := by
  obtain ⟨n, hS⟩ := H.get U.mem
  refine wpAny_updateSeq hS rfl (h _ (H.upd U s.toks ?_ ?_) rfl) hz hz'
  · exact fun b o hb e => (Heap.get?_update_other _ _ (Ne.symm hb)).trans e
  · have := Heap.get?_update_self (Obj.mapSeq g) hS rfl
    obtain ⟨k, hk⟩ : ∃ k, Obj.mapSeq g { cls := .type "list", data := .seq its.toArray n } = { cls := .type "list", data := .seq (g its.toArray) k } := ⟨_, rfl⟩
    exact ⟨k, by rw [this, hk, Array.toArray_toList]⟩
end

/-- the one thing that a select hands out, in a list -/
theorem x_list {T : Ad} {mg mb : Str → Option Value} {w : World} {A : Around} {s : Shared} {h₀ : Heap} {K : Frag} {mi ci : Addr} {p : CtxP} {fams : List (List Nat)} {led rest : Led} {e : Nat} {q : List Nat} {env : Env} {a L lst : Addr} {t0 t1 t2 : Tok} {G : Array GenState} {gx gy : Value} {Q : Value → Shared → Prop}
    (X : Tp T mg mb h₀) (kf : Kf K T mi ci) (Xk : K.In h₀) (Sm : (h₀.get? sysModules).isSome = true) (Ng : mg "get_parent_map" = some (.ref T.gpm)) (Fg : IsDef T.gpm 26 h₀) (R : Room A 6 130) (ok : CtxOk p fams) (cs : CtxSt T w p fams led)
    (hq : parentAt fams fams.length e = some q) (he : EnvAt env selDef.2.2.1 L []) (hg : s.gens = G.push (.fresh (.func selDef.2.1 env)))
    (H : S s h₀ ((a, .raw (genObj G.size gx gy)) :: (L, .loc [("result", .ref lst), ("context", .ref p.x)]) :: (lst, .list [.str (tx []) t0, .str (tx [e]) t1, .str (tx [e]) t2]) :: (led ++ rest)) s)
    (h : ∀ D v tk4 M o s', IsT q v → PObj PySem.Challenge.pw_if0009_01 w fams o → s'.gens = G.push .finished → s'.drawn = s.drawn → s'.os = s.os → S s' h₀ ((D, .list [v]) :: (ctx1 T w p tk4 M o ++ rest)) s' → Q (.ref D) s') :
    Wp PySem.Challenge.pw_if0009_01 w A (call (.type "list") [.ref a]) Q s := by
  refine callType_codes (Q₁ := fun obj s₁ => obj = .ref s.heap.objs.size ∧ s₁ = { s with heap := s.heap.push { cls := .type "list", data := .seq #[] } }) F.called_list (F.typeCall_list_1 _) F.entry_list_init
    (code_list_new _ ⟨rfl, rfl⟩) fun obj s₁ h₁ => ?_
  obtain ⟨rfl, rfl⟩ := h₁
  have H1 := H.push { cls := .type "list", data := .seq #[] } s.toks
  have H1 : S s h₀ ((s.heap.objs.size, .list []) :: (a, .raw (genObj G.size gx gy)) :: (L, .loc [("result", .ref lst), ("context", .ref p.x)]) :: (lst, .list [.str (tx []) t0, .str (tx [e]) t1, .str (tx [e]) t2]) :: (led ++ rest)) { s with heap := s.heap.push { cls := .type "list", data := .seq #[] } } := by
    refine ⟨H1.same, H1.keep, fun q hq => ?_, fun q hq => ?_, ?_⟩
    · rcases List.mem_cons.mp hq with rfl | hq
      · exact ⟨0, H1.get (.head _)⟩
      · exact H1.holds q (.tail _ hq)
    · rcases List.mem_cons.mp hq with rfl | hq
      · exact H1.new' (.head _)
      · exact H1.new q (.tail _ hq)
    · exact H1.nd
  have hg1 : ({ s with heap := s.heap.push { cls := .type "list", data := .seq #[] } } : Shared).gens = G.push (.fresh (.func selDef.2.1 env)) := hg
  generalize ({ s with heap := s.heap.push { cls := .type "list", data := .seq #[] } } : Shared) = s1 at H1 hg1 ⊢
  generalize s.heap.objs.size = D at H1 ⊢
  have hD : s1.TypeIs (.ref D) "list" := by
    obtain ⟨n, e⟩ := H1.get (a := D) (f := .list []) (.head _)
    exact ⟨_, e, rfl⟩
  refine ⟨hD, F.args_list_init_2 _ _, ?_⟩
  have ha : s1.TypeIs (.ref a) "generator" := ⟨_, H1.get (a := a) (f := .raw (genObj G.size gx gy)) (.tail _ (.head _)), rfl⟩
  refine wpAny_mono (?_ : Wp PySem.Challenge.pw_if0009_01 w A.in1.in1 (Builtin.«list.__init__» ⟨[.ref D, .ref a], []⟩) (fun fin s' => match fin with | .done f => wants (fun r s₂ => r = .none ∧ Q (.ref D) s₂) (fun _ _ => False) (.ok f) s' | .again c' => c'.quiet = true ∧ codeAny (model PySem.Challenge.pw_if0009_01 w) A.in1 c' (wants (fun r s₂ => r = .none ∧ Q (.ref D) s₂) (fun _ _ => False)) s') s1) (fun _ _ q => q) fun _ _ e => e.elim
  show Wp PySem.Challenge.pw_if0009_01 w A.in1.in1 (do let old ← Builtin.List.listItems (.ref D); Builtin.List.listUpdate (.ref D) (fun _ => #[]); letGo old.toList.reverse; Builtin.List.listExtendWith (.ref D) (.ref a) .none) _ s1
  refine wpAny_bind ?_
  unfold Builtin.List.listItems
  obtain ⟨n0, hS0⟩ := H1.get (a := D) (f := .list []) (.head _)
  refine wpAny_bind (wpAny_seqItems hS0 rfl (wpAny_pure ?_))
  show Wp PySem.Challenge.pw_if0009_01 w A.in1.in1 (updateSeq D (fun _ => #[]) >>= fun _ => letGo _ >>= fun _ => Builtin.List.listExtendWith (.ref D) (.ref a) .none) _ s1
  refine wpAny_bind (u_seq (its := []) H1 .head (by decide) (by decide) fun s2 H2 hg2 => wpAny_bind (wpAny_letGo ?_))
  have ha2 : s2.TypeIs (.ref a) "generator" := ⟨_, H2.get (a := a) (f := .raw (genObj G.size gx gy)) (.tail _ (.head _)), rfl⟩
  have hDa : D ≠ a := fun h => (List.nodup_cons.mp H2.nd).1 (by rw [h]; exact .head _)
  unfold Builtin.List.listExtendWith
  refine wpAny_bind (wpAny_typeOf ha2 ?_)
  have h1 : Builtin.List.listSameRef (.ref D) (.ref a) = false := by simp [Builtin.List.listSameRef, hDa]
  have h2 : (Value.type "generator" == Value.type "list") = false := by decide
  have h3 : (Value.type "generator" == Value.type "tuple") = false := by decide
  simp only [h1, h2, h3, Bool.or_false, Bool.false_eq_true, if_false]
  have hga : ∀ {s' : Shared} {fs : Led} {σ : Shared}, S σ h₀ fs s' → (a, Fact.raw (genObj G.size gx gy)) ∈ fs → s'.heap.IsGen a G.size := fun H hm => ⟨_, _, _, H.get hm, rfl, rfl, rfl⟩
  refine wpAny_bind (wpAny_pyIter_gen (hga H2 (.tail _ (.head _))) ?_)
  refine wpAny_bind (wpAny_holding ?_)
  unfold Builtin.List.listLengthHint
  refine wpAny_bind (wpAny_specialOf ha2 F.gen_no_len ?_)
  show Wp PySem.Challenge.pw_if0009_01 w A.in1.in1 (specialOf (Value.ref a) (Str.ofString "__length_hint__") >>= _) _ _
  refine wpAny_bind (wpAny_specialOf ha2 F.gen_no_hint ?_)
  refine wpAny_pure ?_
  show Wp PySem.Challenge.pw_if0009_01 w A.in1.in1 (rule "list.extend.makes-room" >>= fun _ => Builtin.List.listTouch (.ref D) >>= fun _ =>
    again (.builtin "list.extend.loop" ⟨[.ref D, .ref a, .none], []⟩)) _ _
  refine wpAny_bind (wpAny_rule ?_)
  refine wpAny_bind ?_
  show Wp PySem.Challenge.pw_if0009_01 w A.in1.in1 (updateSeq D (·.push .none) >>= fun _ => updateSeq D (·.pop)) _ _
  refine wpAny_bind (u_seq (its := []) H2 .head (by decide) (by rw [sizeLine_eq]; exact Nat.le_of_ble_eq_true rfl) fun s3 H3 hg3 => ?_)
  refine u_seq (its := [.none]) H3 .head (by rw [sizeLine_eq]; exact Nat.le_of_ble_eq_true rfl) (by rw [sizeLine_eq]; exact Nat.le_of_ble_eq_true rfl) fun s4 H4 hg4 => ?_
  have H4 : S s h₀ ((D, .list []) :: (a, .raw (genObj G.size gx gy)) :: (L, .loc [("result", .ref lst), ("context", .ref p.x)]) :: (lst, .list [.str (tx []) t0, .str (tx [e]) t1, .str (tx [e]) t2]) :: (led ++ rest)) s4 := H4
  refine wpAny_pure ⟨plainId_quiet F.plain_extend_loop _, codeAny_builtin F.entry_extend_loop ?_⟩
  rw [Around.under_plainId F.plain_extend_loop _]
  refine wpAny_mono (?_ : Wp PySem.Challenge.pw_if0009_01 w A.in1.in1 _ (fun fin s' => match fin with | .done f => wants (fun r s₂ => r = .none ∧ Q (.ref D) s₂) (fun _ _ => False) (.ok f) s' | .again c' => c'.quiet = true ∧ codeAny (model PySem.Challenge.pw_if0009_01 w) A.in1 c' (wants (fun r s₂ => r = .none ∧ Q (.ref D) s₂) (fun _ _ => False)) s') s4) (fun _ _ q => q) fun _ _ e => e.elim
  show Wp PySem.Challenge.pw_if0009_01 w A.in1.in1 (pyNext (.ref a) >>= _) _ s4
  have hG4 : s4.gens = G.push (.fresh (.func selDef.2.1 env)) := by rw [hg4, hg3, hg2, hg1]
  have hroom : A.in1.in1.depth < recursionLimit := by have := R.depth; show A.depth < _; omega
  have R2 : Room A.in1.in1 6 120 := ⟨R.handled, R.depth, by have := R.units; show A.units + 1 + 1 + 120 < _; omega⟩
  have H4' : S s h₀ ((L, .loc [("result", .ref lst), ("context", .ref p.x)]) :: (lst, .list [.str (tx []) t0, .str (tx [e]) t1, .str (tx [e]) t2]) :: (led ++ ((D, .list []) :: (a, .raw (genObj G.size gx gy)) :: rest))) s4 := H4.perm (List.perm_append_comm_assoc [_, _] ([_, _] ++ led) rest)
  refine wpAny_bind (wpAny_pyNext_gen (n := 1) (gs := .fresh (.func selDef.2.1 env)) (P := fun n s₀ s₁ => n = 0 ∧ Done2 (selKnown T w h₀ lst p ((D, .list []) :: (a, .raw (genObj G.size gx gy)) :: rest)) L s₀ s₁)
    (Y := selOut T w h₀ L lst p fams q [.str (tx []) t0, .str (tx [e]) t1, .str (tx [e]) t2] ((D, .list []) :: (a, .raw (genObj G.size gx gy)) :: rest)) R.handled (X.G.up H4).nolimit hroom (hga H4 (.tail _ (.head _))) (by rw [hG4]; simp)
    ⟨rfl, g_first X kf Xk Sm Ng Fg R2 ok cs hq he (H4'.rebase.regen _)⟩ (fun v s5 gs' hv => ?_) (fun s5 hp h' hk => absurd hp.1 (by decide)))
  obtain ⟨-, hIT, tk4, M, o, I, it, RM, o2, l, hpo, H5, hkap⟩ := hv
  have hG5 : s5.gens = G.push .running := by
    obtain ⟨⟨h, tk, rfl⟩, _⟩ := H5
    show s4.gens.setIfInBounds _ _ = _
    rw [hG4, push_set]
  have hd5 : s5.drawn = s.drawn ∧ s5.os = s.os := by
    obtain ⟨⟨h, tk, rfl⟩, _⟩ := H5
    obtain ⟨⟨h, tk, rfl⟩, _⟩ := H4
    exact ⟨rfl, rfl⟩
  simp only [List.cons_append, List.nil_append] at H5
  have H6 := H5.rebase.regen (s5.gens.setIfInBounds G.size gs')
  have hG6 : (s5.setGen G.size gs').gens = G.push gs' := by show s5.gens.setIfInBounds _ _ = _; rw [hG5, push_set]
  have hd6 : (s5.setGen G.size gs').drawn = s.drawn ∧ (s5.setGen G.size gs').os = s.os := hd5
  replace H6 : S (s5.setGen G.size gs') h₀ _ (s5.setGen G.size gs') := H6
  generalize s5.setGen G.size gs' = s6 at H6 hG6 hd6 ⊢
  show Wp PySem.Challenge.pw_if0009_01 w A.in1.in1 (updateSeq D (·.push v) >>= fun _ => again (.builtin "list.extend.loop" ⟨[.ref D, .ref a, .none], []⟩)) _ _
  refine wpAny_bind (u_seq (its := []) H6 (by kwd_inv) (by rw [sizeLine_eq]; exact Nat.le_of_ble_eq_true rfl) (by rw [sizeLine_eq]; exact Nat.le_of_ble_eq_true rfl) fun s7 H7 hg7 => ?_)
  refine wpAny_pure ⟨plainId_quiet F.plain_extend_loop _, codeAny_builtin F.entry_extend_loop ?_⟩
  rw [Around.under_plainId F.plain_extend_loop _]
  refine wpAny_mono (?_ : Wp PySem.Challenge.pw_if0009_01 w A.in1.in1 _ (fun fin s' => match fin with | .done f => wants (fun r s₂ => r = .none ∧ Q (.ref D) s₂) (fun _ _ => False) (.ok f) s' | .again c' => c'.quiet = true ∧ codeAny (model PySem.Challenge.pw_if0009_01 w) A.in1 c' (wants (fun r s₂ => r = .none ∧ Q (.ref D) s₂) (fun _ _ => False)) s') s7) (fun _ _ q => q) fun _ _ e => e.elim
  show Wp PySem.Challenge.pw_if0009_01 w A.in1.in1 (pyNext (.ref a) >>= _) _ s7
  have hG7 : s7.gens = G.push gs' := hg7.trans hG6
  have hd7 : s7.drawn = s.drawn ∧ s7.os = s.os := by
    obtain ⟨⟨h, tk, rfl⟩, _⟩ := H7
    exact hd6
  have H7r := H7.rebase.regen (s7.gens.setIfInBounds G.size .running)
  refine wpAny_bind (wpAny_pyNext_gen (n := 0) (gs := gs') (P := fun n s₀ s₁ => n = 0 ∧ Done2 (selKnown T w h₀ lst p ((D, .list []) :: (a, .raw (genObj G.size gx gy)) :: rest)) L s₀ s₁)
    (Y := selOut T w h₀ L lst p fams q [.str (tx []) t0, .str (tx [e]) t1, .str (tx [e]) t2] ((D, .list []) :: (a, .raw (genObj G.size gx gy)) :: rest)) R.handled (X.G.up H7).nolimit hroom (hga H7 (by k_mem)) (by rw [hG7]; simp)
    (hkap _ _ H7r) (fun v s8 gs2 hv => ?_) (fun s8 hp h' hk => ?_))
  · obtain ⟨-, _, tk5, M', o', I', it', RM', o2', l', _, H8, hk2⟩ := hv
    exact (hk2 s8 _ H8.rebase).elim
  · have hne : ∀ q ∈ (D, Fact.list [v]) :: (ctx1 T w p tk4 M o ++ rest), q.1 ≠ L := fun q hq e => by
      have nd := (List.nodup_cons.mp (List.nodup_cons.mp (List.nodup_cons.mp H7.nd).2).2).1
      refine nd ?_
      have hm := List.mem_map_of_mem (f := (·.1)) hq
      rw [show q.1 = L from e] at hm
      simp only [List.map_cons, List.mem_cons, List.cons_append, List.nil_append] at hm ⊢
      rcases hm with h | h | h | h | h | h | h | h | h | h | h <;> simp [h]
    have H8 : S (s7.setGen G.size .running) h₀ ((D, .list [v]) :: (ctx1 T w p tk4 M o ++ rest)) (s7.setGen G.size .running) := by
      have HH := H7r.drop (fs' := (M, .raw o) :: (p.x, .raw (instObj T.ctx p.dx)) :: (p.dx, .raw (dictOf (attrs3 w p.tk tk4 p.y M) (putN "parent_map" (attrs1 w "root" p.tk (.ref p.y)) (putN "root" [] 0)))) ::
        (p.f, .raw p.fo) :: (p.c', .raw p.oc) :: (p.y, .raw (instObj T.ctx p.dy)) :: (p.dy, .raw (dictOf (attrs2 w p.tk2 p.tk3 .none (.ref p.f)) (putN "iter" (attrs1 w "root" p.tk2 .none) (putN "root" [] 0)))) :: (p.D, .list p.ys) :: (p.cf, .cell (some (.ref p.D))) :: (D, .list [v]) :: rest) (by kwd_less)
      exact HH.perm (List.perm_middle (l₁ := [_, _, _, _, _, _, _, _, _]))
    have H9 := S.done2 hp.2 H8 (fun b o e => ⟨(fun hb => by rw [hb, H7.new (L, _) (by k_mem)] at e; cases e), .inl (by rw [e]; nofun)⟩) fun q hq => ⟨hne q hq, ?_⟩
    · have H10 : S (s7.setGen G.size .running) h₀ ((D, .list [v]) :: (ctx1 T w p tk4 M o ++ rest)) { s8 with heap := h' } := H9.grow ⟨h', s8.toks, rfl, hk⟩
      have hs8 : s8.gens = G.push .running ∧ s8.drawn = s.drawn ∧ s8.os = s.os := by
        obtain ⟨⟨h, tk, rfl⟩, _⟩ := H9
        exact ⟨by show s7.gens.setIfInBounds _ _ = _; rw [hG7, push_set], hd7⟩
      refine wpAny_pure ⟨rfl, h D v tk4 M o _ hIT hpo ?_ hs8.2.1 hs8.2.2 (H10.rebase.regen _)⟩
      show s8.gens.setIfInBounds _ _ = _
      rw [hs8.1, push_set]
    · by_cases hM : q = (M, .raw o)
      · subst hM
        refine .inr fun o' e' => ?_
        have : (s7.setGen G.size .running).heap.get? M = some o := H8.get (a := M) (f := .raw o) (.tail _ (.head _))
        rw [this] at e'; cases e'
        rw [hpo.cls]; decide
      · refine .inl (.inr ?_)
        simp only [List.mem_cons, List.cons_append, List.nil_append] at hq
        have key : ∀ r : Addr × Fact, q = r → q.1 = r.1 := fun r e => by rw [e]
        simp only [List.map_cons, List.mem_cons, List.cons_append, List.nil_append]
        rcases hq with h | h | h | h | h | h | h | h | h | h | h
        · have := key _ h; simp [this]
        · exact absurd h hM
        · have := key _ h; simp [this]
        · have := key _ h; simp [this]
        · have := key _ h; simp [this]
        · have := key _ h; simp [this]
        · have := key _ h; simp [this]
        · have := key _ h; simp [this]
        · have := key _ h; simp [this]
        · have := key _ h; simp [this]
        · have := List.mem_map_of_mem (f := (·.1)) h; simp [this]
end Mine
end

section
open PySem PySem.Calls PySem.Spec PyProof.Rows PySem.W
set_option Elab.async false
set_option maxRecDepth 100000
namespace Mine


section
variable {prog : Program} {w : World} {A : Around} {s : Shared} {env : Env} {pos : Pos}
theorem C_method {o : Expr} {name : Str} {apos pos : Pos} {args : List Expr} {pl : Sem Bool} {Q : Value → Shared → Prop}
    (h : Wp prog w A (eval o env) (fun ov s₁ => Wp prog w A (getMethod ov name pl) (fun fx s₂ => WpC prog w A (callWith pos fx.1 fx.2 (backTo pos (starEach args env)) []) Q s₂) s₁) s)
    (he : eval (.Call (.Attribute o name apos) args [] pos) env = (do
      let ov ← eval o env
      standAt apos.atName
      let (f, first) ← holding [ov] (getMethod ov name pl)
      callWith pos f first (backTo pos (starEach args env)) []) := by rfl) : WpC prog w A (eval (.Call (.Attribute o name apos) args [] pos) env) Q s := by
  rw [he]
  refine .seq (wpAny_mono h (fun ov s₁ h₁ => .seq (wpAny_standAt (.seq (wpAny_holding (wpAny_mono h₁ (fun fx s₂ h₂ => ?_) fun _ _ x => x))))) fun _ _ x => x)
  exact h₂
theorem C_withB {id : String} {first : List Value} {e : Expr} {Q : Value → Shared → Prop} (he : starEach [e] env = [(false, eval e env)])
    (h : WpC prog w A (eval e env) (fun v s₁ => Wp prog w A (call (.builtin id) (first ++ [v])) Q s₁) s) : WpC prog w A (callWith pos (.builtin id) first (backTo pos (starEach [e] env)) []) Q s := by
  have h' := C_items1 (pos := pos) (Q := fun vs s₁ => Wp prog w A (call (.builtin id) (first ++ vs)) Q s₁) h he
  rw [he] at h' ⊢
  unfold callWith
  refine .bind (.hold ((C_args (Q := fun a s₁ => a.kw = [] ∧ Wp prog w A (call (.builtin id) (first ++ a.pos)) Q s₁) (t := (false, eval e env)) rfl rfl (h'.mono fun vs s₁ q => ⟨rfl, q⟩)).mono fun a s₁ h₁ => ?_))
  obtain ⟨ap, akw⟩ := a
  obtain ⟨rfl, h₁⟩ := h₁
  refine .seq (wpAny_standAt ?_)
  have hp : (backTo pos [(false, eval e env)]).any (·.1) = false := rfl
  simp only [hp, List.any_nil, Bool.or_false]
  refine .seq (wpAny_pure ?_)
  exact .bind (.of (wpAny_mono h₁ (fun r s₂ hr => .seq (wpAny_holding (wpAny_point (.pure hr)))) fun _ _ x => x))
end

/-- the folder right above; the way from the root -/
noncomputable def pathL (nm : Nat → List Nat) (par : Nat → Nat) : Nat → Nat → List Nat
  | 0, _ => []
  | n + 1, e => if par e = e then 47 :: nm e else pathL nm par n (par e) ++ 47 :: nm e
noncomputable def Rooted (par : Nat → Nat) : Nat → Nat → Prop
  | 0, _ => False
  | n + 1, e => par e = e ∨ Rooted par n (par e)
noncomputable def GensOk (σ σ' : Shared) : Prop := σ'.drawn = σ.drawn ∧ σ'.os = σ.os ∧ ((∀ x ∈ σ.gens, x.bare = true) → ∀ x ∈ σ'.gens, x.bare = true)
theorem GensOk.refl (σ : Shared) : GensOk σ σ := ⟨rfl, rfl, id⟩
theorem GensOk.trans {a b c : Shared} (x : GensOk a b) (y : GensOk b c) : GensOk a c := ⟨y.1.trans x.1, y.2.1.trans x.2.1, fun h => y.2.2 (x.2.2 h)⟩
end Mine
end

section
open PySem PySem.Calls PySem.Spec PyProof.Rows PySem.W
set_option Elab.async false
set_option maxRecDepth 100000
namespace Mine

local macro_rules | `(tactic| tb_rel) => `(tactic| first | exact S.get (by assumption) (by k_mem) | assumption | (refine S.up (by assumption) ?_; tb_rel))
local macro_rules | `(tactic| kwd_rel) => `(tactic| first | (with_reducible exact look_head) | (with_reducible exact lk_head) | assumption | (refine look_tail (by kernel_rfl) ?_; kwd_rel) | (refine lk_tail (by kernel_rfl) ?_; kwd_rel))
local macro_rules | `(tactic| kwd_inv) => `(tactic| first | (with_reducible exact Upd.head) | (with_reducible apply Upd.tail; kwd_inv))
local macro_rules | `(tactic| kwd_less) => `(tactic| first | exact List.Sublist.refl _ | (refine List.Sublist.cons_cons _ ?_; kwd_less) | (refine List.Sublist.cons _ ?_; kwd_less))
local macro_rules | `(tactic| tb_start) => `(tactic| first | kernel_rfl | decide +kernel)

noncomputable def bytesOf (l : List Nat) : List UInt8 := l.map UInt8.ofNat
theorem bytesOf_app (a b : List Nat) : bytesOf (a ++ b) = bytesOf a ++ bytesOf b := List.map_append
theorem bytesOf_len (a : List Nat) : (bytesOf a).length = a.length := List.length_map _
theorem bytesOf_back : ∀ {l : List Nat}, (∀ c ∈ l, c < 256) → (bytesOf l).map (·.toNat) = l
  | [], _ => rfl
  | c :: r, h => by
    show (UInt8.ofNat c).toNat :: (bytesOf r).map (·.toNat) = _
    rw [bytesOf_back fun c hc => h c (.tail _ hc), show (UInt8.ofNat c).toNat = c % 256 from UInt8.toNat_ofNat', Nat.mod_eq_of_lt (h c (.head _))]
theorem byteArr_of (l : List Nat) : byteArr (l.map Int.ofNat) = (bytesOf l).toArray := by
  unfold byteArr bytesOf
  rw [List.map_map]; rfl
theorem joinT_one : ∀ l : List Nat, joinT [] (l.map fun c => [c]) = l
  | [] => rfl
  | [c] => rfl
  | c :: d :: r => by
    show [c] ++ [] ++ joinT [] ((d :: r).map fun c => [c]) = _
    rw [joinT_one (d :: r)]; rfl

set_option maxHeartbeats 4000000 in
theorem c_path {T : Ad} {mg mb : Str → Option Value} {w : World} {A : Around} {s : Shared} {σ : Shared} {h₀ : Heap} {K : Frag} {mi ci c P d : Addr} {p : CtxP} {fams : List (List Nat)} {led tab rest : Led} {os : List Nat} {e0 : Nat} {te : Tok} {par : Nat → Nat} {nm : Nat → List Nat} {on : Obj} {fN : Str → Option Value} {nN : Nat} {Q : Value → Shared → Prop}
    (X : Tp T mg mb h₀) (kf : Kf K T mi ci) (Xk : K.In h₀) (B : BMain mg h₀) (Sm : (h₀.get? sysModules).isSome = true) (Ng : mg "get_parent_map" = some (.ref T.gpm)) (Fg : IsDef T.gpm 26 h₀) (Fp : IsDefC T.pp 27 c P h₀) (Np : mg "prepare_parent" = some (.ref T.pp))
    (Fs : IsDef T.swap 24 h₀) (Ns : mg "_byteswap" = some (.ref T.swap)) (Bba : mg "bytearray" = none) (Bby : mg "bytes" = none) (Bl : mg "list" = none) (F : IsDef T.path 36 h₀) (R : Room A 12 200) (hgd : A.guards = some []) (ok : CtxOk p fams) (cs : CtxSt T w p fams led) (ts : TabSt P tab)
    (hd : h₀.get? d = some on) (hN : DV PySem.Challenge.pw_if0009_01 w on fN nN) (hnm : ∀ e ∈ os, (∃ t, fN (tx [e]) = some (.str (tx (nm e)) t)) ∧ (nm e).length ≤ 6 ∧ ∀ c ∈ nm e, c < 256)
    (hpar : ∀ e ∈ os, (∃ r, parentAt fams fams.length e = some (par e :: r)) ∧ par e ∈ os) (he0 : e0 ∈ os) (hroot : Rooted par 5 e0) (H : S σ h₀ (led ++ (tab ++ rest)) s)
    (h : ∀ v led' tab' σ' s', IsT (pathL nm par 5 e0) v → CtxSt T w p fams led' → TabSt P tab' → GensOk σ σ' → S σ' h₀ (led' ++ (tab' ++ rest)) s' → Q v s') :
    WpC PySem.Challenge.pw_if0009_01 w A (PySem.call (.ref T.path) [.ref p.x, .str (tx [e0]) te, .ref d]) Q s := by
  refine C_enter (F.keeps H.keep) (X.G.up H) (d := 11) (u := 197) R hgd (ns := ["context", "sign", "names"]) (lb := [("names", .ref d), ("sign", .str (tx [e0]) te), ("context", .ref p.x)]) (fun _ _ _ _ _ => by kernel_rfl) rfl (by tb_start) (by tb_start) (by tb_start) (by tb_start) (by tb_start) fun A' env L s1 R' hg' he H' => ?_
  replace H := H.join H'
  clear H'
  simp only [List.cons_append, List.nil_append] at H
  refine C_cons ?_
  refine C_Assign (.of ?_) rfl
  refine x_call he (by tb_start) (by tb_start) (by tb_start) (X.G.up H) Np rfl rfl ?_
  refine wpAny_items_cons ?_
  refine c_none ?_
  refine wpAny_items_cons ?_
  refine c_none ?_
  refine wpAny_items_nil ?_
  refine ⟨⟨_, _, _, _, Fp.fn.keeps H.keep⟩, ?_⟩
  refine c_pp (rest := (L, _) :: (led ++ rest)) X B Fp (R'.less (by omega) (by omega)) ts (H.perm ((List.Perm.cons _ (List.perm_append_comm_assoc led tab rest)).trans (List.perm_append_comm_assoc [_] tab (led ++ rest)))) fun f c' oc vs t doc pm ctv s1 e1 e2 H => ?_
  refine st_local he (by tb_start) (by tb_start) H (by kwd_inv) fun s1 H => ?_
  refine C_cons ?_
  refine C_Assign (.of ?_) rfl
  refine c_by (x := []) H fun u s1 H => ?_
  refine st_local he (by tb_start) (by tb_start) H (by kwd_inv) fun s1 H => ?_
  refine C_cons ?_
  refine f_forC (α := Nat) ?_ (fun _ => rfl) (fun _ _ => rfl)
  refine x_typ he (by tb_start) (by tb_start) (by tb_start) (X.G.up H) X.b_range (id := "range") (by tb_start) (by tb_start) rfl rfl ?_
  refine wpAny_items_cons ?_
  refine c_int H fun u s1 H => ?_
  refine wpAny_items_nil ?_
  refine x_range1 (n := 5) H (by omega) R'.handled fun xv s1 H IT _ => ?_
  refine ⟨_, _, _, _, _, fun i σ' fs => ∃ (e : Nat) (suf : List Nat) (l' : List (Str × Value)) (led' : Led) (ta te : Tok), fs = (f, .raw (fnMade "select" selQual selDef.1 selDef.2.1 selDef.2.2.1 [] doc pm c' ctv)) :: (c', .raw oc) :: (P, .raw (tabObj #[rawInt selDef.2.2.2.line, rawInt selDef.2.2.2.col, .ref c'])) :: (L, .loc l') :: (led' ++ rest) ∧
      CtxSt T w p fams led' ∧ e ∈ os ∧ i ≤ 5 ∧ pathL nm par 5 e0 = pathL nm par (5 - i) e ++ suf ∧ Rooted par (5 - i) e ∧ suf.length ≤ 7 * i ∧ (∀ c ∈ suf, c < 256) ∧ GensOk σ σ' ∧
      look l' "context" = some (.ref p.x) ∧ look l' "names" = some (.ref d) ∧ look l' "select" = some (.ref f) ∧ look l' "sign" = some (.str (tx [e]) te) ∧ look l' "address" = some (.bytes (bytesOf suf).reverse.toArray ta), IT, H, ?_, ?_, ?_⟩
  · exact ⟨e0, [], _, led, _, te, rfl, cs, he0, by decide, (List.append_nil _).symm, hroot, Nat.le_refl _, (fun _ h => nomatch h), GensOk.refl _, by kwd_rel, by kwd_rel, by kwd_rel, by kwd_rel, look_head⟩
  · rintro i i' v σ' fs I o s1 hk ⟨tv, rfl⟩ ⟨e, suf, l', led', ta, te, rfl, cs, he5, hi5, hp, hr, hsl, hsb, hgk, g1, g2, g3, g4, g5⟩ H
    obtain ⟨rfl, hlt⟩ := range_item hk
    obtain ⟨⟨tn, hn1⟩, hn2, hn3⟩ := hnm e he5
    refine wpAny_assign_Name ?_
    refine st_local he (by tb_start) (by tb_start) H (by kwd_inv) fun s1 H => ?_
    refine C_gen fun Q1 hQ1 => ?_
    refine C_cons ?_
    refine C_Assign (.of ?_) rfl
    refine x_typ he (by tb_start) (by tb_start) (by tb_start) (X.G.up H) Bby (id := "bytes") (by tb_start) (by tb_start) rfl rfl ?_
    refine wpAny_items_cons ?_
    refine l_comp (α := Nat) (fun _ => true) (fun c v => ∃ u, v = .str ⟨#[c]⟩ u) (fun c y => IsN c y) he (cl := []) (by kernel_rfl) ⟨(by tb_start), (by tb_start), (by tb_start), (by tb_start)⟩ (fun _ => rfl) ?_
    refine wpAny_BinOp ?_
    refine c_tx H [47] (by tb_start) fun u s1 H => ?_
    refine Subscript_ ?_
    refine n_local he (by tb_start) (by tb_start) (by tb_start) (by tb_rel) (by kwd_rel) ?_
    refine n_local he (by tb_start) (by tb_start) (by tb_start) (by tb_rel) (by kwd_rel) ?_
    refine d_item H (show s1.heap.get? d = some on from H.keep _ _ hd) hN hn1 (by with_unfolding_all rfl) fun s1 H => ?_
    refine o_catT H (by rw [sizeLine_eq, List.length_singleton]; omega) fun u1 s1 H => ?_
    have hpl : ([47] ++ nm e).length ≤ 7 := by rw [List.length_append, List.length_singleton]; omega
    have hpb : ∀ c ∈ [47] ++ nm e, c < 256 := fun c hc => by
      rcases List.mem_append.mp hc with hc | hc
      · obtain rfl := List.mem_singleton.mp hc; decide
      · exact hn3 c hc
    have hpos : 0 < ([47] ++ nm e).length := by rw [List.length_append, List.length_singleton]; omega
    generalize hpc : [47] ++ nm e = pc at hpl hpb hpos ⊢
    have IT := Iter.str (prog := PySem.Challenge.pw_if0009_01) (w := w) (h₀ := s1.heap) (s := s1) (x := tx pc) (t := u1) R'.handled
    rw [tx_cps] at IT
    refine ⟨_, _, _, _, IT, H, ⟨by rw [sizeLine_eq]; omega, ?_, ?_, ?_⟩, fun g4 zs s1 hzs H => ?_⟩
    · rintro x y v ⟨t, rfl⟩ ⟨t', e'⟩
      injection e' with e' _
      have := tx_inj (a := [x]) (b := [y]) e'
      injection this
    · intro c v C env' s3 hm hv he' hC hkp
      exact ct_nil ⟨rfl, (S.start s3).keeps⟩
    · rintro c v C env' s3 hm ⟨tp, rfl⟩ hz he' hC hkp
      have X3 : Tp T mg mb s3.heap := X.keeps fun b o e => hkp b o (H.keep b o e)
      have H := S.start s3
      refine x_blt he' (by tb_start) (by tb_start) (by tb_start) X3.G X.b_ord (id := "ord") (by tb_start) (by tb_start) rfl rfl ?_
      refine wpAny_items_cons ?_
      refine n_local he' (by tb_start) (by tb_start) (by tb_start) (by tb_rel) (by kwd_rel) ?_
      refine wpAny_items_nil ?_
      refine o_ord H fun u s2 H => ?_
      exact ⟨⟨_, rfl⟩, H.keeps⟩
    rw [List.filter_eq_self.mpr (by simp)] at hzs
    have hg4 : (Fact.list zs).at s1.heap g4 := H.get (.head _)
    refine wpAny_items_nil ?_
    refine call_bytes_ints (Heap.PlainList.isList hg4) (ints_of hzs) (fun n hn => by
      obtain ⟨c, hc, rfl⟩ := List.mem_map.mp hn
      have := hpb c hc
      exact ⟨Int.natCast_nonneg _, by show (c : Int) < 256; omega⟩) (by rw [← hzs.length, sizeLine_eq]; omega) R'.handled fun h' t k hk => ?_
    rw [byteArr_of]
    replace H := H.grow (s' := { s1 with heap := h', toks := k }) ⟨h', k, rfl, hk⟩
    generalize ({ s1 with heap := h', toks := k } : Shared) = s1 at H ⊢
    refine st_local he (by tb_start) (by tb_start) H (by kwd_inv) fun s1 H => ?_
    have hbl : (bytesOf pc).length = pc.length := bytesOf_len _
    refine C_cons ?_
    refine C_Assign ?_ rfl
    refine C_BinOp ?_
    refine n_local he (by tb_start) (by tb_start) (by tb_start) (by tb_rel) (by kwd_rel) ?_
    refine C_callA he (by tb_start) (by tb_start) (by tb_start) (X.G.up H) Ns rfl rfl (.of ?_)
    refine wpAny_items_cons ?_
    refine n_local he (by tb_start) (by tb_start) (by tb_start) (by tb_rel) (by kwd_rel) ?_
    refine wpAny_items_cons ?_
    refine x_blt he (by tb_start) (by tb_start) (by tb_start) (X.G.up H) X.b_len (id := "len") (by tb_start) (by tb_start) rfl rfl ?_
    refine wpAny_items_cons ?_
    refine n_local he (by tb_start) (by tb_start) (by tb_start) (by tb_rel) (by kwd_rel) ?_
    refine wpAny_items_nil ?_
    refine x_lenB H (by rw [sizeLine_eq]; omega) fun u2 s1 H => ?_
    refine wpAny_items_nil ?_
    refine ⟨⟨_, _, _, _, Fs.keeps H.keep⟩, ?_⟩
    refine (c_swap (X.keeps H.keep) Bba Bby (Fs.keeps H.keep) (R'.less (by omega) (by omega)) hg' (by omega) (by omega)).mono fun v s2 h2 => ?_
    obtain ⟨⟨tb, rfl⟩, kk⟩ := h2
    replace H := H.grow kk
    have hsl2 : (bytesOf suf).reverse.length = suf.length := by rw [List.length_reverse, bytesOf_len]
    refine o_catB H (by rw [hsl2, List.length_reverse, sizeLine_eq]; omega) fun ta s1 H => ?_
    have hadr : (bytesOf suf).reverse ++ (bytesOf pc).reverse = (bytesOf (pc ++ suf)).reverse := by rw [bytesOf_app pc, List.reverse_append]
    rw [hadr]
    refine st_local he (by tb_start) (by tb_start) H (by kwd_inv) fun s1 H => ?_
    refine C_cons ?_
    refine C_Assign (.of ?_) rfl
    refine x_typ he (by tb_start) (by tb_start) (by tb_start) (X.G.up H) Bl (id := "list") (by tb_start) (by tb_start) rfl rfl ?_
    refine wpAny_items_cons ?_
    refine Call_Name rfl ?_
    refine n_local he (by tb_start) (by tb_start) (by tb_start) (by tb_rel) (by kwd_rel) ?_
    have hFn : ∀ {σ s' : Shared} {fs : Led}, S σ h₀ fs s' → (f, Fact.raw (fnMade "select" selQual selDef.1 selDef.2.1 selDef.2.2.1 [] doc pm c' ctv)) ∈ fs → FnAt f s'.heap := fun H hm => ⟨_, _, _, _, H.get (a := f) (f := .raw (fnMade "select" selQual selDef.1 selDef.2.1 selDef.2.2.1 [] doc pm c' ctv)) hm⟩
    refine callWith_F (hFn H (by k_mem)) ?_
    refine wpAny_items_cons ?_
    refine n_local he (by tb_start) (by tb_start) (by tb_start) (by tb_rel) (by kwd_rel) ?_
    refine wpAny_items_cons ?_
    refine l_new ?_
    refine wpAny_items_cons ?_
    refine c_tx H [] (by tb_start) fun u3 s1 H => ?_
    refine wpAny_items_cons ?_
    refine n_local he (by tb_start) (by tb_start) (by tb_start) (by tb_rel) (by kwd_rel) ?_
    refine wpAny_items_cons ?_
    refine n_local he (by tb_start) (by tb_start) (by tb_start) (by tb_rel) (by kwd_rel) ?_
    refine wpAny_items_nil ?_
    refine ⟨by rw [sizeLine_eq]; exact Nat.le_of_ble_eq_true rfl, _, _, _, H, fun lst s1 H => ?_⟩
    refine wpAny_items_nil ?_
    refine ⟨hFn H (by k_mem), ?_⟩
    refine x_gen (d := 0) (n := 1) (X.G.up H).nolimit (R'.less (by omega) (by omega)) H (by k_mem) (by k_mem) e1 e2 fun ag Lg env2 gx gy s1 he2 hg1 hg2 hg3 H => ?_
    refine wpAny_items_nil ?_
    obtain ⟨⟨r, hq⟩, hpo5⟩ := hpar e he5
    refine x_list X kf Xk Sm Ng Fg (R'.less (by omega) (by omega)) ok cs hq he2 hg1 (H.perm (.cons _ (.cons _ (.cons _ (List.perm_append_comm_assoc [_, _, _, _, _, _] led' rest))))) fun D v tk4 M o4 s2 hv hpo hg4' hg5 hg6 H => ?_
    have cs2 : CtxSt T w p fams (ctx1 T w p tk4 M o4) := .inr ⟨tk4, M, o4, rfl, hpo⟩
    generalize ctx1 T w p tk4 M o4 = led2 at H cs2
    replace H := H.perm (.cons _ (List.perm_append_comm_assoc led2 [_, _, _, _, _, _] rest))
    simp only [List.cons_append, List.nil_append] at H
    have hgk2 : GensOk σ s2 := hgk.trans ⟨hg5.trans hg2, hg6.trans hg3, fun hb x hx => by
      rw [hg4'] at hx
      rcases Array.mem_push.mp hx with hx | rfl
      · exact hb x hx
      · rfl⟩
    obtain ⟨tv2, rfl⟩ := hv
    refine st_local he (by tb_start) (by tb_start) H (by kwd_inv) fun s1 H => ?_
    refine C_cons ?_
    refine C_If ?_
    refine wpAny_isTrue_Compare1 ?_
    refine x_blt he (by tb_start) (by tb_start) (by tb_start) (X.G.up H) X.b_len (id := "len") (by tb_start) (by tb_start) rfl rfl ?_
    refine wpAny_items_cons ?_
    refine n_local he (by tb_start) (by tb_start) (by tb_start) (by tb_rel) (by kwd_rel) ?_
    refine wpAny_items_nil ?_
    refine l_len (its := [.str (tx (par e :: r)) tv2]) (by tb_rel) H (by rw [sizeLine_eq]; exact Nat.le_of_ble_eq_true rfl) fun u4 s1 H => ?_
    refine c_int H fun u5 s1 H => ?_
    refine ne_int ?_
    refine wpAny_truthy_bool ?_
    rw [List.length_singleton, if_neg (by decide)]
    refine C_nil ?_
    have h5i : 5 - i' = (5 - (i' + 1)) + 1 := by omega
    have hstep : pathL nm par (5 - (i' + 1) + 1) e = if par e = e then 47 :: nm e else pathL nm par (5 - (i' + 1)) (par e) ++ 47 :: nm e := rfl
    rw [h5i, hstep] at hp
    rw [h5i] at hr
    have first : ∀ {s1 : Shared} {fs : Led} {l2 : List (Str × Value)} {Q' : Value → Shared → Prop} {p1 p2 p3 p4 p5 : Pos}, S s2 h₀ fs s1 → (L, Fact.loc l2) ∈ fs → look l2 "found" = some (.ref D) → (D, Fact.list [.str (tx (par e :: r)) tv2]) ∈ fs →
        (∀ u s', S s2 h₀ fs s' → Q' (.str (tx [par e]) u) s') → Wp PySem.Challenge.pw_if0009_01 w A' (eval (.Subscript (.Subscript (.Name "found" p1) (.Constant (.int 0) 0 p2) p3) (.Constant (.int 0) 0 p4) p5) env) Q' s1 := fun {s1 fs l2 Q' p1 p2 p3 p4 p5} H hm hlk hD hQ => by
      refine Subscript_ ?_
      refine Subscript_ ?_
      refine n_local he (by tb_start) (by tb_start) (by tb_start) (H.get hm) hlk ?_
      refine c_int H fun u6 s1 H => ?_
      refine l_item (its := [.str (tx (par e :: r)) tv2]) (H.get hD) (by omega) rfl (by with_unfolding_all rfl) ?_
      refine c_int H fun u7 s1 H => ?_
      exact t_sign (c := par e) H (by omega) rfl (by with_unfolding_all rfl) hQ
    refine C_cons ?_
    refine C_If ?_
    refine wpAny_isTrue_Compare1 ?_
    refine first H (by k_mem) (by kwd_rel) (by k_mem) fun u6 s1 H => ?_
    refine n_local he (by tb_start) (by tb_start) (by tb_start) (by tb_rel) (by kwd_rel) ?_
    refine o_eqT ?_
    refine wpAny_truthy_bool ?_
    by_cases hpe : par e = e
    · rw [if_pos (by rw [hpe]; exact beq_self_eq_true _)]
      rw [if_pos hpe] at hp
      have hfl : (bytesOf (pc ++ suf)).reverse.length = (pc ++ suf).length := by rw [List.length_reverse, bytesOf_len]
      have hfl2 : (pc ++ suf).length = pc.length + suf.length := List.length_append
      refine C_cons ?_
      refine C_Return ?_
      refine C_method (c_tx H [] (by tb_start) fun u8 s1 H => ?_)
      with_reducible refine GM.join ?_
      refine C_withB rfl ?_
      refine l_compC (α := UInt8) he (cl := []) (by kernel_rfl) ⟨(by tb_start), (by tb_start), (by tb_start), (by tb_start)⟩ (fun _ => rfl) ?_
      refine C_callA he (by tb_start) (by tb_start) (by tb_start) (X.G.up H) Ns rfl rfl (.of ?_)
      refine wpAny_items_cons ?_
      refine n_local he (by tb_start) (by tb_start) (by tb_start) (by tb_rel) (by kwd_rel) ?_
      refine wpAny_items_cons ?_
      refine x_blt he (by tb_start) (by tb_start) (by tb_start) (X.G.up H) X.b_len (id := "len") (by tb_start) (by tb_start) rfl rfl ?_
      refine wpAny_items_cons ?_
      refine n_local he (by tb_start) (by tb_start) (by tb_start) (by tb_rel) (by kwd_rel) ?_
      refine wpAny_items_nil ?_
      refine x_lenB H (by rw [sizeLine_eq]; omega) fun u9 s1 H => ?_
      refine wpAny_items_nil ?_
      refine ⟨⟨_, _, _, _, Fs.keeps H.keep⟩, ?_⟩
      refine (c_swap (X.keeps H.keep) Bba Bby (Fs.keeps H.keep) (R'.less (by omega) (by omega)) hg' (by omega) (by omega)).mono fun v s3 h3 => ?_
      obtain ⟨⟨tb2, rfl⟩, kk⟩ := h3
      replace H := H.grow kk
      rw [List.reverse_reverse]
      obtain ⟨fsx, H, hfs⟩ : ∃ fsx, S s2 h₀ fsx s3 ∧ fsx = (c', .raw oc) :: (P, .raw (tabObj #[rawInt selDef.2.2.2.line, rawInt selDef.2.2.2.col, .ref c'])) :: (led2 ++ rest) := ⟨_, H.drop (by kwd_less), rfl⟩
      refine ⟨_, _, fun (c : UInt8) y => IsT [c.toNat] y, s2, h₀, fsx, fun _ σ' fs' => σ' = s2 ∧ fs' = fsx, Iter.bytes R'.handled, H, ⟨rfl, rfl⟩, by rw [List.toList_toArray, bytesOf_len, sizeLine_eq]; omega, ?_, ?_⟩
      · rintro i c v σ' fs I o C D l ys env' s hxc ⟨t, rfl⟩ ⟨rfl, rfl⟩ he' H
        refine .of ?_
        refine x_blt he' (by tb_start) (by tb_start) (by tb_start) (X.G.up H) X.b_chr (id := "chr") (by tb_start) (by tb_start) rfl rfl ?_
        refine wpAny_items_cons ?_
        refine n_local he' (by tb_start) (by tb_start) (by tb_start) (by tb_rel) (by kwd_rel) ?_
        refine wpAny_items_nil ?_
        have hc := c.toNat_lt
        refine o_chr H (by omega) fun u s1 H => ?_
        exact ⟨⟨_, rfl⟩, _, _, H, rfl, rfl⟩
      · rintro σ' fs D ys s ⟨rfl, rfl⟩ hys H
        have hD : (Fact.list ys).at s.heap D := H.get (.head _)
        have hys' := paired_mapS (G := IsT) (fun c : UInt8 => [c.toNat]) hys
        rw [List.toList_toArray, show (bytesOf (pc ++ suf)).map (fun c : UInt8 => [c.toNat]) = ((bytesOf (pc ++ suf)).map (·.toNat)).map (fun c => [c]) by rw [List.map_map]; rfl, bytesOf_back (fun c hc => (List.mem_append.mp hc).elim (hpb c) (hsb c))] at hys'
        refine x_join (B := 1) H (Heap.PlainList.isList hD) hys' (fun q hq => by obtain ⟨c, _, rfl⟩ := List.mem_map.mp hq; exact Nat.le_refl _) (by rw [List.length_map, List.length_nil]; omega) fun u s1 H => ?_
        rw [joinT_one]
        refine hQ1 _ _ ?_
        refine h _ led2 [(c', .raw oc), (P, .raw (tabObj #[rawInt selDef.2.2.2.line, rawInt selDef.2.2.2.col, .ref c']))] _ s1 ⟨_, by rw [hp, ← hpc]; rfl⟩ cs2 (.inr ⟨c', oc, vs, _, rfl, e1, e2⟩) hgk2 ?_
        have H := H.drop (List.sublist_cons_self _ _)
        rw [hfs] at H
        exact H.perm (List.perm_append_comm_assoc [_, _] led2 rest)
    · rw [if_neg (by simpa using hpe)]
      refine C_nil ?_
      refine C_cons ?_
      refine C_Assign (.of ?_) rfl
      refine first H (by k_mem) (by kwd_rel) (by k_mem) fun u7 s1 H => ?_
      refine st_local he (by tb_start) (by tb_start) H (by kwd_inv) fun s1 H => ?_
      refine C_nil ?_
      rw [if_neg hpe] at hp
      refine hQ1 _ _ ?_
      refine ⟨s2, _, H.drop (fs' := (I, .raw o) :: (f, .raw (fnMade "select" selQual selDef.1 selDef.2.1 selDef.2.2.1 [] doc pm c' ctv)) :: (c', .raw oc) :: (P, .raw (tabObj #[rawInt selDef.2.2.2.line, rawInt selDef.2.2.2.col, .ref c'])) :: (L, .loc _) :: (led2 ++ rest)) (by kwd_less), par e, pc ++ suf, _, led2, _, _, rfl, cs2, hpo5, by omega, ?_, ?_, ?_, ?_, hgk2, by kwd_rel, by kwd_rel, by kwd_rel, look_head, by kwd_rel⟩
      · rw [hp, ← hpc]; simp
      · exact (hr.resolve_left hpe)
      · rw [List.length_append]; omega
      · intro c hc
        rcases List.mem_append.mp hc with hc | hc
        · exact hpb c hc
        · exact hsb c hc
  · rintro σ' fs s1 ⟨e, suf, l', led', ta, te, rfl, cs, he5, hi5, hp, hr, hsl, hsb, hgk, g1, g2, g3, g4, g5⟩ H
    exact hr.elim
end Mine
end

section
open PySem PySem.Calls PySem.Spec PyProof.Rows PySem.W
set_option Elab.async false
set_option maxRecDepth 100000
namespace Mine


/-! plain laws: the game on every tree -/
noncomputable def gstep (ms : List Nat) (q : List Nat × Bool) (i : Nat) : List Nat × Bool :=
  (q.1 ++ [(mexL (afterOf ms q.1 (i + 1))).headD 0], q.2 && ((mexL (afterOf ms q.1 (i + 1))).contains ((mexL (afterOf ms q.1 (i + 1))).headD 0) && ((mexL (afterOf ms q.1 (i + 1))).all (fun y => decide ((mexL (afterOf ms q.1 (i + 1))).headD 0 ≤ y)) &&
    (List.range 5).all (fun k => !((i + 1) / 2 ^ k &&& 1 == 1) || decide (0 < (i + 1) &&& ms.getD k 0)))))
theorem gfold (ms : List Nat) : ∀ n, ((List.range n).foldl (gstep ms) ([0], true)).1 = gameAt ms n ∧ (((List.range n).foldl (gstep ms) ([0], true)).2 = true → ∀ i, i < n →
    (mexL (afterOf ms (gameAt ms i) (i + 1))).headD 0 ∈ mexL (afterOf ms (gameAt ms i) (i + 1)) ∧ (∀ y ∈ mexL (afterOf ms (gameAt ms i) (i + 1)), (mexL (afterOf ms (gameAt ms i) (i + 1))).headD 0 ≤ y) ∧
    ∀ k, k < 5 → ((i + 1) / 2 ^ k &&& 1 == 1) = true → 0 < (i + 1) &&& ms.getD k 0)
  | 0 => ⟨rfl, fun _ i h => absurd h (Nat.not_lt_zero _)⟩
  | n + 1 => by
    obtain ⟨h1, h2⟩ := gfold ms n
    rw [List.range_succ, List.foldl_append]
    generalize (List.range n).foldl (gstep ms) ([0], true) = q at h1 h2
    refine ⟨by show q.1 ++ _ = gameAt ms n ++ _; rw [h1], fun hb i hi => ?_⟩
    have hb' : (q.2 && _) = true := hb
    rw [Bool.and_eq_true] at hb'
    obtain ⟨b1, b2⟩ := hb'
    rcases Nat.lt_succ_iff_lt_or_eq.mp hi with h | rfl
    · exact h2 b1 i h
    · rw [h1, Bool.and_eq_true, Bool.and_eq_true] at b2
      obtain ⟨c1, c2, c3⟩ := b2
      refine ⟨by simpa using c1, fun y hy => by simpa using List.all_eq_true.mp c2 y hy, fun k hk hz => ?_⟩
      have := List.all_eq_true.mp c3 k (List.mem_range.mpr hk)
      rw [hz] at this
      simpa using this

/-- the folders from the root to one; who is in whose box -/
noncomputable def seqOf (as : List Nat) : Nat → Nat → List Nat
  | 0, _ => []
  | n + 1, k => if as.getD k 0 = 5 then [k] else seqOf as n (as.getD k 0) ++ [k]
noncomputable def boxAt (as : List Nat) (k : Nat) : Nat := (List.range 5).foldl (fun m j => m + if (seqOf as 5 k).isPrefixOf (seqOf as 5 j) then 2 ^ j else 0) 0
noncomputable def boxes (as : List Nat) : List Nat := (List.range 5).map (boxAt as)
noncomputable def treeOk (as : List Nat) : Bool := let q := (List.range 31).foldl (gstep (boxes as)) ([0], true); q.2 && (q.1 == (List.range 32).map (grownOf as))
theorem trees_000 : ∀ a4 ∈ [0, 1, 2, 3, 5], treeOk [5, 0, 0, 0, a4] = true := by decide +kernel
theorem trees_001 : ∀ a4 ∈ [0, 1, 2, 3, 5], treeOk [5, 0, 0, 1, a4] = true := by decide +kernel
theorem trees_002 : ∀ a4 ∈ [0, 1, 2, 3, 5], treeOk [5, 0, 0, 2, a4] = true := by decide +kernel
theorem trees_005 : ∀ a4 ∈ [0, 1, 2, 3, 5], treeOk [5, 0, 0, 5, a4] = true := by decide +kernel
theorem trees_010 : ∀ a4 ∈ [0, 1, 2, 3, 5], treeOk [5, 0, 1, 0, a4] = true := by decide +kernel
theorem trees_011 : ∀ a4 ∈ [0, 1, 2, 3, 5], treeOk [5, 0, 1, 1, a4] = true := by decide +kernel
theorem trees_012 : ∀ a4 ∈ [0, 1, 2, 3, 5], treeOk [5, 0, 1, 2, a4] = true := by decide +kernel
theorem trees_015 : ∀ a4 ∈ [0, 1, 2, 3, 5], treeOk [5, 0, 1, 5, a4] = true := by decide +kernel
theorem trees_050 : ∀ a4 ∈ [0, 1, 2, 3, 5], treeOk [5, 0, 5, 0, a4] = true := by decide +kernel
theorem trees_051 : ∀ a4 ∈ [0, 1, 2, 3, 5], treeOk [5, 0, 5, 1, a4] = true := by decide +kernel
theorem trees_052 : ∀ a4 ∈ [0, 1, 2, 3, 5], treeOk [5, 0, 5, 2, a4] = true := by decide +kernel
theorem trees_055 : ∀ a4 ∈ [0, 1, 2, 3, 5], treeOk [5, 0, 5, 5, a4] = true := by decide +kernel
theorem trees_500 : ∀ a4 ∈ [0, 1, 2, 3, 5], treeOk [5, 5, 0, 0, a4] = true := by decide +kernel
theorem trees_501 : ∀ a4 ∈ [0, 1, 2, 3, 5], treeOk [5, 5, 0, 1, a4] = true := by decide +kernel
theorem trees_502 : ∀ a4 ∈ [0, 1, 2, 3, 5], treeOk [5, 5, 0, 2, a4] = true := by decide +kernel
theorem trees_505 : ∀ a4 ∈ [0, 1, 2, 3, 5], treeOk [5, 5, 0, 5, a4] = true := by decide +kernel
theorem trees_510 : ∀ a4 ∈ [0, 1, 2, 3, 5], treeOk [5, 5, 1, 0, a4] = true := by decide +kernel
theorem trees_511 : ∀ a4 ∈ [0, 1, 2, 3, 5], treeOk [5, 5, 1, 1, a4] = true := by decide +kernel
theorem trees_512 : ∀ a4 ∈ [0, 1, 2, 3, 5], treeOk [5, 5, 1, 2, a4] = true := by decide +kernel
theorem trees_515 : ∀ a4 ∈ [0, 1, 2, 3, 5], treeOk [5, 5, 1, 5, a4] = true := by decide +kernel
theorem trees_550 : ∀ a4 ∈ [0, 1, 2, 3, 5], treeOk [5, 5, 5, 0, a4] = true := by decide +kernel
theorem trees_551 : ∀ a4 ∈ [0, 1, 2, 3, 5], treeOk [5, 5, 5, 1, a4] = true := by decide +kernel
theorem trees_552 : ∀ a4 ∈ [0, 1, 2, 3, 5], treeOk [5, 5, 5, 2, a4] = true := by decide +kernel
theorem trees_555 : ∀ a4 ∈ [0, 1, 2, 3, 5], treeOk [5, 5, 5, 5, a4] = true := by decide +kernel
theorem trees_ok : ∀ a1 ∈ [0, 5], ∀ a2 ∈ [0, 1, 5], ∀ a3 ∈ [0, 1, 2, 5], ∀ a4 ∈ [0, 1, 2, 3, 5], treeOk [5, a1, a2, a3, a4] = true := by
  intro a1 h1 a2 h2 a3 h3
  simp only [List.mem_cons, List.not_mem_nil, or_false] at h1 h2 h3
  rcases h1 with rfl | rfl <;> rcases h2 with rfl | rfl | rfl <;> rcases h3 with rfl | rfl | rfl | rfl
  · exact trees_000
  · exact trees_001
  · exact trees_002
  · exact trees_005
  · exact trees_010
  · exact trees_011
  · exact trees_012
  · exact trees_015
  · exact trees_050
  · exact trees_051
  · exact trees_052
  · exact trees_055
  · exact trees_500
  · exact trees_501
  · exact trees_502
  · exact trees_505
  · exact trees_510
  · exact trees_511
  · exact trees_512
  · exact trees_515
  · exact trees_550
  · exact trees_551
  · exact trees_552
  · exact trees_555
theorem tree_game {as : List Nat} (h : treeOk as = true) : GameOk (boxes as) ∧ gameAt (boxes as) 31 = (List.range 32).map (grownOf as) := by
  unfold treeOk at h
  obtain ⟨h1, h2⟩ := gfold (boxes as) 31
  rw [Bool.and_eq_true] at h
  exact ⟨h2 h.1, h1.symm.trans (eq_of_beq h.2)⟩
end Mine
end

section
open PySem PySem.Calls PySem.Spec PyProof.Rows PySem.W
set_option Elab.async false
set_option maxRecDepth 100000
namespace Mine


theorem place_small (n k : Nat) : placeAt n k = 5 ∨ placeAt n k < k := by
  unfold placeAt
  have h : numAt n k % (k + 1) < k + 1 := Nat.mod_lt _ (Nat.succ_pos k)
  split
  · exact .inl rfl
  · exact .inr (by omega)
theorem tree_of (n : Nat) : treeOk (aboveOf n) = true := by
  have e : aboveOf n = [placeAt n 0, placeAt n 1, placeAt n 2, placeAt n 3, placeAt n 4] := rfl
  have h0 := place_small n 0
  have h1 := place_small n 1
  have h2 := place_small n 2
  have h3 := place_small n 3
  have h4 := place_small n 4
  rw [e, show placeAt n 0 = 5 by omega]
  refine trees_ok _ ?_ _ ?_ _ ?_ _ ?_ <;> simp only [List.mem_cons, List.not_mem_nil, or_false] <;> omega

/-- the octets of the law -/
noncomputable def octOf (c k : Nat) : Nat := (c + (c / 256 * 2 + 1) * k) % 256
noncomputable def octs (c : Nat) : List Nat := (List.range 5).map (octOf c)
theorem octs_lt (c : Nat) : ∀ o ∈ octs c, o < 256 := fun o ho => by
  obtain ⟨k, _, rfl⟩ := List.mem_map.mp ho
  exact Nat.mod_lt _ (by decide)
theorem octs_nodup (c : Nat) : (octs c).Nodup := by
  have e : octs c = [octOf c 0, octOf c 1, octOf c 2, octOf c 3, octOf c 4] := rfl
  rw [e]
  unfold octOf
  generalize c / 256 = t
  simp only [List.nodup_cons, List.mem_cons, List.not_mem_nil, or_false, not_or, List.nodup_nil, and_true, not_false_eq_true]
  omega

/-! the letter is read back -/
noncomputable def fin (q : List (List Nat) × List Nat) : List (List Nat) := if q.2 = [] then q.1 else q.1 ++ [q.2]
theorem cut_plain : ∀ (l : List Nat) (q : List (List Nat) × List Nat), (∀ c ∈ l, c ≠ 44) → l.foldl cutStep q = (q.1, q.2 ++ l)
  | [], q, _ => by simp
  | c :: r, q, h => by
    rw [List.foldl_cons, cut_plain r _ fun c hc => h c (.tail _ hc)]
    unfold cutStep
    rw [if_neg (h c (.head _))]
    simp
theorem cut_join : ∀ (xs : List (List Nat)) (x cur : List Nat) (acc : List (List Nat)), (∀ y ∈ x :: xs, ∀ c ∈ y, c ≠ 44) → cur ++ x ≠ [] →
    fin ((joinT [44, 32] (x :: xs)).foldl cutStep (acc, cur)) = acc ++ ((cur ++ x) :: xs.map (32 :: ·))
  | [], x, cur, acc, h, hne => by
    show fin (x.foldl cutStep (acc, cur)) = _
    rw [cut_plain x _ (h x (.head _))]
    unfold fin
    rw [if_neg hne]; rfl
  | y :: r, x, cur, acc, h, hne => by
    show fin ((x ++ [44, 32] ++ joinT [44, 32] (y :: r)).foldl cutStep (acc, cur)) = _
    rw [List.foldl_append, List.foldl_append, cut_plain x _ (h x (.head _))]
    show fin ((joinT [44, 32] (y :: r)).foldl cutStep (acc ++ [cur ++ x], [32])) = _
    rw [cut_join r y [32] (acc ++ [cur ++ x]) (fun z hz => h z (.tail _ hz)) (by simp)]
    simp
theorem enc_44 (os : List Nat) (ho : ∀ o ∈ os, o < 256) : ∀ c ∈ encT os, c ≠ 44 ∧ c ≠ 34 ∧ c ≠ 92 ∧ Unicode.isSpace c = false := fun c hc => by
  rcases encT_mem os ho c hc with rfl | ⟨n, hn, rfl⟩
  · exact ⟨by decide, by decide, by decide, enc_chars.1.1⟩
  · obtain ⟨a1, _, _, _, _, a2, a3, a4, _⟩ := enc_chars.2 n hn
    exact ⟨a2, a3, a4, a1⟩
theorem parts_back (f : List Nat) (fs : List (List Nat)) (hf : ∀ g ∈ f :: fs, g ≠ [] ∧ ∀ o ∈ g, o < 256) : partsOf (joinT [44, 32] ((f :: fs).map encT)) = (f :: fs).map fun g => tx (encT g) := by
  have e : piecesOf (joinT [44, 32] ((f :: fs).map encT)) = fin ((joinT [44, 32] (encT f :: fs.map encT)).foldl cutStep ([], [])) := by
    unfold piecesOf fin cutAt
    rw [List.take_length]; rfl
  have hne : encT f ≠ [] := by
    obtain ⟨h, _⟩ := hf f (.head _)
    cases f with
    | nil => exact absurd rfl h
    | cons o r => nofun
  unfold partsOf
  rw [e, cut_join _ _ _ _ (fun y hy c hc => by
    rw [← List.map_cons] at hy
    obtain ⟨g, hg, rfl⟩ := List.mem_map.mp hy
    exact (enc_44 g (hf g hg).2 c hc).1) (by simpa using hne)]
  rw [List.nil_append, List.nil_append, List.map_cons, List.map_cons, List.map_map, List.map_map]
  congr 1
  · exact strip_id fun c hc => (enc_44 f (hf f (.head _)).2 c hc).2.2.2
  · refine List.map_congr_left fun g hg => ?_
    exact strip_space (c := 32) (show Unicode.isSpace 32 = true by decide +kernel) fun c hc => (enc_44 g (hf g (.tail _ hg)).2 c hc).2.2.2
end Mine
end

section
open PySem PySem.Calls PySem.Spec PyProof.Rows PySem.W
set_option Elab.async false
set_option maxRecDepth 100000
namespace Mine


theorem par_at {fams : List (List Nat)} {e i : Nat} (hi : e ∈ fams.getD i []) : ∀ n, i < n → (∀ j, i < j → j < n → e ∉ fams.getD j []) → parentAt fams n e = some (fams.getD i [])
  | 0, h, _ => absurd h (Nat.not_lt_zero _)
  | n + 1, h, hj => by
    unfold parentAt
    by_cases hin : i = n
    · subst hin; rw [if_pos hi]
    · rw [if_neg (hj n (by omega) (by omega))]
      exact par_at hi n (by omega) fun j h1 h2 => hj j h1 (by omega)

section
variable {os as : List Nat} {n : Nat}
/-- the folder right above, by its place; by its octet -/
noncomputable def upOf (as : List Nat) (k : Nat) : Nat := if as.getD k 0 = 5 then k else as.getD k 0
noncomputable def idxOf5 (os : List Nat) (e : Nat) : Nat := ((List.range 5).find? fun k => os.getD k 0 == e).getD 0
noncomputable def parO (os as : List Nat) (e : Nat) : Nat := os.getD (upOf as (idxOf5 os e)) 0
theorem getD_inj (h5 : os.length = 5) (hnd : os.Nodup) {i j : Nat} (hi : i < 5) (hj : j < 5) (e : os.getD i 0 = os.getD j 0) : i = j := by
  have g : ∀ k (hk : k < 5), os.getD k 0 = os[k]'(by omega) := fun k hk => by
    rw [List.getD_eq_getElem?_getD, List.getElem?_eq_getElem (by omega)]; rfl
  have hpw := List.pairwise_iff_getElem.mp hnd
  rw [g i hi, g j hj] at e
  rcases Nat.lt_trichotomy i j with h | h | h
  · exact absurd e (hpw i j (by omega) (by omega) h)
  · exact h
  · exact absurd e.symm (hpw j i (by omega) (by omega) h)
theorem idx_back (h5 : os.length = 5) (hnd : os.Nodup) {k : Nat} (hk : k < 5) : idxOf5 os (os.getD k 0) = k := by
  unfold idxOf5
  cases h : (List.range 5).find? fun j => os.getD j 0 == os.getD k 0 with
  | none =>
    have := List.find?_eq_none.mp h k (List.mem_range.mpr hk)
    simp at this
  | some j =>
    have h1 := List.find?_some h
    have h2 := List.mem_range.mp (List.mem_of_find?_eq_some h)
    exact getD_inj h5 hnd h2 hk (eq_of_beq h1)
theorem mem_fam (h5 : os.length = 5) (hnd : os.Nodup) {k m : Nat} (hk : k < 5) (hm : m < 5) : os.getD k 0 ∈ famOf os as m ↔ k = m ∨ as.getD k 0 = m := by
  unfold famOf
  rw [List.mem_cons]
  constructor
  · rintro (h | h)
    · exact .inl (getD_inj h5 hnd hk hm h)
    · obtain ⟨j, hj, e⟩ := List.mem_map.mp h
      obtain ⟨hj1, hj2⟩ := List.mem_filter.mp hj
      have := getD_inj h5 hnd (List.mem_range.mp hj1) hk e
      subst this
      exact .inr (eq_of_beq hj2)
  · rintro (rfl | h)
    · exact .inl rfl
    · exact .inr (List.mem_map.mpr ⟨k, List.mem_filter.mpr ⟨List.mem_range.mpr hk, by rw [h]; exact beq_self_eq_true _⟩, rfl⟩)
noncomputable abbrev famsOf (os as : List Nat) : List (List Nat) := [4, 3, 2, 1, 0].map (famOf os as)
theorem fams_at {m : Nat} (hm : m < 5) : (famsOf os as).getD (4 - m) [] = famOf os as m := by
  rcases (show m = 0 ∨ m = 1 ∨ m = 2 ∨ m = 3 ∨ m = 4 by omega) with rfl | rfl | rfl | rfl | rfl <;> rfl
theorem up_lt (ha : ∀ k, k < 5 → as.getD k 0 = 5 ∨ as.getD k 0 < k) {k : Nat} (hk : k < 5) : upOf as k < 5 := by
  unfold upOf
  rcases ha k hk with h | h
  · rw [if_pos h]; exact hk
  · split <;> omega
theorem par_of (h5 : os.length = 5) (hnd : os.Nodup) (ha : ∀ k, k < 5 → as.getD k 0 = 5 ∨ as.getD k 0 < k) {k : Nat} (hk : k < 5) :
    ∃ r, parentAt (famsOf os as) (famsOf os as).length (os.getD k 0) = some (parO os as (os.getD k 0) :: r) := by
  have hu := up_lt ha hk
  have hmem : os.getD k 0 ∈ famOf os as (upOf as k) := (mem_fam h5 hnd hk hu).mpr (by
    unfold upOf
    split
    · exact .inl rfl
    · exact .inr rfl)
  refine ⟨((List.range 5).filter fun j => as.getD j 0 == upOf as k).map fun j => os.getD j 0, (par_at (i := 4 - upOf as k) (by rw [fams_at hu]; exact hmem) 5 (by omega) fun j h1 h2 hin => ?_).trans ?_⟩
  · have hj : (famsOf os as).getD j [] = famOf os as (4 - j) := by
      have := fams_at (os := os) (as := as) (m := 4 - j) (by omega)
      rw [show 4 - (4 - j) = j by omega] at this
      exact this
    rw [hj, mem_fam h5 hnd hk (by omega)] at hin
    unfold upOf at h1
    rcases ha k hk with h | h
    · rw [if_pos h] at h1
      omega
    · rw [if_neg (by omega)] at h1
      omega
  · rw [fams_at hu]
    unfold parO
    rw [idx_back h5 hnd hk]
    rfl
end
end Mine
end

section
open PySem PySem.Calls PySem.Spec PyProof.Rows PySem.W
set_option Elab.async false
set_option maxRecDepth 100000
namespace Mine


section
variable {os as : List Nat} {num : Nat}
noncomputable def nmO (os : List Nat) (num e : Nat) : List Nat := nameOf os num (idxOf5 os e)
noncomputable def wayOf (N : Nat → List Nat) (s : List Nat) : List Nat := s.flatMap fun j => 47 :: N j
theorem path_seq (h5 : os.length = 5) (hnd : os.Nodup) (ha : ∀ k, k < 5 → as.getD k 0 = 5 ∨ as.getD k 0 < k) : ∀ n k, k < 5 → pathL (nmO os num) (parO os as) n (os.getD k 0) = wayOf (nameOf os num) (seqOf as n k)
  | 0, _, _ => rfl
  | n + 1, k, hk => by
    have e1 : parO os as (os.getD k 0) = os.getD (upOf as k) 0 := by unfold parO; rw [idx_back h5 hnd hk]
    have e2 : nmO os num (os.getD k 0) = nameOf os num k := by unfold nmO; rw [idx_back h5 hnd hk]
    unfold pathL seqOf
    rw [e1, e2]
    rcases ha k hk with h | h
    · rw [if_pos h, if_pos (by unfold upOf; rw [if_pos h])]
      simp [wayOf]
    · have hu : upOf as k = as.getD k 0 := by unfold upOf; rw [if_neg (by omega)]
      rw [hu, if_neg (by omega : ¬ as.getD k 0 = 5), if_neg (fun e => by have := getD_inj h5 hnd (by omega) hk e; omega), path_seq h5 hnd ha n _ (by omega)]
      simp [wayOf]
theorem rooted_of (h5 : os.length = 5) (hnd : os.Nodup) (ha : ∀ k, k < 5 → as.getD k 0 = 5 ∨ as.getD k 0 < k) : ∀ n k, k < n → k < 5 → Rooted (parO os as) n (os.getD k 0)
  | 0, _, h, _ => absurd h (Nat.not_lt_zero _)
  | n + 1, k, h, hk => by
    have e1 : parO os as (os.getD k 0) = os.getD (upOf as k) 0 := by unfold parO; rw [idx_back h5 hnd hk]
    unfold Rooted
    rw [e1]
    rcases ha k hk with h' | h'
    · exact .inl (by unfold upOf; rw [if_pos h'])
    · have hu : upOf as k = as.getD k 0 := by unfold upOf; rw [if_neg (by omega)]
      rw [hu]
      exact .inr (rooted_of h5 hnd ha n _ (by omega) (by omega))
end

section
variable {N : Nat → List Nat}
theorem tw {a v : List Nat} (ha : ∀ c ∈ a, c ≠ 47) (hv : v = [] ∨ ∃ r, v = 47 :: r) : (a ++ v).takeWhile (fun c => c != 47) = a := by
  induction a with
  | nil =>
    rcases hv with rfl | ⟨r, rfl⟩
    · rfl
    · simp
  | cons c r ih =>
    have := ha c (.head _)
    rw [List.cons_append, List.takeWhile_cons, if_pos (by simpa using this), ih fun c hc => ha c (.tail _ hc)]
theorem way_start (s : List Nat) : wayOf N s = [] ∨ ∃ r, wayOf N s = 47 :: r := by
  cases s with
  | nil => exact .inl rfl
  | cons j t => exact .inr ⟨_, rfl⟩
/-- a way and a slash begin another way just when the folders do, and there are more -/
theorem way_pre (hN : ∀ j, j < 5 → ∀ c ∈ N j, c ≠ 47) (hi : ∀ i j, i < 5 → j < 5 → N i = N j → i = j) : ∀ (s s' : List Nat), (∀ j ∈ s, j < 5) → (∀ j ∈ s', j < 5) →
    ((wayOf N s ++ [47]) <+: wayOf N s' ↔ s <+: s' ∧ s ≠ s')
  | [], [], _, _ => by simp [wayOf]
  | [], j :: t, _, _ => by simp [wayOf]
  | j :: t, [], _, _ => by simp [wayOf]
  | j :: t, j' :: t', h, h' => by
    have e1 : wayOf N (j :: t) ++ [47] = 47 :: (N j ++ (wayOf N t ++ [47])) := by simp [wayOf]
    have e2 : wayOf N (j' :: t') = 47 :: (N j' ++ wayOf N t') := by simp [wayOf]
    have hj := h j (.head _)
    have hj' := h' j' (.head _)
    rw [e1, e2, List.cons_prefix_cons]
    have ih := way_pre hN hi t t' (fun j hj => h j (.tail _ hj)) (fun j hj => h' j (.tail _ hj))
    have key : (N j ++ (wayOf N t ++ [47])) <+: (N j' ++ wayOf N t') ↔ j = j' ∧ (wayOf N t ++ [47]) <+: wayOf N t' := by
      constructor
      · rintro ⟨w, hw⟩
        have hs : (wayOf N t ++ [47]) ++ w = [] ∨ ∃ r, (wayOf N t ++ [47]) ++ w = 47 :: r := by
          rcases way_start (N := N) t with h | ⟨r, h⟩
          · rw [h]; exact .inr ⟨w, rfl⟩
          · rw [h]; exact .inr ⟨_, rfl⟩
        rw [List.append_assoc] at hw
        have t1 := tw (hN j hj) hs
        rw [hw, tw (hN j' hj') (way_start t')] at t1
        have hjj := hi j' j hj' hj t1
        subst hjj
        exact ⟨rfl, w, List.append_cancel_left hw⟩
      · rintro ⟨rfl, w, hw⟩
        exact ⟨w, by rw [List.append_assoc, hw]⟩
    rw [key, ih, List.cons_prefix_cons]
    constructor
    · rintro ⟨_, rfl, h1, h2⟩
      exact ⟨⟨rfl, h1⟩, fun e => h2 (by injection e)⟩
    · rintro ⟨⟨rfl, h1⟩, h2⟩
      exact ⟨rfl, rfl, h1, fun e => h2 (by rw [e])⟩
end
end Mine
end

section
open PySem PySem.Calls PySem.Spec PyProof.Rows PySem.W
set_option Elab.async false
set_option maxRecDepth 100000
namespace Mine


section
variable {os as : List Nat} {num : Nat}
theorem hexd_47 : ∀ n, n < 16 → hexd n ≠ 47 ∧ hexd n < 256 := by decide +kernel
theorem enc_char (l : List Nat) (ho : ∀ o ∈ l, o < 256) : ∀ c ∈ encT l, c ≠ 47 ∧ c < 256 := fun c hc => by
  rcases encT_mem l ho c hc with rfl | ⟨n, hn, rfl⟩
  · exact ⟨by decide, by decide⟩
  · exact hexd_47 n hn
theorem os_lt (h5 : os.length = 5) (ho : ∀ o ∈ os, o < 256) {k : Nat} (hk : k < 5) : os.getD k 0 < 256 := ho _ (List.mem_of_getElem? (getD_of (by omega)))
theorem name_char (h5 : os.length = 5) (ho : ∀ o ∈ os, o < 256) {k : Nat} (hk : k < 5) : ∀ c ∈ nameOf os num k, c ≠ 47 ∧ c < 256 := fun c hc => by
  have h1 : ∀ j, j < 5 → ∀ o ∈ [os.getD j 0], o < 256 := fun j hj o h => by obtain rfl := List.mem_singleton.mp h; exact os_lt h5 ho hj
  unfold nameOf at hc
  split at hc
  · rcases List.mem_append.mp hc with h | h
    · exact enc_char _ (h1 0 (by decide)) c h
    · exact enc_char _ (h1 k hk) c h
  · exact enc_char _ (h1 k hk) c hc
theorem name_len (k : Nat) : 3 ≤ (nameOf os num k).length ∧ (nameOf os num k).length ≤ 6 := by
  unfold nameOf
  split
  · rw [List.length_append, encT_len, encT_len]; simp
  · rw [encT_len]; simp
theorem name_end (k : Nat) : (nameOf os num k).drop ((nameOf os num k).length - 3) = encT [os.getD k 0] := by
  unfold nameOf
  split
  · rw [List.length_append, encT_len, encT_len]; rfl
  · rw [encT_len]; rfl
theorem name_first (k : Nat) : ∃ r, nameOf os num k = 61 :: r := by
  unfold nameOf
  split
  · exact ⟨_, rfl⟩
  · exact ⟨_, rfl⟩
theorem name_inj (h5 : os.length = 5) (hnd : os.Nodup) {i j : Nat} (hi : i < 5) (hj : j < 5) (e : nameOf os num i = nameOf os num j) : i = j := by
  have h1 := name_end (os := os) (num := num) i
  have h2 := name_end (os := os) (num := num) j
  rw [e, h2] at h1
  have := encT_inj h1
  injection this with this _
  exact getD_inj h5 hnd hi hj this.symm
theorem seq_lt (ha : ∀ k, k < 5 → as.getD k 0 = 5 ∨ as.getD k 0 < k) : ∀ n k, k < 5 → ∀ j ∈ seqOf as n k, j < 5
  | 0, _, _, _, h => by cases h
  | n + 1, k, hk, j, h => by
    unfold seqOf at h
    rcases ha k hk with h' | h'
    · rw [if_pos h'] at h; obtain rfl := List.mem_singleton.mp h; exact hk
    · rw [if_neg (by omega)] at h
      rcases List.mem_append.mp h with h | h
      · exact seq_lt ha n _ (by omega) j h
      · obtain rfl := List.mem_singleton.mp h; exact hk
theorem seq_last (n k : Nat) : ∃ r, seqOf as (n + 1) k = r ++ [k] := by
  unfold seqOf
  split
  · exact ⟨[], rfl⟩
  · exact ⟨_, rfl⟩
theorem seq_len : ∀ n k, (seqOf as n k).length ≤ n
  | 0, _ => Nat.le_refl _
  | n + 1, k => by
    unfold seqOf
    split
    · simp
    · rw [List.length_append, List.length_singleton]; have := seq_len n (as.getD k 0); omega
end

section
variable {N : Nat → List Nat}
theorem way_inj (hN : ∀ j, j < 5 → ∀ c ∈ N j, c ≠ 47) (hi : ∀ i j, i < 5 → j < 5 → N i = N j → i = j) {s s' : List Nat} (h : ∀ j ∈ s, j < 5) (h' : ∀ j ∈ s', j < 5) (e : wayOf N s = wayOf N s') : s = s' := by
  have h0 : ∀ t : List Nat, (∀ j ∈ t, j < 5) → ∀ j ∈ t ++ [0], j < 5 := fun t ht j hj => (List.mem_append.mp hj).elim (ht j) fun h => by obtain rfl := List.mem_singleton.mp h; decide
  have w : ∀ t : List Nat, (wayOf N t ++ [47]) <+: wayOf N (t ++ [0]) := fun t => ⟨N 0, by simp [wayOf]⟩
  have a := (way_pre hN hi s (s' ++ [0]) h (h0 s' h')).mp (by rw [e]; exact w s')
  have b := (way_pre hN hi s' (s ++ [0]) h' (h0 s h)).mp (by rw [← e]; exact w s)
  have a' := (List.prefix_concat_iff.mp a.1).resolve_left a.2
  have b' := (List.prefix_concat_iff.mp b.1).resolve_left b.2
  exact a'.eq_of_length (Nat.le_antisymm a'.length_le b'.length_le)
theorem way_end (hN : ∀ j, j < 5 → ∀ c ∈ N j, c ≠ 47) (hne : ∀ j, N j ≠ []) (r : List Nat) {k : Nat} (hk : k < 5) : ∃ p c, wayOf N (r ++ [k]) = p ++ [c] ∧ c ≠ 47 := by
  refine ⟨wayOf N r ++ 47 :: (N k).dropLast, (N k).getLast (hne k), ?_, hN k hk _ (List.getLast_mem _)⟩
  have : N k = (N k).dropLast ++ [(N k).getLast (hne k)] := (List.dropLast_concat_getLast (hne k)).symm
  simp only [wayOf, List.flatMap_append, List.flatMap_cons, List.flatMap_nil, List.append_nil, List.append_assoc, List.cons_append]
  rw [← this]
end
end Mine
end

section
open PySem PySem.Calls PySem.Spec PyProof.Rows PySem.W
set_option Elab.async false
set_option maxRecDepth 100000
namespace Mine


theorem slashed_plain {p : List Nat} {c : Nat} (hc : c ≠ 47) : slashed (p ++ [c]) = p ++ [c] ++ [47] := by
  unfold slashed
  rw [List.length_append, List.length_singleton, Nat.add_sub_cancel, List.drop_left, if_neg (by simpa using hc)]
theorem slashed_slash (p : List Nat) : slashed (p ++ [47]) = p ++ [47] := by
  unfold slashed
  rw [List.length_append, List.length_singleton, Nat.add_sub_cancel, List.drop_left, if_pos (by rfl)]
theorem take_pre (a q : List Nat) : (q.take a.length == a) = true ↔ a <+: q := by
  rw [List.prefix_iff_eq_take]
  constructor
  · intro h; exact (eq_of_beq h).symm
  · intro h; rw [← h]; exact beq_self_eq_true _
section
variable {N : Nat → List Nat}
theorem told_of (hN : ∀ j, j < 5 → ∀ c ∈ N j, c ≠ 47) (hi : ∀ i j, i < 5 → j < 5 → N i = N j → i = j) (hne : ∀ j, N j ≠ []) {r s' : List Nat} {k : Nat} (hk : k < 5) (hr : ∀ j ∈ r ++ [k], j < 5) (h' : ∀ j ∈ s', j < 5) :
    subOf [104] (wayOf N (r ++ [k])) [104] (wayOf N s') = (r ++ [k]).isPrefixOf s' := by
  obtain ⟨p, c, hp, hc⟩ := way_end hN hne r hk
  unfold subOf
  rw [Bool.eq_iff_iff, List.isPrefixOf_iff_prefix]
  by_cases e : wayOf N (r ++ [k]) = wayOf N s'
  · have := way_inj hN hi hr h' e
    rw [if_pos (by rw [e]; simp)]
    exact ⟨fun _ => this ▸ List.prefix_refl _, fun _ => rfl⟩
  · rw [if_neg (by simpa using e), if_pos (by rfl)]
    have hs : slashed (wayOf N (r ++ [k])) = wayOf N (r ++ [k]) ++ [47] := by rw [hp]; exact slashed_plain hc
    rw [hs, take_pre, way_pre hN hi _ _ hr h']
    exact ⟨fun h => h.1, fun h => ⟨h, fun q => e (by rw [q])⟩⟩
theorem below_of (hN : ∀ j, j < 5 → ∀ c ∈ N j, c ≠ 47) (hi : ∀ i j, i < 5 → j < 5 → N i = N j → i = j) (hne : ∀ j, N j ≠ []) {s r' : List Nat} {j : Nat} (hj : j < 5) (hs : ∀ i ∈ s, i < 5) (h' : ∀ i ∈ r' ++ [j], i < 5) :
    subOf [104] (wayOf N s ++ [47]) [104] (wayOf N (r' ++ [j])) = (s.isPrefixOf (r' ++ [j]) && (s != r' ++ [j])) := by
  obtain ⟨p, c, hp, hc⟩ := way_end hN hne r' hj
  unfold subOf
  rw [if_neg (by
    intro h
    have e : wayOf N s ++ [47] = wayOf N (r' ++ [j]) := by simpa using h
    rw [hp] at e
    have := List.append_inj_right' e rfl
    injection this with this _
    exact hc this.symm), if_pos (by rfl), slashed_slash, Bool.eq_iff_iff, take_pre, way_pre hN hi _ _ hs h', Bool.and_eq_true, List.isPrefixOf_iff_prefix, bne_iff_ne]
theorem beside_of (hf : ∀ j, ∃ r, N j = 61 :: r) {k : Nat} {s : List Nat} (hk : s ≠ []) (q : List Nat) (hs : ∃ c p, wayOf N s = p ++ [c] ∧ c ≠ 47) : subOf [104] (wayOf N s) [104] ([47, 120] ++ q) = false := by
  obtain ⟨c, p, hp, hc⟩ := hs
  cases s with
  | nil => exact absurd rfl hk
  | cons j t =>
    obtain ⟨r, hr⟩ := hf j
    have e : wayOf N (j :: t) = 47 :: 61 :: (r ++ wayOf N t) := by simp [wayOf, hr]
    unfold subOf
    rw [if_neg (by rw [e]; simp), if_pos (by rfl), hp, slashed_plain hc, ← hp, e]
    simp
end
end Mine
end

section
open PySem PySem.Calls PySem.Spec PyProof.Rows PySem.W
set_option Elab.async false
set_option maxRecDepth 100000
namespace Mine


section
variable {os as : List Nat} {num : Nat}
noncomputable def waysOf (os as : List Nat) (num : Nat) : List (List Nat) := (List.range 5).map fun k => wayOf (nameOf os num) (seqOf as 5 k)
theorem ways_at {k : Nat} (hk : k < 5) : (waysOf os as num).getD k [] = wayOf (nameOf os num) (seqOf as 5 k) := by
  rcases (show k = 0 ∨ k = 1 ∨ k = 2 ∨ k = 3 ∨ k = 4 by omega) with rfl | rfl | rfl | rfl | rfl <;> rfl
theorem way_len (N : Nat → List Nat) (hN : ∀ j, (N j).length ≤ 6) : ∀ s : List Nat, (wayOf N s).length ≤ 7 * s.length
  | [] => Nat.le_refl _
  | j :: t => by
    have := way_len N hN t
    have h := hN j
    have e : wayOf N (j :: t) = 47 :: (N j ++ wayOf N t) := by simp [wayOf]
    rw [e, List.length_cons, List.length_append, List.length_cons]; omega
theorem way_char (N : Nat → List Nat) (b : Nat) (hb : 47 < b) : ∀ s : List Nat, (∀ j ∈ s, ∀ c ∈ N j, c < b) → ∀ c ∈ wayOf N s, c < b
  | [], _, _, h => by cases h
  | j :: t, hN, c, h => by
    have e : wayOf N (j :: t) = 47 :: (N j ++ wayOf N t) := by simp [wayOf]
    rw [e] at h
    rcases List.mem_cons.mp h with rfl | h
    · exact hb
    · rcases List.mem_append.mp h with h | h
      · exact hN j (.head _) c h
      · exact way_char N b hb t (fun j hj => hN j (.tail _ hj)) c h
theorem paths_ok (h5 : os.length = 5) (hnd : os.Nodup) (ho : ∀ o ∈ os, o < 256) (ha : ∀ k, k < 5 → as.getD k 0 = 5 ∨ as.getD k 0 < k) : PathsOk (waysOf os as num) ∧ masksOf (waysOf os as num) = boxes as := by
  have hN : ∀ j, j < 5 → ∀ c ∈ nameOf os num j, c ≠ 47 := fun j hj c hc => (name_char h5 ho hj c hc).1
  have hi : ∀ i j, i < 5 → j < 5 → nameOf os num i = nameOf os num j → i = j := fun i j hi hj e => name_inj h5 hnd hi hj e
  have hne : ∀ j, nameOf os num j ≠ [] := fun j e => by have := (name_len (os := os) (num := num) j).1; rw [e] at this; exact absurd this (by decide)
  have hs : ∀ k, k < 5 → ∀ j ∈ seqOf as 5 k, j < 5 := fun k hk => seq_lt ha 5 k hk
  have told : ∀ k j, k < 5 → j < 5 → subOf [104] ((waysOf os as num).getD k []) [104] ((waysOf os as num).getD j []) = (seqOf as 5 k).isPrefixOf (seqOf as 5 j) := fun k j hk hj => by
    obtain ⟨r, e⟩ := seq_last (as := as) 4 k
    have hsk := hs k hk
    rw [ways_at hk, ways_at hj]
    rw [e] at hsk ⊢
    exact told_of hN hi hne hk hsk (hs j hj)
  refine ⟨⟨by simp [waysOf], fun k hk => ?_, fun k hk => ?_, fun k hk c hc => ?_, fun k j hk hj => ?_, fun k j hk hj => ?_⟩, ?_⟩
  · obtain ⟨r, e⟩ := seq_last (as := as) 4 k
    obtain ⟨p, c, hp, _⟩ := way_end hN hne r hk
    rw [ways_at hk, e, hp, List.length_append, List.length_singleton]; omega
  · rw [ways_at hk]
    have := way_len (nameOf os num) (fun j => (name_len j).2) (seqOf as 5 k)
    have := seq_len (as := as) 5 k
    omega
  · rw [ways_at hk] at hc
    have := way_char (nameOf os num) 256 (by decide) _ (fun j hj c hc => (name_char h5 ho (hs k hk j hj) c hc).2) c hc
    omega
  · rw [told k j hk hj, ways_at hk, ways_at hj]
    obtain ⟨r', e'⟩ := seq_last (as := as) 4 j
    obtain ⟨r, e⟩ := seq_last (as := as) 4 k
    have hsj := hs j hj
    have hb := below_of (N := nameOf os num) hN hi hne (s := seqOf as 5 k) (r' := r') hj (hs k hk) (by rw [← e']; exact hsj)
    rw [e', hb]
    congr 1
    by_cases hjk : j = k
    · subst hjk
      rw [← e']; simp
    · rw [bne_iff_ne.mpr hjk, bne_iff_ne.mpr fun q => ?_]
      rw [e] at q
      have := List.append_inj_right' q rfl
      injection this with this _
      exact hjk this.symm
  · rw [ways_at hk]
    obtain ⟨r, e⟩ := seq_last (as := as) 4 k
    refine beside_of (fun j => name_first j) (k := k) (by rw [e]; simp) _ ?_
    obtain ⟨p, c, hp, hc⟩ := way_end hN hne r hk
    exact ⟨c, p, by rw [e]; exact hp, hc⟩
  · unfold masksOf boxes
    refine List.map_congr_left fun k hk => ?_
    have hk := List.mem_range.mp hk
    simp only [maskAt, told k 0 hk (by decide), told k 1 hk (by decide), told k 2 hk (by decide), told k 3 hk (by decide), told k 4 hk (by decide)]
    rfl
end
end Mine
end

section
open PySem PySem.Calls PySem.Spec PyProof.Rows PySem.W
set_option Elab.async false
set_option maxRecDepth 100000
namespace Mine


section
variable {prog : Program} {w : World} {A : Around} {s : Shared} {a : Addr} {nm : Str} {args : Arguments} {body : List Stmt} {sc : Scope} {vals : List Value} {ns : List Str} {Q : Value → Shared → Prop}
/-- a plain def with cells is called, at the clean level -/
theorem C_enterC (F : IsFn a nm args body sc s.heap) (hlim : s.heap.NoLimit) {d u : Nat} (R : Room A (d + 1) (u + 3)) (hgd : A.guards = some []) (cn : List Str) (lb cb : List (Str × Value))
    (hbind : ∀ doc pm an cdv ct, bindArgs (W.fnOf nm nm args body sc .none .none doc pm an cdv ct) ⟨vals, []⟩ = pure (ns.zip vals))
    (hlb : ((ns.zip vals).filter fun y => sc.names.lookup y.1 == some .local).reverse = lb) (hcb : ((ns.zip vals).filter fun y => sc.names.lookup y.1 != some .local).reverse = cb)
    (hcn : (cellsFrom 0 sc.names []).map (·.1) = cn) (hnd : cn.Nodup)
    (hkind : (ns.all fun x => decide (sc.names.lookup x = some .local) || (decide (sc.names.lookup x = some .cell) && decide (x ∈ cn))) = true)
    (hco : sc.isCoroutine = false) (hgen : sc.isGenerator = false) (hk : sc.kind = .function)
    (h : ∀ (A' : Around) (env : Env) (L : Addr) (cs : List (Str × Addr)) (s₁ : Shared), Room A' d u → A'.guards = some [] → cs.map (·.1) = cn → EnvAt env sc L cs → S s s.heap ((L, .loc lb) :: cs.map fun q => (q.2, .cell (look cb q.1))) s₁ →
      WpC prog w A' (execs body env) (fun f s' => Q (match f with | .ret v => v | _ => .none) s') s₁) :
    WpC prog w A (PySem.call (.ref a) vals) Q s := by
  obtain ⟨o, doc, pm, an, cdv, ct, ho, hd, hc⟩ := F.ex
  have hnames : (cellsFrom (s.heap.objs.size + 1) sc.names []).map (·.1) = cn := (cellsFrom_names _ _ _ _ _ rfl).trans hcn
  refine .call (C_call_function (fd := W.fnOf nm nm args body sc .none .none doc pm an cdv ct) (body := body) (by have := R.depth; omega) ho hd hco hgen rfl hc ?_)
  refine wpAny_of_eq (hbind ..) ?_
  refine wpAny_newFunctionEnv_cells hk (fun x hx => ?_) fun env he s₁ I => ?_
  · have := List.all_eq_true.mp hkind x.1 (List.of_mem_zip hx).1
    rcases Bool.or_eq_true_iff.mp this with e | e
    · exact .inl (of_decide_eq_true e)
    · obtain ⟨e1, e2⟩ := Bool.and_eq_true_iff.mp e
      refine .inr ⟨of_decide_eq_true e1, isSome_of_names ?_⟩
      show x.1 ∈ (cellsFrom (s.heap.objs.size + 1) sc.names []).map (·.1)
      rw [hnames]; exact of_decide_eq_true e2
  · subst he
    have kk := I.toInCall.keep
    have fr : ∀ b, s.heap.objs.size ≤ b → s.heap.get? b = none := fun b hb => by
      cases e : s.heap.get? b with
      | none => rfl
      | some o => exact absurd (Heap.lt_size e) (Nat.not_lt.mpr hb)
    refine ⟨hlim.keeps kk, C_func ((h (A.deeper _) _ s.heap.objs.size (cellsFrom (s.heap.objs.size + 1) sc.names []) _ (R.deeper _) hgd hnames ⟨rfl, rfl, rfl, rfl, rfl⟩ ⟨I.toInCall.same, kk, fun q hq => ?_, fun q hq => ?_, ?_⟩).mono fun f s' hq => hq)⟩
    · rcases List.mem_cons.mp hq with rfl | hq
      · refine ⟨_, I.toInCall.ns, fun x v e => ?_⟩
        rw [bindL_look]
        rw [← hlb] at e
        rw [Option.or_none]
        exact e
      · obtain ⟨⟨n, c⟩, hm, rfl⟩ := List.mem_map.mp hq
        have hl := lookup_of_mem_names (by rw [hnames]; exact hnd) hm
        have := I.cell n c hl
        rw [bindC_look] at this
        rw [← hcb]
        rw [Option.or_none] at this
        exact this
    · rcases List.mem_cons.mp hq with rfl | hq
      · exact fr _ (Nat.le_refl _)
      · obtain ⟨⟨n, c⟩, hm, rfl⟩ := List.mem_map.mp hq
        exact fr _ (Nat.le_of_lt (I.above n c hm))
    · rw [List.map_cons, List.map_map]
      refine List.nodup_cons.mpr ⟨fun hm => ?_, ?_⟩
      · obtain ⟨⟨n, c⟩, hm, e⟩ := List.mem_map.mp hm
        have := I.above n c hm
        exact absurd this (by rw [show c = s.heap.objs.size from e]; exact Nat.lt_irrefl _)
      · exact List.pairwise_map.mpr I.apart
end
end Mine
end

section
open PySem PySem.Calls PySem.Spec PyProof.Rows PySem.W
set_option Elab.async false
set_option maxRecDepth 100000
namespace Mine


/-- all that the law asks of the top -/
structure Lw (T : Ad) (mg mb : Str → Option Value) (h : Heap) (K : Frag) (mi ci c1 P1 c2 P2 : Addr) (tn th : Tok) : Prop where
  X : Tp T mg mb h
  B : BMain mg h
  kf : Kf K T mi ci
  Xk : K.In h
  Sm : (h.get? sysModules).isSome = true
  f_cells : IsDef T.cells 30 h
  f_above : IsDef T.above 31 h
  f_letter : IsDef T.letter 33 h
  f_context : IsDefC T.context 34 c1 P1 h
  f_names : IsDef T.names 35 h
  f_path : IsDef T.path 36 h
  f_masks : IsDef T.masks 37 h
  f_game : IsDef T.game 38 h
  f_grown : IsDef T.grown 39 h
  f_law : IsDef T.law 40 h
  f_parse : IsDef T.parse 3 h
  f_unquote : IsDef T.unquote 17 h
  f_decode : IsDefD T.decode 22 #[.str (tx [10]) tn] h
  f_swap : IsDef T.swap 24 h
  f_gpm : IsDef T.gpm 26 h
  f_pp : IsDefC T.pp 27 c2 P2 h
  f_mi : IsFnQ mi (methAt 2 0).1 (Str.ofString "HTTPPasswordMgr.__init__") (methAt 2 0).2.1 (methAt 2 0).2.2.1 (methAt 2 0).2.2.2 h
  f_isub : IsFnQ T.isub (methAt 2 4).1 (Str.ofString "HTTPPasswordMgr.is_suburi") (methAt 2 4).2.1 (methAt 2 4).2.2.1 (methAt 2 4).2.2.2 h
  f_ci : IsFnQ ci (methAt 28 1).1 (Str.ofString "_SelectorContext.__init__") (methAt 28 1).2.1 (methAt 28 1).2.2.1 (methAt 28 1).2.2.2 h
  n_cells : mg "_law_cells" = some (.ref T.cells)
  n_above : mg "_law_above" = some (.ref T.above)
  n_figures : mg "_law_figures" = some (.ref T.figures)
  n_letter : mg "_law_letter" = some (.ref T.letter)
  n_context : mg "_law_context" = some (.ref T.context)
  n_names : mg "_law_names" = some (.ref T.names)
  n_path : mg "_law_path" = some (.ref T.path)
  n_masks : mg "_law_masks" = some (.ref T.masks)
  n_game : mg "_law_game" = some (.ref T.game)
  n_grown : mg "_law_grown" = some (.ref T.grown)
  n_parse : mg "parse_http_list" = some (.ref T.parse)
  n_unquote : mg "unquote" = some (.ref T.unquote)
  n_decode : mg "decode" = some (.ref T.decode)
  n_swap : mg "_byteswap" = some (.ref T.swap)
  n_gpm : mg "get_parent_map" = some (.ref T.gpm)
  n_pp : mg "prepare_parent" = some (.ref T.pp)
  n_mgr : mg "HTTPPasswordMgr" = some (.ref T.mgr)
  n_ctx : mg "_SelectorContext" = some (.ref T.ctx)
  n_hex : mg "hexdigits" = some (.str (Str.ofString "0123456789abcdefABCDEF") th)
  b_min : mg "min" = none
  b_int : mg "int" = none
  b_bytes : mg "bytes" = none
  b_bytearray : mg "bytearray" = none
  b_list : mg "list" = none
end Mine
end

section
open PySem PySem.Calls PySem.Spec PyProof.Rows PySem.W
set_option Elab.async false
set_option maxRecDepth 100000
namespace Mine


theorem reads_texts {h : Heap} : ∀ {ps : List (List Nat)} {vs : List Value}, Paired IsT ps vs → ReadsAll h vs (ps.map fun p => .str (tx p)) []
  | _, _, .nil => .nil
  | _, _, .cons ⟨t, e⟩ r => by subst e; exact readsAll_cons_val (.str _ _) (reads_texts r)
theorem join_mem (sep : List Nat) : ∀ (ps : List (List Nat)) (c : Nat), c ∈ joinT sep ps → c ∈ sep ∨ ∃ p ∈ ps, c ∈ p
  | [], c, h => by cases h
  | [x], c, h => .inr ⟨x, .head _, h⟩
  | x :: y :: r, c, h => by
    have h : c ∈ x ++ sep ++ joinT sep (y :: r) := h
    rcases List.mem_append.mp h with h | h
    · rcases List.mem_append.mp h with h | h
      · exact .inr ⟨x, .head _, h⟩
      · exact .inl h
    · rcases join_mem sep (y :: r) c h with h | ⟨p, hp, h⟩
      · exact .inl h
      · exact .inr ⟨p, .tail _ hp, h⟩
theorem letter_facts {os as : List Nat} (h5 : os.length = 5) (ho : ∀ o ∈ os, o < 256) : (∀ c ∈ letterOf os as, c ≠ 34 ∧ c ≠ 92) ∧ (letterOf os as).length ≤ 1000 ∧ partsOf (letterOf os as) = (famsOf os as).map (fun f => tx (encT f)) ∧ ∀ f ∈ famsOf os as, f ≠ [] ∧ f.length ≤ 100 ∧ ∀ o ∈ f, o < 256 := by
  have hf : ∀ f ∈ famsOf os as, f ≠ [] ∧ f.length ≤ 100 ∧ ∀ o ∈ f, o < 256 := fun f hf => by
    obtain ⟨k, hk, rfl⟩ := List.mem_map.mp hf
    have hk5 : k < 5 := by simp only [List.mem_cons, List.not_mem_nil, or_false] at hk; omega
    refine ⟨by unfold famOf; nofun, ?_, fam_mem h5 hk5 ho⟩
    have := fam_len os as k; omega
  have e : letterOf os as = joinT [44, 32] ((famsOf os as).map encT) := by unfold letterOf famsOf; rw [List.map_map]; rfl
  refine ⟨fun c hc => ?_, ?_, ?_, hf⟩
  · rw [e] at hc
    rcases join_mem _ _ _ hc with h | ⟨p, hp, h⟩
    · simp only [List.mem_cons, List.not_mem_nil, or_false] at h; omega
    · obtain ⟨f, hff, rfl⟩ := List.mem_map.mp hp
      have := enc_44 f (hf f hff).2.2 c h
      exact ⟨this.2.1, this.2.2.1⟩
  · have l : ∀ k, (encT (famOf os as k)).length ≤ 18 := fun k => by rw [encT_len]; have := fam_len os as k; omega
    show (encT (famOf os as 4) ++ [44, 32] ++ (encT (famOf os as 3) ++ [44, 32] ++ (encT (famOf os as 2) ++ [44, 32] ++ (encT (famOf os as 1) ++ [44, 32] ++ encT (famOf os as 0))))).length ≤ 1000
    have l0 := l 0
    have l1 := l 1
    have l2 := l 2
    have l3 := l 3
    have l4 := l 4
    simp only [List.length_append, List.length_cons, List.length_nil]
    omega
  · rw [e]
    exact parts_back _ _ fun g hg => ⟨(hf g hg).1, (hf g hg).2.2⟩
theorem paired_lt {F : Nat → Value → Prop} : ∀ {xs : List Nat} {vs : List Value}, Paired F xs vs → (∀ x ∈ xs, x < 256) → Paired (fun k v => F k v ∧ k < 256) xs vs
  | _, _, .nil, _ => .nil
  | _, _, .cons h r, q => .cons ⟨h, q _ (.head _)⟩ (paired_lt r fun x hx => q x (.tail _ hx))

theorem shaped_texts (ps : List (List Nat)) (h : ∀ p ∈ ps, ∀ c ∈ p, c < 256) : SeqAt.shaped (.list (ps.map fun p => PyData.str (tx p))) = true := by
  have lay : ∀ ps : List (List Nat), (∀ p ∈ ps, ∀ c ∈ p, c < 256) → PyData.canLayAll0 (ps.map fun p => PyData.str (tx p)) = true := by
    intro ps
    induction ps with
    | nil => intro _; simp [PyData.canLayAll0]
    | cons p r ih =>
      intro h
      have hp : PyData.strOk (tx p) = true := okT_of fun c hc => by have := h p (.head _) c hc; omega
      simp [PyData.canLayAll0, PyData.canLay0, hp, ih fun q hq => h q (.tail _ hq)]
  have dep : ∀ ps : List (List Nat), PyData.depthAll (ps.map fun p => PyData.str (tx p)) ≤ 1 := by
    intro ps
    induction ps with
    | nil => simp [PyData.depthAll]
    | cons p r ih => simp only [List.map_cons, PyData.depthAll, PyData.depth]; omega
  have h1 := dep ps
  have h2 : PyData.depth (.list (ps.map fun p => PyData.str (tx p))) ≤ 64 := by simp only [PyData.depth]; omega
  show (PyData.canLay0 (.list (ps.map fun p => PyData.str (tx p))) && decide (PyData.depth (.list (ps.map fun p => PyData.str (tx p))) ≤ 64)) = true
  rw [Bool.and_eq_true]
  exact ⟨by simp only [PyData.canLay0]; exact lay ps h, decide_eq_true h2⟩
theorem eqv_texts : ∀ ps : List (List Nat), PyData.eqvAll (ps.map fun p => PyData.str (tx p)) (ps.map fun p => PyData.str (tx p)) = true
  | [] => by simp [PyData.eqvAll]
  | p :: r => by simp [PyData.eqvAll, PyData.eqv, eqv_texts r]

theorem S.freeze2 {σ : Shared} {h₀ : Heap} {a : Addr} {f : Fact} {fs : Led} {s : Shared} (H : S σ h₀ ((a, f) :: fs) s) :
    ∃ h₁, S σ h₁ fs s ∧ f.at h₁ a ∧ (∀ b o, h₀.get? b = some o → h₁.get? b = some o) ∧ ∀ (σ' : Shared) (fs' : Led) (s' : Shared), S σ' h₁ fs' s' → S σ' h₀ ((a, f) :: fs') s' := by
  have nd := List.nodup_cons.mp H.nd
  have hk : ∀ b o, h₀.get? b = some o → (hideAll s.heap (fs.map (·.1))).get? b = some o := fun b o e => hideAll_get _ (H.keep b o e) fun hm => by
    obtain ⟨q, hq, rfl⟩ := List.mem_map.mp hm
    rw [H.new q (.tail _ hq)] at e; cases e
  have ha : f.at (hideAll s.heap (fs.map (·.1))) a := Fact.congr (fun o e => hideAll_get _ e nd.1) (H.get (.head _))
  refine ⟨hideAll s.heap (fs.map (·.1)), ⟨H.same, fun b o e => of_hideAll _ e, fun q hq => H.holds q (.tail _ hq), fun q hq => hideAll_none _ (List.mem_map_of_mem hq), nd.2⟩, ha, hk, fun σ' fs' s' H' => ?_⟩
  refine ⟨H'.same, fun b o e => H'.keep b o (hk b o e), fun q hq => ?_, fun q hq => ?_, ?_⟩
  · rcases List.mem_cons.mp hq with rfl | hq
    · exact H'.up ha
    · exact H'.holds q hq
  · rcases List.mem_cons.mp hq with rfl | hq
    · exact H.new _ (.head _)
    · cases e : h₀.get? q.1 with
      | none => rfl
      | some o => have := H'.new q hq; rw [hk _ o e] at this; cases this
  · refine List.nodup_cons.mpr ⟨fun hm => ?_, H'.nd⟩
    obtain ⟨q, hq, e⟩ := List.mem_map.mp hm
    obtain ⟨o, e'⟩ := Fact.live ha
    have := H'.new q hq
    rw [show q.1 = a from e, e'] at this; cases this

theorem int_inj {a b : Nat} {t t' : Tok} (e : Value.int (a : Int) t = .int (b : Int) t') : a = b := by
  injection e with e _
  omega
/-- one entry of a ledger, and the others -/
inductive Pick (q : Addr × Fact) : Led → Led → Prop
  | head {fs : Led} : Pick q (q :: fs) fs
  | tail {r : Addr × Fact} {fs fs' : Led} (p : Pick q fs fs') : Pick q (r :: fs) (r :: fs')
theorem Pick.perm {q : Addr × Fact} {fs fs' : Led} (p : Pick q fs fs') : fs.Perm (q :: fs') := by
  induction p with
  | head => exact .refl _
  | tail _ ih => exact (ih.cons _).trans (.swap _ _ _)
theorem S.pick {σ : Shared} {h₀ : Heap} {fs fs' : Led} {s : Shared} {q : Addr × Fact} (H : S σ h₀ fs s) (p : Pick q fs fs') : S σ h₀ (q :: fs') s := H.perm p.perm

theorem law_led {T : Ad} {w : World} {p : CtxP} {σ : Shared} {h₀ : Heap} {s : Shared} {x dx y dy f c' cf D : Addr} {oc fo : Obj} {ys : List Value} {tk tk2 tk3 : Tok} {rest : Led} {e1 e2 e3 e4 e5 : Addr × Fact} (hp : p = ⟨x, dx, y, dy, f, c', cf, D, oc, fo, ys, tk, tk2, tk3⟩)
    (H : S σ h₀ (e1 :: e2 :: e3 :: e4 :: e5 :: (x, .raw (instObj T.ctx dx)) :: (dx, .raw (dictOf (attrs1 w "root" tk (.ref y)) (putN "root" [] 0))) :: (f, .raw fo) :: (c', .raw oc) :: (y, .raw (instObj T.ctx dy)) ::
      (dy, .raw (dictOf (attrs2 w tk2 tk3 .none (.ref f)) (putN "iter" (attrs1 w "root" tk2 .none) (putN "root" [] 0)))) :: (D, .list ys) :: (cf, .cell (some (.ref D))) :: rest) s) :
    S σ h₀ (e1 :: e2 :: (ctx0 T w p ++ ([e3] ++ (e4 :: e5 :: rest)))) s := by
  subst hp
  exact H.perm (.cons _ (.cons _ (List.perm_append_comm_assoc [e3, e4, e5] (ctx0 T w ⟨x, dx, y, dy, f, c', cf, D, oc, fo, ys, tk, tk2, tk3⟩) rest)))
theorem perm3 {α : Type} (a b c d : List α) : (a ++ (b ++ (c ++ d))).Perm (b ++ (c ++ (a ++ d))) := (List.perm_append_comm_assoc a b (c ++ d)).trans (.append_left b (List.perm_append_comm_assoc a c d))
theorem perm_out {α : Type} (x y e : α) (b c r : List α) : (x :: y :: (b ++ (c ++ (e :: r)))).Perm (e :: x :: y :: (b ++ (c ++ r))) := (perm3 [e] (x :: y :: b) c r).symm
theorem tab_out {P1 P2 : Addr} {ps1 : Array Value} {σ : Shared} {h₀ : Heap} {s : Shared} {led tab rs : Led} (ts : TabSt P2 tab) (H : S σ h₀ (led ++ (tab ++ ((P1, .raw (tabObj ps1)) :: rs))) s) :
    ∃ fs ps1 ps2, S σ h₀ ((P1, .raw (tabObj ps1)) :: (P2, .raw (tabObj ps2)) :: fs) s := by
  have H' := H.perm (perm3 [((P1, .raw (tabObj ps1)) : Addr × Fact)] led tab rs).symm
  rcases ts with rfl | ⟨c', oc, vs, t, rfl, -, -⟩
  · exact ⟨_, _, _, H'.perm (.cons _ (List.perm_append_comm_assoc led [(P2, .raw (tabObj #[]))] rs))⟩
  · exact ⟨_, _, _, H'.perm (.cons _ ((List.perm_append_comm_assoc led [(c', .raw oc), (P2, .raw (tabObj #[rawInt selDef.2.2.2.line, rawInt selDef.2.2.2.col, .ref c']))] rs).trans (.swap _ _ _)))⟩

theorem octs_at {c : Nat} : ∀ {e : Nat}, e ∈ octs c → ∃ k, k < 5 ∧ (octs c).getD k 0 = e := fun {e} he => by
  obtain ⟨k, hk, rfl⟩ := List.mem_map.mp he
  have hk := List.mem_range.mp hk
  refine ⟨k, hk, ?_⟩
  rcases (show k = 0 ∨ k = 1 ∨ k = 2 ∨ k = 3 ∨ k = 4 by omega) with rfl | rfl | rfl | rfl | rfl <;> rfl
theorem above_small {n : Nat} : ∀ k, k < 5 → (aboveOf n).getD k 0 = 5 ∨ (aboveOf n).getD k 0 < k := fun k hk => by
  have h := place_small n k
  rcases (show k = 0 ∨ k = 1 ∨ k = 2 ∨ k = 3 ∨ k = 4 by omega) with rfl | rfl | rfl | rfl | rfl <;> exact h
theorem ways_eq {c n num : Nat} : (octs c).map (pathL (nmO (octs c) num) (parO (octs c) (aboveOf n)) 5) = waysOf (octs c) (aboveOf n) num := by
  unfold waysOf
  rw [show octs c = (List.range 5).map (octOf c) from rfl, List.map_map]
  refine List.map_congr_left fun k hk => ?_
  have hk := List.mem_range.mp hk
  have e : octOf c k = (octs c).getD k 0 := by
    rcases (show k = 0 ∨ k = 1 ∨ k = 2 ∨ k = 3 ∨ k = 4 by omega) with rfl | rfl | rfl | rfl | rfl <;> rfl
  show pathL _ _ 5 (octOf c k) = _
  rw [e]
  exact path_seq (os := octs c) (num := num) rfl (octs_nodup c) above_small 5 k hk
end Mine
end

section
open PySem PySem.Calls PySem.Spec PyProof.Rows PySem.W
set_option Elab.async false
set_option maxRecDepth 100000
namespace Mine

local macro_rules | `(tactic| tb_rel) => `(tactic| first | exact S.get (by assumption) (by k_mem) | assumption | (refine S.up (by assumption) ?_; tb_rel))
local macro_rules | `(tactic| kwd_rel) => `(tactic| first | (with_reducible exact look_head) | (with_reducible exact lk_head) | assumption | (refine look_tail (by kernel_rfl) ?_; kwd_rel) | (refine lk_tail (by kernel_rfl) ?_; kwd_rel))
local macro_rules | `(tactic| kwd_inv) => `(tactic| first | (with_reducible exact Upd.head) | (with_reducible apply Upd.tail; kwd_inv))
local macro_rules | `(tactic| kwd_less) => `(tactic| first | exact List.Sublist.refl _ | (refine List.Sublist.cons_cons _ ?_; kwd_less) | (refine List.Sublist.cons _ ?_; kwd_less))
local macro_rules | `(tactic| tb_start) => `(tactic| first | kernel_rfl | decide +kernel)

theorem above_le (n : Nat) : ∀ x ∈ aboveOf n, x ≤ 5 := fun x hx => by
  obtain ⟨k, hk, rfl⟩ := List.mem_map.mp hx
  have hk := List.mem_range.mp hk
  have := place_small n k
  omega
theorem Sm2 {h h2 : Heap} {a : Addr} (k : ∀ b o, h.get? b = some o → h2.get? b = some o) (x : (h.get? a).isSome = true) : (h2.get? a).isSome = true := by
  obtain ⟨o, e⟩ := Option.isSome_iff_exists.mp x
  rw [k _ _ e]; rfl
set_option maxHeartbeats 4000000 in
theorem c_law {T : Ad} {mg mb : Str → Option Value} {w : World} {A : Around} {s : Shared} {h₀ : Heap} {K : Frag} {mi ci c1 P1 c2 P2 : Addr} {tn th : Tok} {l : Addr} {vs : List Value} {xs : List Int} (Z : Lw T mg mb h₀ K mi ci c1 P1 c2 P2 tn th) (R : Room A 20 400) (hgd : A.guards = some [])
    (H : S s h₀ [(P1, .raw (tabObj #[])), (P2, .raw (tabObj #[]))] s) (hl : h₀.IsList l vs.toArray) (hi : IntsAre vs xs) (hz : xs.length ≤ 63) :
    WpC PySem.Challenge.pw_if0009_01 w A (PySem.call (.ref T.law) [.ref l]) (fun v s' => v = .bool true ∧ ∃ σ' fs ps1 ps2, GensOk s σ' ∧ S σ' h₀ ((P1, .raw (tabObj ps1)) :: (P2, .raw (tabObj ps2)) :: fs) s') s := by
  have X := Z.X
  refine C_gen fun Q hQ => ?_
  refine C_enterC (Z.f_law.keeps H.keep) (X.G.up H).nolimit (d := 19) (u := 397) R hgd ["names", "context", "above", "cells"] [("script", .ref l)] [] (ns := ["script"]) (fun _ _ _ _ _ => by kernel_rfl) (by kernel_rfl) (by kernel_rfl) (by kernel_rfl) (by tb_start) (by tb_start) (by tb_start) (by tb_start) (by tb_start) fun A' env L cs s1 R' hg' hcs he H' => ?_
  obtain ⟨cn, cx, ca, cc, rfl⟩ := cells4 hcs
  replace H := H.join H'
  simp only [List.map_cons, List.map_nil, List.cons_append, List.nil_append] at H
  clear H'
  refine C_cons (.of ?_)
  refine wpAny_Assign_Name ?_
  refine x_call he (by tb_start) (by tb_start) (by tb_start) (X.G.up H) Z.n_cells rfl rfl ?_
  refine wpAny_items_cons ?_
  refine n_local he (by tb_start) (by tb_start) (by tb_start) (by tb_rel) (by kwd_rel) ?_
  refine wpAny_items_nil ?_
  refine ⟨⟨_, _, _, _, Z.f_cells.keeps H.keep⟩, ?_⟩
  refine wpAny_mono (c_cells (X.keeps H.keep) (Z.f_cells.keeps H.keep) (R'.less (by omega) (by omega)) (hl.at fun o e => H.keep _ o e) hi hz) (fun v s2 h2 => ?_) fun _ _ e => e.elim
  obtain ⟨la, c0, c1', c2', t0, t1, t2, rfl, p0, p1, p2, -, -, -, hna, hla, kk⟩ := h2
  replace H := H.add kk hna hla
  obtain ⟨n0, rfl⟩ := Int.eq_ofNat_of_zero_le p0
  obtain ⟨n1, rfl⟩ := Int.eq_ofNat_of_zero_le p1
  obtain ⟨n2, rfl⟩ := Int.eq_ofNat_of_zero_le p2
  refine st_cell he (by tb_start) (by tb_start) (by kwd_rel) H (by kwd_inv) fun s1 H => ?_
  refine C_cons (.of ?_)
  refine l_compA (α := Nat) (fun _ => true) (fun k v => ∃ t, v = .int ((k : Nat) : Int) t) (fun k y => IsN (octOf n1 k) y) he (by tb_start) (cl := [("cells", cc)]) (by kernel_rfl) ⟨(by tb_start), (by tb_start), (by tb_start), (by tb_start)⟩ (fun _ => rfl) (by tb_start) (by tb_start) (by tb_start) ?_
  refine x_typ he (by tb_start) (by tb_start) (by tb_start) (X.G.up H) X.b_range (id := "range") (by tb_start) (by tb_start) rfl rfl ?_
  refine wpAny_items_cons ?_
  refine c_int H fun u s1 H => ?_
  refine wpAny_items_nil ?_
  refine x_range1 (n := 5) H (by omega) R'.handled fun xv s1 H _ IT => ?_
  refine ⟨_, _, _, _, _, _, IT, H, ⟨by rw [sizeLine_eq]; decide, ?_, ?_, ?_⟩, fun D => by kwd_inv, fun lo os s1 hos H => ?_⟩
  · rintro x y v ⟨t, rfl⟩ ⟨t', e⟩
    injection e with e _
    omega
  · rintro k v C env' s3 hm ⟨tk, rfl⟩ he' hC hk
    exact ct_nil ⟨rfl, (S.start s3).keeps⟩
  · rintro k v C env' s3 hm ⟨tk, rfl⟩ hz he' hC hk
    have f1 := Fact.congr (hk _) (H.get (a := cc) (f := .cell (some (.ref la))) (by k_mem))
    have f2 := Fact.congr (hk _) (H.get (a := la) (f := .list [.int (n0 : Int) t0, .int (n1 : Int) t1, .int (n2 : Int) t2]) (by k_mem))
    have hkb : Builtin.Int.intBits ((k : Nat) : Int) ≤ 64 := by
      have hk5 := List.mem_range.mp hm
      rcases (show k = 0 ∨ k = 1 ∨ k = 2 ∨ k = 3 ∨ k = 4 by omega) with rfl | rfl | rfl | rfl | rfl <;> decide +kernel
    have H := S.start s3
    have item1 : ∀ {s' : Shared} {fs : Led} {Q : Value → Shared → Prop} {p1 p2 p3 : Pos}, S s3 s3.heap fs s' → (∀ u s2, S s3 s3.heap fs s2 → Q (.int (n1 : Int) t1) s2) → Wp PySem.Challenge.pw_if0009_01 w A' (eval (.Subscript (.Name "cells" p1) (.Constant (.int 1) 0 p2) p3) env') Q s' := fun H hQ => by
      refine Subscript_ ?_
      refine n_cell he' (by tb_start) (by tb_start) (by tb_start) (by kwd_rel) (by tb_rel) ?_
      refine c_int H fun u s1 H => ?_
      refine l_item (its := [.int (n0 : Int) t0, .int (n1 : Int) t1, .int (n2 : Int) t2]) (H.up f2) (by omega) rfl (by with_unfolding_all rfl) ?_
      exact hQ u _ H
    refine wpAny_BinOp ?_
    refine wpAny_BinOp ?_
    refine item1 H fun u s1 H => ?_
    refine wpAny_BinOp ?_
    refine wpAny_BinOp ?_
    refine wpAny_BinOp ?_
    refine wpAny_BinOp ?_
    refine item1 H fun u s1 H => ?_
    refine c_int H fun u s1 H => ?_
    refine o_div H (by omega) fun u s1 H => ?_
    refine c_int H fun u s1 H => ?_
    refine o_mul H (IntMulOk.of_right (by decide +kernel)) fun u s1 H => ?_
    refine c_int H fun u s1 H => ?_
    refine o_add H fun u s1 H => ?_
    refine n_local he' (by tb_start) (by tb_start) (by tb_start) (by tb_rel) (by kwd_rel) ?_
    refine o_mul H (IntMulOk.of_right hkb) fun u s1 H => ?_
    refine o_add H fun u s1 H => ?_
    refine c_int H fun u s1 H => ?_
    refine o_mod H (by omega) fun u s1 H => ?_
    refine ⟨⟨u, ?_⟩, H.keeps⟩
    unfold octOf
    push_cast
    rfl
  rw [List.filter_eq_self.mpr (by simp)] at hos
  have ho : Paired IsN (octs n1) os := paired_map _ hos
  have hlo : (Fact.list os).at s1.heap lo := H.get (.head _)
  refine C_cons (.of ?_)
  refine l_compA (α := Nat) (fun _ => true) IsN (fun k y => IsT [k] y) he (by tb_start) (cl := []) (by kernel_rfl) ⟨(by tb_start), (by tb_start), (by tb_start), (by tb_start)⟩ (fun _ => rfl) (by tb_start) (by tb_start) (by tb_start) ?_
  refine n_local he (by tb_start) (by tb_start) (by tb_start) (by tb_rel) (by kwd_rel) ?_
  refine ⟨_, _, _, _, _, _, (Iter.list R'.handled (Heap.PlainList.isList hlo) (Heap.PlainList.isList hlo)).to ho, H, ⟨by rw [sizeLine_eq]; exact Nat.le_of_ble_eq_true rfl, ?_, ?_, ?_⟩, fun D => by kwd_inv, fun ls ss s1 hss H => ?_⟩
  · rintro x y v ⟨t, rfl⟩ ⟨t', e⟩
    injection e with e _
    omega
  · rintro k v C env' s3 hm ⟨tk, rfl⟩ he' hC hk
    exact ct_nil ⟨rfl, (S.start s3).keeps⟩
  · rintro k v C env' s3 hm ⟨tk, rfl⟩ hz he' hC hk
    have X3 : Tp T mg mb s3.heap := X.keeps fun b o e => hk b o (H.keep b o e)
    have hb := octs_lt n1 k hm
    have H := S.start s3
    refine x_blt he' (by tb_start) (by tb_start) (by tb_start) X3.G X.b_chr (id := "chr") (by tb_start) (by tb_start) rfl rfl ?_
    refine wpAny_items_cons ?_
    refine n_local he' (by tb_start) (by tb_start) (by tb_start) (by tb_rel) (by kwd_rel) ?_
    refine wpAny_items_nil ?_
    refine o_chr H (by omega) fun u s1 H => ?_
    exact ⟨⟨_, rfl⟩, H.keeps⟩
  rw [List.filter_eq_self.mpr (by simp)] at hss
  have hs : Paired IsT ((octs n1).map fun o => [o]) ss := paired_mapS (G := IsT) (fun o : Nat => [o]) hss
  refine C_cons (C_If ?_)
  refine wpAny_isTrue_Compare1 ?_
  refine l_comp (α := Nat) (fun _ => true) (fun k v => IsT [k] v ∧ k < 256) (fun k y => IsT (encT [k]) y) he (cl := []) (by kernel_rfl) ⟨(by tb_start), (by tb_start), (by tb_start), (by tb_start)⟩ (fun _ => rfl) ?_
  refine n_local he (by tb_start) (by tb_start) (by tb_start) (by tb_rel) (by kwd_rel) ?_
  have hls : (Fact.list ss).at s1.heap ls := H.get (.head _)
  have hs2 : Paired (fun k v => IsT [k] v ∧ k < 256) (octs n1) ss := by
    have hlt := octs_lt n1
    generalize octs n1 = oc at hss hlt
    clear hs ho hls H
    induction hss with
    | nil => exact .nil
    | cons h1 _ ih => exact .cons ⟨h1, hlt _ (.head _)⟩ (ih fun o ho => hlt o (.tail _ ho))
  refine ⟨_, _, _, _, (Iter.list R'.handled (Heap.PlainList.isList hls) (Heap.PlainList.isList hls)).to hs2, H, ⟨by rw [sizeLine_eq]; exact Nat.le_of_ble_eq_true rfl, ?_, ?_, ?_⟩, fun g1 q1 s1 hq1 H => ?_⟩
  · rintro x y v ⟨h1, _⟩ ⟨h2, _⟩
    have := IsT.inj h1 h2
    injection this
  · intro k v C env' s3 hm hv he' hC hk
    exact ct_nil ⟨rfl, (S.start s3).keeps⟩
  · rintro k v C env' s3 hm ⟨⟨tk, rfl⟩, hb⟩ hz he' hC hk
    have X3 : Tp T mg mb s3.heap := X.keeps fun b o e => hk b o (H.keep b o e)
    have H := S.start s3
    refine x_call he' (by tb_start) (by tb_start) (by tb_start) X3.G X.n_quote rfl rfl ?_
    refine wpAny_items_cons ?_
    refine n_local he' (by tb_start) (by tb_start) (by tb_start) (by tb_rel) (by kwd_rel) ?_
    refine wpAny_items_nil ?_
    refine ⟨⟨_, _, _, _, X3.f_quote⟩, ?_⟩
    refine wpAny_mono (c_quote X3 (R'.less (by omega) (by omega)) (o := k) hb) (fun v s2 h2 => ?_) fun _ _ e => e.elim
    obtain ⟨⟨tv, rfl⟩, kk⟩ := h2
    exact ⟨⟨_, rfl⟩, kk⟩
  rw [List.filter_eq_self.mpr (by simp)] at hq1
  have hlo : (Fact.list os).at s1.heap lo := H.get (by k_mem)
  have ho2 := paired_lt ho (octs_lt n1)
  refine l_comp (α := Nat) (fun _ => true) (fun k v => IsN k v ∧ k < 256) (fun k y => IsT (encT [k]) y) he (cl := []) (by kernel_rfl) ⟨(by tb_start), (by tb_start), (by tb_start), (by tb_start)⟩ (fun _ => rfl) ?_
  refine n_local he (by tb_start) (by tb_start) (by tb_start) (by tb_rel) (by kwd_rel) ?_
  refine ⟨_, _, _, _, (Iter.list R'.handled (Heap.PlainList.isList hlo) (Heap.PlainList.isList hlo)).to ho2, H, ⟨by rw [sizeLine_eq]; exact Nat.le_of_ble_eq_true rfl, ?_, ?_, ?_⟩, fun g2 q2 s1 hq2 H => ?_⟩
  · rintro x y v ⟨⟨t, rfl⟩, _⟩ ⟨⟨t', e⟩, _⟩
    injection e with e _
    omega
  · intro k v C env' s3 hm hv he' hC hk
    exact ct_nil ⟨rfl, (S.start s3).keeps⟩
  · rintro k v C env' s3 hm ⟨⟨tk, rfl⟩, hb⟩ hz he' hC hk
    have kp : ∀ b o, h₀.get? b = some o → s3.heap.get? b = some o := fun b o e => hk b o (H.keep b o e)
    have X3 : Tp T mg mb s3.heap := X.keeps kp
    have H := S.start s3
    refine wpAny_BinOp ?_
    refine c_tx H [61] (by tb_start) fun u s1 H => ?_
    refine x_call he' (by tb_start) (by tb_start) (by tb_start) (X3.G.up H) Z.n_figures rfl rfl ?_
    refine wpAny_items_cons ?_
    refine n_local he' (by tb_start) (by tb_start) (by tb_start) (by tb_rel) (by kwd_rel) ?_
    refine wpAny_items_nil ?_
    refine ⟨⟨_, _, _, _, X3.f_figures.keeps H.keep⟩, ?_⟩
    refine wpAny_mono (c_figures (X3.keeps H.keep) (R'.less (by omega) (by omega)) hb) (fun v s2 h2 => ?_) fun _ _ e => e.elim
    obtain ⟨⟨tv, rfl⟩, kk⟩ := h2
    replace H := H.grow kk
    refine o_catT (a := [61]) (b := hexT k) H (by rw [sizeLine_eq]; exact Nat.le_of_ble_eq_true rfl) fun u s1 H => ?_
    exact ⟨⟨_, rfl⟩, H.keeps⟩
  rw [List.filter_eq_self.mpr (by simp)] at hq2
  have r1 : (Fact.list q1).at s1.heap g1 := H.get (by k_mem)
  have r2 : (Fact.list q2).at s1.heap g2 := H.get (by k_mem)
  obtain ⟨m1, r1⟩ := r1
  obtain ⟨m2, r2⟩ := r2
  have rd1 := reads_texts (h := s1.heap) (paired_mapS (G := IsT) (fun k : Nat => encT [k]) hq1)
  have rd2 := reads_texts (h := s1.heap) (paired_mapS (G := IsT) (fun k : Nat => encT [k]) hq2)
  have hdat : SeqAt.shaped (.list (((octs n1).map fun k : Nat => encT [k]).map fun p => PyData.str (tx p))) = true :=
    shaped_texts _ fun p hp c hc => by
      obtain ⟨k, hk, rfl⟩ := List.mem_map.mp hp
      exact (enc_char [k] (fun o ho => by obtain rfl := List.mem_singleton.mp ho; exact octs_lt n1 _ hk) c hc).2
  refine ne_dataH (reads_list_at r1 rfl rfl (by simpa using rd1)) (reads_list_at r2 rfl rfl (by simpa using rd2)) hdat hdat (by have := R'.units; omega) ?_
  have heqv : PyData.eqv (.list (((octs n1).map fun k : Nat => encT [k]).map fun p => PyData.str (tx p))) (.list (((octs n1).map fun k : Nat => encT [k]).map fun p => PyData.str (tx p))) = true := by
    simp only [PyData.eqv]
    exact eqv_texts _
  rw [heqv]
  refine wpAny_truthy_bool ?_
  rw [if_neg (by decide)]
  refine C_nil ?_
  replace H := H.drop (fs' := (ls, .list ss) :: (lo, .list os) :: _) (by kwd_less)
  refine C_cons (.of ?_)
  refine wpAny_Assign_Name ?_
  refine x_call he (by tb_start) (by tb_start) (by tb_start) (X.G.up H) Z.n_above rfl rfl ?_
  refine wpAny_items_cons ?_
  refine Subscript_ ?_
  refine n_cell he (by tb_start) (by tb_start) (by tb_start) (by kwd_rel) (by tb_rel) ?_
  refine c_int H fun u s1 H => ?_
  refine l_item (its := [.int (n0 : Int) t0, .int (n1 : Int) t1, .int (n2 : Int) t2]) (by tb_rel) (by omega) rfl (by with_unfolding_all rfl) ?_
  refine wpAny_items_nil ?_
  refine ⟨⟨_, _, _, _, Z.f_above.keeps H.keep⟩, ?_⟩
  refine wpAny_mono (c_above (X.keeps H.keep) (Z.f_above.keeps H.keep) (R'.less (by omega) (by omega))) (fun v s2 h2 => ?_) fun _ _ e => e.elim
  obtain ⟨lb, as, rfl, has, hna, hlb, kk⟩ := h2
  replace H := H.add kk hna hlb
  refine st_cell he (by tb_start) (by tb_start) (by kwd_rel) H (by kwd_inv) fun s1 H => ?_
  refine C_cons (.of ?_)
  refine wpAny_Assign_Name ?_
  refine x_call he (by tb_start) (by tb_start) (by tb_start) (X.G.up H) Z.n_context rfl rfl ?_
  refine wpAny_items_cons ?_
  refine x_call he (by tb_start) (by tb_start) (by tb_start) (X.G.up H) Z.n_letter rfl rfl ?_
  refine wpAny_items_cons ?_
  refine n_local he (by tb_start) (by tb_start) (by tb_start) (by tb_rel) (by kwd_rel) ?_
  refine wpAny_items_cons ?_
  refine n_cell he (by tb_start) (by tb_start) (by tb_start) (by kwd_rel) (by tb_rel) ?_
  refine wpAny_items_nil ?_
  refine ⟨⟨_, _, _, _, Z.f_letter.keeps H.keep⟩, ?_⟩
  have hls1 : (Fact.list ss).at s1.heap ls := H.get (by k_mem)
  have hlb1 : (Fact.list as).at s1.heap lb := H.get (by k_mem)
  refine wpAny_mono (c_letter (X.keeps H.keep) (Z.f_letter.keeps H.keep) (R'.less (by omega) (by omega)) hls1 hlb1 hs has rfl rfl (octs_lt n1)) (fun v s2 h2 => ?_) fun _ _ e => e.elim
  obtain ⟨⟨tl, rfl⟩, kk⟩ := h2
  replace H := H.grow kk
  refine wpAny_items_nil ?_
  refine ⟨⟨_, _, _, _, Z.f_context.fn.keeps H.keep⟩, ?_⟩
  obtain ⟨lf1, lf2, lf3, lf4⟩ := letter_facts (as := aboveOf n0) (h5 := (rfl : (octs n1).length = 5)) (octs_lt n1)
  refine c_context (fams := famsOf (octs n1) (aboveOf n0)) (P := P1) X Z.B Z.kf Z.Xk Z.b_int Z.f_unquote Z.n_unquote Z.n_hex Z.f_decode Z.n_decode Z.f_parse Z.n_parse Z.n_ctx Z.f_ci Z.f_context (R'.less (by omega) (by omega)) H (fun o' => by kwd_inv) lf1 lf2 lf3 lf4 (Nat.le_of_ble_eq_true rfl)
    fun x dx y dy f c' oc cf D ys tk tk2 tk3 ps vs5 t5 pm ctv qual s1 e1 e2 hys H => ?_
  refine st_cell he (by tb_start) (by tb_start) (by kwd_rel) H (by kwd_inv) fun s1 H => ?_
  refine C_cons (.of ?_)
  refine wpAny_Assign_Name ?_
  refine x_call he (by tb_start) (by tb_start) (by tb_start) (X.G.up H) Z.n_names rfl rfl ?_
  refine wpAny_items_cons ?_
  refine n_local he (by tb_start) (by tb_start) (by tb_start) (by tb_rel) (by kwd_rel) ?_
  refine wpAny_items_cons ?_
  refine Subscript_ ?_
  refine n_cell he (by tb_start) (by tb_start) (by tb_start) (by kwd_rel) (by tb_rel) ?_
  refine c_int H fun u s1 H => ?_
  refine l_item (its := [.int (n0 : Int) t0, .int (n1 : Int) t1, .int (n2 : Int) t2]) (by tb_rel) (by omega) rfl (by with_unfolding_all rfl) ?_
  refine wpAny_items_nil ?_
  refine ⟨⟨_, _, _, _, Z.f_names.keeps H.keep⟩, ?_⟩
  have hls2 : (Fact.list ss).at s1.heap ls := H.get (by k_mem)
  refine wpAny_mono (c_names (X.keeps H.keep) (Z.f_names.keeps H.keep) (R'.less (by omega) (by omega)) hls2 hs rfl (octs_lt n1) (octs_nodup n1)) (fun v s2 h2 => ?_) fun _ _ e => e.elim
  obtain ⟨d, on, fN, rfl, hdv, hfN, hnd, hdo, kk⟩ := h2
  replace H := H.add (f := .raw on) kk hnd hdo
  refine st_cell he (by tb_start) (by tb_start) (by kwd_rel) H (by kwd_inv) fun s1 H => ?_
  obtain ⟨p, hp⟩ : ∃ p : CtxP, p = ⟨x, dx, y, dy, f, c', cf, D, oc, kla_obj "<lambda>" qual lamCtx.1 lamCtx.2.1 lamCtx.2.2 [("families", cf)] pm c' ctv, ys, tk, tk2, tk3⟩ := ⟨_, rfl⟩
  have ok : CtxOk p (famsOf (octs n1) (aboveOf n0)) := by
    rw [hp]
    exact ⟨⟨qual, pm, ctv, vs5, t5, rfl, e1, e2⟩, hys, Nat.le_of_ble_eq_true rfl, fun f hf => (lf4 f hf).2.1⟩
  have hpx : p.x = x := by rw [hp]
  obtain ⟨rs, l', H, mcn, mcx, mca, mlb, hlk⟩ : ∃ rs l', S s h₀ ((d, .raw on) :: (ls, .list ss) :: (ctx0 T w p ++ ([(P2, .raw (tabObj #[]))] ++ ((L, .loc l') :: (P1, .raw (tabObj ps)) :: rs)))) s1 ∧
      (cn, Fact.cell (some (.ref d))) ∈ rs ∧ (cx, Fact.cell (some (.ref p.x))) ∈ rs ∧ (ca, Fact.cell (some (.ref lb))) ∈ rs ∧ (lb, Fact.list as) ∈ rs ∧ look l' "signs" = some (.ref ls) := by
    rw [hpx]
    replace H := H.pick (q := (P1, .raw (tabObj ps))) (by repeat (first | (with_reducible exact Pick.head) | (with_reducible apply Pick.tail)))
    replace H := H.pick (q := (L, .loc _)) (by repeat (first | (with_reducible exact Pick.head) | (with_reducible apply Pick.tail)))
    replace H := H.pick (q := (P2, .raw (tabObj #[]))) (by repeat (first | (with_reducible exact Pick.head) | (with_reducible apply Pick.tail)))
    replace H := H.pick (q := (ls, .list ss)) (by repeat (first | (with_reducible exact Pick.head) | (with_reducible apply Pick.tail)))
    replace H := H.pick (q := (d, .raw on)) (by repeat (first | (with_reducible exact Pick.head) | (with_reducible apply Pick.tail)))
    exact ⟨_, _, law_led hp H, by k_mem, by k_mem, by k_mem, by k_mem, by kwd_rel⟩
  obtain ⟨h₁, H, hd1, k₁, thaw1⟩ := H.freeze2
  obtain ⟨h₂, H, hls3, k₂, thaw2⟩ := H.freeze2
  have kh : ∀ b o, h₀.get? b = some o → h₂.get? b = some o := fun b o e => k₂ b o (k₁ b o e)
  have hd2 : h₂.get? d = some on := k₂ _ _ hd1
  have X2 := X.keeps kh
  have Xk2 := Z.Xk.keeps kh
  have ha5 := above_small (n := n0)
  have hnm : ∀ e ∈ octs n1, (∃ t, fN (tx [e]) = some (.str (tx (nmO (octs n1) n2 e)) t)) ∧ (nmO (octs n1) n2 e).length ≤ 6 ∧ ∀ c ∈ nmO (octs n1) n2 e, c < 256 := fun e he => by
    obtain ⟨k, hk, rfl⟩ := octs_at he
    have e : nmO (octs n1) n2 ((octs n1).getD k 0) = nameOf (octs n1) n2 k := by unfold nmO; rw [idx_back rfl (octs_nodup n1) hk]
    rw [e]
    exact ⟨hfN k hk, (name_len k).2, fun c hc => (name_char rfl (octs_lt n1) hk c hc).2⟩
  have hmem : ∀ k, k < 5 → (octs n1).getD k 0 ∈ octs n1 := fun k hk => by
    rcases (show k = 0 ∨ k = 1 ∨ k = 2 ∨ k = 3 ∨ k = 4 by omega) with rfl | rfl | rfl | rfl | rfl <;> simp [octs, List.range_succ]
  have hpar : ∀ e ∈ octs n1, (∃ r, parentAt (famsOf (octs n1) (aboveOf n0)) (famsOf (octs n1) (aboveOf n0)).length e = some (parO (octs n1) (aboveOf n0) e :: r)) ∧ parO (octs n1) (aboveOf n0) e ∈ octs n1 := fun e he => by
    obtain ⟨k, hk, rfl⟩ := octs_at he
    refine ⟨par_of rfl (octs_nodup n1) ha5 hk, ?_⟩
    unfold parO
    rw [idx_back rfl (octs_nodup n1) hk]
    exact hmem _ (up_lt ha5 hk)
  refine C_cons ?_
  refine C_Assign ?_ rfl
  refine C_callA he (by tb_start) (by tb_start) (by tb_start) (X2.G.up H) Z.n_masks rfl rfl (C_items1 ?_ rfl)
  refine l_compC (α := Nat) he (cl := [("names", cn), ("context", cx)]) (by kernel_rfl) ⟨(by tb_start), (by tb_start), (by tb_start), (by tb_start)⟩ (fun _ => rfl) (.of ?_)
  refine n_local he (by tb_start) (by tb_start) (by tb_start) (H.get (a := L) (f := .loc l') (List.mem_append_right _ (List.mem_append_right _ (.head _)))) hlk ?_
  refine ⟨_, _, fun k y => IsT (pathL (nmO (octs n1) n2) (parO (octs n1) (aboveOf n0)) 5 k) y, s, h₂, _, fun _ σ' fs => ∃ led tab, fs = led ++ (tab ++ ((L, .loc l') :: (P1, .raw (tabObj ps)) :: rs)) ∧ CtxSt T w p (famsOf (octs n1) (aboveOf n0)) led ∧ TabSt P2 tab ∧ GensOk s σ',
    (Iter.list R'.handled (Heap.PlainList.isList hls3) (Heap.PlainList.isList (H.up hls3))).to hs2, H, ⟨_, _, rfl, .inl rfl, .inl rfl, GensOk.refl s⟩, by rw [sizeLine_eq]; exact Nat.le_of_ble_eq_true rfl, ?_, ?_⟩
  · rintro i k v σ' fs I o C D2 l2 zs env' s3 hxk ⟨⟨tk5, rfl⟩, hb⟩ ⟨led, tab, rfl, cs, ts, hg⟩ he' H
    obtain ⟨hk5, hki⟩ := List.getElem?_eq_some_iff.mp hxk
    have hke : k ∈ octs n1 := List.mem_of_getElem? hxk
    refine C_callA he' (by tb_start) (by tb_start) (by tb_start) (X2.G.up H) Z.n_path rfl rfl (.of ?_)
    refine wpAny_items_cons ?_
    refine n_cell he' (by tb_start) (by tb_start) (by tb_start) (by kwd_rel) (H.get (a := cx) (f := .cell (some (.ref p.x))) (.tail _ (.tail _ (.tail _ (List.mem_append_right _ (List.mem_append_right _ (.tail _ (.tail _ mcx)))))))) ?_
    refine wpAny_items_cons ?_
    refine n_local he' (by tb_start) (by tb_start) (by tb_start) (by tb_rel) (by kwd_rel) ?_
    refine wpAny_items_cons ?_
    refine n_cell he' (by tb_start) (by tb_start) (by tb_start) (by kwd_rel) (H.get (a := cn) (f := .cell (some (.ref d))) (.tail _ (.tail _ (.tail _ (List.mem_append_right _ (List.mem_append_right _ (.tail _ (.tail _ mcn)))))))) ?_
    refine wpAny_items_nil ?_
    refine ⟨⟨_, _, _, _, (Z.f_path.keeps kh).keeps H.keep⟩, ?_⟩
    obtain ⟨k', hk', rfl⟩ := octs_at hke
    refine c_path (os := octs n1) X2 Z.kf Xk2 (Z.B.keeps kh) (Sm2 kh Z.Sm) Z.n_gpm (Z.f_gpm.keeps kh) (Z.f_pp.keeps kh) Z.n_pp (Z.f_swap.keeps kh) Z.n_swap Z.b_bytearray Z.b_bytes Z.b_list (Z.f_path.keeps kh) (R'.less (by omega) (by omega)) hg' ok cs ts hd2 hdv hnm hpar hke
      (rooted_of rfl (octs_nodup n1) ha5 5 k' hk' hk') (H.perm (perm3 [(C, _), (D2, _), (I, _)] led tab _)) fun v led' tab' σ2 s4 hv cs2 ts2 hg2 H => ?_
    exact ⟨hv, σ2, led' ++ (tab' ++ _), H.perm (perm3 [(C, _), (D2, _), (I, _)] led' tab' _).symm, led', tab', rfl, cs2, ts2, hg.trans hg2⟩
  · rintro σ' fs D2 zs s3 ⟨led, tab, rfl, cs, ts, hg⟩ hzs H
    have hw := paired_mapS (G := IsT) (fun k => pathL (nmO (octs n1) n2) (parO (octs n1) (aboveOf n0)) 5 k) hzs
    rw [ways_eq] at hw
    obtain ⟨pok, pm⟩ := paths_ok (os := octs n1) (as := aboveOf n0) (num := n2) rfl (octs_nodup n1) (octs_lt n1) ha5
    refine ⟨⟨_, _, _, _, (Z.f_masks.keeps kh).keeps H.keep⟩, .of ?_⟩
    have hzl : (Fact.list zs).at s3.heap D2 := H.get (.head _)
    refine wpAny_mono (c_masks (X2.keeps H.keep) Z.kf (Xk2.keeps H.keep) Z.n_mgr ((Z.f_mi.keeps kh).keeps H.keep) ((Z.f_isub.keeps kh).keeps H.keep) ((Z.f_masks.keeps kh).keeps H.keep) (R'.less (by omega) (by omega)) hzl hw pok) (fun v s2 h2 => ?_) fun _ _ e => e.elim
    obtain ⟨lm, ms, rfl, hms, hna, hlm, kk⟩ := h2
    rw [pm] at hms
    replace H := H.add kk hna hlm
    replace H := H.perm (perm_out (lm, Fact.list ms) (D2, Fact.list zs) (L, Fact.loc l') led tab ((P1, .raw (tabObj ps)) :: rs))
    have mrs : ∀ {q : Addr × Fact}, q ∈ rs → q ∈ led ++ (tab ++ ((P1, .raw (tabObj ps)) :: rs)) := fun hq => List.mem_append_right _ (List.mem_append_right _ (.tail _ hq))
    have mca' := mrs mca
    have mlb' := mrs mlb
    clear mrs
    refine st_local he (by tb_start) (by tb_start) H (by kwd_inv) fun s1 H => ?_
    have hfin : ∀ {s' : Shared} {fs : Led}, S σ' h₂ fs s' → (led ++ (tab ++ ((P1, Fact.raw (tabObj ps)) :: rs))).Sublist fs → ∃ σ' fs ps1 ps2, GensOk s σ' ∧ S σ' h₀ ((P1, .raw (tabObj ps1)) :: (P2, .raw (tabObj ps2)) :: fs) s' := fun H hsub => by
      have H := (thaw1 _ _ _ (thaw2 _ _ _ (H.drop hsub))).drop (.cons _ (.cons _ (.refl _)))
      obtain ⟨fs, ps1, ps2, H⟩ := tab_out ts H
      exact ⟨σ', fs, ps1, ps2, hg, H⟩
    generalize led ++ (tab ++ ((P1, Fact.raw (tabObj ps)) :: rs)) = rest at H hfin mca' mlb'
    refine C_cons (.of ?_)
    refine wpAny_Return_some ?_
    refine b_and ?_
    refine wpAny_Compare1 ?_
    refine n_local he (by tb_start) (by tb_start) (by tb_start) (by tb_rel) (by kwd_rel) ?_
    refine l_new ?_
    refine wpAny_items_nil ?_
    refine ⟨by rw [sizeLine_eq]; exact Nat.le_of_ble_eq_true rfl, _, _, _, H, fun g5 s1 H => ?_⟩
    have q1 : (Fact.list ms).at s1.heap lm := H.get (by k_mem)
    have q2 : (Fact.list []).at s1.heap g5 := H.get (by k_mem)
    refine ne_intsK (Heap.PlainList.isList q1) (ints_of hms) (Heap.PlainList.isList q2) .nil (by have := R'.units; omega) ?_
    refine wpAny_truthy_bool ?_
    rw [if_pos (by simp [boxes, List.range_succ])]
    refine wpAny_Compare1 ?_
    refine x_call he (by tb_start) (by tb_start) (by tb_start) (X2.G.up H) Z.n_game rfl rfl ?_
    refine wpAny_items_cons ?_
    refine n_local he (by tb_start) (by tb_start) (by tb_start) (by tb_rel) (by kwd_rel) ?_
    refine wpAny_items_nil ?_
    refine ⟨⟨_, _, _, _, (Z.f_game.keeps kh).keeps H.keep⟩, ?_⟩
    obtain ⟨gok, ge⟩ := tree_game (tree_of n0)
    refine wpAny_mono (c_game (X2.keeps H.keep) Z.b_min ((Z.f_game.keeps kh).keeps H.keep) (R'.less (by omega) (by omega)) q1 hms rfl gok) (fun v s2 h2 => ?_) fun _ _ e => e.elim
    obtain ⟨lg, gs, rfl, hgs, hna, hlg, kk⟩ := h2
    rw [ge] at hgs
    replace H := H.add kk hna hlg
    refine l_comp (α := Nat) (fun _ => true) (fun k v => ∃ t, v = .int ((k : Nat) : Int) t) (fun k y => IsN (grownOf (aboveOf n0) k) y) he (cl := [("above", ca)]) (by kernel_rfl) ⟨(by tb_start), (by tb_start), (by tb_start), (by tb_start)⟩ (fun _ => rfl) ?_
    refine x_typ he (by tb_start) (by tb_start) (by tb_start) (X2.G.up H) X2.b_range (id := "range") (by tb_start) (by tb_start) rfl rfl ?_
    refine wpAny_items_cons ?_
    refine c_int H fun u s1 H => ?_
    refine wpAny_items_nil ?_
    refine x_range1 (n := 32) H (by omega) R'.handled fun xv s1 H _ IT => ?_
    refine ⟨_, _, _, _, IT, H, ⟨by rw [sizeLine_eq]; decide, ?_, ?_, ?_⟩, fun lw es s1 hes H => ?_⟩
    · rintro x y v ⟨t, rfl⟩ ⟨t', e⟩
      exact int_inj e
    · rintro k v C env' s3 hm ⟨tk, rfl⟩ he' hC hk
      exact ct_nil ⟨rfl, (S.start s3).keeps⟩
    · rintro k v C env' s3 hm ⟨tk, rfl⟩ hz he' hC hk
      have kp : ∀ b o, h₂.get? b = some o → s3.heap.get? b = some o := fun b o e => hk b o (H.keep b o e)
      have f1 := Fact.congr (hk _) (H.get (a := ca) (f := .cell (some (.ref lb))) (.tail _ (.tail _ (.tail _ (.tail _ (.tail _ mca'))))))
      have f2 := Fact.congr (hk _) (H.get (a := lb) (f := .list as) (.tail _ (.tail _ (.tail _ (.tail _ (.tail _ mlb'))))))
      have X3 := X2.keeps kp
      have H := S.start s3
      refine x_call he' (by tb_start) (by tb_start) (by tb_start) X3.G Z.n_grown rfl rfl ?_
      refine wpAny_items_cons ?_
      refine n_cell he' (by tb_start) (by tb_start) (by tb_start) (by kwd_rel) f1 ?_
      refine wpAny_items_cons ?_
      refine n_local he' (by tb_start) (by tb_start) (by tb_start) (by tb_rel) (by kwd_rel) ?_
      refine wpAny_items_nil ?_
      refine ⟨⟨_, _, _, _, (Z.f_grown.keeps kh).keeps kp⟩, ?_⟩
      refine wpAny_mono (c_grown X3 ((Z.f_grown.keeps kh).keeps kp) (R'.less (by omega) (by omega)) f2 has rfl (above_le n0)) (fun v s2 h2 => ?_) fun _ _ e => e.elim
      exact h2
    rw [List.filter_eq_self.mpr (by simp)] at hes
    have hes2 := paired_mapS (G := IsN) (fun k => grownOf (aboveOf n0) k) hes
    have r3 : (Fact.list gs).at s1.heap lg := H.get (by k_mem)
    have r4 : (Fact.list es).at s1.heap lw := H.get (by k_mem)
    refine eq_intsK (Heap.PlainList.isList r3) (ints_of hgs) (Heap.PlainList.isList r4) (ints_of hes2) (by have := R'.units; omega) ?_
    rw [decide_eq_true rfl]
    refine hQ _ _ ?_
    exact ⟨rfl, hfin H (by kwd_less)⟩
end Mine
end

section
open PySem PySem.Calls PySem.Spec PyProof.Rows PySem.W
set_option Elab.async false
namespace Mine

/-- the stack of one whom nobody but the claim's caller called -/
noncomputable def alone : List (Code × Pos) → Bool
  | [(.builtin id _, _)] => id == "claim.caller"
  | _ => false
noncomputable def guardV (t : Sem Value) : Sem Value := .stack fun st => if alone st then t else pure (.bool true)
noncomputable def guardF (t : Sem Fin) : Sem Fin := .stack fun st => if alone st then t else pure (.done (.ret (.bool true)))

theorem guard_step {prog : Program} {w : World} {s : Shared} {t : Sem Fin} {n : Nat} {o : Outcome} {s' : Shared} (hz : s.asleep)
    (h : schedN (denote table) prog w n (.single s ⟨guardF t, .builtin "claim.caller" {}, default, []⟩) = .halted o s') :
    ∃ m, schedN (denote table) prog w m (.single s ⟨t, .builtin "claim.caller" {}, default, []⟩) = .halted o s' := by
  cases n with
  | zero => cases h
  | succ n =>
    have e : step (denote table) prog w s ⟨guardF t, .builtin "claim.caller" {}, default, []⟩ = .go s ⟨t, .builtin "claim.caller" {}, default, []⟩ := by
      obtain ⟨h1, g1, d1, k1, o1⟩ := s
      unfold guardF
      rfl
    rcases sstep_single (denote table) prog w s ⟨guardF t, .builtin "claim.caller" {}, default, []⟩ rfl hz with q | q
    · simp only [schedN, q, e] at h
      exact ⟨n, h⟩
    · rw [e] at q; cases q

theorem conv {c : ClaimW} {tree : List Value → Sem Fin} {defs kps : List Str} {writes : Bool}
    (H : c.HoldsOpenBy (fun vs => ⟨guardF (tree vs), .builtin "claim.caller" {}, default, []⟩) defs kps writes) : c.HoldsOpenBy (fun vs => ⟨tree vs, .builtin "claim.caller" {}, default, []⟩) defs kps writes := by
  refine ⟨H.1, H.2.1, fun w => ⟨(H.2.2 w).1, fun s hs => ?_⟩⟩
  obtain ⟨s₀, hf, hg, s₁, hT, hd, r1, r2, call⟩ := (H.2.2 w).2 s hs
  have hs' : AfterImport (opening c.prog) w s := hs
  have z : s₁.asleep := Shared.asleep_of_life hT.2.1 (Shared.asleep_of_life (fence_lifeW hf) hs'.life)
  refine ⟨s₀, hf, hg, s₁, hT, hd, r1, r2, fun args hp hl ord ho => ?_⟩
  obtain ⟨vs, s₂, hlaid, n, o, s', hn, rest⟩ := call args hp hl ord ho
  obtain ⟨m, hm⟩ := guard_step (Shared.asleep_of_life (layAllW_rest _ _ _ hlaid).2.2.2 z) hn
  exact ⟨vs, s₂, hlaid, m, o, s', hm, rest⟩

/-- the head, for a walk that is asked of the caller alone -/
theorem holds_guard {r : OpenRow} {q : Program} {loose : List Str} {Xt : Shared → Bool} {XP : (Str → Option Value) → Heap → Prop} {α : Type} {Yf : Shared → α} {Ya : World → α} {YP : World → Heap → Prop} {d : DefRec} {kwd : List (Str × Expr)} {N : Nat}
    (left : LeftO r.prog q loose Xt Yf Ya N) (hY : ∀ w s, Yf s = Ya w → YP w s.heap) (hYk : ∀ w h h', YP w h → (∀ b o, h.get? b = some o → h'.get? b = some o) → YP w h')
    (hX : ∀ s, Xt s = true → XP (s.heap.nsMap mainGlobals) s.heap) (hXk : ∀ mg h h', XP mg h → (∀ b o, h.get? b = some o → h'.get? b = some o) → XP mg h')
    (hdef : defOf q r.name = some (d, kwd)) (hp : r.prog.theDef r.name = some (d.params, d.body, d.scope)) (hk : kwWritten? d.params.kwonlyargs d.params.kw_defaults = some kwd) (hRf : ∀ s, Xt s = true → RecFacts r.records s.heap) (hwr : (!r.writes || r.records.isEmpty) = true)
    (k1 : r.wellSaid = true) (ok : (chainsOk q && opensWell r.prog && (frees r.toRowW && r.within.isEmpty)) = true) (hb : r.prog.bare) (hw : r.toRowW.promised)
    (call : WalkO q loose XP YP r.toRowW d kwd fun f vs => guardV (PySem.call f vs)) : r.Holds := by
  refine ⟨k1, hw, conv (tree := fun vs => do match ← nsGet mainNs r.name with
      | some f => do ret (← PySem.call f vs)
      | none => unsupported "claim.caller:no-such-global") (open_anyG (r := r.toRowW) (run := fun f vs => guardV (PySem.call f vs)) left hY hYk hX hXk hRf hwr ok hb hw
    (fun vs w s mg f Q E hg hf h => ?_) (fun w s hg G n hn => ?_) fun w s₀ s₁ mg mb G Y args vs as hpre hlay L low => ?_)⟩
  · intro Γ p hΓ
    have h' := h Γ
    unfold guardV at h'
    unfold guardF
    rw [Sem.wp_stack]
    cases ha : alone ((Γ.code, p) :: Γ.below) with
    | false =>
      have := h' p hΓ
      rw [Sem.wp_stack, ha] at this
      exact this
    | true =>
      have ha' : ∀ p', alone ((Γ.code, p') :: Γ.below) = true := fun p' => by
        unfold alone at ha ⊢
        revert ha
        cases Γ.below <;> cases Γ.code <;> simp
      have key : ∀ p', Sem.wp (model r.prog w) Γ (PySem.call f vs) (fun v _ s' => Q (.done (.ret v)) s') (fun e _ s' => E e s') p' s := fun p' => by
        have := h' p' hΓ
        rw [Sem.wp_stack, ha' p'] at this
        exact this
      show Sem.wp _ Γ (nsGet mainNs r.name >>= _) _ _ p s
      rw [Sem.wp_bind']
      refine Sem.wp_mono _ Γ _ (fun a p' s' q => ?_) (fun _ _ _ q => q) p s ((wpAny_nsGet (M := model r.prog w) (A := callerA) (E := E) (Q := fun a s' => a = some f ∧ s' = s) hg (by rw [hf]; exact ⟨rfl, rfl⟩)) Γ p hΓ)
      obtain ⟨rfl, rfl⟩ := q
      show Sem.wp _ Γ (PySem.call f vs >>= _) _ _ p' s'
      rw [Sem.wp_bind']
      exact Sem.wp_mono _ Γ _ (fun a p' s' q => by exact q) (fun _ _ _ q => q) p' s' (key p')
  · obtain rfl : n = r.name := by split at hn <;> simp_all
    exact pinned_of_view hg G hdef hp hk
  · obtain ⟨a, o, pm, cd, doc, dV, kV, h1, h2, h3, h4, h5⟩ := G.fn hdef
    exact ⟨.ref a, h1, call w s₀ s₁ mg mb G Y a o pm cd doc dV kV h2 h3 h4 h5 (defOf_name hdef ▸ h1) L.gens args vs as hpre hlay L.reads L.well (L.low low)⟩
end Mine
end

section
open PySem PySem.Calls PySem.Spec PyProof.Rows PySem.W
set_option Elab.async false
set_option maxRecDepth 100000
namespace Mine


/-- a function as the written part of the heap holds it -/
noncomputable def FnK (K : Frag) (a c : Addr) (nm qn : Str) (args : Arguments) (body : List Stmt) (sc : Scope) (dV : Value) : Prop :=
  ∃ o doc pm an ct oc vs t, K.lookup a = some o ∧ o.data = .func (W.fnOf nm qn args body sc dV .none doc pm an (.ref c) ct) ∧ K.lookup c = some oc ∧ oc.data = .fields vs ∧ vs[1]? = some (.str qn t)
noncomputable abbrev DefK (K : Frag) (a c : Addr) (i : Nat) : Prop := FnK K a c (fnAt i).1 (fnAt i).1 (fnAt i).2.1 (fnAt i).2.2.1 (fnAt i).2.2.2 .none
noncomputable abbrev MethK (K : Frag) (a c : Addr) (i j : Nat) (qn : Str) : Prop := FnK K a c (methAt i j).1 qn (methAt i j).2.1 (methAt i j).2.2.1 (methAt i j).2.2.2 .none
section
variable {K : Frag} {h : Heap} {a c : Addr} {nm qn : Str} {args : Arguments} {body : List Stmt} {sc : Scope}
theorem FnK.fn (X : K.In h) (x : FnK K a c nm nm args body sc .none) : IsFn a nm args body sc h := by
  obtain ⟨o, doc, pm, an, ct, oc, vs, t, e1, e2, e3, e4, e5⟩ := x
  exact ⟨o, doc, pm, an, .ref c, ct, X _ _ e1, e2, c, oc, vs, t, rfl, X _ _ e3, e4, e5⟩
theorem FnK.fnQ (X : K.In h) (x : FnK K a c nm qn args body sc .none) : IsFnQ a nm qn args body sc h := by
  obtain ⟨o, doc, pm, an, ct, oc, vs, t, e1, e2, e3, e4, e5⟩ := x
  exact ⟨o, doc, pm, an, .ref c, ct, X _ _ e1, e2, c, oc, vs, t, rfl, X _ _ e3, e4, e5⟩
theorem FnK.fnC {P : Addr} (X : K.In h) (x : FnK K a c nm nm args body sc .none) (hc : codeHdIn K c P = true) : IsFnC a nm args body sc c P h := by
  obtain ⟨o, doc, pm, an, ct, oc, vs, t, e1, e2, e3, e4, e5⟩ := x
  exact ⟨⟨o, doc, pm, an, ct, X _ _ e1, e2, c, oc, vs, t, rfl, X _ _ e3, e4, e5⟩, codeHd_of_K X hc⟩
theorem FnK.fnD {Td : Addr} {dvs : Array Value} (X : K.In h) (x : FnK K a c nm nm args body sc (.ref Td)) (y : ∃ o n, K.lookup Td = some o ∧ o.cls = .type "tuple" ∧ o.data = .seq dvs n) : IsFnD a nm args body sc dvs h := by
  obtain ⟨o, doc, pm, an, ct, oc, vs, t, e1, e2, e3, e4, e5⟩ := x
  obtain ⟨o', n, f1, f2, f3⟩ := y
  exact ⟨o, doc, pm, an, .ref c, ct, Td, X _ _ e1, e2, ⟨c, oc, vs, t, rfl, X _ _ e3, e4, e5⟩, ⟨o', X _ _ f1, f2, n, f3⟩⟩
end
/-- where the defs stand -/
noncomputable abbrev topAd : Ad := { parse := 76, unquote := 99, quote := 106, decode := 119, swap := 126, gpm := 133, pp := 140, cells := 168, above := 175, figures := 182, letter := 187, context := 192, names := 199, path := 204, masks := 209, game := 214, grown := 221, law := 226, qmap := 79, mgr := 67, isub := 64, ctx := 157 }
noncomputable def eqAll (vs : List Value) : Bool := (List.range 256).all fun o => match vs[o]? with
  | some (.str x _) => x == eqHex o
  | _ => false
theorem eqAll_get {vs : List Value} (h : eqAll vs = true) (o : Nat) (ho : o < 256) : ∃ t, vs[o]? = some (.str (eqHex o) t) := by
  have := List.all_eq_true.mp h o (List.mem_range.mpr ho)
  split at this
  · rename_i x t e
    rw [eq_of_beq this] at e
    exact ⟨t, e⟩
  · cases this

/-- the facts of the written part that the law asks -/
structure KFacts (K : Frag) (tn th : Tok) : Prop where
  f_parse : DefK K 76 75 3
  f_unquote : DefK K 99 98 17
  f_quote : DefK K 106 105 18
  f_swap : DefK K 126 125 24
  f_gpm : DefK K 133 132 26
  f_pp : DefK K 140 139 27
  f_cells : DefK K 168 167 30
  f_above : DefK K 175 174 31
  f_figures : DefK K 182 181 32
  f_letter : DefK K 187 186 33
  f_context : DefK K 192 191 34
  f_names : DefK K 199 198 35
  f_path : DefK K 204 203 36
  f_masks : DefK K 209 208 37
  f_game : DefK K 214 213 38
  f_grown : DefK K 221 220 39
  f_law : DefK K 226 225 40
  f_decode : FnK K 119 118 (fnAt 22).1 (fnAt 22).1 (fnAt 22).2.1 (fnAt 22).2.2.1 (fnAt 22).2.2.2 (.ref 112)
  d_decode : ∃ o n, K.lookup 112 = some o ∧ o.cls = .type "tuple" ∧ o.data = .seq #[.str (tx [10]) tn] n
  f_mi : MethK K 35 34 2 0 (Str.ofString "HTTPPasswordMgr.__init__")
  f_isub : MethK K 64 63 2 4 (Str.ofString "HTTPPasswordMgr.is_suburi")
  f_ci : MethK K 154 153 28 1 (Str.ofString "_SelectorContext.__init__")
  h_context : codeHdIn K 191 189 = true
  h_pp : codeHdIn K 139 135 = true
  qmap : ∃ o its n, K.lookup 79 = some o ∧ o.cls = .type "list" ∧ o.data = .seq its n ∧ eqAll its.toList = true
  kf : Kf K topAd 35 154
  tabs : noTabs K = true
  n_parse : nsIn K mainGlobals "parse_http_list" = some (some (.ref 76))
  n_unquote : nsIn K mainGlobals "unquote" = some (some (.ref 99))
  n_quote : nsIn K mainGlobals "quote" = some (some (.ref 106))
  n_swap : nsIn K mainGlobals "_byteswap" = some (some (.ref 126))
  n_gpm : nsIn K mainGlobals "get_parent_map" = some (some (.ref 133))
  n_pp : nsIn K mainGlobals "prepare_parent" = some (some (.ref 140))
  n_cells : nsIn K mainGlobals "_law_cells" = some (some (.ref 168))
  n_above : nsIn K mainGlobals "_law_above" = some (some (.ref 175))
  n_figures : nsIn K mainGlobals "_law_figures" = some (some (.ref 182))
  n_letter : nsIn K mainGlobals "_law_letter" = some (some (.ref 187))
  n_context : nsIn K mainGlobals "_law_context" = some (some (.ref 192))
  n_names : nsIn K mainGlobals "_law_names" = some (some (.ref 199))
  n_path : nsIn K mainGlobals "_law_path" = some (some (.ref 204))
  n_masks : nsIn K mainGlobals "_law_masks" = some (some (.ref 209))
  n_game : nsIn K mainGlobals "_law_game" = some (some (.ref 214))
  n_grown : nsIn K mainGlobals "_law_grown" = some (some (.ref 221))
  n_decode : nsIn K mainGlobals "decode" = some (some (.ref 119))
  n_mgr : nsIn K mainGlobals "HTTPPasswordMgr" = some (some (.ref 67))
  n_ctx : nsIn K mainGlobals "_SelectorContext" = some (some (.ref 157))
  n_qmap : nsIn K mainGlobals "_QUOPRI_MAP" = some (some (.ref 79))
  n_law : nsIn K mainGlobals "law" = some (some (.ref 226))
  n_hex : nsIn K mainGlobals "hexdigits" = some (some (.str (Str.ofString "0123456789abcdefABCDEF") th))
  b_min : nsIn K mainGlobals "min" = some none
  b_int : nsIn K mainGlobals "int" = some none
  b_bytes : nsIn K mainGlobals "bytes" = some none
  b_bytearray : nsIn K mainGlobals "bytearray" = some none
  b_list : nsIn K mainGlobals "list" = some none
  b_ord : nsIn K mainGlobals "ord" = some none
  b_chr : nsIn K mainGlobals "chr" = some none
  b_len : nsIn K mainGlobals "len" = some none
  b_range : nsIn K mainGlobals "range" = some none

theorem lw_of {K : Frag} {h : Heap} {mg mb : Str → Option Value} {tn th : Tok} (F : KFacts K tn th) (X : K.In h) (G : Gnd mg mb h) (B : BMain mg h) (Sm : (h.get? sysModules).isSome = true) : Lw topAd mg mb h K 35 154 191 189 139 135 tn th where
  X := { G := G, f_quote := F.f_quote.fn X, n_quote := mg_of X G.g F.n_quote, n_qmap := mg_of X G.g F.n_qmap, f_figures := F.f_figures.fn X, b_ord := mg_none_of X G.g F.b_ord, b_chr := mg_none_of X G.g F.b_chr, b_len := mg_none_of X G.g F.b_len, b_range := mg_none_of X G.g F.b_range,
         qmap := let ⟨o, its, n, e1, e2, e3, e4⟩ := F.qmap; ⟨its.toList, ⟨o, X _ _ e1, e2, n, by simpa using e3⟩, fun o ho => eqAll_get e4 o ho⟩ }
  B := B
  kf := F.kf
  Xk := X
  Sm := Sm
  f_parse := F.f_parse.fn X
  f_unquote := F.f_unquote.fn X
  f_swap := F.f_swap.fn X
  f_gpm := F.f_gpm.fn X
  f_pp := F.f_pp.fnC X F.h_pp
  f_cells := F.f_cells.fn X
  f_above := F.f_above.fn X
  f_letter := F.f_letter.fn X
  f_context := F.f_context.fnC X F.h_context
  f_names := F.f_names.fn X
  f_path := F.f_path.fn X
  f_masks := F.f_masks.fn X
  f_game := F.f_game.fn X
  f_grown := F.f_grown.fn X
  f_law := F.f_law.fn X
  f_decode := F.f_decode.fnD X F.d_decode
  f_mi := F.f_mi.fnQ X
  f_isub := F.f_isub.fnQ X
  f_ci := F.f_ci.fnQ X
  n_parse := mg_of X G.g F.n_parse
  n_unquote := mg_of X G.g F.n_unquote
  n_swap := mg_of X G.g F.n_swap
  n_gpm := mg_of X G.g F.n_gpm
  n_pp := mg_of X G.g F.n_pp
  n_cells := mg_of X G.g F.n_cells
  n_above := mg_of X G.g F.n_above
  n_figures := mg_of X G.g F.n_figures
  n_letter := mg_of X G.g F.n_letter
  n_context := mg_of X G.g F.n_context
  n_names := mg_of X G.g F.n_names
  n_path := mg_of X G.g F.n_path
  n_masks := mg_of X G.g F.n_masks
  n_game := mg_of X G.g F.n_game
  n_grown := mg_of X G.g F.n_grown
  n_decode := mg_of X G.g F.n_decode
  n_mgr := mg_of X G.g F.n_mgr
  n_ctx := mg_of X G.g F.n_ctx
  n_hex := mg_of X G.g F.n_hex
  b_min := mg_none_of X G.g F.b_min
  b_int := mg_none_of X G.g F.b_int
  b_bytes := mg_none_of X G.g F.b_bytes
  b_bytearray := mg_none_of X G.g F.b_bytearray
  b_list := mg_none_of X G.g F.b_list

theorem with_K {K : Frag} {h : Heap} {tn th : Tok} {p : Prop} (_ : K.In h) (F : KFacts K tn th) (k : KFacts K tn th → p) : p := k F
theorem law_end {K : Frag} {w : World} {s₁ : Shared} {mg mb : Str → Option Value} {tn th : Tok} {l : Addr} {vs : List Value} {xs : List Int} {c : ClaimW} {cl : Str → Option Addr} {mean : ExcName → Option Value} {args : List WData} {p : Program} {loose : List Str} {mean' : ExcName → Option Value}
    (F : KFacts K tn th) (X : K.In s₁.heap) (T : Top p loose mean' mg mb s₁.heap) (him : importsNone p = true) (hT8 : ∀ P ∈ ([135, 189] : List Addr), s₁.heap.get? P = some (tabObj #[])) (hg : s₁.gens = #[])
    (hl : s₁.heap.IsList l vs.toArray) (hi : IntsAre vs xs) (hz : xs.length ≤ 63) (hr : ∀ cls, c.raises args cls = false) (hp : c.post args (.bool true) args = true) :
    wpAny (model PySem.Challenge.pw_if0009_01 w) callerA (guardV (PySem.call (.ref 226) [.ref l])) (fun v s' => GoodWG c cl mean args s₁ (.ok (.ret v)) s') (fun e s' => GoodWG c cl mean args s₁ (.error e) s') s₁ := by
  have hP1 : s₁.heap.get? 189 = some (tabObj #[]) := hT8 _ (.tail _ (.head _))
  have hP2 : s₁.heap.get? 135 = some (tabObj #[]) := hT8 _ (.head _)
  have hT : TabsAt [(191, 189), (139, 135)] s₁.heap := fun q hq => by
    rcases List.mem_cons.mp hq with rfl | hq
    · exact ⟨codeHd_of_K X F.h_context, hP1⟩
    · obtain rfl := List.mem_singleton.mp hq
      exact ⟨codeHd_of_K X F.h_pp, hP2⟩
  have Xg : K.In (ghostOf s₁.heap [(191, 189), (139, 135)]) := ghost_K hT X F.tabs
  have G : Gnd mg mb (ghostOf s₁.heap [(191, 189), (139, 135)]) := ⟨ghost_ns hT T.g, ghost_ns hT T.b, T.builtins, let ⟨mc, a, r⟩ := T.nolimit; ⟨mc, ghost_ns hT a, r⟩⟩
  have B : BMain mg (ghostOf s₁.heap [(191, 189), (139, 135)]) := let ⟨bm, ob, a1, a2, a3, a4, r⟩ := T.bmain; ⟨bm, ob, a1, a2, ghost_get hT a3 (fun q => by rw [q] at a4; cases a4), a4, r⟩
  have Sm : ((ghostOf s₁.heap [(191, 189), (139, 135)]).get? sysModules).isSome = true := by
    obtain ⟨mm, hm, -⟩ := (T.seer him).mods
    obtain ⟨o, es, ep, e, -⟩ := ghost_ns hT hm
    rw [e]; rfl
  have Z := lw_of F Xg G B Sm
  have H : S s₁ (ghostOf s₁.heap [(191, 189), (139, 135)]) [(189, .raw (tabObj #[])), (135, .raw (tabObj #[]))] s₁ := S.own2 (by decide) hP1 hP2
  have hfin : ∀ s', (∃ σ' fs ps1 ps2, GensOk s₁ σ' ∧ S σ' (ghostOf s₁.heap [(191, 189), (139, 135)]) ((189, .raw (tabObj ps1)) :: (135, .raw (tabObj ps2)) :: fs) s') → GoodWG c cl mean args s₁ (.ok (.ret (.bool true))) s' := by
    rintro s' ⟨σ', fs, ps1, ps2, hgo, H⟩
    obtain ⟨h', t', rfl⟩ := H.same
    have q1 : h'.get? 189 = some (tabObj ps1) := H.get (a := 189) (f := .raw (tabObj ps1)) (.head _)
    have q2 : h'.get? 135 = some (tabObj ps2) := H.get (a := 135) (f := .raw (tabObj ps2)) (.tail _ (.head _))
    have all : ∀ b o, s₁.heap.get? b = some o → h'.get? b = some o ∨ (isCodeTable s₁.heap b ∧ o = tabObj #[] ∧ ∃ ps, h'.get? b = some (tabObj ps)) := fun b o e => by
      by_cases h1 : b = 189
      · subst h1
        rw [hP1] at e
        exact .inr ⟨((hT (191, 189) (.head _)).1.tab hP1).isCodeTable, (Option.some.inj e).symm, ps1, q1⟩
      · by_cases h2 : b = 135
        · subst h2
          rw [hP2] at e
          exact .inr ⟨((hT (139, 135) (.tail _ (.head _))).1.tab hP2).isCodeTable, (Option.some.inj e).symm, ps2, q2⟩
        · exact .inl (H.keep b o (ghost_ne e (by simp [h1, h2])))
    refine ⟨.inl ⟨_, _, [], rfl, hr, ReadsW.bool true, hp, fun _ => ⟨List.nodup_nil, fun _ hm => nomatch hm⟩⟩, ⟨fun b o e => ?_, fun b o e => ?_⟩, hgo.2.1, hgo.2.2 (by rw [hg]; exact AllBare.empty)⟩
    · rcases all b o e with h | ⟨ht, rfl, ps, hP⟩
      · exact .inl h
      · exact .inr (.inl ⟨ht, rfl, #[], ps, rfl, by rw [Array.empty_append]; exact hP⟩)
    · rcases all b o e with h | ⟨_, _, ps, hP⟩
      · exact ⟨o, h⟩
      · exact ⟨_, hP⟩
  have R : Room callerA 20 400 := ⟨rfl, by decide +kernel, by decide +kernel⟩
  intro Γ pos hΓ
  unfold guardV
  rw [Sem.wp_stack]
  cases ha : alone ((Γ.code, pos) :: Γ.below) with
  | false =>
    show Sem.wp _ Γ (pure (.bool true) : Sem Value) _ _ pos s₁
    rw [Sem.wp_pure']
    exact hfin s₁ ⟨s₁, [], _, _, GensOk.refl _, H⟩
  | true =>
    have C : Clean Γ := by
      unfold alone at ha
      split at ha
      · rename_i id g q e
        injection e with e1 e2
        injection e1 with e1 _
        have hid : id = "claim.caller" := eq_of_beq ha
        subst hid
        exact ⟨by rw [e1]; show Builtin.Bytes.decodersThatHold.contains "claim.caller" = false; decide +kernel, fun q hq => by rw [e2] at hq; cases hq⟩
      · cases ha
    have hW := c_law Z R rfl H (ghost_list hT hl) hi hz (w := w)
    show Sem.wp _ Γ (PySem.call (.ref 226) [.ref l]) _ _ pos s₁
    exact Sem.wp_mono _ Γ _ (fun v _ s' q => by obtain ⟨rfl, q⟩ := q; exact hfin s' q) (fun _ _ _ q => q.elim) pos s₁ (hW Γ pos hΓ C)
end Mine
end

section
open PySem PySem.Calls PySem.Spec PyProof.Rows PySem.W
set_option Elab.async false
set_option maxRecDepth 100000
namespace Mine

section
noncomputable abbrev pw : Program := PySem.Challenge.pw_if0009_01
/-- the top's environment -/
noncomputable def topEnv : Env := { scope := pw.main.scope, locals := mainNs, globals := mainNs, cells := [], code := .ref 13, frame := some 14 }
noncomputable def topCode : Code := .body (behindTheImports pw) topEnv
noncomputable abbrev pos0 : Pos := { line := 0, col := 0, endLine := 0, endCol := 0 }
noncomputable abbrev topB : List Frame := [topFrame pos0]
noncomputable abbrev topAnn : Option Value := some (.ref 6)
noncomputable def s0 (w : World) (os : OsState) : Shared := ⟨boot_heap w.params, #[], boot_drawn, boot_toks, os⟩
noncomputable def sA (w : World) (os : OsState) : Shared := ((topGo treeTable pw w 11 topAnn 12 (s0 w os) (topStub pw)).map Prod.fst).getD (s0 w os)
noncomputable def tA : Thread := ⟨denote treeTable topCode, topCode, pos0, topB⟩
theorem pre_thread (w : World) (os : OsState) : (topGo treeTable pw w 11 topAnn 12 (s0 w os) (topStub pw)).map Prod.snd = some tA := by kernel_rfl
theorem pre_run (w : World) (os : OsState) : topGo treeTable pw w 11 topAnn 12 (s0 w os) (topStub pw) = some (sA w os, tA) := by
  have h := pre_thread w os
  unfold sA
  cases e : topGo treeTable pw w 11 topAnn 12 (s0 w os) (topStub pw) with
  | none => rw [e] at h; cases h
  | some r =>
    rw [e] at h
    obtain ⟨a, b⟩ := r
    cases h
    rfl
noncomputable def sB (w : World) (os : OsState) : Shared := ((segRun treeTable pw w 11 topAnn 1 1 (sA w os) (blockOf (behindTheImports pw) topEnv topCode pos0 topB)).map fun r => r.2.1).getD (s0 w os)
theorem block_rest (w : World) (os : OsState) : (segRun treeTable pw w 11 topAnn 1 1 (sA w os) (blockOf (behindTheImports pw) topEnv topCode pos0 topB)).map (fun r => (r.1, r.2.2)) = some (.next, topCode, pos0) := by kernel_rfl
theorem block_run (w : World) (os : OsState) : segRun treeTable pw w 11 topAnn 1 1 (sA w os) (blockOf (behindTheImports pw) topEnv topCode pos0 topB) = some (.next, sB w os, topCode, pos0) := by
  have h := block_rest w os
  unfold sB
  cases e : segRun treeTable pw w 11 topAnn 1 1 (sA w os) (blockOf (behindTheImports pw) topEnv topCode pos0 topB) with
  | none => rw [e] at h; cases h
  | some r =>
    rw [e] at h
    obtain ⟨a, b, c, d⟩ := r
    cases h
    rfl
noncomputable def treeB (w : World) (os : OsState) : BT := ((sB w os).heap.objs.toList.foldl (fun (q : BT × Nat) o => (q.1.ins q.2 o, q.2 + 1)) (.nil, 0)).1
noncomputable def stB (w : World) (os : OsState) : SharedT := { tree := treeB w os, n := 15, life := { }, gens := #[], drawn := { }, toks := 187, os := os }
theorem stB_abs (w : World) (os : OsState) : (stB w os).abs = sB w os := by kernel_rfl
noncomputable abbrev W2 (a b : Bool) (w : World) : World := (w.withFollow "special-get-raises" a).withFollow "comprehension-iter-twice" b
end
end Mine
end

section
open PySem PySem.Calls PySem.Spec PyProof.Rows PySem.W
set_option Elab.async false
set_option maxRecDepth 100000
namespace Mine
section
noncomputable def vs (x : String) (t : Nat) : Value := .str (Str.ofString x) t
noncomputable def de (P : Params) (k : String) (t : Nat) (v : Value) : DictEntry := ⟨PyData.keyHash P (Str.ofString k), .str (Str.ofString k) t, v⟩
noncomputable abbrev fQ (i : Nat) : Str × Arguments × List Stmt × Scope := fnAt i
noncomputable abbrev mQ (i j : Nat) : Str × Arguments × List Stmt × Scope := methAt i j
noncomputable def oFn (d : Str × Arguments × List Stmt × Scope) (q : String) (dV pm c : Value) : Obj := { cls := .type "function", data := .func (W.fnOf d.1 (Str.ofString q) d.2.1 d.2.2.1 d.2.2.2 dV .none .none pm none c .none) }
noncomputable def rawFn (d : Str × Arguments × List Stmt × Scope) (q : String) : Obj := { cls := .none, data := .func { name := d.1, qualname := Str.ofString q, params := d.2.1, body := .stmts d.2.2.1, scope := d.2.2.2, globals := 0, closure := [], defaults := .none, kwdefaults := .none } }
noncomputable def qmapVals : List Value := (List.range 256).map fun o => .str (eqHex o) (277 + 4 * o)
/-- the heap behind the table of figures -/
noncomputable def midObjs (P : Params) : List Obj := [
  boot_o_0 P,
  boot_o_1 P,
  { cls := .none, data := .dict #[] },
  { cls := .type "dict", data := .dict #[de P "__name__" 165 (vs "cpy313.urllib.request" 194), de P "__doc__" 166 (.none), de P "__package__" 167 (.none), de P "__loader__" 168 (.builtin "__main__.__loader__#opaque"), de P "__spec__" 169 (.none), de P "__annotations__" 170 (.ref 6), de P "__builtins__" 171 (.ref 4), de P "__file__" 173 (vs "/claim/cut.py" 172), de P "__cached__" 174 (.none), de P "_wall" 193 (.ref 21), de P "HTTPPasswordMgr" 262 (.ref 67), de P "parse_http_list" 268 (.ref 76), de P "NL" 270 (vs "\n" 269), de P "_QUOPRI_MAP" 1298 (.ref 79)] 14 },
  { cls := .type "module", dict := some 0 },
  { cls := .type "module", dict := some 3 },
  { cls := .type "dict", data := .dict #[] },
  { cls := .type "tuple", data := .seq #[] },
  { cls := .none, data := .fields #[] },
  { cls := .type "code", data := .fields #[vs "<module>" 176, vs "<module>" 177, vs "/claim/cut.py" 178, .int 1 0, .int 0 0, .int 0 0, .int 0 0, .int 0 0, .ref 7, .bool false, .int 175 0, .ref 8, .none, .none, .none, .none, .int 179 0, .int 1 0, vs "/claim/cut.py" 180] },
  { cls := .type "frame", slots := #[some (.ref 9), some (.ref 3), some (.ref 3), none, some (vs "__main__" 164), none, some (.ref 0)] },
  { cls := .type "tuple", data := .seq #[] },
  { cls := .none, data := .fields #[.int 1 0, .int 0 0, .ref 20, .int 5 0, .int 0 0, .ref 27, .int 28 0, .int 0 0, .ref 75] },
  { cls := .type "code", data := .fields #[vs "<module>" 182, vs "<module>" 183, vs "/claim/cut.py" 184, .int 1 0, .int 0 0, .int 0 0, .int 0 0, .int 0 0, .ref 11, .bool false, .int 181 0, .ref 12, .none, .none, .none, .none, .int 185 0, .int 1 0, vs "/claim/cut.py" 186] },
  { cls := .type "frame", slots := #[some (.ref 13), some (.ref 3), some (.ref 3), none, some (vs "__main__" 164), none, some (.ref 0)] },
  { cls := .type "tuple", data := .seq #[] },
  { cls := .none, data := .fields #[] },
  { cls := .type "tuple", data := .seq #[vs "k" 190] },
  { cls := .type "tuple", data := .seq #[] },
  rawFn (fQ 0) "_wall",
  { cls := .type "code", data := .fields #[vs "_wall" 187, vs "_wall" 188, vs "/claim/cut.py" 189, .int 1 0, .int 1 0, .int 0 0, .int 0 0, .int 3 0, .ref 15, .bool true, .int 181 0, .ref 16, .none, .ref 17, .ref 18, .ref 19, .int 191 0, .int 1 0, vs "/claim/cut.py" 192] },
  oFn (fQ 0) "_wall" (.none) (vs "__main__" 164) (.ref 20),
  { cls := .type "tuple", data := .seq #[] },
  { cls := .type "builtin_function_or_method", data := .fields #[.builtin "type.__prepare__", .type "type"] },
  { cls := .type "dict", data := .dict #[de P "__module__" 203 (vs "cpy313.urllib.request" 194), de P "__qualname__" 205 (vs "HTTPPasswordMgr" 204), de P "__firstlineno__" 207 (.int 5 206), de P "__init__" 214 (.ref 35), de P "add_password" 225 (.ref 42), de P "find_user_password" 234 (.ref 49), de P "reduce_uri" 243 (.ref 57), de P "is_suburi" 253 (.ref 64), de P "__static_attributes__" 255 (.ref 65)] 9 },
  { cls := .type "tuple", data := .seq #[] },
  { cls := .none, data := .fields #[.int 7 0, .int 4 0, .ref 34, .int 10 0, .int 4 0, .ref 41, .int 13 0, .int 4 0, .ref 48, .int 16 0, .int 4 0, .ref 56, .int 19 0, .int 4 0, .ref 63] },
  { cls := .type "code", data := .fields #[vs "HTTPPasswordMgr" 198, vs "HTTPPasswordMgr" 199, vs "/claim/cut.py" 200, .int 5 0, .int 0 0, .int 0 0, .int 0 0, .int 0 0, .ref 25, .bool false, .int 181 0, .ref 26, .none, .none, .none, .none, .int 201 0, .int 5 0, vs "/claim/cut.py" 202] },
  { cls := .type "frame", slots := #[some (.ref 27), some (.ref 3), some (.ref 24), none, some (vs "cpy313.urllib.request" 194), none, some (.ref 0)] },
  { cls := .type "tuple", data := .seq #[] },
  { cls := .none, data := .fields #[] },
  { cls := .type "tuple", data := .seq #[vs "self" 211] },
  { cls := .type "tuple", data := .seq #[] },
  rawFn (mQ 2 0) "HTTPPasswordMgr.__init__",
  { cls := .type "code", data := .fields #[vs "__init__" 208, vs "HTTPPasswordMgr.__init__" 209, vs "/claim/cut.py" 210, .int 7 0, .int 1 0, .int 0 0, .int 0 0, .int 3 0, .ref 29, .bool true, .int 181 0, .ref 30, .none, .ref 31, .ref 32, .ref 33, .int 212 0, .int 7 0, vs "/claim/cut.py" 213] },
  oFn (mQ 2 0) "HTTPPasswordMgr.__init__" (.none) (vs "cpy313.urllib.request" 194) (.ref 34),
  { cls := .type "tuple", data := .seq #[] },
  { cls := .none, data := .fields #[] },
  { cls := .type "tuple", data := .seq #[vs "self" 218, vs "realm" 219, vs "uri" 220, vs "user" 221, vs "passwd" 222] },
  { cls := .type "tuple", data := .seq #[] },
  rawFn (mQ 2 1) "HTTPPasswordMgr.add_password",
  { cls := .type "code", data := .fields #[vs "add_password" 215, vs "HTTPPasswordMgr.add_password" 216, vs "/claim/cut.py" 217, .int 10 0, .int 5 0, .int 0 0, .int 0 0, .int 3 0, .ref 36, .bool true, .int 181 0, .ref 37, .none, .ref 38, .ref 39, .ref 40, .int 223 0, .int 10 0, vs "/claim/cut.py" 224] },
  oFn (mQ 2 1) "HTTPPasswordMgr.add_password" (.none) (vs "cpy313.urllib.request" 194) (.ref 41),
  { cls := .type "tuple", data := .seq #[] },
  { cls := .none, data := .fields #[] },
  { cls := .type "tuple", data := .seq #[vs "self" 229, vs "realm" 230, vs "authuri" 231] },
  { cls := .type "tuple", data := .seq #[] },
  rawFn (mQ 2 2) "HTTPPasswordMgr.find_user_password",
  { cls := .type "code", data := .fields #[vs "find_user_password" 226, vs "HTTPPasswordMgr.find_user_password" 227, vs "/claim/cut.py" 228, .int 13 0, .int 3 0, .int 0 0, .int 0 0, .int 3 0, .ref 43, .bool true, .int 181 0, .ref 44, .none, .ref 45, .ref 46, .ref 47, .int 232 0, .int 13 0, vs "/claim/cut.py" 233] },
  oFn (mQ 2 2) "HTTPPasswordMgr.find_user_password" (.none) (vs "cpy313.urllib.request" 194) (.ref 48),
  { cls := .type "tuple", data := .seq #[.bool true] },
  { cls := .type "tuple", data := .seq #[] },
  { cls := .none, data := .fields #[] },
  { cls := .type "tuple", data := .seq #[vs "self" 238, vs "uri" 239, vs "default_port" 240] },
  { cls := .type "tuple", data := .seq #[] },
  rawFn (mQ 2 3) "HTTPPasswordMgr.reduce_uri",
  { cls := .type "code", data := .fields #[vs "reduce_uri" 235, vs "HTTPPasswordMgr.reduce_uri" 236, vs "/claim/cut.py" 237, .int 16 0, .int 3 0, .int 0 0, .int 0 0, .int 3 0, .ref 51, .bool true, .int 181 0, .ref 52, .none, .ref 53, .ref 54, .ref 55, .int 241 0, .int 16 0, vs "/claim/cut.py" 242] },
  oFn (mQ 2 3) "HTTPPasswordMgr.reduce_uri" (.ref 50) (vs "cpy313.urllib.request" 194) (.ref 56),
  { cls := .type "tuple", data := .seq #[] },
  { cls := .none, data := .fields #[] },
  { cls := .type "tuple", data := .seq #[vs "self" 247, vs "base" 248, vs "test" 249, vs "prefix" 250] },
  { cls := .type "tuple", data := .seq #[] },
  rawFn (mQ 2 4) "HTTPPasswordMgr.is_suburi",
  { cls := .type "code", data := .fields #[vs "is_suburi" 244, vs "HTTPPasswordMgr.is_suburi" 245, vs "/claim/cut.py" 246, .int 19 0, .int 3 0, .int 0 0, .int 0 0, .int 3 0, .ref 58, .bool true, .int 181 0, .ref 59, .none, .ref 60, .ref 61, .ref 62, .int 251 0, .int 19 0, vs "/claim/cut.py" 252] },
  oFn (mQ 2 4) "HTTPPasswordMgr.is_suburi" (.none) (vs "cpy313.urllib.request" 194) (.ref 63),
  { cls := .type "tuple", data := .seq #[vs "passwd" 254] },
  { cls := .type "dict", data := .dict #[de P "__module__" 203 (vs "cpy313.urllib.request" 194), de P "__firstlineno__" 207 (.int 5 206), de P "__init__" 214 (.ref 35), de P "add_password" 225 (.ref 42), de P "find_user_password" 234 (.ref 49), de P "reduce_uri" 243 (.ref 57), de P "is_suburi" 253 (.ref 64), de P "__static_attributes__" 255 (.ref 65), de P "__dict__" 257 (.ref 68), de P "__weakref__" 259 (.ref 69), de P "__doc__" 260 (.none)] 4 },
  { cls := .type "type", data := .cls { name := (Str.ofString "HTTPPasswordMgr"), bases := [.type "object"], mro := [.ref 67, .type "object"], ns := 66, qualname := (Str.ofString "HTTPPasswordMgr") }, slots := #[none, none, some (vs "HTTPPasswordMgr" 196), some (vs "HTTPPasswordMgr" 204), some (.builtin "object.__new__"), some (.bool true)] },
  { cls := .type "getset_descriptor", data := .fields #[vs "__dict__" 256, .ref 67, .builtin "function.__dict__", .builtin "function.__dict__#set"] },
  { cls := .type "getset_descriptor", data := .fields #[vs "__weakref__" 258, .ref 67, .builtin "ExceptionGroup.__weakref__", .none] },
  { cls := .type "super", data := .fields #[.ref 67, .ref 67, .ref 67] },
  { cls := .type "builtin_function_or_method", data := .fields #[.builtin "object.__init_subclass__", .ref 67] },
  { cls := .type "tuple", data := .seq #[] },
  { cls := .none, data := .fields #[] },
  rawFn (fQ 3) "parse_http_list",
  { cls := .type "code", data := .fields #[vs "parse_http_list" 263, vs "parse_http_list" 264, vs "/claim/cut.py" 265, .int 28 0, .int 1 0, .int 0 0, .int 0 0, .int 3 0, .ref 72, .bool true, .int 181 0, .ref 73, .none, .none, .none, .ref 74, .int 266 0, .int 28 0, vs "/claim/cut.py" 267] },
  oFn (fQ 3) "parse_http_list" (.none) (vs "cpy313.urllib.request" 194) (.ref 75),
  { cls := .type "range", data := .fields #[.int 0 272, .int 256 271, .int 1 273] },
  { cls := .type "range_iterator", data := .fields #[.int 256 0, .int 0 0, .int 1 0] },
  { cls := .type "list", data := .seq qmapVals.toArray 256 },
  { cls := .type "dict", data := .dict #[] 2 },
  { cls := .type "tuple", data := .seq #[] },
  { cls := .type "StopIteration", data := .fields #[.ref 81, .none, .none, .none, .bool false, .none] }]
/-- the written part of the last heap -/
noncomputable def topK (P : Params) : Frag := [
  (2, { cls := .none, data := .dict #[] }),
  (3, { cls := .type "dict", data := .dict #[de P "__name__" 165 (vs "law_if0009_01" 1912), de P "__doc__" 166 (.none), de P "__package__" 167 (.none), de P "__loader__" 168 (.builtin "__main__.__loader__#opaque"), de P "__spec__" 169 (.none), de P "__annotations__" 170 (.ref 6), de P "__builtins__" 171 (.ref 4), de P "__file__" 173 (vs "/claim/cut.py" 172), de P "__cached__" 174 (.none), de P "_wall" 193 (.ref 21), de P "HTTPPasswordMgr" 262 (.ref 67), de P "parse_http_list" 268 (.ref 76), de P "NL" 270 (vs "\n" 269), de P "_QUOPRI_MAP" 1298 (.ref 79), de P "_QUOPRI_HEADER_MAP" 1299 (.ref 84), de P "_QUOPRI_BODY_MAP" 1300 (.ref 86), de P "ascii_lowercase" 1302 (vs "abcdefghijklmnopqrstuvwxyz" 1301), de P "ascii_uppercase" 1304 (vs "ABCDEFGHIJKLMNOPQRSTUVWXYZ" 1303), de P "ascii_letters" 1306 (vs "abcdefghijklmnopqrstuvwxyzABCDEFGHIJKLMNOPQRSTUVWXYZ" 1305), de P "digits" 1308 (vs "0123456789" 1307), de P "hexdigits" 1313 (vs "0123456789abcdefABCDEF" 1312), de P "unquote" 1819 (.ref 99), de P "quote" 1826 (.ref 106), de P "_QUOPRI_BODY_ENCODE_MAP" 1827 (.ref 108), de P "decode" 1847 (.ref 119), de P "_byteswap" 1860 (.ref 126), de P "get_parent_map" 1872 (.ref 133), de P "prepare_parent" 1881 (.ref 140), de P "_SelectorContext" 1911 (.ref 157), de P "_law_cells" 1922 (.ref 168), de P "_law_above" 1932 (.ref 175), de P "_law_figures" 1939 (.ref 182), de P "_law_letter" 1945 (.ref 187), de P "_law_context" 1951 (.ref 192), de P "_law_names" 1961 (.ref 199), de P "_law_path" 1967 (.ref 204), de P "_law_masks" 1973 (.ref 209), de P "_law_game" 1979 (.ref 214), de P "_law_grown" 1989 (.ref 221), de P "law" 1995 (.ref 226)] 42 }),
  (15, { cls := .type "tuple", data := .seq #[] }),
  (17, { cls := .type "tuple", data := .seq #[vs "k" 190] }),
  (18, { cls := .type "tuple", data := .seq #[] }),
  (20, { cls := .type "code", data := .fields #[vs "_wall" 187, vs "_wall" 188, vs "/claim/cut.py" 189, .int 1 0, .int 1 0, .int 0 0, .int 0 0, .int 3 0, .ref 15, .bool true, .int 181 0, .ref 16, .none, .ref 17, .ref 18, .ref 19, .int 191 0, .int 1 0, vs "/claim/cut.py" 192] }),
  (21, oFn (fQ 0) "_wall" (.none) (vs "__main__" 164) (.ref 20)),
  (29, { cls := .type "tuple", data := .seq #[] }),
  (31, { cls := .type "tuple", data := .seq #[vs "self" 211] }),
  (32, { cls := .type "tuple", data := .seq #[] }),
  (34, { cls := .type "code", data := .fields #[vs "__init__" 208, vs "HTTPPasswordMgr.__init__" 209, vs "/claim/cut.py" 210, .int 7 0, .int 1 0, .int 0 0, .int 0 0, .int 3 0, .ref 29, .bool true, .int 181 0, .ref 30, .none, .ref 31, .ref 32, .ref 33, .int 212 0, .int 7 0, vs "/claim/cut.py" 213] }),
  (35, oFn (mQ 2 0) "HTTPPasswordMgr.__init__" (.none) (vs "cpy313.urllib.request" 194) (.ref 34)),
  (36, { cls := .type "tuple", data := .seq #[] }),
  (38, { cls := .type "tuple", data := .seq #[vs "self" 218, vs "realm" 219, vs "uri" 220, vs "user" 221, vs "passwd" 222] }),
  (39, { cls := .type "tuple", data := .seq #[] }),
  (41, { cls := .type "code", data := .fields #[vs "add_password" 215, vs "HTTPPasswordMgr.add_password" 216, vs "/claim/cut.py" 217, .int 10 0, .int 5 0, .int 0 0, .int 0 0, .int 3 0, .ref 36, .bool true, .int 181 0, .ref 37, .none, .ref 38, .ref 39, .ref 40, .int 223 0, .int 10 0, vs "/claim/cut.py" 224] }),
  (42, oFn (mQ 2 1) "HTTPPasswordMgr.add_password" (.none) (vs "cpy313.urllib.request" 194) (.ref 41)),
  (43, { cls := .type "tuple", data := .seq #[] }),
  (45, { cls := .type "tuple", data := .seq #[vs "self" 229, vs "realm" 230, vs "authuri" 231] }),
  (46, { cls := .type "tuple", data := .seq #[] }),
  (48, { cls := .type "code", data := .fields #[vs "find_user_password" 226, vs "HTTPPasswordMgr.find_user_password" 227, vs "/claim/cut.py" 228, .int 13 0, .int 3 0, .int 0 0, .int 0 0, .int 3 0, .ref 43, .bool true, .int 181 0, .ref 44, .none, .ref 45, .ref 46, .ref 47, .int 232 0, .int 13 0, vs "/claim/cut.py" 233] }),
  (49, oFn (mQ 2 2) "HTTPPasswordMgr.find_user_password" (.none) (vs "cpy313.urllib.request" 194) (.ref 48)),
  (50, { cls := .type "tuple", data := .seq #[.bool true] }),
  (51, { cls := .type "tuple", data := .seq #[] }),
  (53, { cls := .type "tuple", data := .seq #[vs "self" 238, vs "uri" 239, vs "default_port" 240] }),
  (54, { cls := .type "tuple", data := .seq #[] }),
  (56, { cls := .type "code", data := .fields #[vs "reduce_uri" 235, vs "HTTPPasswordMgr.reduce_uri" 236, vs "/claim/cut.py" 237, .int 16 0, .int 3 0, .int 0 0, .int 0 0, .int 3 0, .ref 51, .bool true, .int 181 0, .ref 52, .none, .ref 53, .ref 54, .ref 55, .int 241 0, .int 16 0, vs "/claim/cut.py" 242] }),
  (57, oFn (mQ 2 3) "HTTPPasswordMgr.reduce_uri" (.ref 50) (vs "cpy313.urllib.request" 194) (.ref 56)),
  (58, { cls := .type "tuple", data := .seq #[] }),
  (60, { cls := .type "tuple", data := .seq #[vs "self" 247, vs "base" 248, vs "test" 249, vs "prefix" 250] }),
  (61, { cls := .type "tuple", data := .seq #[] }),
  (63, { cls := .type "code", data := .fields #[vs "is_suburi" 244, vs "HTTPPasswordMgr.is_suburi" 245, vs "/claim/cut.py" 246, .int 19 0, .int 3 0, .int 0 0, .int 0 0, .int 3 0, .ref 58, .bool true, .int 181 0, .ref 59, .none, .ref 60, .ref 61, .ref 62, .int 251 0, .int 19 0, vs "/claim/cut.py" 252] }),
  (64, oFn (mQ 2 4) "HTTPPasswordMgr.is_suburi" (.none) (vs "cpy313.urllib.request" 194) (.ref 63)),
  (65, { cls := .type "tuple", data := .seq #[vs "passwd" 254] }),
  (66, { cls := .type "dict", data := .dict #[de P "__module__" 203 (vs "cpy313.urllib.request" 194), de P "__firstlineno__" 207 (.int 5 206), de P "__init__" 214 (.ref 35), de P "add_password" 225 (.ref 42), de P "find_user_password" 234 (.ref 49), de P "reduce_uri" 243 (.ref 57), de P "is_suburi" 253 (.ref 64), de P "__static_attributes__" 255 (.ref 65), de P "__dict__" 257 (.ref 68), de P "__weakref__" 259 (.ref 69), de P "__doc__" 260 (.none)] 4 }),
  (67, { cls := .type "type", data := .cls { name := (Str.ofString "HTTPPasswordMgr"), bases := [.type "object"], mro := [.ref 67, .type "object"], ns := 66, qualname := (Str.ofString "HTTPPasswordMgr") }, slots := #[none, none, some (vs "HTTPPasswordMgr" 196), some (vs "HTTPPasswordMgr" 204), some (.builtin "object.__new__"), some (.bool true)] }),
  (68, { cls := .type "getset_descriptor", data := .fields #[vs "__dict__" 256, .ref 67, .builtin "function.__dict__", .builtin "function.__dict__#set"] }),
  (69, { cls := .type "getset_descriptor", data := .fields #[vs "__weakref__" 258, .ref 67, .builtin "ExceptionGroup.__weakref__", .none] }),
  (72, { cls := .type "tuple", data := .seq #[] }),
  (75, { cls := .type "code", data := .fields #[vs "parse_http_list" 263, vs "parse_http_list" 264, vs "/claim/cut.py" 265, .int 28 0, .int 1 0, .int 0 0, .int 0 0, .int 3 0, .ref 72, .bool true, .int 181 0, .ref 73, .none, .none, .none, .ref 74, .int 266 0, .int 28 0, vs "/claim/cut.py" 267] }),
  (76, oFn (fQ 3) "parse_http_list" (.none) (vs "cpy313.urllib.request" 194) (.ref 75)),
  (79, { cls := .type "list", data := .seq qmapVals.toArray 256 }),
  (93, { cls := .type "tuple", data := .seq #[] }),
  (95, { cls := .type "tuple", data := .seq #[vs "s" 1816] }),
  (96, { cls := .type "tuple", data := .seq #[] }),
  (98, { cls := .type "code", data := .fields #[vs "unquote" 1813, vs "unquote" 1814, vs "/claim/cut.py" 1815, .int 70 0, .int 1 0, .int 0 0, .int 0 0, .int 3 0, .ref 93, .bool true, .int 181 0, .ref 94, .none, .ref 95, .ref 96, .ref 97, .int 1817 0, .int 70 0, vs "/claim/cut.py" 1818] }),
  (99, oFn (fQ 17) "unquote" (.none) (vs "cpy313.email.quoprimime" 1314) (.ref 98)),
  (100, { cls := .type "tuple", data := .seq #[] }),
  (102, { cls := .type "tuple", data := .seq #[vs "c" 1823] }),
  (103, { cls := .type "tuple", data := .seq #[] }),
  (105, { cls := .type "code", data := .fields #[vs "quote" 1820, vs "quote" 1821, vs "/claim/cut.py" 1822, .int 72 0, .int 1 0, .int 0 0, .int 0 0, .int 3 0, .ref 100, .bool true, .int 181 0, .ref 101, .none, .ref 102, .ref 103, .ref 104, .int 1824 0, .int 72 0, vs "/claim/cut.py" 1825] }),
  (106, oFn (fQ 18) "quote" (.none) (vs "cpy313.email.quoprimime" 1314) (.ref 105)),
  (112, { cls := .type "tuple", data := .seq #[vs "\n" 269] }),
  (113, { cls := .type "tuple", data := .seq #[] }),
  (115, { cls := .type "tuple", data := .seq #[vs "encoded" 1838, vs "eol" 1839, vs "decoded" 1840, vs "line" 1841, vs "i" 1842, vs "n" 1843, vs "c" 1844] }),
  (116, { cls := .type "tuple", data := .seq #[] }),
  (118, { cls := .type "code", data := .fields #[vs "decode" 1835, vs "decode" 1836, vs "/claim/cut.py" 1837, .int 78 0, .int 2 0, .int 0 0, .int 0 0, .int 3 0, .ref 113, .bool true, .int 181 0, .ref 114, .none, .ref 115, .ref 116, .ref 117, .int 1845 0, .int 78 0, vs "/claim/cut.py" 1846] }),
  (119, oFn (fQ 22) "decode" (.ref 112) (vs "cpy313.email.quoprimime" 1314) (.ref 118)),
  (120, { cls := .type "tuple", data := .seq #[] }),
  (122, { cls := .type "tuple", data := .seq #[vs "data" 1853, vs "width" 1854, vs "swapped_data" 1855, vs "i" 1856, vs "j" 1857] }),
  (123, { cls := .type "tuple", data := .seq #[] }),
  (125, { cls := .type "code", data := .fields #[vs "_byteswap" 1850, vs "_byteswap" 1851, vs "/claim/cut.py" 1852, .int 109 0, .int 2 0, .int 0 0, .int 0 0, .int 3 0, .ref 120, .bool true, .int 181 0, .ref 121, .none, .ref 122, .ref 123, .ref 124, .int 1858 0, .int 109 0, vs "/claim/cut.py" 1859] }),
  (126, oFn (fQ 24) "_byteswap" (.none) (vs "cpy313.wave" 1848) (.ref 125)),
  (127, { cls := .type "tuple", data := .seq #[] }),
  (129, { cls := .type "tuple", data := .seq #[vs "context" 1866, vs "parent_map" 1867, vs "p" 1868, vs "e" 1869] }),
  (130, { cls := .type "tuple", data := .seq #[] }),
  (132, { cls := .type "code", data := .fields #[vs "get_parent_map" 1863, vs "get_parent_map" 1864, vs "/claim/cut.py" 1865, .int 116 0, .int 1 0, .int 0 0, .int 0 0, .int 3 0, .ref 127, .bool true, .int 181 0, .ref 128, .none, .ref 129, .ref 130, .ref 131, .int 1870 0, .int 116 0, vs "/claim/cut.py" 1871] }),
  (133, oFn (fQ 26) "get_parent_map" (.none) (vs "cpy313.xml.etree.ElementPath" 1861) (.ref 132)),
  (134, { cls := .type "tuple", data := .seq #[] }),
  (136, { cls := .type "tuple", data := .seq #[vs "next" 1876, vs "token" 1877, vs "select" 1878] }),
  (137, { cls := .type "tuple", data := .seq #[] }),
  (139, { cls := .type "code", data := .fields #[vs "prepare_parent" 1873, vs "prepare_parent" 1874, vs "/claim/cut.py" 1875, .int 124 0, .int 2 0, .int 0 0, .int 0 0, .int 3 0, .ref 134, .bool true, .int 181 0, .ref 135, .none, .ref 136, .ref 137, .ref 138, .int 1879 0, .int 124 0, vs "/claim/cut.py" 1880] }),
  (140, oFn (fQ 27) "prepare_parent" (.none) (vs "cpy313.xml.etree.ElementPath" 1861) (.ref 139)),
  (148, { cls := .type "tuple", data := .seq #[] }),
  (150, { cls := .type "tuple", data := .seq #[vs "self" 1898, vs "root" 1899] }),
  (151, { cls := .type "tuple", data := .seq #[] }),
  (153, { cls := .type "code", data := .fields #[vs "__init__" 1895, vs "_SelectorContext.__init__" 1896, vs "/claim/cut.py" 1897, .int 139 0, .int 2 0, .int 0 0, .int 0 0, .int 3 0, .ref 148, .bool true, .int 181 0, .ref 149, .none, .ref 150, .ref 151, .ref 152, .int 1900 0, .int 139 0, vs "/claim/cut.py" 1901] }),
  (154, oFn (mQ 28 1) "_SelectorContext.__init__" (.none) (vs "cpy313.xml.etree.ElementPath" 1861) (.ref 153)),
  (155, { cls := .type "tuple", data := .seq #[vs "root" 1903] }),
  (156, { cls := .type "dict", data := .dict #[de P "__module__" 1889 (vs "cpy313.xml.etree.ElementPath" 1861), de P "__firstlineno__" 1893 (.int 136 1892), de P "parent_map" 1894 (.none), de P "__init__" 1902 (.ref 154), de P "__static_attributes__" 1904 (.ref 155), de P "__dict__" 1906 (.ref 158), de P "__weakref__" 1908 (.ref 159), de P "__doc__" 1909 (.none)] 4 }),
  (157, { cls := .type "type", data := .cls { name := (Str.ofString "_SelectorContext"), bases := [.type "object"], mro := [.ref 157, .type "object"], ns := 156, qualname := (Str.ofString "_SelectorContext") }, slots := #[none, none, some (vs "_SelectorContext" 1882), some (vs "_SelectorContext" 1890), some (.builtin "object.__new__"), some (.bool true)] }),
  (158, { cls := .type "getset_descriptor", data := .fields #[vs "__dict__" 1905, .ref 157, .builtin "function.__dict__", .builtin "function.__dict__#set"] }),
  (159, { cls := .type "getset_descriptor", data := .fields #[vs "__weakref__" 1907, .ref 157, .builtin "ExceptionGroup.__weakref__", .none] }),
  (162, { cls := .type "tuple", data := .seq #[] }),
  (164, { cls := .type "tuple", data := .seq #[vs "script" 1917, vs "cells" 1918, vs "k" 1919] }),
  (165, { cls := .type "tuple", data := .seq #[] }),
  (167, { cls := .type "code", data := .fields #[vs "_law_cells" 1914, vs "_law_cells" 1915, vs "/claim/cut.py" 1916, .int 142 0, .int 1 0, .int 0 0, .int 0 0, .int 3 0, .ref 162, .bool true, .int 181 0, .ref 163, .none, .ref 164, .ref 165, .ref 166, .int 1920 0, .int 142 0, vs "/claim/cut.py" 1921] }),
  (168, oFn (fQ 30) "_law_cells" (.none) (vs "law_if0009_01" 1912) (.ref 167)),
  (169, { cls := .type "tuple", data := .seq #[] }),
  (171, { cls := .type "tuple", data := .seq #[vs "number" 1926, vs "above" 1927, vs "k" 1928, vs "place" 1929] }),
  (172, { cls := .type "tuple", data := .seq #[] }),
  (174, { cls := .type "code", data := .fields #[vs "_law_above" 1923, vs "_law_above" 1924, vs "/claim/cut.py" 1925, .int 147 0, .int 1 0, .int 0 0, .int 0 0, .int 3 0, .ref 169, .bool true, .int 181 0, .ref 170, .none, .ref 171, .ref 172, .ref 173, .int 1930 0, .int 147 0, vs "/claim/cut.py" 1931] }),
  (175, oFn (fQ 31) "_law_above" (.none) (vs "law_if0009_01" 1912) (.ref 174)),
  (176, { cls := .type "tuple", data := .seq #[] }),
  (178, { cls := .type "tuple", data := .seq #[vs "octet" 1936] }),
  (179, { cls := .type "tuple", data := .seq #[] }),
  (181, { cls := .type "code", data := .fields #[vs "_law_figures" 1933, vs "_law_figures" 1934, vs "/claim/cut.py" 1935, .int 156 0, .int 1 0, .int 0 0, .int 0 0, .int 3 0, .ref 176, .bool true, .int 181 0, .ref 177, .none, .ref 178, .ref 179, .ref 180, .int 1937 0, .int 156 0, vs "/claim/cut.py" 1938] }),
  (182, oFn (fQ 32) "_law_figures" (.none) (vs "law_if0009_01" 1912) (.ref 181)),
  (183, { cls := .type "tuple", data := .seq #[] }),
  (186, { cls := .type "code", data := .fields #[vs "_law_letter" 1940, vs "_law_letter" 1941, vs "/claim/cut.py" 1942, .int 158 0, .int 2 0, .int 0 0, .int 0 0, .int 3 0, .ref 183, .bool true, .int 181 0, .ref 184, .none, .none, .none, .ref 185, .int 1943 0, .int 158 0, vs "/claim/cut.py" 1944] }),
  (187, oFn (fQ 33) "_law_letter" (.none) (vs "law_if0009_01" 1912) (.ref 186)),
  (188, { cls := .type "tuple", data := .seq #[] }),
  (191, { cls := .type "code", data := .fields #[vs "_law_context" 1946, vs "_law_context" 1947, vs "/claim/cut.py" 1948, .int 164 0, .int 1 0, .int 0 0, .int 0 0, .int 3 0, .ref 188, .bool true, .int 181 0, .ref 189, .none, .none, .none, .ref 190, .int 1949 0, .int 164 0, vs "/claim/cut.py" 1950] }),
  (192, oFn (fQ 34) "_law_context" (.none) (vs "law_if0009_01" 1912) (.ref 191)),
  (193, { cls := .type "tuple", data := .seq #[] }),
  (195, { cls := .type "tuple", data := .seq #[vs "signs" 1955, vs "number" 1956, vs "names" 1957, vs "k" 1958] }),
  (196, { cls := .type "tuple", data := .seq #[] }),
  (198, { cls := .type "code", data := .fields #[vs "_law_names" 1952, vs "_law_names" 1953, vs "/claim/cut.py" 1954, .int 169 0, .int 2 0, .int 0 0, .int 0 0, .int 3 0, .ref 193, .bool true, .int 181 0, .ref 194, .none, .ref 195, .ref 196, .ref 197, .int 1959 0, .int 169 0, vs "/claim/cut.py" 1960] }),
  (199, oFn (fQ 35) "_law_names" (.none) (vs "law_if0009_01" 1912) (.ref 198)),
  (200, { cls := .type "tuple", data := .seq #[] }),
  (203, { cls := .type "code", data := .fields #[vs "_law_path" 1962, vs "_law_path" 1963, vs "/claim/cut.py" 1964, .int 176 0, .int 3 0, .int 0 0, .int 0 0, .int 3 0, .ref 200, .bool true, .int 181 0, .ref 201, .none, .none, .none, .ref 202, .int 1965 0, .int 176 0, vs "/claim/cut.py" 1966] }),
  (204, oFn (fQ 36) "_law_path" (.none) (vs "law_if0009_01" 1912) (.ref 203)),
  (205, { cls := .type "tuple", data := .seq #[] }),
  (208, { cls := .type "code", data := .fields #[vs "_law_masks" 1968, vs "_law_masks" 1969, vs "/claim/cut.py" 1970, .int 189 0, .int 1 0, .int 0 0, .int 0 0, .int 3 0, .ref 205, .bool true, .int 181 0, .ref 206, .none, .none, .none, .ref 207, .int 1971 0, .int 189 0, vs "/claim/cut.py" 1972] }),
  (209, oFn (fQ 37) "_law_masks" (.none) (vs "law_if0009_01" 1912) (.ref 208)),
  (210, { cls := .type "tuple", data := .seq #[] }),
  (213, { cls := .type "code", data := .fields #[vs "_law_game" 1974, vs "_law_game" 1975, vs "/claim/cut.py" 1976, .int 208 0, .int 1 0, .int 0 0, .int 0 0, .int 3 0, .ref 210, .bool true, .int 181 0, .ref 211, .none, .none, .none, .ref 212, .int 1977 0, .int 208 0, vs "/claim/cut.py" 1978] }),
  (214, oFn (fQ 38) "_law_game" (.none) (vs "law_if0009_01" 1912) (.ref 213)),
  (215, { cls := .type "tuple", data := .seq #[] }),
  (217, { cls := .type "tuple", data := .seq #[vs "above" 1983, vs "here" 1984, vs "grown" 1985, vs "k" 1986] }),
  (218, { cls := .type "tuple", data := .seq #[] }),
  (220, { cls := .type "code", data := .fields #[vs "_law_grown" 1980, vs "_law_grown" 1981, vs "/claim/cut.py" 1982, .int 214 0, .int 2 0, .int 0 0, .int 0 0, .int 3 0, .ref 215, .bool true, .int 181 0, .ref 216, .none, .ref 217, .ref 218, .ref 219, .int 1987 0, .int 214 0, vs "/claim/cut.py" 1988] }),
  (221, oFn (fQ 39) "_law_grown" (.none) (vs "law_if0009_01" 1912) (.ref 220)),
  (222, { cls := .type "tuple", data := .seq #[] }),
  (225, { cls := .type "code", data := .fields #[vs "law" 1990, vs "law" 1991, vs "/claim/cut.py" 1992, .int 219 0, .int 1 0, .int 0 0, .int 0 0, .int 3 0, .ref 222, .bool true, .int 181 0, .ref 223, .none, .none, .none, .ref 224, .int 1993 0, .int 219 0, vs "/claim/cut.py" 1994] }),
  (226, oFn (fQ 40) "law" (.none) (vs "law_if0009_01" 1912) (.ref 225))]
noncomputable def topAs : List Addr := [2, 3, 15, 17, 18, 20, 21, 29, 31, 32, 34, 35, 36, 38, 39, 41, 42, 43, 45, 46, 48, 49, 50, 51, 53, 54, 56, 57, 58, 60, 61, 63, 64, 65, 66, 67, 68, 69, 72, 75, 76, 79, 93, 95, 96, 98, 99, 100, 102, 103, 105, 106, 112, 113, 115, 116, 118, 119, 120, 122, 123, 125, 126, 127, 129, 130, 132, 133, 134, 136, 137, 139, 140, 148, 150, 151, 153, 154, 155, 156, 157, 158, 159, 162, 164, 165, 167, 168, 169, 171, 172, 174, 175, 176, 178, 179, 181, 182, 183, 186, 187, 188, 191, 192, 193, 195, 196, 198, 199, 200, 203, 204, 205, 208, 209, 210, 213, 214, 215, 217, 218, 220, 221, 222, 225, 226]

noncomputable def treeOf (l : List Obj) : BT := (l.foldl (fun (q : BT × Nat) o => (q.1.ins q.2 o, q.2 + 1)) (.nil, 0)).1
noncomputable def stM (w : World) (os : OsState) : SharedT := { tree := treeOf (midObjs w.params), n := 83, life := { }, gens := #[], drawn := { }, toks := 1299, os := os }
noncomputable abbrev posM : Pos := { line := 56, col := 0, endLine := 56, endCol := 11 }
noncomputable abbrev posE : Pos := { line := 219, col := 0, endLine := 229, endCol := 94 }
noncomputable def setAll (l : List (Nat × Nat × Nat)) (q : List Value) : List Value := l.foldl (fun q e => q.set e.1 (.str ⟨#[e.2.1]⟩ e.2.2)) q
/-- the heap at the j-th turn of the comprehension that makes the table of figures -/
noncomputable def lpObjs (P : Params) (j : Nat) : List Obj := (((midObjs P).take 77).set 3 ({ cls := .type "dict", data := .dict #[de P "__name__" 165 (vs "cpy313.urllib.request" 194), de P "__doc__" 166 (.none), de P "__package__" 167 (.none), de P "__loader__" 168 (.builtin "__main__.__loader__#opaque"), de P "__spec__" 169 (.none), de P "__annotations__" 170 (.ref 6), de P "__builtins__" 171 (.ref 4), de P "__file__" 173 (vs "/claim/cut.py" 172), de P "__cached__" 174 (.none), de P "_wall" 193 (.ref 21), de P "HTTPPasswordMgr" 262 (.ref 67), de P "parse_http_list" 268 (.ref 76), de P "NL" 270 (vs "\n" 269)] 13 })) ++
  [{ cls := .type "range", data := .fields #[.int 0 272, .int 256 271, .int 1 273] }, { cls := .type "range_iterator", data := .fields #[.int ((j : Nat) : Int) 0, .int ((256 - j : Nat) : Int) 0, .int 1 0] },
   { cls := .type "list", data := .seq (qmapVals.take j).toArray j }, { cls := .type "dict", data := .dict #[de P "c" 275 (.int ((j - 1 : Nat) : Int) (270 + 4 * j))] 1 }]
noncomputable def objs433 (P : Params) : List Obj := ((midObjs P).set 3 ({ cls := .type "dict", data := .dict #[de P "__name__" 165 (vs "cpy313.email.quoprimime" 1314), de P "__doc__" 166 (.none), de P "__package__" 167 (.none), de P "__loader__" 168 (.builtin "__main__.__loader__#opaque"), de P "__spec__" 169 (.none), de P "__annotations__" 170 (.ref 6), de P "__builtins__" 171 (.ref 4), de P "__file__" 173 (vs "/claim/cut.py" 172), de P "__cached__" 174 (.none), de P "_wall" 193 (.ref 21), de P "HTTPPasswordMgr" 262 (.ref 67), de P "parse_http_list" 268 (.ref 76), de P "NL" 270 (vs "\n" 269), de P "_QUOPRI_MAP" 1298 (.ref 79), de P "_QUOPRI_HEADER_MAP" 1299 (.ref 84), de P "_QUOPRI_BODY_MAP" 1300 (.ref 86), de P "ascii_lowercase" 1302 (vs "abcdefghijklmnopqrstuvwxyz" 1301), de P "ascii_uppercase" 1304 (vs "ABCDEFGHIJKLMNOPQRSTUVWXYZ" 1303), de P "ascii_letters" 1306 (vs "abcdefghijklmnopqrstuvwxyzABCDEFGHIJKLMNOPQRSTUVWXYZ" 1305), de P "digits" 1308 (vs "0123456789" 1307), de P "hexdigits" 1313 (vs "0123456789abcdefABCDEF" 1312), de P "c" 1324 (.int 57 1521)] 22 })) ++ [
  { cls := .type "slice", data := .fields #[.none, .none, .none] },
  { cls := .type "list", data := .seq (setAll [(33, 33, 1328), (42, 42, 1331), (43, 43, 1334), (45, 45, 1325), (47, 47, 1337), (48, 48, 1496), (49, 49, 1499), (50, 50, 1502), (51, 51, 1505), (52, 52, 1508), (53, 53, 1511), (54, 54, 1514), (55, 55, 1517), (56, 56, 1520), (57, 57, 1523), (65, 65, 1418), (66, 66, 1421), (67, 67, 1424), (68, 68, 1427), (69, 69, 1430), (70, 70, 1433), (71, 71, 1436), (72, 72, 1439), (73, 73, 1442), (74, 74, 1445), (75, 75, 1448), (76, 76, 1451), (77, 77, 1454), (78, 78, 1457), (79, 79, 1460), (80, 80, 1463), (81, 81, 1466), (82, 82, 1469), (83, 83, 1472), (84, 84, 1475), (85, 85, 1478), (86, 86, 1481), (87, 87, 1484), (88, 88, 1487), (89, 89, 1490), (90, 90, 1493), (97, 97, 1340), (98, 98, 1343), (99, 99, 1346), (100, 100, 1349), (101, 101, 1352), (102, 102, 1355), (103, 103, 1358), (104, 104, 1361), (105, 105, 1364), (106, 106, 1367), (107, 107, 1370), (108, 108, 1373), (109, 109, 1376), (110, 110, 1379), (111, 111, 1382), (112, 112, 1385), (113, 113, 1388), (114, 114, 1391), (115, 115, 1394), (116, 116, 1397), (117, 117, 1400), (118, 118, 1403), (119, 119, 1406), (120, 120, 1409), (121, 121, 1412), (122, 122, 1415)] qmapVals).toArray },
  { cls := .type "slice", data := .fields #[.none, .none, .none] },
  { cls := .type "list", data := .seq (setAll [] qmapVals).toArray },
  { cls := .type "bytes_iterator", data := .fields #[.none, .int 67 0] },
  { cls := .type "tuple", data := .seq #[] },
  { cls := .type "StopIteration", data := .fields #[.ref 88, .none, .none, .none, .bool false, .none] }]
noncomputable def objs448 (P : Params) : List Obj := ((midObjs P).set 3 ({ cls := .type "dict", data := .dict #[de P "__name__" 165 (vs "cpy313.email.quoprimime" 1314), de P "__doc__" 166 (.none), de P "__package__" 167 (.none), de P "__loader__" 168 (.builtin "__main__.__loader__#opaque"), de P "__spec__" 169 (.none), de P "__annotations__" 170 (.ref 6), de P "__builtins__" 171 (.ref 4), de P "__file__" 173 (vs "/claim/cut.py" 172), de P "__cached__" 174 (.none), de P "_wall" 193 (.ref 21), de P "HTTPPasswordMgr" 262 (.ref 67), de P "parse_http_list" 268 (.ref 76), de P "NL" 270 (vs "\n" 269), de P "_QUOPRI_MAP" 1298 (.ref 79), de P "_QUOPRI_HEADER_MAP" 1299 (.ref 84), de P "_QUOPRI_BODY_MAP" 1300 (.ref 86), de P "ascii_lowercase" 1302 (vs "abcdefghijklmnopqrstuvwxyz" 1301), de P "ascii_uppercase" 1304 (vs "ABCDEFGHIJKLMNOPQRSTUVWXYZ" 1303), de P "ascii_letters" 1306 (vs "abcdefghijklmnopqrstuvwxyzABCDEFGHIJKLMNOPQRSTUVWXYZ" 1305), de P "digits" 1308 (vs "0123456789" 1307), de P "hexdigits" 1313 (vs "0123456789abcdefABCDEF" 1312), de P "c" 1324 (.int 9 1810)] 22 })) ++ [
  { cls := .type "slice", data := .fields #[.none, .none, .none] },
  { cls := .type "list", data := .seq (setAll [(32, 95, 1524), (33, 33, 1328), (42, 42, 1331), (43, 43, 1334), (45, 45, 1325), (47, 47, 1337), (48, 48, 1496), (49, 49, 1499), (50, 50, 1502), (51, 51, 1505), (52, 52, 1508), (53, 53, 1511), (54, 54, 1514), (55, 55, 1517), (56, 56, 1520), (57, 57, 1523), (65, 65, 1418), (66, 66, 1421), (67, 67, 1424), (68, 68, 1427), (69, 69, 1430), (70, 70, 1433), (71, 71, 1436), (72, 72, 1439), (73, 73, 1442), (74, 74, 1445), (75, 75, 1448), (76, 76, 1451), (77, 77, 1454), (78, 78, 1457), (79, 79, 1460), (80, 80, 1463), (81, 81, 1466), (82, 82, 1469), (83, 83, 1472), (84, 84, 1475), (85, 85, 1478), (86, 86, 1481), (87, 87, 1484), (88, 88, 1487), (89, 89, 1490), (90, 90, 1493), (97, 97, 1340), (98, 98, 1343), (99, 99, 1346), (100, 100, 1349), (101, 101, 1352), (102, 102, 1355), (103, 103, 1358), (104, 104, 1361), (105, 105, 1364), (106, 106, 1367), (107, 107, 1370), (108, 108, 1373), (109, 109, 1376), (110, 110, 1379), (111, 111, 1382), (112, 112, 1385), (113, 113, 1388), (114, 114, 1391), (115, 115, 1394), (116, 116, 1397), (117, 117, 1400), (118, 118, 1403), (119, 119, 1406), (120, 120, 1409), (121, 121, 1412), (122, 122, 1415)] qmapVals).toArray },
  { cls := .type "slice", data := .fields #[.none, .none, .none] },
  { cls := .type "list", data := .seq (setAll [(9, 9, 1812), (32, 32, 1530), (33, 33, 1533), (34, 34, 1536), (35, 35, 1539), (36, 36, 1542), (37, 37, 1545), (38, 38, 1548), (39, 39, 1551), (40, 40, 1554), (41, 41, 1557), (42, 42, 1560), (43, 43, 1563), (44, 44, 1566), (45, 45, 1569), (46, 46, 1572), (47, 47, 1575), (48, 48, 1578), (49, 49, 1581), (50, 50, 1584), (51, 51, 1587), (52, 52, 1590), (53, 53, 1593), (54, 54, 1596), (55, 55, 1599), (56, 56, 1602), (57, 57, 1605), (58, 58, 1608), (59, 59, 1611), (60, 60, 1614), (62, 62, 1617), (63, 63, 1620), (64, 64, 1623), (65, 65, 1626), (66, 66, 1629), (67, 67, 1632), (68, 68, 1635), (69, 69, 1638), (70, 70, 1641), (71, 71, 1644), (72, 72, 1647), (73, 73, 1650), (74, 74, 1653), (75, 75, 1656), (76, 76, 1659), (77, 77, 1662), (78, 78, 1665), (79, 79, 1668), (80, 80, 1671), (81, 81, 1674), (82, 82, 1677), (83, 83, 1680), (84, 84, 1683), (85, 85, 1686), (86, 86, 1689), (87, 87, 1692), (88, 88, 1695), (89, 89, 1698), (90, 90, 1701), (91, 91, 1704), (92, 92, 1707), (93, 93, 1710), (94, 94, 1713), (95, 95, 1716), (96, 96, 1719), (97, 97, 1722), (98, 98, 1725), (99, 99, 1728), (100, 100, 1731), (101, 101, 1734), (102, 102, 1737), (103, 103, 1740), (104, 104, 1743), (105, 105, 1746), (106, 106, 1749), (107, 107, 1752), (108, 108, 1755), (109, 109, 1758), (110, 110, 1761), (111, 111, 1764), (112, 112, 1767), (113, 113, 1770), (114, 114, 1773), (115, 115, 1776), (116, 116, 1779), (117, 117, 1782), (118, 118, 1785), (119, 119, 1788), (120, 120, 1791), (121, 121, 1794), (122, 122, 1797), (123, 123, 1800), (124, 124, 1803), (125, 125, 1806), (126, 126, 1809)] qmapVals).toArray },
  { cls := .type "bytes_iterator", data := .fields #[.none, .int 67 0] },
  { cls := .type "tuple", data := .seq #[] },
  { cls := .type "StopIteration", data := .fields #[.ref 88, .none, .none, .none, .bool false, .none] },
  { cls := .type "bytes_iterator", data := .fields #[.none, .int 95 0] },
  { cls := .type "tuple", data := .seq #[] },
  { cls := .type "StopIteration", data := .fields #[.ref 91, .none, .none, .none, .bool false, .none] }]

noncomputable def stL (w : World) (os : OsState) (j : Nat) : SharedT := { tree := treeOf (lpObjs w.params j), n := 81, life := { }, gens := #[], drawn := { }, toks := 274 + 4 * j, os := os }
noncomputable def st1 (w : World) (os : OsState) : SharedT := { tree := treeOf (objs433 w.params), n := 90, life := { }, gens := #[], drawn := { }, toks := 1524, os := os }
noncomputable def st2 (w : World) (os : OsState) : SharedT := { tree := treeOf (objs448 w.params), n := 93, life := { }, gens := #[], drawn := { }, toks := 1813, os := os }
noncomputable abbrev pos1 : Pos := { line := 65, col := 9, endLine := 65, endCol := 74 }
noncomputable abbrev pos2 : Pos := { line := 68, col := 9, endLine := 68, endCol := 110 }
noncomputable abbrev body0 : List Stmt := (behindTheImports pw).take 6
noncomputable abbrev body1 : List Stmt := ((behindTheImports pw).drop 6).take 9
noncomputable abbrev body2 : List Stmt := ((behindTheImports pw).drop 15).take 2
noncomputable abbrev body3 : List Stmt := (behindTheImports pw).drop 17
/-- a stretch of the text, fast, and n steps of it -/
noncomputable def runF (l : List Stmt) (p : Pos) (n : Nat) (w : World) (s : SharedT) : Option (Flow × SharedT × Code × Pos) :=
  PySem.W.Fast.tw10110043849684766642 PySem.W.Fast.tw14364793385576792824 pw w 11 topAnn 1 n s ⟨(PySem.W.Fast.tw12563942051412417395 l topEnv).wrap doneF deadEnd id id, topCode, p, topB⟩
noncomputable def goF (l : List Stmt) (p : Pos) (n : Nat) (w : World) (s : SharedT) : Option (SharedT × Thread) :=
  PySem.W.Fast.tw10295753902157049106 PySem.W.Fast.tw14364793385576792824 pw w 11 topAnn 1 n s ⟨(PySem.W.Fast.tw12563942051412417395 l topEnv).wrap doneF deadEnd id id, topCode, p, topB⟩
noncomputable def goT (t : Thread) (n : Nat) (w : World) (s : SharedT) : Option (SharedT × Thread) := PySem.W.Fast.tw10295753902157049106 PySem.W.Fast.tw14364793385576792824 pw w 11 topAnn 1 n s t
noncomputable def runT (t : Thread) (n : Nat) (w : World) (s : SharedT) : Option (Flow × SharedT × Code × Pos) := PySem.W.Fast.tw10110043849684766642 PySem.W.Fast.tw14364793385576792824 pw w 11 topAnn 1 n s t
theorem runF_eq (l : List Stmt) (p : Pos) (n : Nat) (w : World) (s : SharedT) : runF l p n w s = segRunT treeTable pw w 11 topAnn 1 n s (PySem.W.piecesOf l topEnv topCode p topB) := by
  unfold runF
  rw [← PySem.W.Fast.te10110043849684766642, ← PySem.W.Fast.te14364793385576792824, ← PySem.W.Fast.te12563942051412417395]
theorem goF_eq (l : List Stmt) (p : Pos) (n : Nat) (w : World) (s : SharedT) : goF l p n w s = segGoT treeTable pw w 11 topAnn 1 n s (PySem.W.piecesOf l topEnv topCode p topB) := by
  unfold goF
  rw [← PySem.W.Fast.te10295753902157049106, ← PySem.W.Fast.te14364793385576792824, ← PySem.W.Fast.te12563942051412417395]
theorem goT_eq (t : Thread) (n : Nat) (w : World) (s : SharedT) : goT t n w s = segGoT treeTable pw w 11 topAnn 1 n s t := by
  unfold goT
  rw [← PySem.W.Fast.te10295753902157049106, ← PySem.W.Fast.te14364793385576792824]
theorem runT_eq (t : Thread) (n : Nat) (w : World) (s : SharedT) : runT t n w s = segRunT treeTable pw w 11 topAnn 1 n s t := by
  unfold runT
  rw [← PySem.W.Fast.te10110043849684766642, ← PySem.W.Fast.te14364793385576792824]
/-- the thread at every turn of the comprehension -/
noncomputable def thL (w : World) (os : OsState) : Thread := ((goF body0 pos0 518 (W2 false false w) (stB (W2 false false w) os)).map Prod.snd).getD tA
theorem topAs_eq (P : Params) : topAs = (topK P).map (·.1) := by kernel_rfl
end
end Mine
end

section
open PySem PySem.Calls PySem.Spec PyProof.Rows PySem.W
set_option Elab.async false
set_option maxRecDepth 100000
namespace Mine
theorem in_ff (w : World) (os : OsState) : goF body0 pos0 518 (W2 false false w) (stB (W2 false false w) os) = some (stL (W2 false false w) os 1, thL w os) := by kernel_rfl
theorem in_tf (w : World) (os : OsState) : goF body0 pos0 518 (W2 true false w) (stB (W2 true false w) os) = some (stL (W2 true false w) os 1, thL w os) := by kernel_rfl
theorem in_ft (w : World) (os : OsState) : goF body0 pos0 508 (W2 false true w) (stB (W2 false true w) os) = some (stL (W2 false true w) os 1, thL w os) := by kernel_rfl
theorem in_tt (w : World) (os : OsState) : goF body0 pos0 508 (W2 true true w) (stB (W2 true true w) os) = some (stL (W2 true true w) os 1, thL w os) := by kernel_rfl
theorem lp_1 (w v : World) (os : OsState) : goT (thL v os) 1184 w (stL w os 1) = some (stL w os 33, thL v os) := by kernel_rfl
theorem lp_33 (w v : World) (os : OsState) : goT (thL v os) 1184 w (stL w os 33) = some (stL w os 65, thL v os) := by kernel_rfl
theorem lp_65 (w v : World) (os : OsState) : goT (thL v os) 1184 w (stL w os 65) = some (stL w os 97, thL v os) := by kernel_rfl
theorem lp_97 (w v : World) (os : OsState) : goT (thL v os) 1184 w (stL w os 97) = some (stL w os 129, thL v os) := by kernel_rfl
theorem lp_129 (w v : World) (os : OsState) : goT (thL v os) 1184 w (stL w os 129) = some (stL w os 161, thL v os) := by kernel_rfl
theorem lp_161 (w v : World) (os : OsState) : goT (thL v os) 1184 w (stL w os 161) = some (stL w os 193, thL v os) := by kernel_rfl
theorem lp_193 (w v : World) (os : OsState) : goT (thL v os) 1184 w (stL w os 193) = some (stL w os 225, thL v os) := by kernel_rfl
theorem lp_end (w v : World) (os : OsState) : runT (thL v os) 1300 w (stL w os 225) = some (.next, stM w os, topCode, posM) := by kernel_rfl
end Mine
end

section
open PySem PySem.Calls PySem.Spec PyProof.Rows PySem.W
set_option Elab.async false
set_option maxRecDepth 100000
namespace Mine
section
noncomputable abbrev topQ : Program := view pw [0, 2, 3, 4, 5, 6, 7, 8, 9, 10, 11, 12, 17, 18, 19, 24, 26, 27, 28, 30, 31, 32, 33, 34, 35, 36, 37, 38, 39, 40]
noncomputable abbrev topLoose : List Str := [Str.ofString "_QUOPRI_MAP", Str.ofString "_QUOPRI_HEADER_MAP", Str.ofString "_QUOPRI_BODY_MAP", Str.ofString "ascii_letters", Str.ofString "hexdigits", Str.ofString "_QUOPRI_BODY_ENCODE_MAP", Str.ofString "decode", Str.ofString "_SelectorContext"]
noncomputable abbrev topLv : List (Str × WData) := [(Str.ofString "ascii_letters", .str "abcdefghijklmnopqrstuvwxyzABCDEFGHIJKLMNOPQRSTUVWXYZ"), (Str.ofString "hexdigits", .str "0123456789abcdefABCDEF")]
noncomputable abbrev topHook : Hook := kmHook topK topAs topAs_eq [135, 189]
noncomputable abbrev topXt : Shared → Bool := fun s => xlAt topQ topLv s && recOk (RowW.records PySem.Challenge.rw_if0009_01.row.toRowW) s
noncomputable abbrev W1 (a : Bool) (w : World) : World := w.withFollow "special-get-raises" a
/-- what is seen of the end -/
noncomputable def endSeen (w : World) (r : Flow × SharedT × Code × Pos) :=
  ((r.1, r.2.2), topHook.obs r.2.1.abs, PySem.W.Fast.tw4187177175401517315 topQ topLoose (importedModules pw.main.body) topXt true r.2.1.abs,
    staticsOk (importedModules pw.main.body) (boot_heap w.params) r.2.1.abs.heap && namesBound pw r.2.1.abs.heap && gensDone r.2.1.abs && laidKept (boot_heap w.params) r.2.1.abs.heap)
theorem a_f (w : World) (os : OsState) : runF body1 posM 3300 (W1 false w) (stM (W1 false w) os) = some (.next, st1 (W1 false w) os, topCode, pos1) := by kernel_rfl
theorem b_f (w : World) (os : OsState) : runF body2 pos1 4400 (W1 false w) (st1 (W1 false w) os) = some (.next, st2 (W1 false w) os, topCode, pos2) := by kernel_rfl
theorem end_f (w : World) (os : OsState) : (runF body3 pos2 1000 (W1 false w) (st2 (W1 false w) os)).map (endSeen (W1 false w)) = some ((.next, topCode, posE), topHook.val (W1 false w), openGood topQ topLoose, true) := by kernel_rfl
theorem a_t (w : World) (os : OsState) : runF body1 posM 3300 (W1 true w) (stM (W1 true w) os) = some (.next, st1 (W1 true w) os, topCode, pos1) := by kernel_rfl
theorem b_t (w : World) (os : OsState) : runF body2 pos1 4400 (W1 true w) (st1 (W1 true w) os) = some (.next, st2 (W1 true w) os, topCode, pos2) := by kernel_rfl
theorem end_t (w : World) (os : OsState) : (runF body3 pos2 1000 (W1 true w) (st2 (W1 true w) os)).map (endSeen (W1 true w)) = some ((.next, topCode, posE), topHook.val (W1 true w), openGood topQ topLoose, true) := by kernel_rfl
end
end Mine
end

section
open PySem PySem.Calls PySem.Spec PyProof.Rows PySem.W
set_option Elab.async false
set_option maxRecDepth 100000
namespace Mine

theorem boot_pw (w : World) : (importEnds treeTable (opening pw) w 600 (start (opening pw)).1 (start (opening pw)).2).map (fun s => (s.heap, s.gens, s.drawn, s.toks)) = some (boot_heap w.params, #[], boot_drawn, boot_toks) := by kernel_rfl
theorem fence_pw (s : Shared) : fenceModules? pw s = some s := by kernel_rfl
theorem boot_size (w : World) : ((boot_heap w.params).isNs mainGlobals && (#[] : Array GenState).size == 0, (boot_heap w.params).objs.size, (boot_heap w.params).nsMap mainGlobals "__annotations__") = (true, 11, topAnn) := by kernel_rfl
theorem fin_run (w : World) (s : Shared) : topRun treeTable pw w 11 topAnn 2 s ⟨doneF .next, topCode, posE, topB⟩ = some s := by
  cases s; kernel_rfl
theorem loop_run (w v : World) (os : OsState) : segRun treeTable pw w 11 topAnn 1 (1184 + (1184 + (1184 + (1184 + (1184 + (1184 + (1184 + 1300))))))) (stL w os 1).abs (thL v os) = some (.next, (stM w os).abs, topCode, posM) := by
  have g : ∀ {j k : Nat}, goT (thL v os) 1184 w (stL w os j) = some (stL w os k, thL v os) → segGo treeTable pw w 11 topAnn 1 1184 (stL w os j).abs (thL v os) = some ((stL w os k).abs, thL v os) := fun h => by
    rw [goT_eq] at h
    exact segGo_of h
  have e := lp_end w v os
  rw [runT_eq] at e
  exact seg_go (g (lp_1 w v os)) (seg_go (g (lp_33 w v os)) (seg_go (g (lp_65 w v os)) (seg_go (g (lp_97 w v os)) (seg_go (g (lp_129 w v os)) (seg_go (g (lp_161 w v os)) (seg_go (g (lp_193 w v os)) (segRun_of e)))))))
theorem in_run {n : Nat} {w v : World} {os : OsState} (hn : n ≤ 518) (h : goF body0 pos0 n w (stB w os) = some (stL w os 1, thL v os)) :
    ∃ n, n ≤ 10200 ∧ segRun treeTable pw w 11 topAnn 1 n (stB w os).abs (PySem.W.piecesOf body0 topEnv topCode pos0 topB) = some (.next, (stM w os).abs, topCode, posM) := by
  rw [goF_eq] at h
  exact ⟨_, by omega, seg_go (segGo_of h) (loop_run w v os)⟩
theorem mid_run (w : World) : ∀ os, ∃ n, n ≤ 10200 ∧ segRun treeTable pw w 11 topAnn 1 n (stB w os).abs (PySem.W.piecesOf body0 topEnv topCode pos0 topB) = some (.next, (stM w os).abs, topCode, posM) :=
  byRow2 "comprehension-iter-twice" (P := fun w => ∀ os, ∃ n, n ≤ 10200 ∧ segRun treeTable pw w 11 topAnn 1 n (stB w os).abs (PySem.W.piecesOf body0 topEnv topCode pos0 topB) = some (.next, (stM w os).abs, topCode, posM))
    (fun w => byRow2 "special-get-raises" (P := fun w => ∀ os, ∃ n, n ≤ 10200 ∧ segRun treeTable pw (w.withFollow "comprehension-iter-twice" false) 11 topAnn 1 n (stB (w.withFollow "comprehension-iter-twice" false) os).abs (PySem.W.piecesOf body0 topEnv topCode pos0 topB) = some (.next, (stM (w.withFollow "comprehension-iter-twice" false) os).abs, topCode, posM))
      (fun w os => in_run (Nat.le_refl _) (in_ff w os)) (fun w os => in_run (Nat.le_refl _) (in_tf w os)) w)
    (fun w => byRow2 "special-get-raises" (P := fun w => ∀ os, ∃ n, n ≤ 10200 ∧ segRun treeTable pw (w.withFollow "comprehension-iter-twice" true) 11 topAnn 1 n (stB (w.withFollow "comprehension-iter-twice" true) os).abs (PySem.W.piecesOf body0 topEnv topCode pos0 topB) = some (.next, (stM (w.withFollow "comprehension-iter-twice" true) os).abs, topCode, posM))
      (fun w os => in_run (by decide) (in_ft w os)) (fun w os => in_run (by decide) (in_tt w os)) w) w
theorem end_run (w : World) : ∀ os, runF body1 posM 3300 w (stM w os) = some (.next, st1 w os, topCode, pos1) ∧ runF body2 pos1 4400 w (st1 w os) = some (.next, st2 w os, topCode, pos2) ∧
    (runF body3 pos2 1000 w (st2 w os)).map (endSeen w) = some ((.next, topCode, posE), topHook.val w, openGood topQ topLoose, true) :=
  byRow2 "special-get-raises" (P := fun w => ∀ os, runF body1 posM 3300 w (stM w os) = some (.next, st1 w os, topCode, pos1) ∧ runF body2 pos1 4400 w (st1 w os) = some (.next, st2 w os, topCode, pos2) ∧
    (runF body3 pos2 1000 w (st2 w os)).map (endSeen w) = some ((.next, topCode, posE), topHook.val w, openGood topQ topLoose, true)) (fun w os => ⟨a_f w os, b_f w os, end_f w os⟩) (fun w os => ⟨a_t w os, b_t w os, end_t w os⟩) w
theorem end_at (w : World) (os : OsState) : ∃ st : SharedT, runF body3 pos2 1000 w (st2 w os) = some (.next, st, topCode, posE) ∧ topHook.obs st.abs = topHook.val w ∧ openSeen topQ topLoose (importedModules pw.main.body) topXt true st.abs = openGood topQ topLoose ∧
    (staticsOk (importedModules pw.main.body) (boot_heap w.params) st.abs.heap && namesBound pw st.abs.heap && gensDone st.abs && laidKept (boot_heap w.params) st.abs.heap) = true := by
  obtain ⟨⟨f, st, c, p⟩, e, h⟩ := Option.map_eq_some_iff.mp (end_run w os).2.2
  unfold endSeen at h
  obtain ⟨h1, h2⟩ := Prod.mk.inj h
  obtain ⟨h2, h3⟩ := Prod.mk.inj h2
  obtain ⟨h3, h4⟩ := Prod.mk.inj h3
  obtain ⟨h5, h6⟩ := Prod.mk.inj h1
  obtain ⟨h8, h7⟩ := Prod.mk.inj h6
  clear h6
  dsimp only at h5 h8 h7
  subst h5 h8 h7
  rw [← PySem.W.Fast.te4187177175401517315] at h3
  exact ⟨st, e, h2, h3, h4⟩
theorem parts (l : List Stmt) : l.take 6 ++ ((l.drop 6).take 9 ++ ((l.drop 15).take 2 ++ l.drop 17)) = l := by
  rw [show l.drop 17 = (l.drop 15).drop 2 by rw [List.drop_drop], List.take_append_drop, show l.drop 15 = (l.drop 6).drop 9 by rw [List.drop_drop], List.take_append_drop, List.take_append_drop]
theorem top_run (w : World) (os : OsState) {st : SharedT} (h : runF body3 pos2 1000 w (st2 w os) = some (.next, st, topCode, posE)) : ∃ n, n ≤ 19000 ∧ topRun treeTable pw w 11 topAnn n (s0 w os) (topStub pw) = some st.abs := by
  obtain ⟨n, hn, m⟩ := mid_run w os
  obtain ⟨ha, hb, -⟩ := end_run w os
  rw [runF_eq] at h ha hb
  have k := piece_app (rest := []) (segRun_of h) (piece_nil (fin_run w st.abs))
  rw [List.append_nil] at k
  have k2 := piece_app m (piece_app (segRun_of ha) (piece_app (segRun_of hb) k))
  rw [parts, stB_abs] at k2
  exact ⟨_, by omega, go_top (pre_run w os) (piece_block (block_run w os) k2)⟩
theorem topLeft : LeftO pw topQ topLoose topXt topHook.obs topHook.val 20000 := fun w => by
  obtain ⟨⟨h, gs, d, k, os⟩, hs, hv⟩ := Option.map_eq_some_iff.mp (boot_pw w)
  obtain ⟨e1, hv⟩ := Prod.mk.inj hv
  obtain ⟨e2, hv⟩ := Prod.mk.inj hv
  obtain ⟨e3, e4⟩ := Prod.mk.inj hv
  dsimp only at e1 e2 e3 e4
  subst e1 e2 e3 e4
  have m := importEnds_mono (20000 - 600) _ _ _ _ hs
  have hf : fencedOpening treeTable pw w 20000 = some (s0 w os) := by
    unfold fencedOpening
    rw [show (20000 : Nat) = 600 + (20000 - 600) from rfl, m]
    exact fence_pw _
  obtain ⟨st, hr, l2, l3, l1⟩ := end_at w os
  obtain ⟨n, hn, hrun⟩ := top_run w os hr
  have r := topRun_mono (20000 - n) _ _ _ _ hrun
  rw [show n + (20000 - n) = 20000 by omega] at r
  obtain ⟨z1, z2⟩ := Prod.mk.inj (boot_size w)
  obtain ⟨z2, z3⟩ := Prod.mk.inj z2
  have t : topFrom treeTable pw w 20000 (s0 w os) = some st.abs := by
    unfold topFrom
    show (match (boot_heap w.params).isNs mainGlobals && (#[] : Array GenState).size == 0 with
      | true => (topRun treeTable pw w (boot_heap w.params).objs.size ((boot_heap w.params).nsMap mainGlobals "__annotations__") 20000 (s0 w os) (topStub pw)).bind _
      | false => none) = _
    rw [z1, z2, z3, r]
    show (match staticsOk (importedModules pw.main.body) (boot_heap w.params) st.abs.heap && namesBound pw st.abs.heap && gensDone st.abs && laidKept (boot_heap w.params) st.abs.heap with | true => _ | false => _) = _
    rw [l1]
  unfold openEnds
  rw [hf]
  show (topFrom treeTable pw w 20000 _).map _ = _
  rw [t]
  exact congrArg some (Prod.ext l3 l2)
end Mine
end

section
open PySem PySem.Calls PySem.Spec PyProof.Rows PySem.W
set_option Elab.async false
set_option maxRecDepth 100000
namespace Mine

theorem kfacts (P : Params) : KFacts (topK P) 269 1312 where
  f_parse := ⟨_, _, _, _, _, _, _, _, rfl, rfl, rfl, rfl, rfl⟩
  f_unquote := ⟨_, _, _, _, _, _, _, _, rfl, rfl, rfl, rfl, rfl⟩
  f_quote := ⟨_, _, _, _, _, _, _, _, rfl, rfl, rfl, rfl, rfl⟩
  f_swap := ⟨_, _, _, _, _, _, _, _, rfl, rfl, rfl, rfl, rfl⟩
  f_gpm := ⟨_, _, _, _, _, _, _, _, rfl, rfl, rfl, rfl, rfl⟩
  f_pp := ⟨_, _, _, _, _, _, _, _, rfl, rfl, rfl, rfl, rfl⟩
  f_cells := ⟨_, _, _, _, _, _, _, _, rfl, rfl, rfl, rfl, rfl⟩
  f_above := ⟨_, _, _, _, _, _, _, _, rfl, rfl, rfl, rfl, rfl⟩
  f_figures := ⟨_, _, _, _, _, _, _, _, rfl, rfl, rfl, rfl, rfl⟩
  f_letter := ⟨_, _, _, _, _, _, _, _, rfl, rfl, rfl, rfl, rfl⟩
  f_context := ⟨_, _, _, _, _, _, _, _, rfl, rfl, rfl, rfl, rfl⟩
  f_names := ⟨_, _, _, _, _, _, _, _, rfl, rfl, rfl, rfl, rfl⟩
  f_path := ⟨_, _, _, _, _, _, _, _, rfl, rfl, rfl, rfl, rfl⟩
  f_masks := ⟨_, _, _, _, _, _, _, _, rfl, rfl, rfl, rfl, rfl⟩
  f_game := ⟨_, _, _, _, _, _, _, _, rfl, rfl, rfl, rfl, rfl⟩
  f_grown := ⟨_, _, _, _, _, _, _, _, rfl, rfl, rfl, rfl, rfl⟩
  f_law := ⟨_, _, _, _, _, _, _, _, rfl, rfl, rfl, rfl, rfl⟩
  f_decode := ⟨_, _, _, _, _, _, _, _, rfl, rfl, rfl, rfl, rfl⟩
  d_decode := ⟨_, _, rfl, rfl, rfl⟩
  f_mi := ⟨_, _, _, _, _, _, _, _, rfl, rfl, rfl, rfl, rfl⟩
  f_isub := ⟨_, _, _, _, _, _, _, _, rfl, rfl, rfl, rfl, rfl⟩
  f_ci := ⟨_, _, _, _, _, _, _, _, rfl, rfl, rfl, rfl, rfl⟩
  h_context := by kernel_rfl
  h_pp := by kernel_rfl
  qmap := ⟨_, _, _, rfl, rfl, rfl, by kernel_rfl⟩
  kf := { mk_m := by kernel_rfl, in_m := by kernel_rfl, ty_m := by kernel_rfl, kp_m := by kernel_rfl, sa_m := by kernel_rfl, po_m := by kernel_rfl, tk_m := by kernel_rfl, hd_m := by kernel_rfl, ga_m := by kernel_rfl, gt_m := by kernel_rfl, su_m := by kernel_rfl, ts_m := by kernel_rfl, mk_c := by kernel_rfl, in_c := by kernel_rfl, ty_c := by kernel_rfl, kp_c := by kernel_rfl, sa_c := by kernel_rfl, po_c := by kernel_rfl, tk_r := by kernel_rfl, tk_i := by kernel_rfl, tk_p := by kernel_rfl, hd_c := by kernel_rfl, hh_c := by kernel_rfl, ga_c := by kernel_rfl, gt_c := by kernel_rfl, fr_c := by kernel_rfl, fi_c := by kernel_rfl, fp_c := by kernel_rfl, sp_c := by kernel_rfl, np_c := by kernel_rfl, nr_c := by kernel_rfl }
  tabs := by kernel_rfl
  n_parse := by kernel_rfl
  n_unquote := by kernel_rfl
  n_quote := by kernel_rfl
  n_swap := by kernel_rfl
  n_gpm := by kernel_rfl
  n_pp := by kernel_rfl
  n_cells := by kernel_rfl
  n_above := by kernel_rfl
  n_figures := by kernel_rfl
  n_letter := by kernel_rfl
  n_context := by kernel_rfl
  n_names := by kernel_rfl
  n_path := by kernel_rfl
  n_masks := by kernel_rfl
  n_game := by kernel_rfl
  n_grown := by kernel_rfl
  n_decode := by kernel_rfl
  n_mgr := by kernel_rfl
  n_ctx := by kernel_rfl
  n_qmap := by kernel_rfl
  n_law := by kernel_rfl
  n_hex := by kernel_rfl
  b_min := by kernel_rfl
  b_int := by kernel_rfl
  b_bytes := by kernel_rfl
  b_bytearray := by kernel_rfl
  b_list := by kernel_rfl
  b_ord := by kernel_rfl
  b_chr := by kernel_rfl
  b_len := by kernel_rfl
  b_range := by kernel_rfl
set_option maxHeartbeats 8000000 in
theorem law_holds : PySem.Challenge.rw_if0009_01.Holds := by
  w_on
  refine holds_law (by kernel_rfl) fun said => ?_
  refine holds_guard (q := topQ) (loose := topLoose) (Xt := topXt) (XP := XL topQ topLv) (Yf := topHook.obs) (Ya := topHook.val) (YP := topHook.says) (d := { name := (fnAt 40).1, params := (fnAt 40).2.1, body := (fnAt 40).2.2.1, scope := (fnAt 40).2.2.2, pos := posE }) (kwd := []) (N := 20000)
    topLeft topHook.of topHook.keeps (fun s e => xl_of s (Bool.and_eq_true_iff.mp e).1) XL.keeps (by kernel_rfl) (by kernel_rfl) (by kernel_rfl) (fun s e => recFacts_of (Bool.and_eq_true_iff.mp e).2) (by kernel_rfl) said (by kernel_rfl) ⟨rfl, rfl, rfl, rfl, rfl, by kernel_rfl⟩ ?hw ?hc
  case hw => w_witness2
  intro w s₀ s₁ mg mb G Y fa o pm cd doc dV kV ho hd hcd hD hmg hg args vals as hpre hlay hrd hwl hlo
  have KX := km_in_of Y
  have hT8 := km_tabs_of Y
  refine Ground.open G ?_
  intro T B D TE TW
  have hfa : some (Value.ref fa) = some (Value.ref 226) := hmg.symm.trans (mg_of KX T.g (kfacts w.params).n_law)
  injection hfa with hfa
  injection hfa with hfa
  subst hfa
  clear hd hcd hD ho hmg B D TE TW
  wrow_args hpre hlay hrd hwl hlo
  exact law_end (kfacts w.params) KX T (by kernel_rfl) hT8 hg (by assumption) (by assumption) (by omega) (fun _ => rfl) (by first | rfl | wrow_post)
end Mine
end

theorem PySem.Challenge.cw_if0009_01_holds : PySem.Challenge.rw_if0009_01.Holds := by
  exact Mine.law_holds
