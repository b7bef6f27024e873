import PyProof.Rows.All
import Wide.All
import OpenK.AllK
import Wide.FinOn
import PySem.Challenge.RW_oy0107_01
open PySem PySem.W PyProof.Rows
set_option Elab.async false
set_option maxRecDepth 100000
set_option maxHeartbeats 8000000
namespace Mine
theorem said : OpenLaw.wellSaid PySem.Challenge.rw_oy0107_01 = true := by
  unfold OpenLaw.wellSaid
  repeat' with_reducible refine look_both ?_ ?_
  all_goals (try unfold OpenRow.wellSaid)
  repeat' with_reducible refine look_both ?_ ?_
  all_goals (try unfold OpenRow.partSaid)
  repeat' with_reducible refine look_both ?_ ?_
  all_goals (try unfold looksOpen)
  repeat' with_reducible refine look_both ?_ ?_
  all_goals (try rw [PySem.W.Fast.te8377067652309620493])
  all_goals (try rw [PySem.W.Fast.te8326940854005059898])
  all_goals (try rw [PySem.W.Fast.te17119622794617984870])
  all_goals (try rw [PySem.W.Fast.te17868728402115742887])
  all_goals (try rw [PySem.W.Fast.named_eq])
  all_goals decide +kernel
/-- the statements that the head keeps, by their places -/
noncomputable def keptAt : List Nat := (List.range 42).filter fun i => !(i == 0 || i == 2 || i == 3 || i == 6 || i == 31)
noncomputable def view : Program := { PySem.Challenge.pw_oy0107_01 with main := { PySem.Challenge.pw_oy0107_01.main with body := keptAt.filterMap fun i => PySem.Challenge.pw_oy0107_01.main.body[i]? } }
noncomputable abbrev loose : List Str := [Str.ofString "_initial_missing", Str.ofString "reduce", Str.ofString "_filemode_table"]
noncomputable def chr1 (n : Nat) : WData := WData.str { cps := #[n] }
noncomputable def row1 (l : List (Int × Nat)) : WData := WData.tuple (l.map fun p => WData.tuple [WData.int p.1, chr1 p.2])
noncomputable abbrev vals : List (Str × WData) := [(Str.ofString "_filemode_table", WData.tuple ([[(40960, 108), (49152, 115), (32768, 45), (24576, 98), (16384, 100), (8192, 99), (4096, 112)], [(256, 114)], [(128, 119)], [(2112, 115), (2048, 83), (64, 120)], [(32, 114)], [(16, 119)], [(1032, 115), (1024, 83), (8, 120)], [(4, 114)], [(2, 119)], [(513, 116), (512, 84), (1, 120)]].map row1))]
end Mine
local macro_rules | `(tactic| o_law) => `(tactic| refine holds_law Mine.said fun said => ?_)
local macro_rules | `(tactic| o_head $H) => `(tactic| (
  refine holds_open (q := Mine.view) (loose := Mine.loose) (Xt := fun s => xlAt Mine.view Mine.vals s && recOk (RowW.records PySem.Challenge.rw_oy0107_01.row.toRowW) s) (XP := XL Mine.view Mine.vals) (Yf := Hook.obs $H) (Ya := Hook.val $H) (YP := Hook.says $H) (N := 1900) ?hl (Hook.of $H) (Hook.keeps $H) (fun s e => xl_of s (Bool.and_eq_true_iff.mp e).1) XL.keeps (by rfl) (by rfl) (by rfl) (fun s e => recFacts_of (Bool.and_eq_true_iff.mp e).2) (by rfl) (by first | assumption | decide +kernel) (by decide +kernel) ⟨rfl, rfl, rfl, rfl, rfl, by decide +kernel⟩ ?hw ?hc
  case hl =>
    intro w
    delta openEnds fencedOpening topFrom
    rewrite [PySem.W.Fast.te10274390034422433532, PySem.W.Fast.te14364793385576792824, PySem.W.Fast.te1435165496053646825, PySem.W.Fast.te14289696077712309145, PySem.W.Fast.te14082659384304107361, PySem.W.Fast.te8920871248978507458, PySem.W.Fast.te4187177175401517315]
    kernel_rfl))
namespace Mine
open_top hd0 for PySem.Challenge.rw_oy0107_01
end Mine
section
open PySem PySem.W PyProof.Rows
set_option Elab.async false
set_option linter.unusedVariables false
namespace Mine

/-- plain data -/
inductive Dt where
  | none
  | bool (b : Bool)
  | int (i : Int)
  | str (s : Str)
  | bytes (b : Array UInt8)
  | list (xs : List Dt)
  | tuple (xs : List Dt)
  | any (v : Value)

mutual
/-- v bears d in h, none of its lists and tuples lies in own -/
inductive Rep (own : List Addr) (h : Heap) : Value → Dt → Prop
  | none : Rep own h .none .none
  | bool (b) : Rep own h (.bool b) (.bool b)
  | int (i t) : Rep own h (.int i t) (.int i)
  | str (x t) : Rep own h (.str x t) (.str x)
  | bytes (x t) : Rep own h (.bytes x t) (.bytes x)
  | any (v) : Rep own h v (.any v)
  | list {a o vs n xs} : a ∉ own → h.get? a = some o → (o.cls = .type "list" ∧ o.dict = Option.none) → o.data = .seq vs n → RepAll own h vs.toList xs → Rep own h (.ref a) (.list xs)
  | tuple {a o vs n xs} : a ∉ own → h.get? a = some o → o.cls = .type "tuple" → o.data = .seq vs n → RepAll own h vs.toList xs → Rep own h (.ref a) (.tuple xs)
inductive RepAll (own : List Addr) (h : Heap) : List Value → List Dt → Prop
  | nil : RepAll own h [] []
  | cons {v vs d ds} : Rep own h v d → RepAll own h vs ds → RepAll own h (v :: vs) (d :: ds)
end

mutual
theorem Rep.mono {own own' : List Addr} {h h' : Heap} (hk : ∀ a o vs n, a ∉ own → h.get? a = some o → o.data = .seq vs n → h'.get? a = some o ∧ a ∉ own') : ∀ {v : Value} {d : Dt}, Rep own h v d → Rep own' h' v d
  | _, _, .none => .none
  | _, _, .bool b => .bool b
  | _, _, .int i t => .int i t
  | _, _, .str x t => .str x t
  | _, _, .bytes x t => .bytes x t
  | _, _, .any v => .any v
  | _, _, .list ha e c dd r => .list (hk _ _ _ _ ha e dd).2 (hk _ _ _ _ ha e dd).1 c dd (RepAll.mono hk r)
  | _, _, .tuple ha e c dd r => .tuple (hk _ _ _ _ ha e dd).2 (hk _ _ _ _ ha e dd).1 c dd (RepAll.mono hk r)
theorem RepAll.mono {own own' : List Addr} {h h' : Heap} (hk : ∀ a o vs n, a ∉ own → h.get? a = some o → o.data = .seq vs n → h'.get? a = some o ∧ a ∉ own') : ∀ {vs : List Value} {ds : List Dt}, RepAll own h vs ds → RepAll own' h' vs ds
  | _, _, .nil => .nil
  | _, _, .cons r rs => .cons (Rep.mono hk r) (RepAll.mono hk rs)
end

theorem Rep.keeps {own : List Addr} {h h' : Heap} {v : Value} {d : Dt} (r : Rep own h v d) (hk : ∀ b o, h.get? b = some o → h'.get? b = some o) : Rep own h' v d :=
  r.mono fun _ _ _ _ ha e _ => ⟨hk _ _ e, ha⟩
theorem RepAll.keeps {own : List Addr} {h h' : Heap} {v : List Value} {d : List Dt} (r : RepAll own h v d) (hk : ∀ b o, h.get? b = some o → h'.get? b = some o) : RepAll own h' v d :=
  r.mono fun _ _ _ _ ha e _ => ⟨hk _ _ e, ha⟩

noncomputable def NotSeq (o : Obj) : Prop := ∀ vs n, o.data ≠ .seq vs n
theorem Rep.sameBut {own : List Addr} {h h' : Heap} {v : Value} {d : Dt} {a : Addr} {oa : Obj} (r : Rep own h v d) (ha : h.get? a = some oa) (hn : NotSeq oa) (hs : Heap.ExtBut a h h') : Rep own h' v d :=
  r.mono fun b o vs n hb e dd => ⟨hs b o (fun q => by subst q; rw [ha] at e; cases e; exact hn _ _ dd) e, hb⟩
theorem RepAll.sameBut {own : List Addr} {h h' : Heap} {v : List Value} {d : List Dt} {a : Addr} {oa : Obj} (r : RepAll own h v d) (ha : h.get? a = some oa) (hn : NotSeq oa) (hs : Heap.ExtBut a h h') : RepAll own h' v d :=
  r.mono fun b o vs n hb e dd => ⟨hs b o (fun q => by subst q; rw [ha] at e; cases e; exact hn _ _ dd) e, hb⟩
/-- a list of own turned: the rest stands -/
theorem Rep.ownBut {own : List Addr} {h h' : Heap} {v : Value} {d : Dt} {a : Addr} (r : Rep own h v d) (ha : a ∈ own) (hs : Heap.ExtBut a h h') : Rep own h' v d :=
  r.mono fun b o vs n hb e dd => ⟨hs b o (fun q => hb (q ▸ ha)) e, hb⟩
theorem RepAll.ownBut {own : List Addr} {h h' : Heap} {v : List Value} {d : List Dt} {a : Addr} (r : RepAll own h v d) (ha : a ∈ own) (hs : Heap.ExtBut a h h') : RepAll own h' v d :=
  r.mono fun b o vs n hb e dd => ⟨hs b o (fun q => hb (q ▸ ha)) e, hb⟩
theorem Rep.less {own own' : List Addr} {h : Heap} {v : Value} {d : Dt} (r : Rep own h v d) (hs : ∀ a ∈ own', a ∈ own) : Rep own' h v d :=
  r.mono fun b o vs n hb e dd => ⟨e, fun q => hb (hs _ q)⟩
theorem RepAll.less {own own' : List Addr} {h : Heap} {v : List Value} {d : List Dt} (r : RepAll own h v d) (hs : ∀ a ∈ own', a ∈ own) : RepAll own' h v d :=
  r.mono fun b o vs n hb e dd => ⟨e, fun q => hb (hs _ q)⟩
/-- a fresh address is laid under own -/
theorem Rep.more {own : List Addr} {h : Heap} {v : Value} {d : Dt} {a : Addr} (r : Rep own h v d) (ha : h.get? a = Option.none) : Rep (a :: own) h v d :=
  r.mono fun b o vs n hb e dd => ⟨e, fun q => by rcases List.mem_cons.mp q with q | q; · subst q; rw [ha] at e; cases e
                                                 · exact hb q⟩
theorem RepAll.more {own : List Addr} {h : Heap} {v : List Value} {d : List Dt} {a : Addr} (r : RepAll own h v d) (ha : h.get? a = Option.none) : RepAll (a :: own) h v d :=
  r.mono fun b o vs n hb e dd => ⟨e, fun q => by rcases List.mem_cons.mp q with q | q; · subst q; rw [ha] at e; cases e
                                                 · exact hb q⟩

theorem RepAll.length {own : List Addr} {h : Heap} : ∀ {vs : List Value} {ds : List Dt}, RepAll own h vs ds → vs.length = ds.length
  | _, _, .nil => rfl
  | _, _, .cons _ r => by simp [r.length]
theorem RepAll.append {own : List Addr} {h : Heap} : ∀ {vs ws : List Value} {ds es : List Dt}, RepAll own h vs ds → RepAll own h ws es → RepAll own h (vs ++ ws) (ds ++ es)
  | _, _, _, _, .nil, r => r
  | _, _, _, _, .cons a b, r => .cons a (b.append r)
theorem RepAll.get {own : List Addr} {h : Heap} : ∀ {vs : List Value} {ds : List Dt} (_ : RepAll own h vs ds) (i : Nat) (d : Dt), ds[i]? = some d → ∃ v, vs[i]? = some v ∧ Rep own h v d
  | _, _, .nil, i, d, e => by simp at e
  | _, _, .cons a b, 0, d, e => by simp at e; subst e; exact ⟨_, rfl, a⟩
  | _, _, .cons a b, i + 1, d, e => by simpa using b.get i d (by simpa using e)
theorem RepAll.get' {own : List Addr} {h : Heap} : ∀ {vs : List Value} {ds : List Dt} (_ : RepAll own h vs ds) (i : Nat) (v : Value), vs[i]? = some v → ∃ d, ds[i]? = some d ∧ Rep own h v d
  | _, _, .nil, i, d, e => by simp at e
  | _, _, .cons a b, 0, d, e => by simp at e; subst e; exact ⟨_, rfl, a⟩
  | _, _, .cons a b, i + 1, d, e => by simpa using b.get' i d (by simpa using e)
theorem RepAll.snoc {own : List Addr} {h : Heap} {vs : List Value} {ds : List Dt} {v : Value} {d : Dt} (r : RepAll own h vs ds) (q : Rep own h v d) : RepAll own h (vs ++ [v]) (ds ++ [d]) := r.append (.cons q .nil)

theorem plainL_list {h : Heap} {a : Addr} {vs : Array Value} (x : PlainL h a vs) : h.IsList a vs := let ⟨o, n, e, c, _, d⟩ := x; ⟨o, e, c, n, d⟩
/-- a list whose root may lie in own -/
noncomputable def TopR (own : List Addr) (h : Heap) (v : Value) (d : Dt) : Prop :=
  ∃ a vs xs, v = .ref a ∧ d = .list xs ∧ PlainL h a vs ∧ RepAll own h vs.toList xs
theorem Rep.top {own : List Addr} {h : Heap} {v : Value} {xs : List Dt} (r : Rep own h v (.list xs)) : TopR own h v (.list xs) := by
  cases r with
  | list ha e c dd q => exact ⟨_, _, _, rfl, rfl, ⟨_, _, e, c.1, c.2, dd⟩, q⟩

noncomputable def Alive (own : List Addr) (h : Heap) : Prop := ∀ a ∈ own, ∃ vs, h.IsList a vs
theorem Alive.keeps {own : List Addr} {h h' : Heap} (x : Alive own h) (hk : ∀ b o, h.get? b = some o → h'.get? b = some o) : Alive own h' :=
  fun a ha => let ⟨vs, o, e, r⟩ := x a ha; ⟨vs, o, hk _ _ e, r⟩
theorem Alive.fresh {own : List Addr} {h : Heap} (x : Alive own h) : h.objs.size ∉ own := fun q => by
  obtain ⟨vs, o, e, _⟩ := x _ q
  exact Nat.lt_irrefl _ (Heap.lt_size e)
theorem Alive.fresh' {own : List Addr} {h : Heap} (x : Alive own h) {a : Addr} (ha : h.get? a = none) : a ∉ own := fun q => by
  obtain ⟨vs, o, e, _⟩ := x _ q
  rw [ha] at e; cases e
theorem Alive.nil {h : Heap} : Alive [] h := fun _ q => nomatch q

/-- the flag says: the root is this list of own -/
noncomputable def RepF (own : List Addr) (h : Heap) (v : Value) : Option Addr × Dt → Prop
  | (none, d) => Rep own h v d
  | (some a, d) => v = .ref a ∧ a ∈ own ∧ TopR own h v d
theorem TopR.keeps {own : List Addr} {h h' : Heap} {v : Value} {d : Dt} (r : TopR own h v d) (hk : ∀ b o, h.get? b = some o → h'.get? b = some o) : TopR own h' v d :=
  let ⟨a, vs, xs, e1, e2, e3, q⟩ := r; ⟨a, vs, xs, e1, e2, e3.keeps hk, q.keeps hk⟩
theorem RepF.keeps {own : List Addr} {h h' : Heap} {v : Value} {e : Option Addr × Dt} (r : RepF own h v e) (hk : ∀ b o, h.get? b = some o → h'.get? b = some o) : RepF own h' v e := by
  obtain ⟨f, d⟩ := e
  cases f
  · exact Rep.keeps r hk
  · exact ⟨r.1, r.2.1, TopR.keeps r.2.2 hk⟩
theorem TopR.sameBut {own : List Addr} {h h' : Heap} {v : Value} {d : Dt} {a : Addr} {oa : Obj} (r : TopR own h v d) (ha : h.get? a = some oa) (hn : NotSeq oa) (hs : Heap.ExtBut a h h') : TopR own h' v d := by
  obtain ⟨b, vs, xs, e1, e2, ⟨o, n, e3, c, cd, dd⟩, q⟩ := r
  exact ⟨b, vs, xs, e1, e2, ⟨o, n, hs b o (fun q => by subst q; rw [ha] at e3; cases e3; exact hn _ _ dd) e3, c, cd, dd⟩, q.sameBut ha hn hs⟩
theorem RepF.sameBut {own : List Addr} {h h' : Heap} {v : Value} {e : Option Addr × Dt} {a : Addr} {oa : Obj} (r : RepF own h v e) (ha : h.get? a = some oa) (hn : NotSeq oa) (hs : Heap.ExtBut a h h') : RepF own h' v e := by
  obtain ⟨f, d⟩ := e
  cases f
  · exact Rep.sameBut r ha hn hs
  · exact ⟨r.1, r.2.1, TopR.sameBut r.2.2 ha hn hs⟩
theorem TopR.nil {own : List Addr} {h : Heap} {v : Value} {d : Dt} (r : TopR own h v d) : Rep [] h v d := by
  obtain ⟨b, vs, xs, rfl, rfl, ⟨o, n, e3, c, cd, dd⟩, q⟩ := r
  exact .list (by simp) e3 ⟨c, cd⟩ dd (q.less (by simp))
theorem RepF.nil {own : List Addr} {h : Heap} {v : Value} {e : Option Addr × Dt} (r : RepF own h v e) : Rep [] h v e.2 := by
  obtain ⟨f, d⟩ := e
  cases f
  · exact Rep.less r (by simp)
  · exact TopR.nil r.2.2

noncomputable abbrev Sig := List (Str × (Option Addr × Dt))

/-- reading a name -/
noncomputable def Named (own : List Addr) (env : Env) (h : Heap) (x : Str) (e : Option Addr × Dt) : Prop :=
  (env.kindOf x = some .local → ∃ m v, h.Ns env.locals m ∧ m x = some v ∧ RepF own h v e) ∧
  ((env.kindOf x = some .cell ∨ env.kindOf x = some .free) → ∃ c v, env.cells.lookup x = some c ∧ h.IsCell c (some v) ∧ RepF own h v e)
theorem Named.keeps {own : List Addr} {env : Env} {h h' : Heap} {x : Str} {e : Option Addr × Dt} (r : Named own env h x e) (hk : ∀ b o, h.get? b = some o → h'.get? b = some o) : Named own env h' x e :=
  ⟨fun k => let ⟨m, v, a, b, c⟩ := r.1 k; ⟨m, v, a.keeps hk, b, c.keeps hk⟩, fun k => let ⟨m, v, a, b, c⟩ := r.2 k; ⟨m, v, a, b.keeps hk, c.keeps hk⟩⟩

structure EnvOk (own : List Addr) (env : Env) (h : Heap) (σ : Sig) : Prop where
  glob : env.globals = mainGlobals
  blt : env.builtins = builtinsNs
  kind : env.scope.kind = .function
  name : ∀ x e, σ.lookup x = some e → Named own env h x e
theorem EnvOk.keeps {own : List Addr} {env : Env} {h h' : Heap} {σ : Sig} (r : EnvOk own env h σ) (hk : ∀ b o, h.get? b = some o → h'.get? b = some o) : EnvOk own env h' σ :=
  ⟨r.glob, r.blt, r.kind, fun x e q => (r.name x e q).keeps hk⟩

/-- the ground: globals, built-ins, the written part -/
structure Gd (w : World) (mg mb : Str → Option Value) (h : Heap) : Prop where
  g : h.Ns mainGlobals mg
  b : h.Ns builtinsNs mb
  bb : ∀ x : Str, x ≠ "__name__" → mb x = bootBuiltins x
  lim : h.NoLimit
  K : (hd0.heap_1 w.params).In h
  bm : ∃ bm ob, mg "__builtins__" = some (.ref bm) ∧ bm ≠ builtinsNs ∧ h.get? bm = some ob ∧ ob.cls = .type "module" ∧ ob.dict = some builtinsNs ∧ ob.data = .plain
theorem Gd.keeps {w : World} {mg mb : Str → Option Value} {h h' : Heap} (r : Gd w mg mb h) (hk : ∀ b o, h.get? b = some o → h'.get? b = some o) : Gd w mg mb h' :=
  ⟨r.g.keeps hk, r.b.keeps hk, r.bb, r.lim.keeps hk, r.K.keeps hk, let ⟨bm, ob, h1, h2, h3, r⟩ := r.bm; ⟨bm, ob, h1, h2, hk _ _ h3, r⟩⟩

/-- room for k calls more -/
structure Room (k : Nat) (A : Around) : Prop where
  handled : A.handled = none
  depth : A.depth + k < recursionLimit
  units : A.units + 8 * k + 200 < cLine
theorem Room.le {k k' : Nat} {A : Around} (r : Room k A) (h : k' ≤ k) : Room k' A := ⟨r.handled, by have := r.depth; omega, by have := r.units; omega⟩
theorem Room.in1 {k : Nat} {A : Around} (r : Room (k + 1) A) : Room k A.in1 := ⟨r.handled, by have := r.depth; show A.depth + k < _; omega, by have := r.units; show A.units + 1 + 8 * k + 200 < _; omega⟩
theorem Room.deeper {k : Nat} {A : Around} {env : Env} (r : Room (k + 1) A) : Room k (A.deeper env) := ⟨r.handled, by have := r.depth; show A.depth + 1 + k < _; omega, by have := r.units; show A.units + 3 + 8 * k + 200 < _; omega⟩

/-- all that stood stands -/
structure Kp (s s' : Shared) : Prop where
  same : ∃ h' tk, s' = { s with heap := h', toks := tk }
  heap : ∀ b o, s.heap.get? b = some o → s'.heap.get? b = some o
theorem Kp.refl (s : Shared) : Kp s s := ⟨⟨s.heap, s.toks, rfl⟩, fun _ _ e => e⟩
theorem Kp.toks (s : Shared) (t : Nat) : Kp s { s with toks := t } := ⟨⟨s.heap, t, rfl⟩, fun _ _ e => e⟩
theorem Kp.push (s : Shared) (o : Obj) : Kp s { s with heap := s.heap.push o } := ⟨⟨_, s.toks, rfl⟩, fun _ _ e => Heap.get?_push_of_some _ e⟩
theorem Kp.of (s : Shared) {h' : Heap} (tk : Nat) (hk : ∀ b o, s.heap.get? b = some o → h'.get? b = some o) : Kp s { s with heap := h', toks := tk } := ⟨⟨_, tk, rfl⟩, hk⟩
theorem Kp.trans {s s' s'' : Shared} (x : Kp s s') (y : Kp s' s'') : Kp s s'' := by
  obtain ⟨⟨h', tk, rfl⟩, r⟩ := x
  obtain ⟨⟨h'', tk', rfl⟩, r'⟩ := y
  exact ⟨⟨h'', tk', rfl⟩, fun b o e => r' b o (r b o e)⟩
theorem Kp.keeps {s s' : Shared} (x : Kp s s') : Keeps s s' := by
  obtain ⟨⟨h', tk, rfl⟩, r⟩ := x
  exact ⟨h', tk, rfl, r⟩
theorem Kp.ofKeeps {s s' : Shared} (x : Keeps s s') : Kp s s' := by
  obtain ⟨h', tk, rfl, r⟩ := x
  exact ⟨⟨h', tk, rfl⟩, r⟩

section
variable (prog : Program) (w : World) (mg mb : Str → Option Value)

/-- the expression e, in the scope sc with names σ, is d -/
noncomputable def Ev (k : Nat) (sc : Scope) (e : Expr) (σ : Sig) (d : Dt) : Prop :=
  ∀ (own : List Addr) (env : Env) (A : Around) (s : Shared) (E : Value → Shared → Prop) (Q : Value → Shared → Prop), env.scope = sc → EnvOk own env s.heap σ → Gd w mg mb s.heap → Alive own s.heap → Room k A →
    (∀ v s', Kp s s' → Rep own s'.heap v d → Q v s') → wpAny (model prog w) A (eval e env) Q E s
/-- the same, its root may lie in own -/
noncomputable def EvT (k : Nat) (sc : Scope) (e : Expr) (σ : Sig) (d : Dt) : Prop :=
  ∀ (own : List Addr) (env : Env) (A : Around) (s : Shared) (E : Value → Shared → Prop) (Q : Value → Shared → Prop), env.scope = sc → EnvOk own env s.heap σ → Gd w mg mb s.heap → Alive own s.heap → Room k A →
    (∀ v s', Kp s s' → TopR own s'.heap v d → Q v s') → wpAny (model prog w) A (eval e env) Q E s
/-- the test e comes out b -/
noncomputable def Tr (k : Nat) (sc : Scope) (e : Expr) (σ : Sig) (b : Bool) : Prop :=
  ∀ (own : List Addr) (env : Env) (A : Around) (s : Shared) (E : Value → Shared → Prop) (Q : Bool → Shared → Prop), env.scope = sc → EnvOk own env s.heap σ → Gd w mg mb s.heap → Alive own s.heap → Room k A →
    (∀ s', Kp s s' → Q b s') → wpAny (model prog w) A (isTrue e env (eval e env)) Q E s
/-- the function at a gives d for args -/
noncomputable def Fn (k : Nat) (a : Addr) (args : List Dt) (d : Dt) : Prop :=
  ∀ (own : List Addr) (A : Around) (s : Shared) (E : Value → Shared → Prop) (Q : Value → Shared → Prop) (vs : List Value), Gd w mg mb s.heap → Alive own s.heap → Room k A → RepAll own s.heap vs args →
    (∀ v s', Kp s s' → Rep own s'.heap v d → Q v s') → wpAny (model prog w) A (call (.ref a) vs) Q E s
end

end Mine
end
section
open PySem PySem.W PyProof.Rows PySem.Calls
set_option Elab.async false
set_option linter.unusedVariables false
namespace Mine
section
variable {prog : Program} {w : World} {mg mb : Str → Option Value} {k : Nat} {sc : Scope} {σ : Sig}

theorem mg_none {K : Frag} {h : Heap} {mg : Str → Option Value} {n : Str} (X : K.In h) (G : h.Ns mainGlobals mg) (e : nsIn K mainGlobals n = some none) : mg n = none := by
  obtain ⟨o, es, ep, ho, hd, _, hf⟩ := G
  unfold nsIn at e
  split at e
  · rename_i c d es' n' sl q
    have := X _ _ q
    rw [ho] at this
    cases this
    cases hd
    split at e
    · cases e
    · rename_i he
      rw [← hf]
      unfold nsFind findBy
      rw [← Array.find?_toList]
      simp [he]
  · cases e

theorem Ev.int {i : Int} {kd : Nat} {p : Pos} : Ev prog w mg mb k sc (.Constant (.int i) kd p) σ (.int i) :=
  fun own env A s E Q hs he hg ha hr h => wpAny_Constant_int (h _ _ (Kp.toks s _) (.int _ _))
theorem Ev.str {i : Str} {kd : Nat} {p : Pos} : Ev prog w mg mb k sc (.Constant (.str i) kd p) σ (.str i) :=
  fun own env A s E Q hs he hg ha hr h => wpAny_Constant_str (h _ _ (Kp.toks s _) (.str _ _))

/-- a name of the frame -/
theorem named_load {own : List Addr} {env : Env} {A : Around} {s : Shared} {E : Value → Shared → Prop} {Q : Value → Shared → Prop} {x : Str} {e : Option Addr × Dt} {kd : NameKind} (hk : env.scope.kind = .function) (hn : Named own env s.heap x e)
    (hx : env.kindOf x = some kd) (hkd : (kd == .local || kd == .cell || kd == .free) = true) (hc : (x == ("__classdict__" : Str)) = false) (h : ∀ v, RepF own s.heap v e → Q v s) : wpAny (model prog w) A (loadName env x) Q E s := by
  cases kd with
  | «local» => obtain ⟨m, v, h1, h2, h3⟩ := hn.1 hx; exact wpAny_loadName_local hk hx h1 h2 (h v h3)
  | cell => obtain ⟨c, v, h1, h2, h3⟩ := hn.2 (.inl hx); exact wpAny_loadName_cell hk hx h1 h2 (h v h3)
  | free => obtain ⟨c, v, h1, h2, h3⟩ := hn.2 (.inr hx); exact wpAny_loadName_free hk hx h1 h2 (h v h3) hc
  | _ => cases hkd

/-- the name is the frame's own -/
noncomputable def isOwn (sc : Scope) (x : Str) : Bool := (match sc.names.lookup x with | some kd => kd == .local || kd == .cell || kd == .free | none => false) && !(x == ("__classdict__" : Str)) && !(x == ("__debug__" : Str))
theorem isOwn_spec {sc : Scope} {x : Str} (h : isOwn sc x = true) : ∃ kd, sc.names.lookup x = some kd ∧ (kd == .local || kd == .cell || kd == .free) = true ∧ (x == ("__classdict__" : Str)) = false ∧ (x == ("__debug__" : Str)) = false := by
  unfold isOwn at h
  simp only [Bool.and_eq_true, Bool.not_eq_true'] at h
  cases hl : sc.names.lookup x with
  | none => rw [hl] at h; exact absurd h.1.1 (by simp)
  | some kd => rw [hl] at h; exact ⟨kd, rfl, h.1.1, h.1.2, h.2⟩

theorem Ev.name {x : Str} {p : Pos} {d : Dt} (hσ : σ.lookup x = some (none, d)) (ho : isOwn sc x = true) : Ev prog w mg mb k sc (.Name x p) σ d := by
  intro own env A s E Q hs he hg ha hr h
  obtain ⟨kd, h1, h2, h3, h4⟩ := isOwn_spec ho
  subst hs
  exact wpAny_Name (named_load he.kind (he.name _ _ hσ) h1 h2 h3 fun v r => h v s (Kp.refl s) r) h4
theorem EvT.name {x : Str} {p : Pos} {f : Option Addr} {xs : List Dt} (hσ : σ.lookup x = some (f, .list xs)) (ho : isOwn sc x = true) : EvT prog w mg mb k sc (.Name x p) σ (.list xs) := by
  intro own env A s E Q hs he hg ha hr h
  obtain ⟨kd, h1, h2, h3, h4⟩ := isOwn_spec ho
  subst hs
  refine wpAny_Name (named_load he.kind (he.name _ _ hσ) h1 h2 h3 fun v r => h v s (Kp.refl s) ?_) h4
  cases f
  · exact Rep.top r
  · exact r.2.2
theorem Ev.top {e : Expr} {xs : List Dt} (h : Ev prog w mg mb k sc e σ (.list xs)) : EvT prog w mg mb k sc e σ (.list xs) :=
  fun own env A s E Q hs he hg ha hr hQ => h own env A s E Q hs he hg ha hr fun v s' hk r => hQ v s' hk r.top

/-- the name is a global one -/
noncomputable def isGl (sc : Scope) (x : Str) : Bool := (match sc.names.lookup x with | some kd => kd == .globalImplicit | none => false) && !(x == ("__debug__" : Str))
theorem isGl_spec {sc : Scope} {x : Str} (h : isGl sc x = true) : sc.names.lookup x = some .globalImplicit ∧ (x == ("__debug__" : Str)) = false := by
  unfold isGl at h
  simp only [Bool.and_eq_true, Bool.not_eq_true'] at h
  cases hl : sc.names.lookup x with
  | none => rw [hl] at h; exact absurd h.1 (by simp)
  | some kd => rw [hl] at h; exact ⟨by rw [beq_iff_eq.mp h.1], h.2⟩

theorem glob_load {own : List Addr} {env : Env} {A : Around} {s : Shared} {E : Value → Shared → Prop} {Q : Value → Shared → Prop} {x : Str} {p : Pos} {v : Value} (he : EnvOk own env s.heap σ) (hg : Gd w mg mb s.heap) (hx : isGl env.scope x = true)
    (hm : mg x = some v) (h : Q v s) : wpAny (model prog w) A (eval (.Name x p) env) Q E s := by
  obtain ⟨h1, h2⟩ := isGl_spec hx
  exact Name_function_global he.kind h1 (loadGlobal_global (env := env) (he.glob ▸ hg.g) hm h) h2
theorem blt_load {own : List Addr} {env : Env} {A : Around} {s : Shared} {E : Value → Shared → Prop} {Q : Value → Shared → Prop} {x : Str} {p : Pos} {v : Value} (he : EnvOk own env s.heap σ) (hg : Gd w mg mb s.heap) (hx : isGl env.scope x = true)
    (hm : mg x = none) (hb : mb x = some v) (h : Q v s) : wpAny (model prog w) A (eval (.Name x p) env) Q E s := by
  obtain ⟨h1, h2⟩ := isGl_spec hx
  exact Name_function_global he.kind h1 (loadGlobal_builtin (env := env) (he.glob ▸ hg.g) hm (he.blt ▸ hg.b) hb h) h2

theorem Ev.gint {x : Str} {p : Pos} {i : Int} {t : Tok} (hm : ∀ h, Gd w mg mb h → mg x = some (.int i t)) (ho : isGl sc x = true) : Ev prog w mg mb k sc (.Name x p) σ (.int i) := by
  intro own env A s E Q hs he hg ha hr h
  subst hs
  exact glob_load he hg ho (hm _ hg) (h _ s (Kp.refl s) (.int _ _))

theorem rep_int {own : List Addr} {h : Heap} {v : Value} {i : Int} (r : Rep own h v (.int i)) : ∃ t, v = .int i t := by cases r; exact ⟨_, rfl⟩
theorem rep_bool {own : List Addr} {h : Heap} {v : Value} {b : Bool} (r : Rep own h v (.bool b)) : v = .bool b := by cases r; rfl
theorem rep_str {own : List Addr} {h : Heap} {v : Value} {i : Str} (r : Rep own h v (.str i)) : ∃ t, v = .str i t := by cases r; exact ⟨_, rfl⟩
theorem rep_bytes {own : List Addr} {h : Heap} {v : Value} {i : Array UInt8} (r : Rep own h v (.bytes i)) : ∃ t, v = .bytes i t := by cases r; exact ⟨_, rfl⟩

/-- two operands, then an operation of ints -/
theorem Ev.bin {l r : Expr} {op : Operator} {p : Pos} {a b d : Dt} (hl : Ev prog w mg mb k sc l σ a) (hr : Ev prog w mg mb k sc r σ b)
    (hop : ∀ (own : List Addr) (A : Around) (s : Shared) (E : Value → Shared → Prop) (Q : Value → Shared → Prop) (u v : Value), Gd w mg mb s.heap → Alive own s.heap → Room k A → Rep own s.heap u a → Rep own s.heap v b →
      (∀ v s', Kp s s' → Rep own s'.heap v d → Q v s') → wpAny (model prog w) A (binaryOp op u v) Q E s) : Ev prog w mg mb k sc (.BinOp l op r p) σ d := by
  intro own env A s E Q hs he hg ha hrm h
  refine wpAny_BinOp (hl own env A s E _ hs he hg ha hrm fun u s₁ k₁ r₁ => ?_)
  refine hr own env A s₁ E _ hs (he.keeps k₁.heap) (hg.keeps k₁.heap) (ha.keeps k₁.heap) hrm fun v s₂ k₂ r₂ => ?_
  exact hop own A s₂ E Q u v (hg.keeps (k₁.trans k₂).heap) (ha.keeps (k₁.trans k₂).heap) hrm (r₁.keeps k₂.heap) r₂ fun v s' k₃ r₃ => h v s' (k₁.trans (k₂.trans k₃)) r₃

theorem Ev.add {l r : Expr} {p : Pos} {a b : Int} (hl : Ev prog w mg mb k sc l σ (.int a)) (hr : Ev prog w mg mb k sc r σ (.int b)) : Ev prog w mg mb k sc (.BinOp l .Add r p) σ (.int (a + b)) :=
  hl.bin hr fun own A s E Q u v hg ha hrm r₁ r₂ h => by
    obtain ⟨t, rfl⟩ := rep_int r₁; obtain ⟨t', rfl⟩ := rep_int r₂
    exact add_int (h _ _ (Kp.toks s _) (.int _ _))
theorem Ev.sub {l r : Expr} {p : Pos} {a b : Int} (hl : Ev prog w mg mb k sc l σ (.int a)) (hr : Ev prog w mg mb k sc r σ (.int b)) : Ev prog w mg mb k sc (.BinOp l .Sub r p) σ (.int (a - b)) :=
  hl.bin hr fun own A s E Q u v hg ha hrm r₁ r₂ h => by
    obtain ⟨t, rfl⟩ := rep_int r₁; obtain ⟨t', rfl⟩ := rep_int r₂
    exact sub_int (h _ _ (Kp.toks s _) (.int _ _))
theorem Ev.mul {l r : Expr} {p : Pos} {a b : Int} (hl : Ev prog w mg mb k sc l σ (.int a)) (hr : Ev prog w mg mb k sc r σ (.int b)) (hm : IntMulOk a b) : Ev prog w mg mb k sc (.BinOp l .Mult r p) σ (.int (a * b)) :=
  hl.bin hr fun own A s E Q u v hg ha hrm r₁ r₂ h => by
    obtain ⟨t, rfl⟩ := rep_int r₁; obtain ⟨t', rfl⟩ := rep_int r₂
    exact mul_int (h _ _ (Kp.toks s _) (.int _ _)) hm
theorem Ev.mod {l r : Expr} {p : Pos} {a b : Int} (hl : Ev prog w mg mb k sc l σ (.int a)) (hr : Ev prog w mg mb k sc r σ (.int b)) (hb : b ≠ 0) : Ev prog w mg mb k sc (.BinOp l .Mod r p) σ (.int (a.fmod b)) :=
  hl.bin hr fun own A s E Q u v hg ha hrm r₁ r₂ h => by
    obtain ⟨t, rfl⟩ := rep_int r₁; obtain ⟨t', rfl⟩ := rep_int r₂
    exact mod_int' hb (h _ _ (Kp.toks s _) (.int _ _))
theorem Ev.fdiv {l r : Expr} {p : Pos} {a b : Int} (hl : Ev prog w mg mb k sc l σ (.int a)) (hr : Ev prog w mg mb k sc r σ (.int b)) (hb : b ≠ 0) (hp : Builtin.divisionGoesByPylong a b = false) : Ev prog w mg mb k sc (.BinOp l .FloorDiv r p) σ (.int (a.fdiv b)) :=
  hl.bin hr fun own A s E Q u v hg ha hrm r₁ r₂ h => by
    obtain ⟨t, rfl⟩ := rep_int r₁; obtain ⟨t', rfl⟩ := rep_int r₂
    exact floordiv_int hb (h _ _ (Kp.toks s _) (.int _ _)) (.inl hp)
theorem Ev.pow {l r : Expr} {p : Pos} {a n : Int} (hl : Ev prog w mg mb k sc l σ (.int a)) (hr : Ev prog w mg mb k sc r σ (.int n)) (hn : 0 ≤ n) (hsz : (Builtin.Int.intBits a : Int) * n ≤ 2 ^ 27) : Ev prog w mg mb k sc (.BinOp l .Pow r p) σ (.int (a ^ n.toNat)) :=
  hl.bin hr fun own A s E Q u v hg ha hrm r₁ r₂ h => by
    obtain ⟨t, rfl⟩ := rep_int r₁; obtain ⟨t', rfl⟩ := rep_int r₂
    exact pow_int hn hsz (h _ _ (Kp.toks s _) (.int _ _))
theorem Ev.band {l r : Expr} {p : Pos} {a b : Int} (hl : Ev prog w mg mb k sc l σ (.int a)) (hr : Ev prog w mg mb k sc r σ (.int b)) : Ev prog w mg mb k sc (.BinOp l .BitAnd r p) σ (.int (Builtin.bitAnd a b)) :=
  hl.bin hr fun own A s E Q u v hg ha hrm r₁ r₂ h => by
    obtain ⟨t, rfl⟩ := rep_int r₁; obtain ⟨t', rfl⟩ := rep_int r₂
    exact and_int (h _ _ (Kp.toks s _) (.int _ _))
theorem Ev.bor {l r : Expr} {p : Pos} {a b : Int} (hl : Ev prog w mg mb k sc l σ (.int a)) (hr : Ev prog w mg mb k sc r σ (.int b)) : Ev prog w mg mb k sc (.BinOp l .BitOr r p) σ (.int (Builtin.bitOr a b)) :=
  hl.bin hr fun own A s E Q u v hg ha hrm r₁ r₂ h => by
    obtain ⟨t, rfl⟩ := rep_int r₁; obtain ⟨t', rfl⟩ := rep_int r₂
    exact or_int (h _ _ (Kp.toks s _) (.int _ _))

/-- a comparison -/
noncomputable def Cmp (prog : Program) (w : World) (mg mb : Str → Option Value) (k : Nat) (sc : Scope) (l : Expr) (op : CmpOp) (r : Expr) (σ : Sig) (b : Bool) : Prop :=
  ∀ (own : List Addr) (env : Env) (A : Around) (s : Shared) (E : Value → Shared → Prop) (Q : Value → Shared → Prop), env.scope = sc → EnvOk own env s.heap σ → Gd w mg mb s.heap → Alive own s.heap → Room k A →
    (∀ s', Kp s s' → Q (.bool b) s') → wpAny (model prog w) A (eval l env) (fun u s₁ => wpAny (model prog w) A (eval r env) (fun v s₂ => wpAny (model prog w) A (compareOp op u v) Q E s₂) E s₁) E s
theorem Ev.cmp {l r : Expr} {op : CmpOp} {p : Pos} {b : Bool} (h : Cmp prog w mg mb k sc l op r σ b) (hm : behindInMarks op r = false := by with_unfolding_all rfl) : Ev prog w mg mb k sc (.Compare l [op] [r] p) σ (.bool b) :=
  fun own env A s E Q hs he hg ha hr hQ => wpAny_Compare1 (h own env A s E Q hs he hg ha hr fun s' k' => hQ _ s' k' (.bool b)) hm
theorem Tr.cmp {l r : Expr} {op : CmpOp} {p : Pos} {b : Bool} (h : Cmp prog w mg mb k sc l op r σ b) (hm : behindInMarks op r = false := by with_unfolding_all rfl) : Tr prog w mg mb k sc (.Compare l [op] [r] p) σ b :=
  fun own env A s E Q hs he hg ha hr hQ => wpAny_isTrue_Compare1 (h own env A s E _ hs he hg ha hr fun s' k' => wpAny_truthy_bool (hQ s' k')) hm
/-- a test that is a value, a bool -/
theorem Tr.val {e : Expr} {b : Bool} (h : Ev prog w mg mb k sc e σ (.bool b)) (he : ∀ env whole, isTrue e env whole = (do let v ← whole; standAt e.pos; holding [v] (truthy v)) := by intro _ _; rfl) : Tr prog w mg mb k sc e σ b :=
  fun own env A s E Q hs hn hg ha hr hQ => wpAny_isTrue_value (h own env A s E _ hs hn hg ha hr fun v s' k' r => by rw [rep_bool r]; exact wpAny_truthy_bool (hQ s' k')) (he _ _)

theorem Cmp.of {l r : Expr} {op : CmpOp} {a b : Dt} {c : Bool} (hl : Ev prog w mg mb k sc l σ a) (hr : Ev prog w mg mb k sc r σ b)
    (hop : ∀ (own : List Addr) (A : Around) (s : Shared) (E : Value → Shared → Prop) (Q : Value → Shared → Prop) (u v : Value), Gd w mg mb s.heap → Alive own s.heap → Room k A → Rep own s.heap u a → Rep own s.heap v b →
      (∀ s', Kp s s' → Q (.bool c) s') → wpAny (model prog w) A (compareOp op u v) Q E s) : Cmp prog w mg mb k sc l op r σ c := by
  intro own env A s E Q hs he hg ha hrm h
  refine hl own env A s E _ hs he hg ha hrm fun u s₁ k₁ r₁ => ?_
  refine hr own env A s₁ E _ hs (he.keeps k₁.heap) (hg.keeps k₁.heap) (ha.keeps k₁.heap) hrm fun v s₂ k₂ r₂ => ?_
  exact hop own A s₂ E Q u v (hg.keeps (k₁.trans k₂).heap) (ha.keeps (k₁.trans k₂).heap) hrm (r₁.keeps k₂.heap) r₂ fun s' k₃ => h s' (k₁.trans (k₂.trans k₃))
theorem Cmp.ofT {l r : Expr} {op : CmpOp} {a b : Dt} {c : Bool} (hl : Ev prog w mg mb k sc l σ a) (hr : EvT prog w mg mb k sc r σ b)
    (hop : ∀ (own : List Addr) (A : Around) (s : Shared) (E : Value → Shared → Prop) (Q : Value → Shared → Prop) (u v : Value), Gd w mg mb s.heap → Alive own s.heap → Room k A → Rep own s.heap u a → TopR own s.heap v b →
      (∀ s', Kp s s' → Q (.bool c) s') → wpAny (model prog w) A (compareOp op u v) Q E s) : Cmp prog w mg mb k sc l op r σ c := by
  intro own env A s E Q hs he hg ha hrm h
  refine hl own env A s E _ hs he hg ha hrm fun u s₁ k₁ r₁ => ?_
  refine hr own env A s₁ E _ hs (he.keeps k₁.heap) (hg.keeps k₁.heap) (ha.keeps k₁.heap) hrm fun v s₂ k₂ r₂ => ?_
  exact hop own A s₂ E Q u v (hg.keeps (k₁.trans k₂).heap) (ha.keeps (k₁.trans k₂).heap) hrm (r₁.keeps k₂.heap) r₂ fun s' k₃ => h s' (k₁.trans (k₂.trans k₃))
theorem Cmp.eqI {l r : Expr} {a b : Int} (hl : Ev prog w mg mb k sc l σ (.int a)) (hr : Ev prog w mg mb k sc r σ (.int b)) : Cmp prog w mg mb k sc l .Eq r σ (a == b) :=
  Cmp.of hl hr fun own A s E Q u v hg ha hrm r₁ r₂ h => by
    obtain ⟨t, rfl⟩ := rep_int r₁; obtain ⟨t', rfl⟩ := rep_int r₂
    exact eq_int (h _ (Kp.refl s))
theorem Cmp.ltI {l r : Expr} {a b : Int} (hl : Ev prog w mg mb k sc l σ (.int a)) (hr : Ev prog w mg mb k sc r σ (.int b)) : Cmp prog w mg mb k sc l .Lt r σ (decide (a < b)) :=
  Cmp.of hl hr fun own A s E Q u v hg ha hrm r₁ r₂ h => by
    obtain ⟨t, rfl⟩ := rep_int r₁; obtain ⟨t', rfl⟩ := rep_int r₂
    exact lt_int (h _ (Kp.refl s))
theorem Cmp.gtI {l r : Expr} {a b : Int} (hl : Ev prog w mg mb k sc l σ (.int a)) (hr : Ev prog w mg mb k sc r σ (.int b)) : Cmp prog w mg mb k sc l .Gt r σ (decide (a > b)) :=
  Cmp.of hl hr fun own A s E Q u v hg ha hrm r₁ r₂ h => by
    obtain ⟨t, rfl⟩ := rep_int r₁; obtain ⟨t', rfl⟩ := rep_int r₂
    exact gt_int (h _ (Kp.refl s))
theorem Cmp.geI {l r : Expr} {a b : Int} (hl : Ev prog w mg mb k sc l σ (.int a)) (hr : Ev prog w mg mb k sc r σ (.int b)) : Cmp prog w mg mb k sc l .GtE r σ (decide (a ≥ b)) :=
  Cmp.of hl hr fun own A s E Q u v hg ha hrm r₁ r₂ h => by
    obtain ⟨t, rfl⟩ := rep_int r₁; obtain ⟨t', rfl⟩ := rep_int r₂
    exact ge_int (h _ (Kp.refl s))

theorem Ev.ifExp {t b o : Expr} {p : Pos} {c : Bool} {d : Dt} (ht : Tr prog w mg mb k sc t σ c) (hb : c = true → Ev prog w mg mb k sc b σ d) (ho : c = false → Ev prog w mg mb k sc o σ d) : Ev prog w mg mb k sc (.IfExp t b o p) σ d := by
  intro own env A s E Q hs he hg ha hr h
  refine wpAny_IfExp (ht own env A s E _ hs he hg ha hr fun s' k' => ?_)
  cases c with
  | true => exact hb rfl own env A s' E Q hs (he.keeps k'.heap) (hg.keeps k'.heap) (ha.keeps k'.heap) hr fun v s'' k'' r => h v s'' (k'.trans k'') r
  | false => exact ho rfl own env A s' E Q hs (he.keeps k'.heap) (hg.keeps k'.heap) (ha.keeps k'.heap) hr fun v s'' k'' r => h v s'' (k'.trans k'') r
end
end Mine
end
section
open PySem PySem.W PyProof.Rows PySem.Calls
set_option Elab.async false
set_option linter.unusedVariables false
namespace Mine

/-- a walk over xs by the iterator at I -/
structure Src (prog : Program) (w : World) (A : Around) (I : Addr) (xs : List Dt) (St : List Addr → Nat → Heap → Prop) : Prop where
  obj : ∀ own i h, St own i h → ∃ oi fs, h.get? I = some oi ∧ oi.data = .fields fs
  frame : ∀ own i h h', St own i h → (∀ b o, h.get? b = some o → (b = I ∨ ((∃ vs n, o.data = .seq vs n) ∧ b ∉ own)) → h'.get? b = some o) → St own i h'
  more : ∀ own a i h, St own i h → h.get? a = none → St (a :: own) i h
  item : ∀ own i (s : Shared) (Q : Option Value → Shared → Prop) (E : Value → Shared → Prop) (d : Dt), xs[i]? = some d → St own i s.heap →
    (∀ v h' tk, Rep own h' v d → St own (i + 1) h' → (∀ b o, b ≠ I → s.heap.get? b = some o → h'.get? b = some o) → Q (some v) { s with heap := h', toks := tk }) → wpAny (model prog w) A (pyNext (.ref I)) Q E s
  done : ∀ own (s : Shared) (Q : Option Value → Shared → Prop) (E : Value → Shared → Prop), St own xs.length s.heap →
    (∀ h' tk, (∀ b o, b ≠ I → s.heap.get? b = some o → h'.get? b = some o) → Q none { s with heap := h', toks := tk }) → wpAny (model prog w) A (pyNext (.ref I)) Q E s
  self : ∀ own i (s : Shared) (Q : Value → Shared → Prop) (E : Value → Shared → Prop), St own i s.heap → Q (.ref I) s → wpAny (model prog w) A (pyIter (.ref I)) Q E s

section
variable {prog : Program} {w : World} {mg mb : Str → Option Value} {k : Nat} {sc : Scope} {σ : Sig}

noncomputable def listSt (I ax : Addr) (xs : List Dt) (own : List Addr) (i : Nat) (h : Heap) : Prop :=
  h.IsListIter I ax i ∧ ∃ o vs n, ax ∉ own ∧ h.get? ax = some o ∧ o.cls = .type "list" ∧ o.data = .seq vs n ∧ RepAll own h vs.toList xs
theorem src_list {A : Around} (hh : A.handled = none) {I ax : Addr} (hne : ax ≠ I) {xs : List Dt} : Src prog w A I xs (listSt I ax xs) where
  obj := fun own i h hs => let ⟨⟨oi, e1, e2, e3⟩, _⟩ := hs; ⟨oi, _, e1, e3⟩
  frame := by
    rintro own i h h' ⟨⟨oi, e1, e2, e3⟩, o, vs, n, ha, e, hc, hd, hr⟩ hk
    refine ⟨⟨oi, hk _ _ e1 (.inl rfl), e2, e3⟩, o, vs, n, ha, hk _ _ e (.inr ⟨⟨_, _, hd⟩, ha⟩), hc, hd, ?_⟩
    exact hr.mono fun b o' us m hb e' hd' => ⟨hk _ _ e' (.inr ⟨⟨_, _, hd'⟩, hb⟩), hb⟩
  more := by
    rintro own a i h ⟨h1, o, vs, n, ha, e, hc, hd, hr⟩ hn
    exact ⟨h1, o, vs, n, (fun q => by rcases List.mem_cons.mp q with q | q; · subst q; rw [hn] at e; cases e
                                      · exact ha q), e, hc, hd, hr.more hn⟩
  item := by
    rintro own i s Q E d hx ⟨h1, o, vs, n, ha, e, hc, hd, hr⟩ hQ
    obtain ⟨v, hv, rv⟩ := hr.get i d hx
    have hi : i < vs.size := by
      have := (List.getElem?_eq_some_iff.mp hv).1
      simpa using this
    refine (Walks.list hh I ax hne vs).item i s Q E hi ⟨h1, o, e, hc, n, hd⟩ fun v' h' tk hv' hst hk => ?_
    have hvv : v' = v := by
      have q : vs.toList[i]? = some v' := by simpa using hv'
      rw [hv] at q; exact (Option.some.inj q).symm
    subst hvv
    have hk' : ∀ b o, b ≠ I → s.heap.get? b = some o → h'.get? b = some o := fun b o hb e => hk b o (by simpa using hb) e
    obtain ⟨oI, eI, _, dI⟩ := h1
    have nI : NotSeq oI := fun us m q => by rw [dI] at q; cases q
    exact hQ v' h' tk (rv.sameBut eI nI fun b o hb e => hk' b o hb e) ⟨hst.1, o, vs, n, ha, hk' _ _ hne e, hc, hd, hr.sameBut eI nI fun b o hb e => hk' b o hb e⟩ hk'
  done := by
    rintro own s Q E ⟨h1, o, vs, n, ha, e, hc, hd, hr⟩ hQ
    have hl : xs.length = vs.size := by have := hr.length; simpa using this.symm
    refine (Walks.list hh I ax hne vs).done s Q E (by rw [← hl]; exact ⟨h1, o, e, hc, n, hd⟩) fun h' tk hk => ?_
    exact hQ h' tk fun b o hb e => hk b o (by simpa using hb) e
  self := by
    rintro own i s Q E ⟨h1, o, vs, n, ha, e, hc, hd, hr⟩ hQ
    exact wpAny_pyIter_listiter h1 hQ

noncomputable def eN (n : Nat) : Dt := .int (n : Int)
noncomputable def nums (n : Nat) : List Dt := (List.range n).map eN
noncomputable def rangeSt (I : Addr) (n : Nat) (_own : List Addr) (i : Nat) (h : Heap) : Prop := IsRangeIter h I (0 + (i : Nat) * 1) ((n : Int) - (i : Nat)) 1
theorem src_range {A : Around} (hh : A.handled = none) {I : Addr} {n : Nat} : Src prog w A I (nums n) (rangeSt I n) where
  obj := fun own i h hs => ⟨_, _, hs, rfl⟩
  frame := by
    intro own i h h' hs hk
    exact hk I _ hs (.inl rfl)
  more := fun _ _ _ _ hs _ => hs
  item := by
    intro own i s Q E d hx hs hQ
    obtain ⟨hi, hd⟩ := List.getElem?_eq_some_iff.mp hx
    have hi' : i < n := by simpa [nums] using hi
    refine (LCg.range_walks hh 0 n).item i s Q E hi' hs fun v h' tk hv hst hk => ?_
    obtain ⟨t, rfl⟩ := hv
    have : d = .int (i : Int) := by rw [← hd]; simp [nums, eN]
    subst this
    exact hQ _ h' tk (by rw [Int.zero_add]; exact .int _ _) hst fun b o hb e => hk b o (by simpa using hb) e
  done := by
    intro own s Q E hs hQ
    have hl : (nums n).length = n := by simp [nums]
    rw [hl] at hs
    exact (LCg.range_walks hh 0 n).done s Q E hs fun h' tk hk => hQ h' tk fun b o hb e => hk b o (by simpa using hb) e
  self := by
    intro own i s Q E hs hQ
    exact (LCg.range_walks hh 0 n).self i s Q E hs hQ

/-- e is a source of xs -/
noncomputable def Itr (prog : Program) (w : World) (mg mb : Str → Option Value) (k : Nat) (sc : Scope) (e : Expr) (σ : Sig) (xs : List Dt) : Prop :=
  ∀ (own : List Addr) (env : Env) (A : Around) (s : Shared) (E : Value → Shared → Prop) (Q : Value → Shared → Prop), env.scope = sc → EnvOk own env s.heap σ → Gd w mg mb s.heap → Alive own s.heap → Room k A →
    (∀ I St s', Kp s s' → s.heap.get? I = none → Src prog w A I xs St → St own 0 s'.heap → Q (.ref I) s') →
    wpAny (model prog w) A (eval e env) (fun x s₁ => wpAny (model prog w) A (pyIter x) Q E s₁) E s

theorem Itr.list {e : Expr} {xs : List Dt} (h : Ev prog w mg mb k sc e σ (.list xs)) : Itr prog w mg mb k sc e σ xs := by
  intro own env A s E Q hs he hg ha hr hQ
  refine h own env A s E _ hs he hg ha hr fun v s₁ k₁ r => ?_
  cases r with
  | @list a o vs n _ hna e hc hd hra =>
    refine wpAny_pyIter_list ⟨o, e, hc.1, n, hd⟩ ?_
    have hne : a ≠ s₁.heap.objs.size := Nat.ne_of_lt (Heap.lt_size e)
    have hk : ∀ b o, s₁.heap.get? b = some o → (s₁.heap.push { cls := .type "list_iterator", data := .fields #[.ref a, .int 0 0] }).get? b = some o := fun b o e => Heap.get?_push_of_some _ e
    refine hQ s₁.heap.objs.size (listSt s₁.heap.objs.size a xs) _ (k₁.trans (Kp.push _ _)) ?_  (src_list hr.handled hne)
      ⟨⟨_, Heap.get?_push_size _ rfl, rfl, rfl⟩, o, vs, n, hna, hk _ _ e, hc.1, hd, hra.keeps hk⟩
    cases q : s.heap.get? s₁.heap.objs.size with
    | none => rfl
    | some o' => exact absurd (Heap.lt_size (k₁.heap _ _ q)) (Nat.lt_irrefl _)

theorem Itr.range {arg : Expr} {n : Nat} {p pos : Pos} (h : Ev prog w mg mb k sc arg σ (.int (n : Int))) (hx : isGl sc "range" = true) (hm : ∀ h, Gd w mg mb h → mg "range" = none) (hn : n < 2 ^ 62)
    (he : ∀ env, starEach [arg] env = (false, eval arg env) :: starEach [] env := by intro _; rfl) : Itr prog w mg mb k sc (.Call (.Name "range" p) [arg] [] pos) σ (nums n) := by
  intro own env A s E Q hs hev hg ha hr hQ
  subst hs
  refine wpAny_Call_ofName (blt_load hev hg hx (hm _ hg) ((hg.bb _ (by decide)).trans boot_range) ?_)
  refine callWith_type1 (args_cons (h own env A s E _ rfl hev hg ha hr fun v s₁ k₁ r => args_nil ?_) (he env)) (he env)
  obtain ⟨t, rfl⟩ := rep_int r
  refine call_range_1 ?_
  have hsm : Builtin.Range.small 0 (n : Int) 1 = true := by
    refine small_one (by decide) (by decide) ?_ ?_ <;> omega
  refine wpAny_pyIter_range (IsRange.new ..) hsm ?_
  have fresh : ∀ (o : Obj), (s₁.heap.push o).objs.size = s₁.heap.objs.size + 1 := fun o => Heap.size_push _ _
  refine hQ _ (rangeSt _ n) _ (k₁.trans ⟨⟨_, _, rfl⟩, fun b o e => Heap.get?_push_of_some _ (Heap.get?_push_of_some _ e)⟩) ?_  (src_range hr.handled) ?_
  · cases q : s.heap.get? (s₁.heap.push { cls := .type "range", data := .fields #[.int 0 s₁.toks, .int n t, .int 1 (s₁.toks + 1)] }).objs.size with
    | none => rfl
    | some o' =>
      have := Heap.lt_size (k₁.heap _ _ q)
      rw [fresh] at this
      exact absurd this (Nat.not_lt.mpr (Nat.le_succ _))
  · show IsRangeIter _ _ _ _ _
    have : Builtin.Range.rangeSize 0 (n : Int) 1 = (n : Int) := by rw [rangeSize_nat]; omega
    rw [this]
    have := Heap.get?_push_size (s₁.heap.push { cls := .type "range", data := .fields #[.int 0 s₁.toks, .int n t, .int 1 (s₁.toks + 1)] }) (o := { cls := .type "range_iterator", data := .fields #[rawInt 0, rawInt (n : Int), rawInt 1] }) rfl
    simpa using this
end
end Mine
end
section
open PySem PySem.W PyProof.Rows PySem.Calls
set_option Elab.async false
set_option linter.unusedVariables false
namespace Mine

theorem lookup_ne {α : Type} {y n : Str} {c : α} {acc : List (Str × α)} (h : y ≠ n) : ((n, c) :: acc).lookup y = acc.lookup y := by
  have hb : (y == n) = false := by simpa using h
  simp only [List.lookup_cons, hb]
/-- the cells that a closure takes out of env -/
noncomputable def cloGo (env : Env) : List (Str × NameKind) → List (Str × Addr) → List (Str × Addr)
  | [], acc => acc
  | (n, kd) :: r, acc => cloGo env r (if kd == .free then (match env.cells.lookup n with | some c => (n, c) :: acc | none => acc) else acc)
theorem closure_go (env : Env) (f : Str × NameKind → List (Str × Addr) → Sem (ForInStep (List (Str × Addr))))
    (hf : ∀ n kd cs, f (n, kd) cs = if kd == .free then (do let a ← cellOf env n; pure (.yield ((n, a) :: cs))) else pure (.yield cs)) :
    ∀ (names : List (Str × NameKind)) (acc : List (Str × Addr)), (∀ n, (n, NameKind.free) ∈ names → (env.cells.lookup n).isSome = true) → forIn names acc f = (pure (cloGo env names acc) : Sem _)
  | [], acc, _ => by rw [List.forIn_nil]; rfl
  | (n, kd) :: r, acc, h => by
    rw [List.forIn_cons, hf]
    have hr : ∀ n, (n, NameKind.free) ∈ r → (env.cells.lookup n).isSome = true := fun n hn => h n (.tail _ hn)
    by_cases hk : kd = .free
    · subst hk
      obtain ⟨c, hc⟩ := Option.isSome_iff_exists.mp (h n (.head _))
      have e : cellOf env n = pure c := by unfold cellOf; rw [hc]
      simp only [beq_self_eq_true, if_true, e, pure_bind]
      rw [closure_go env f hf r _ hr]
      simp [cloGo, hc]
    · have hb : (kd == NameKind.free) = false := by simpa using hk
      simp only [hb, Bool.false_eq_true, if_false, pure_bind]
      rw [closure_go env f hf r _ hr]
      simp [cloGo, hb]
theorem closure_of {scope : Scope} {env : Env} (h : ∀ n, (n, NameKind.free) ∈ scope.names → (env.cells.lookup n).isSome = true) : closureFor scope env = pure (cloGo env scope.names []) := by
  unfold closureFor
  simp only []
  rw [closure_go env _ (fun n kd cs => by by_cases hk : kd = .free <;> simp [hk]) scope.names [] h]
  rfl
/-- what is looked up in a closure -/
theorem cloGo_lookup (env : Env) (y : Str) : ∀ (names : List (Str × NameKind)) (acc : List (Str × Addr)), ((y, NameKind.free) ∈ names ∧ (env.cells.lookup y).isSome = true ∨ acc.lookup y = env.cells.lookup y) → (cloGo env names acc).lookup y = env.cells.lookup y
  | [], acc, h => by
    rcases h with h | h
    · cases h.1
    · exact h
  | (n, kd) :: r, acc, h => by
    unfold cloGo
    refine cloGo_lookup env y r _ ?_
    by_cases hy : (y, NameKind.free) ∈ r ∧ (env.cells.lookup y).isSome = true
    · exact .inl hy
    · refine .inr ?_
      by_cases hk : kd = .free
      · subst hk
        simp only [beq_self_eq_true, if_true]
        by_cases hn : y = n
        · subst hn
          cases hc : env.cells.lookup y with
          | none =>
            simp only
            rcases h with h | h
            · rw [hc] at h; cases h.2
            · rw [h, hc]
          | some c => simp
        · have e : (match env.cells.lookup n with | some c => (n, c) :: acc | none => acc).lookup y = acc.lookup y := by
            cases hc : env.cells.lookup n with
            | none => rfl
            | some c => have hb : (y == n) = false := by simpa using hn
                        simp only [List.lookup_cons, hb]
          rw [e]
          rcases h with h | h
          · rcases List.mem_cons.mp h.1 with q | q
            · exact absurd (congrArg Prod.fst q) hn
            · exact absurd ⟨q, h.2⟩ hy
          · exact h
      · have hb : (kd == NameKind.free) = false := by simpa using hk
        simp only [hb, Bool.false_eq_true, if_false]
        rcases h with h | h
        · rcases List.mem_cons.mp h.1 with q | q
          · exact absurd (congrArg Prod.snd q).symm hk
          · exact absurd ⟨q, h.2⟩ hy
        · exact h

/-- cells laid for one name alone -/
theorem cellsFrom_one (x : Str) : ∀ (names : List (Str × NameKind)) (h : Heap) (acc : List (Str × Addr)), (∀ n, (n, NameKind.cell) ∈ names → n = x) →
    (∀ y, y ≠ x → (cellsFrom h.objs.size names acc).lookup y = acc.lookup y) ∧
    ((x, NameKind.cell) ∈ names ∨ (∃ c, acc.lookup x = some c ∧ h.IsCell c none ∧ True) → ∃ c, (cellsFrom h.objs.size names acc).lookup x = some c ∧ (pushCells h names).IsCell c none ∧ ((∃ c', acc.lookup x = some c' ∧ c = c') ∨ h.objs.size ≤ c))
  | [], h, acc, _ => ⟨fun _ _ => rfl, fun q => by
      rcases q with q | ⟨c, q1, q2, _⟩
      · cases q
      · exact ⟨c, q1, q2, .inl ⟨c, q1, rfl⟩⟩⟩
  | (n, kd) :: r, h, acc, hx => by
    have hr : ∀ n, (n, NameKind.cell) ∈ r → n = x := fun n hn => hx n (.tail _ hn)
    unfold cellsFrom pushCells
    by_cases hk : kd = .cell
    · subst hk
      have hn : n = x := hx n (.head _)
      subst hn
      simp only [beq_self_eq_true, if_true]
      have ih := cellsFrom_one n r (h.push { cls := .type "cell", data := .cell none }) ((n, h.objs.size) :: acc) hr
      rw [Heap.size_push] at ih
      refine ⟨fun y hy => (ih.1 y hy).trans (lookup_ne hy), fun _ => ?_⟩
      obtain ⟨c, h1, h2, h3⟩ := ih.2 (.inr ⟨h.objs.size, by simp, ⟨_, Heap.get?_push_size _ rfl, rfl⟩, trivial⟩)
      refine ⟨c, h1, h2, .inr ?_⟩
      rcases h3 with ⟨c', q, rfl⟩ | h3
      · rw [List.lookup_cons] at q; simp at q; rw [q]; exact Nat.le_refl _
      · omega
    · have hb : (kd == NameKind.cell) = false := by simpa using hk
      simp only [hb, Bool.false_eq_true, if_false]
      have ih := cellsFrom_one x r h acc hr
      refine ⟨ih.1, fun q => ih.2 ?_⟩
      rcases q with q | q
      · rcases List.mem_cons.mp q with q | q
        · exact absurd (congrArg Prod.snd q).symm hk
        · exact .inl q
      · exact .inr q

/-- a comprehension's scope under the scope around -/
noncomputable def relS (scope sc : Scope) : Scope :=
  { scope with names := scope.names.map fun (n, k) => if (k == .free && sc.kind == .function && sc.names.lookup n == some .cell) then (n, .cell) else (n, k) }
theorem relS_eq (scope : Scope) (env : Env) : relabel scope env = relS scope env.scope := rfl

/-- a comprehension over x that may be entered -/
noncomputable def compOk (sc scope : Scope) (x : Str) (σ : Sig) : Bool :=
  scope.kind == .function && ((scope.names.lookup x == some .local && (relS scope sc).names.lookup x == some .local && scope.names.all fun (n, kd) => kd != .cell) || (scope.names.lookup x == some .cell && (relS scope sc).names.lookup x == some .cell && scope.names.contains (x, .cell) && scope.names.all fun (n, kd) => kd != .cell || n == x)) &&
  (scope.names.all fun (n, kd) => match kd with
    | .local => (n == x || n == (".0" : Str)) && scope.names.lookup n == some .local
    | .cell => n == x
    | .free => n != x && (σ.lookup n).isSome && (sc.names.lookup n == some .cell || sc.names.lookup n == some .free)
    | _ => true) && (σ.lookup (".0" : Str)).isNone && x != (".0" : Str)

theorem compEnv_of {prog : Program} {w : World} {A : Around} {E : Value → Shared → Prop} {s : Shared} {scope : Scope} {globals : Addr} {cl : List (Str × Addr)} {qual : Str} {env : Env} {Q : Env → Shared → Prop}
    (h : Q (newEnv scope s.heap.objs.size globals (cellsFrom (s.heap.objs.size + 1) scope.names cl) qual none .none (some env) builtinsNs) { s with heap := pushCells (s.heap.push { cls := .type "dict", data := .dict #[] }) scope.names }) :
    wpAny (model prog w) A (newFunctionEnv scope globals cl [] qual none .none (some env)) Q E s := by
  simp only [newFunctionEnv, Option.isSome_some, if_true]
  refine wpAny_bind (wpAny_alloc ?_)
  refine wpAny_bind (wpAny_layCells _ (fun name kind cells => by cases hkc : kind == NameKind.cell <;> simp [hkc]) _ _ _ _ ?_)
  rw [show ({ s with heap := s.heap.push { cls := .type "dict", data := .dict #[] } } : Shared).heap.objs.size = s.heap.objs.size + 1 from Heap.size_push ..]
  refine wpAny_bind ?_
  rw [List.forIn_nil]
  exact wpAny_pure (wpAny_pure h)
end Mine
end
section
open PySem PySem.W PyProof.Rows PySem.Calls
set_option Elab.async false
set_option linter.unusedVariables false
namespace Mine
theorem TopR.more {own : List Addr} {h : Heap} {v : Value} {d : Dt} {a : Addr} (r : TopR own h v d) (ha : h.get? a = none) : TopR (a :: own) h v d :=
  let ⟨b, vs, xs, e1, e2, e3, q⟩ := r; ⟨b, vs, xs, e1, e2, e3, q.more ha⟩
theorem RepF.more {own : List Addr} {h : Heap} {v : Value} {e : Option Addr × Dt} {a : Addr} (r : RepF own h v e) (ha : h.get? a = none) : RepF (a :: own) h v e := by
  obtain ⟨f, d⟩ := e
  cases f
  · exact Rep.more r ha
  · exact ⟨r.1, .tail _ r.2.1, TopR.more r.2.2 ha⟩

section
variable {prog : Program} {w : World} {mg mb : Str → Option Value} {k : Nat} {sc : Scope} {σ : Sig}
noncomputable def Trs (prog : Program) (w : World) (mg mb : Str → Option Value) (k : Nat) (sc : Scope) (ifs : List Expr) (σ : Sig) (b : Bool) : Prop :=
  ∀ (own : List Addr) (env : Env) (A : Around) (s : Shared) (E : Value → Shared → Prop) (Q : Bool → Shared → Prop), env.scope = sc → EnvOk own env s.heap σ → Gd w mg mb s.heap → Alive own s.heap → Room k A →
    (∀ s', Kp s s' → Q b s') → wpAny (model prog w) A (forIn ifs true fun c r => if r = true then do let ok ← isTrue c env (eval c env); pure (ForInStep.yield ok) else pure (ForInStep.yield r)) Q E s
theorem Trs.nil : Trs prog w mg mb k sc [] σ true := fun own env A s E Q hs he hg ha hr h => wpAny_tests_nil (h s (Kp.refl s))
theorem Trs.one {c : Expr} {b : Bool} (ht : Tr prog w mg mb k sc c σ b) : Trs prog w mg mb k sc [c] σ b := fun own env A s E Q hs he hg ha hr h => wpAny_tests_one (ht own env A s E Q hs he hg ha hr h)

theorem not_lookup_dot0 {x : Str} {d : Option Addr × Dt} (hx : x ≠ (".0" : Str)) (h : (σ.lookup (".0" : Str)).isNone = true) : ((x, d) :: σ).lookup (".0" : Str) = none := by
  rw [lookup_ne (Ne.symm hx)]; simpa using h

theorem mem_relS {scope sc : Scope} {y : Str} {kd : NameKind} (h : (relS scope sc).names.lookup y = some kd) : ∃ k0, (y, k0) ∈ scope.names ∧ (kd = k0 ∨ (k0 = .free ∧ kd = .cell)) := by
  have := PySem.mem_of_lookup h
  obtain ⟨⟨n, k0⟩, hm, e⟩ := List.mem_map.mp this
  simp only at e
  split at e
  · rename_i hc
    simp only [Bool.and_eq_true, beq_iff_eq] at hc
    have e1 : n = y := congrArg Prod.fst e
    have e2 : NameKind.cell = kd := congrArg Prod.snd e
    subst e1 e2
    exact ⟨k0, hm, .inr ⟨hc.1.1, rfl⟩⟩
  · have e1 : n = y := congrArg Prod.fst e
    have e2 : k0 = kd := congrArg Prod.snd e
    subst e1 e2
    exact ⟨k0, hm, .inl rfl⟩

/-- the whole comprehension, its end left open -/
theorem comp_core {elt iter : Expr} {x : Str} {px : Pos} {ifs : List Expr} {scope : Scope} {pos : Pos} {α : Type} (l : List α) (enc : α → Dt) (p : α → Bool) (f : α → Dt)
    (hok : compOk sc scope x σ = true) (hit : Itr prog w mg mb k sc iter σ (l.map enc))
    (ht : ∀ a ∈ l, Trs prog w mg mb k (relS scope sc) ifs ((x, (none, enc a)) :: σ) (p a))
    (hel : ∀ a ∈ l, p a = true → Ev prog w mg mb k (relS scope sc) elt ((x, (none, enc a)) :: σ) (f a)) (hsz : l.length ≤ sizeLine)
    {own : List Addr} {env : Env} {A : Around} {s : Shared} {E : Value → Shared → Prop} {RR : Value → Addr → Result → Shared → Prop} (hs : env.scope = sc) (he : EnvOk own env s.heap σ) (hg : Gd w mg mb s.heap) (ha : Alive own s.heap) (hr : Room k A)
    (hRR : ∀ D C s', Kp s s' → s.heap.get? C = none → s.heap.get? D = none → D ≠ C → (∃ m, s'.heap.Ns C m) → (∃ ys, PlainL s'.heap D ys ∧ RepAll (D :: own) s'.heap ys.toList ((l.filter p).map f)) → Rep own s'.heap (.ref D) (.list ((l.filter p).map f)) → RR (.ref D) C (.ok .next) s') :
    closureFor scope env = pure (cloGo env scope.names []) ∧ scope.kind = .function ∧ (∀ y ∈ scope.names, y.2 = .local → scope.names.lookup y.1 = some .local) ∧
    wpAny (model prog w) A (eval iter env) (fun xv s₁ => wpAny (model prog w) A (pyIter xv) (fun it s₂ => wpAny (model prog w) A (newList []) (fun acc s₃ =>
      wpAny (model prog w) A (newFunctionEnv scope env.globals (cloGo env scope.names []) [] env.qual none .none (some env)) (fun cenv s₄ =>
        codeAny (model prog w) A (.compStart (.ListComp elt [⟨.Name x px, iter, ifs, 0⟩] scope pos) 0 it acc { cenv with scope := relabel scope env }) (RR acc cenv.locals) s₄) E s₃) E s₂) E s₁) E s := by
  unfold compOk at hok
  simp only [Bool.and_eq_true, Bool.or_eq_true, bne_iff_ne, ne_eq] at hok
  obtain ⟨⟨⟨⟨hkind, hxk⟩, hall⟩, hdot⟩, hxdot⟩ := hok
  have hkind : scope.kind = .function := by simpa using hkind
  have hall' := List.all_eq_true.mp hall
  have hlocal : ∀ n, (n, NameKind.local) ∈ scope.names → (n = x ∨ n = (".0" : Str)) ∧ scope.names.lookup n = some .local := fun n hn => by simpa using hall' _ hn
  have hcellx : ∀ n, (n, NameKind.cell) ∈ scope.names → n = x := fun n hn => by simpa using hall' _ hn
  have hfree : ∀ n, (n, NameKind.free) ∈ scope.names → (n ≠ x ∧ (σ.lookup n).isSome = true) ∧ (sc.names.lookup n = some .cell ∨ sc.names.lookup n = some .free) := fun n hn => by simpa using hall' _ hn
  have hclo : ∀ n, (n, NameKind.free) ∈ scope.names → ∃ c, env.cells.lookup n = some c := fun n hn => by
    obtain ⟨⟨_, h1⟩, h2⟩ := hfree n hn
    obtain ⟨e, h1⟩ := Option.isSome_iff_exists.mp h1
    obtain ⟨c, v, h3, _⟩ := (he.name n e h1).2 (by unfold Env.kindOf; rw [hs]; exact h2)
    exact ⟨c, h3⟩
  refine ⟨closure_of fun n hn => by obtain ⟨c, h⟩ := hclo n hn; rw [h]; rfl, hkind, fun y hy hl => (hlocal y.1 (by rw [← hl]; exact hy)).2, ?_⟩
  refine hit own env A s E _ hs he hg ha hr fun I St s₁ k₁ hI src hst => ?_
  refine wpAny_newList ?_ (by simp)
  refine compEnv_of ?_
  obtain ⟨oi, fs, eI, dI⟩ := src.obj _ _ _ hst
  -- the addresses
  generalize hD : s₁.heap.objs.size = D
  have hID : I < D := hD ▸ Heap.lt_size eI
  generalize hH2 : s₁.heap.push { cls := .type "list", data := .seq ([] : List Value).toArray } = H2
  have hC2 : H2.objs.size = D + 1 := by rw [← hH2, Heap.size_push, hD]
  dsimp only
  rw [hC2]
  generalize hH3 : H2.push { cls := .type "dict", data := .dict #[] } = H3
  have hsz3 : H3.objs.size = D + 1 + 1 := by rw [← hH3, Heap.size_push, hC2]
  have hcf := cellsFrom_one x scope.names H3 (cloGo env scope.names []) hcellx
  rw [hsz3] at hcf
  generalize hcs : cellsFrom (D + 1 + 1) scope.names (cloGo env scope.names []) = cs at hcf
  have hcl : ∀ y, y ≠ x → (y, NameKind.free) ∈ scope.names → cs.lookup y = env.cells.lookup y := fun y hy hm => by
    rw [hcf.1 y hy]
    refine cloGo_lookup env y scope.names [] (.inl ⟨hm, ?_⟩)
    obtain ⟨c, h⟩ := hclo y hm
    rw [h]; rfl
  have hsD : s.heap.get? D = none := by
    cases q : s.heap.get? D with
    | none => rfl
    | some o => exact absurd (Heap.lt_size (k₁.heap _ _ q)) (by rw [hD]; exact Nat.lt_irrefl _)
  have hsC : ∀ c, D < c → s.heap.get? c = none := fun c hc => by
    cases q : s.heap.get? c with
    | none => rfl
    | some o => have := Heap.lt_size (k₁.heap _ _ q); rw [hD] at this; exact absurd this (Nat.not_lt.mpr (Nat.le_of_lt hc))
  -- what the store of x is
  have hxstore : ∀ (cenv : Env), cenv.scope = relS scope sc → cenv.locals = D + 1 → cenv.cells = cs → ∀ (h : Heap), (∃ m, h.Ns (D + 1) m) → (∀ c, cs.lookup x = some c → (scope.names.lookup x = some .cell) → ∃ v, h.IsCell c v) → ∀ (tk : Nat) (s' : Shared) (v : Value) (Q : Unit → Shared → Prop) (E : Value → Shared → Prop), s'.heap = h →
      (∀ h' tk' ax ox, (ax = D + 1 ∨ D + 1 < ax) → h.get? ax = some ox → NotSeq ox → (∀ us, ox.data ≠ .fields us) → Heap.SameBut ax h h' → (∃ m, h'.Ns (D + 1) m) → (∀ c, cs.lookup x = some c → (scope.names.lookup x = some .cell) → ∃ v, h'.IsCell c v) →
        ((cenv.kindOf x = some .local → ∃ m, h'.Ns cenv.locals m ∧ m x = some v) ∧ (cenv.kindOf x = some .cell ∨ cenv.kindOf x = some .free → ∃ c, cenv.cells.lookup x = some c ∧ h'.IsCell c (some v))) → Q () { s' with heap := h', toks := tk' }) →
      wpAny (model prog w) A (assign (.Name x px) cenv v) Q E s' := by
    intro cenv c1 c2 c3 h ⟨m, hm⟩ hcell tk s' v Q E hh hQ
    subst hh
    refine wpAny_assign_Name ?_
    rcases hxk with ⟨⟨h1, h2⟩, h3⟩ | ⟨⟨⟨h1, h2⟩, h2'⟩, h3⟩
    · have h2 : (relS scope sc).names.lookup x = some .local := by simpa using h2
      have hk : cenv.kindOf x = some .local := by unfold Env.kindOf; rw [c1]; exact h2
      have h1 : scope.names.lookup x = some .local := by simpa using h1
      obtain ⟨oC, es, ep, eC, dC, r⟩ := id hm
      refine wpAny_storeName_local hk (by rw [c2]; exact hm) (fun h' hn' hsb => ?_) (by rw [c1]; simp [relS, hkind])
      rw [c2] at hn' hsb
      refine hQ h' _ (D + 1) oC (.inl rfl) eC (fun us n q => by rw [dC] at q; cases q) (fun us q => by rw [dC] at q; cases q) hsb ⟨_, hn'⟩ (fun c _ q => by rw [h1] at q; cases q) ⟨fun _ => ⟨_, by rw [c2]; exact hn', by simp⟩, fun q => by rw [hk] at q; simp at q⟩
    · have h2 : (relS scope sc).names.lookup x = some .cell := by simpa using h2
      have hk : cenv.kindOf x = some .cell := by unfold Env.kindOf; rw [c1]; exact h2
      have h1 : scope.names.lookup x = some .cell := by simpa using h1
      have hmem : (x, NameKind.cell) ∈ scope.names := by simpa using h2'
      obtain ⟨c, hc1, hc2, hc3⟩ := hcf.2 (.inl hmem)
      have hcgt : D + 1 < c := by
        rcases hc3 with ⟨c', q, rfl⟩ | q
        · exfalso
          have := mem_of_lookup q
          have key : ∀ (names : List (Str × NameKind)) (acc : List (Str × Addr)), (∀ n, (n, NameKind.free) ∈ names → n ≠ x) → (∀ n a, (n, a) ∈ acc → n ≠ x) → ∀ n a, (n, a) ∈ cloGo env names acc → n ≠ x := by
            intro names
            induction names with
            | nil => intro acc _ h n a hm; exact h n a hm
            | cons q r ih =>
              obtain ⟨n0, k0⟩ := q
              intro acc hf h n a hm
              refine ih _ (fun n hn => hf n (.tail _ hn)) ?_ n a hm
              intro n1 a1 hm1
              split at hm1
              · rename_i hk0
                have hk0 : k0 = .free := by simpa using hk0
                split at hm1
                · rcases List.mem_cons.mp hm1 with e | e
                  · cases e; exact hf _ (by rw [hk0]; exact .head _)
                  · exact h _ _ e
                · exact h _ _ hm1
              · exact h _ _ hm1
          exact key scope.names [] (fun n hn => (hfree n hn).1.1) (by simp) _ _ this rfl
        · omega
      obtain ⟨v0, hv0⟩ := hcell c hc1 h1
      obtain ⟨oc, ec, dc⟩ := id hv0
      refine wpAny_storeName_cell (by rw [c1]; exact hkind) hk (by rw [c3]; exact hc1) hv0 fun h' hc' hsb => ?_
      have hne : D + 1 ≠ c := Nat.ne_of_lt hcgt
      exact hQ h' s'.toks c oc (.inr hcgt) ec (fun us n q => by rw [dc] at q; cases q) (fun us q => by rw [dc] at q; cases q) hsb ⟨m, hm.sameBut hsb hne⟩ (fun c' q _ => by rw [hc1] at q; cases q; exact ⟨_, hc'⟩) ⟨fun q => by (rw [hk] at q; cases q), fun _ => ⟨c, by rw [c3]; exact hc1, hc'⟩⟩
  -- the state
  generalize hcenv : ({ newEnv scope (D + 1) env.globals cs env.qual none .none (some env) builtinsNs with scope := relabel scope env } : Env) = cenv
  have c1 : cenv.scope = relS scope sc := by rw [← hcenv, ← hs]; rfl
  have c2 : cenv.locals = D + 1 := by rw [← hcenv]; rfl
  have c3 : cenv.cells = cs := by rw [← hcenv]; rfl
  have c4 : cenv.globals = mainGlobals := by rw [← hcenv]; exact he.glob
  have c5 : cenv.builtins = builtinsNs := by rw [← hcenv]; exact he.blt
  have hloc : (newEnv scope (D + 1) env.globals cs env.qual none .none (some env) builtinsNs).locals = D + 1 := rfl
  rw [hloc]
  -- names in the block
  have henv : ∀ (h : Heap) (v : Value) (d : Dt), (∀ b o, s.heap.get? b = some o → h.get? b = some o) → Rep (D :: own) h v d →
      ((cenv.kindOf x = some .local → ∃ m, h.Ns cenv.locals m ∧ m x = some v) ∧ (cenv.kindOf x = some .cell ∨ cenv.kindOf x = some .free → ∃ c, cenv.cells.lookup x = some c ∧ h.IsCell c (some v))) → EnvOk (D :: own) cenv h ((x, (none, d)) :: σ) := by
    intro h v d hk hv hx
    refine ⟨c4, c5, by rw [c1]; exact hkind, fun y e hy => ?_⟩
    by_cases hyx : y = x
    · subst hyx
      rw [List.lookup_cons] at hy; simp at hy; subst hy
      exact ⟨fun q => let ⟨m, a, b⟩ := hx.1 q; ⟨m, v, a, b, hv⟩, fun q => let ⟨c, a, b⟩ := hx.2 q; ⟨c, v, a, b, hv⟩⟩
    · rw [lookup_ne hyx] at hy
      have hN := he.name y e hy
      refine ⟨fun q => ?_, fun q => ?_⟩
      · exfalso
        unfold Env.kindOf at q; rw [c1] at q
        obtain ⟨k0, hm, hk0⟩ := mem_relS q
        rcases hk0 with rfl | ⟨_, hk0⟩
        · rcases (hlocal y hm).1 with e1 | e1
          · exact hyx e1
          · subst e1; rw [Option.isNone_iff_eq_none.mp hdot] at hy; cases hy
        · cases hk0
      · have hm : (y, NameKind.free) ∈ scope.names := by
          have : ∃ kd, (relS scope sc).names.lookup y = some kd ∧ (kd = .cell ∨ kd = .free) := by
            unfold Env.kindOf at q; rw [c1] at q
            rcases q with q | q
            · exact ⟨_, q, .inl rfl⟩
            · exact ⟨_, q, .inr rfl⟩
          obtain ⟨kd, q, hkd⟩ := this
          obtain ⟨k0, hm, hk0⟩ := mem_relS q
          rcases hk0 with rfl | ⟨rfl, _⟩
          · rcases hkd with rfl | rfl
            · exact absurd (hcellx y hm) hyx
            · exact hm
          · exact hm
        obtain ⟨c, v', h1, h2, h3⟩ := hN.2 (by unfold Env.kindOf; rw [hs]; exact (hfree y hm).2)
        exact ⟨c, v', by rw [c3, hcl y hyx hm]; exact h1, h2.keeps hk, (h3.more hsD).keeps hk⟩
  -- the loop
  have k13 : ∀ b o, s₁.heap.get? b = some o → (pushCells H3 scope.names).get? b = some o := fun b o e => pushCells_keeps _ _ b o (hH3 ▸ Heap.get?_push_of_some _ (hH2 ▸ Heap.get?_push_of_some _ e))
  have ks3 : ∀ b o, s.heap.get? b = some o → (pushCells H3 scope.names).get? b = some o := fun b o e => k13 b o (k₁.heap b o e)
  have hD3 : (pushCells H3 scope.names).PlainList D #[] := ⟨0, pushCells_keeps _ _ _ _ (hH3 ▸ Heap.get?_push_of_some _ (by rw [← hH2, ← hD]; exact Heap.get?_push_size _ rfl))⟩
  have hC3 : ∃ m, (pushCells H3 scope.names).Ns (D + 1) m := ⟨_, (by rw [← hH3, ← hC2]; exact (Heap.Ns.new H2 (.type "dict")).keeps (pushCells_keeps _ _))⟩
  have hst3 : St (D :: own) 0 (pushCells H3 scope.names) := by
    refine src.frame _ _ s₁.heap _ (src.more own D 0 _ hst ?_) fun b o e _ => k13 b o e
    cases q : s₁.heap.get? D with
    | none => rfl
    | some o => exact absurd (Heap.lt_size q) (by rw [hD]; exact Nat.lt_irrefl _)
  have hcell3 : ∀ c, cs.lookup x = some c → (scope.names.lookup x = some .cell) → ∃ v, (pushCells H3 scope.names).IsCell c v := fun c q hq => by
    obtain ⟨c', h1, h2, _⟩ := hcf.2 (.inl (mem_of_lookup hq))
    rw [h1] at q; cases q; exact ⟨_, h2⟩
  have loop : ∀ s₄ : Shared, s₄ = { s₁ with heap := pushCells H3 scope.names } →
      codeAny (model prog w) A (.compLoop (.ListComp elt [⟨.Name x px, iter, ifs, 0⟩] scope pos) 0 (.ref I) (.ref D) cenv) (RR (.ref D) (D + 1)) s₄ := by
    rintro s₄ rfl
    refine codeAny_compLoop_tests (fun n s' => ∃ h' tk i ys, s' = { s₁ with heap := h', toks := tk } ∧ St (D :: own) i h' ∧ h'.PlainList D ys ∧ RepAll (D :: own) h' ys.toList (((l.take i).filter p).map f) ∧ (∃ m, h'.Ns (D + 1) m) ∧
      (∀ c, cs.lookup x = some c → (scope.names.lookup x = some .cell) → ∃ v, h'.IsCell c v) ∧ (∀ b o, s.heap.get? b = some o → h'.get? b = some o) ∧ i ≤ l.length ∧ n = l.length + 1 - i) ?_ (l.length + 1)
      ⟨_, s₁.toks, 0, #[], rfl, hst3, hD3, by simpa using RepAll.nil, hC3, hcell3, ks3, Nat.zero_le _, rfl⟩
    rintro n s' ⟨h', tk, i, ys, rfl, hst', hD', hR', hC', hcell', hk', hi, rfl⟩
    obtain ⟨oi', fs', eI', dI'⟩ := src.obj _ _ _ hst'
    have hDI : D ≠ I := Nat.ne_of_gt hID
    have nI : NotSeq oi' := fun us n q => by rw [dI'] at q; cases q
    by_cases hlt : i < l.length
    · have hli : l[i]? = some l[i] := by simp [hlt]
      generalize hdd : l[i] = a at hli
      have hmem : a ∈ l := hdd ▸ List.getElem_mem hlt
      have hxi : (l.map enc)[i]? = some (enc a) := by rw [List.getElem?_map, hli]; rfl
      generalize hde : enc a = d at hxi
      refine src.item (D :: own) i _ _ _ d hxi hst' fun v h₁ tk₁ hv hst₁ hk₁ => ?_
      have hD₁ : h₁.PlainList D ys := hD'.at fun o e => hk₁ _ o hDI e
      have hR₁ := hR'.sameBut eI' nI (fun b o hb e => hk₁ b o hb e)
      have hCI : D + 1 ≠ I := Nat.ne_of_gt (Nat.lt_succ_of_lt hID)
      have hC₁ : ∃ m, h₁.Ns (D + 1) m := let ⟨m, q⟩ := hC'; ⟨m, q.extBut (fun b o hb e => hk₁ b o hb e) hCI⟩
      have hcI : ∀ c v, h'.IsCell c v → c ≠ I := fun c v ⟨o, e, d⟩ q => by subst q; rw [eI'] at e; cases e; rw [dI'] at d; cases d
      have hcell₁ : ∀ c, cs.lookup x = some c → (scope.names.lookup x = some .cell) → ∃ v, h₁.IsCell c v := fun c q1 q2 => let ⟨v, o, e, d⟩ := hcell' c q1 q2; ⟨v, o, hk₁ _ _ (hcI c v ⟨o, e, d⟩) e, d⟩
      have hsI : ∀ b o, s.heap.get? b = some o → b ≠ I := fun b o e q => by subst q; rw [hI] at e; cases e
      have ks₁ : ∀ b o, s.heap.get? b = some o → h₁.get? b = some o := fun b o e => hk₁ b o (hsI b o e) (hk' b o e)
      refine hxstore cenv c1 c2 c3 h₁ hC₁ hcell₁ tk₁ _ v _ _ rfl fun h₂ tk₂ ax ox hax eax nax nfx hsb hC₂ hcell₂ hx₂ => ?_
      obtain ⟨oi₁, fs₁, eI₁, dI₁⟩ := src.obj _ _ _ hst₁
      have haI : ax ≠ I := by
        rcases hax with q | q
        · rw [q]; exact hCI
        · exact Nat.ne_of_gt (Nat.lt_trans (Nat.lt_succ_of_lt hID) q)
      have haD : ax ≠ D := by
        rcases hax with q | q
        · rw [q]; exact Nat.succ_ne_self _
        · exact Nat.ne_of_gt (Nat.lt_trans (Nat.lt_succ_self _) q)
      have has : ∀ b o, s.heap.get? b = some o → b ≠ ax := fun b o e q => by
        subst q
        have : D < b := by
          rcases hax with q | q
          · rw [q]; exact Nat.lt_succ_self _
          · exact Nat.lt_trans (Nat.lt_succ_self _) q
        rw [hsC _ this] at e; cases e
      have ks₂ : ∀ b o, s.heap.get? b = some o → h₂.get? b = some o := fun b o e => hsb.extBut b o (has b o e) (ks₁ b o e)
      have hst₂ : St (D :: own) (i + 1) h₂ := src.frame _ _ h₁ _ hst₁ fun b o e q => hsb.extBut b o (fun hb => by
        subst hb
        rcases q with q | ⟨⟨us, n, q⟩, _⟩
        · exact haI q
        · rw [eax] at e; cases e; exact nax _ _ q) e
      have hD₂ : h₂.PlainList D ys := hD₁.at fun o e => hsb.extBut _ o (Ne.symm haD) e
      have hR₂ := hR₁.sameBut eax nax hsb.extBut
      have hv₂ := hv.sameBut eax nax hsb.extBut
      have al₂ : Alive (D :: own) h₂ := fun a q => by
        rcases List.mem_cons.mp q with q | q
        · subst q; exact ⟨ys, hD₂.isList⟩
        · exact (ha.keeps ks₂) a q
      have en₂ := henv h₂ v d ks₂ hv₂ hx₂
      rw [← hde] at en₂
      have gd₂ := hg.keeps ks₂
      refine ht a hmem (D :: own) cenv A _ _ _ c1 en₂ gd₂ al₂ hr fun s₃ k₃ => ?_
      have hst₃ : St (D :: own) (i + 1) s₃.heap := src.frame _ _ h₂ _ hst₂ fun b o e _ => k₃.heap b o e
      have same₃ : ∃ h tk, s₃ = { s₁ with heap := h, toks := tk } := let ⟨h, tk, e⟩ := k₃.same; ⟨h, tk, e⟩
      have tk1 : ∀ (h : Heap), l.take (i + 1) = l.take i ++ [a] := fun _ => by rw [List.take_add_one, hli]; rfl
      cases hpd : p a with
      | false =>
        simp only [Bool.false_eq_true, if_false]
        obtain ⟨h₃, tk₃, rfl⟩ := same₃
        refine ⟨l.length + 1 - (i + 1), by omega, h₃, tk₃, i + 1, ys, rfl, hst₃, hD₂.at fun o e => k₃.heap _ o e, ?_, (let ⟨m, q⟩ := hC₂; ⟨m, q.keeps k₃.heap⟩), (fun c q1 q2 => let ⟨v, q⟩ := hcell₂ c q1 q2; ⟨v, q.keeps k₃.heap⟩), (fun b o e => k₃.heap b o (ks₂ b o e)), hlt, rfl⟩
        rw [tk1 h₃, List.filter_append, List.map_append]
        simpa [hpd] using hR₂.keeps k₃.heap
      | true =>
        simp only [if_true]
        refine hel a hmem hpd (D :: own) cenv A s₃ _ _ c1 (en₂.keeps k₃.heap) (gd₂.keeps k₃.heap) (al₂.keeps k₃.heap) hr fun y s₄ k₄ ry => ?_
        have k34 := k₃.trans k₄
        have hys : ys.size ≤ sizeLine := by
          have e1 := hR'.length
          have e2 : (((l.take i).filter p).map f).length ≤ l.length := by
            rw [List.length_map]
            refine Nat.le_trans (List.length_filter_le _ _) ?_
            rw [List.length_take]; omega
          have e3 : ys.toList.length = ys.size := by simp
          omega
        refine wpAny_list_append_plain (hsz := hys) (hD₂.at fun o e => k34.heap _ o e) fun h₅ hD₅ hs₅ => ?_
        obtain ⟨h₃, tk₃, rfl⟩ := same₃
        obtain ⟨⟨h₄, tk₄, rfl⟩, _⟩ := k₄
        have ks₅ : ∀ b o, s.heap.get? b = some o → h₅.get? b = some o := fun b o e => hs₅.extBut b o (fun q => by subst q; rw [hsD] at e; cases e) (k34.heap b o (ks₂ b o e))
        refine ⟨l.length + 1 - (i + 1), by omega, h₅, tk₄, i + 1, ys.push y, rfl, ?_, hD₅, ?_, (let ⟨m, q⟩ := hC₂; ⟨m, (q.keeps k34.heap).sameBut hs₅ (Nat.succ_ne_self _)⟩), (fun c q1 q2 => ?_), ks₅, hlt, rfl⟩
        · refine src.frame _ _ h₄ _ (src.frame _ _ h₂ _ hst₂ fun b o e _ => k34.heap b o e) fun b o e q => hs₅.extBut b o (fun hb => ?_) e
          subst hb
          rcases q with q | ⟨_, q⟩
          · exact hDI q
          · exact q (.head _)
        · rw [tk1 h₅, List.filter_append, List.map_append, Array.toList_push]
          have := ((hR₂.keeps k34.heap).snoc ry).ownBut (.head _) hs₅.extBut
          simpa [hpd] using this
        · obtain ⟨v', q⟩ := hcell₂ c q1 q2
          refine ⟨v', (q.keeps k34.heap).sameBut hs₅ fun e => ?_⟩
          obtain ⟨o1, e1, d1⟩ := q
          obtain ⟨n2, e2⟩ := hD₂
          rw [e, e2] at e1; cases e1; cases d1
    · have hin : i = l.length := by omega
      subst hin
      refine src.done (D :: own) _ _ _ (by rw [List.length_map]; exact hst') fun h₁ tk₁ hk₁ => ?_
      have hsI : ∀ b o, s.heap.get? b = some o → b ≠ I := fun b o e q => by subst q; rw [hI] at e; cases e
      have hD₁ : h₁.PlainList D ys := hD'.at fun o e => hk₁ _ o hDI e
      have hR₁ := hR'.sameBut eI' nI (fun b o hb e => hk₁ b o hb e)
      have hCI : D + 1 ≠ I := Nat.ne_of_gt (Nat.lt_succ_of_lt hID)
      have hC₁ : ∃ m, h₁.Ns (D + 1) m := let ⟨m, q⟩ := hC'; ⟨m, q.extBut (fun b o hb e => hk₁ b o hb e) hCI⟩
      refine hRR D (D + 1) _ ⟨?_, fun b o e => hk₁ b o (hsI b o e) (hk' b o e)⟩ (hsC _ (Nat.lt_succ_self _)) hsD (Nat.ne_of_lt (Nat.lt_succ_self _)) hC₁ ?_ ?_
      · obtain ⟨⟨h0, tk0, rfl⟩, _⟩ := k₁
        exact ⟨_, _, rfl⟩
      · obtain ⟨n, e⟩ := hD₁
        rw [List.take_length] at hR₁
        exact ⟨ys, ⟨_, n, e, rfl, rfl, rfl⟩, hR₁⟩
      · obtain ⟨n, e⟩ := hD₁
        rw [List.take_length] at hR₁
        exact .list (ha.fresh' hsD) e ⟨rfl, rfl⟩ rfl (hR₁.less fun a q => .tail _ q)
  exact codeAny_compStart_list (loop _ rfl) (src.self (D :: own) 0 _ _ _ hst3 (loop _ rfl))
end
end Mine
end
section
open PySem PySem.W PyProof.Rows PySem.Calls
set_option Elab.async false
set_option linter.unusedVariables false
namespace Mine

mutual
noncomputable def toPy : Dt → PyData
  | .none => .none
  | .bool b => .bool b
  | .int i => .int i
  | .str s => .str s
  | .bytes _ => .none
  | .any _ => .none
  | .list xs => .list (toPys xs)
  | .tuple xs => .tuple (toPys xs)
noncomputable def toPys : List Dt → List PyData
  | [] => []
  | x :: r => toPy x :: toPys r
end
mutual
noncomputable def noBytes : Dt → Bool
  | .bytes _ => false
  | .any _ => false
  | .list xs => noBytess xs
  | .tuple xs => noBytess xs
  | _ => true
noncomputable def noBytess : List Dt → Bool
  | [] => true
  | x :: r => noBytes x && noBytess r
end
mutual
theorem Rep.reads {own : List Addr} {h : Heap} : ∀ {v : Value} {d : Dt}, Rep own h v d → noBytes d = true → ∃ as, Reads h v (toPy d) as
  | _, _, .none, _ => ⟨_, .none⟩
  | _, _, .bool b, _ => ⟨_, .bool b⟩
  | _, _, .int i t, _ => ⟨_, .int i t⟩
  | _, _, .str x t, _ => ⟨_, .str x t⟩
  | _, _, .bytes x t, q => by simp [noBytes] at q
  | _, _, .any v, q => by simp [noBytes] at q
  | _, _, .list ha e c dd r, q => by
    obtain ⟨as, q⟩ := RepAll.reads r (by simpa [noBytes] using q)
    rw [toPy]
    exact ⟨_, .list e c.1 dd q⟩
  | _, _, .tuple ha e c dd r, q => by
    obtain ⟨as, q⟩ := RepAll.reads r (by simpa [noBytes] using q)
    rw [toPy]
    exact ⟨_, .tuple e c dd q⟩
theorem RepAll.reads {own : List Addr} {h : Heap} : ∀ {vs : List Value} {ds : List Dt}, RepAll own h vs ds → noBytess ds = true → ∃ as, ReadsAll h vs (toPys ds) as
  | _, _, .nil, _ => ⟨_, .nil⟩
  | _, _, .cons r rs, q => by
    simp only [noBytess, Bool.and_eq_true] at q
    obtain ⟨as, h1⟩ := Rep.reads r q.1
    obtain ⟨bs, h2⟩ := RepAll.reads rs q.2
    rw [toPys]
    exact ⟨_, .cons h1 h2⟩
end

/-- an encoding that == tells -/
structure Enc {α : Type} [DecidableEq α] (enc : α → Dt) (n : Nat) (P : α → Prop) : Prop where
  eqv : ∀ a b, P a → P b → PyData.eqv (toPy (enc a)) (toPy (enc b)) = decide (a = b)
  lay : ∀ a, P a → (toPy (enc a)).canLay0 = true
  depth : ∀ a, (toPy (enc a)).depth ≤ n
  ok : ∀ a, noBytes (enc a) = true
theorem toPys_map {α : Type} {enc : α → Dt} (l : List α) : toPys (l.map enc) = l.map fun a => toPy (enc a) := by
  induction l with
  | nil => rfl
  | cons a l ih => simp [toPys, ih]
theorem Enc.list {α : Type} [DecidableEq α] {enc : α → Dt} {n : Nat} {P : α → Prop} (e : Enc enc n P) : Enc (fun l : List α => Dt.list (l.map enc)) (n + 1) (fun l => ∀ a ∈ l, P a) where
  eqv := by
    intro l
    induction l with
    | nil => intro m _ _; cases m <;> simp [toPy, toPys, PyData.eqv, PyData.eqvAll]
    | cons a l ih =>
      intro m ha hm
      cases m with
      | nil => simp [toPy, toPys, PyData.eqv, PyData.eqvAll]
      | cons b m =>
        have h1 := e.eqv a b (ha a (.head _)) (hm b (.head _))
        have h2 := ih m (fun x hx => ha x (.tail _ hx)) (fun x hx => hm x (.tail _ hx))
        simp only [toPy, PyData.eqv] at h2
        simp only [toPy, List.map_cons, toPys, PyData.eqv, PyData.eqvAll, h1, h2]
        by_cases q : a = b <;> by_cases q' : l = m <;> simp [q, q']
  lay := by
    intro l
    induction l with
    | nil => intro _; simp [toPy, toPys, PyData.canLay0, PyData.canLayAll0]
    | cons a l ih =>
      intro ha
      have h2 := ih (fun x hx => ha x (.tail _ hx))
      simp only [toPy, PyData.canLay0] at h2
      simp [toPy, toPys, PyData.canLay0, PyData.canLayAll0, e.lay a (ha a (.head _)), h2]
  depth := by
    intro l
    induction l with
    | nil => simp [toPy, toPys, PyData.depth, PyData.depthAll]
    | cons a l ih =>
      simp only [toPy, PyData.depth] at ih
      simp only [toPy, List.map_cons, toPys, PyData.depth, PyData.depthAll]
      have := e.depth a
      omega
  ok := by
    intro l
    induction l with
    | nil => rfl
    | cons a l ih =>
      simp only [noBytes] at ih
      simp [noBytes, noBytess, e.ok a, ih]

noncomputable def eL (l : List Nat) : Dt := .list (l.map eN)
noncomputable def eLL (l : List (List Nat)) : Dt := .list (l.map eL)
noncomputable def eLLL (l : List (List (List Nat))) : Dt := .list (l.map eLL)
theorem enc_int : Enc Dt.int 0 (fun _ => True) where
  eqv := fun a b _ _ => by simp [toPy, PyData.eqv]; rw [Bool.eq_iff_iff]; simp
  lay := fun a _ => by simp [toPy, PyData.canLay0]
  depth := fun a => by simp [toPy, PyData.depth]
  ok := fun a => rfl
theorem enc_nat : Enc eN 0 (fun _ => True) where
  eqv := fun a b _ _ => by simp [eN, toPy, PyData.eqv]; rw [Bool.eq_iff_iff]; simp; omega
  lay := fun a _ => by simp [eN, toPy, PyData.canLay0]
  depth := fun a => by simp [eN, toPy, PyData.depth]
  ok := fun a => rfl
theorem enc_str : Enc Dt.str 0 (fun s => PyData.strOk s = true) where
  eqv := fun a b _ _ => by simp [toPy, PyData.eqv]; rw [Bool.eq_iff_iff]; simp
  lay := fun a h => by simpa [toPy, PyData.canLay0] using h
  depth := fun a => by simp [toPy, PyData.depth]
  ok := fun a => rfl
theorem enc_L : Enc eL 1 (fun l => ∀ a ∈ l, True) := enc_nat.list
theorem enc_LL : Enc eLL 2 (fun l => ∀ a ∈ l, ∀ b ∈ a, True) := enc_L.list

section
variable {prog : Program} {w : World} {mg mb : Str → Option Value} {k : Nat} {sc : Scope} {σ : Sig}

theorem Cmp.eqE {α : Type} [DecidableEq α] {enc : α → Dt} {n : Nat} {P : α → Prop} (e : Enc enc n P) {l r : Expr} {a b : α} (ha : P a) (hb : P b) (hl : Ev prog w mg mb k sc l σ (enc a)) (hr : Ev prog w mg mb k sc r σ (enc b)) (hn : n ≤ 100 := by decide) :
    Cmp prog w mg mb k sc l .Eq r σ (decide (a = b)) :=
  Cmp.of hl hr fun own A s E Q u v hg hal hrm r₁ r₂ h => by
    obtain ⟨as, q1⟩ := r₁.reads (e.ok a)
    obtain ⟨bs, q2⟩ := r₂.reads (e.ok b)
    refine SeqAt.compareEq_reads q1 q2 (e.lay a ha) (e.lay b hb) ?_ (by rw [e.eqv a b ha hb]; exact h _ (Kp.refl s))
    have := hrm.units; have := e.depth a; omega
theorem Cmp.neE {α : Type} [DecidableEq α] {enc : α → Dt} {n : Nat} {P : α → Prop} (e : Enc enc n P) {l r : Expr} {a b : α} (ha : P a) (hb : P b) (hl : Ev prog w mg mb k sc l σ (enc a)) (hr : Ev prog w mg mb k sc r σ (enc b)) (hn : n ≤ 100 := by decide) :
    Cmp prog w mg mb k sc l .NotEq r σ (!decide (a = b)) :=
  Cmp.of hl hr fun own A s E Q u v hg hal hrm r₁ r₂ h => by
    obtain ⟨as, q1⟩ := r₁.reads (e.ok a)
    obtain ⟨bs, q2⟩ := r₂.reads (e.ok b)
    refine SeqAt.compareNe_reads q1 q2 (e.lay a ha) (e.lay b hb) ?_ (by rw [e.eqv a b ha hb]; exact h _ (Kp.refl s))
    have := hrm.units; have := e.depth a; omega

theorem TopR.reads {α : Type} [DecidableEq α] {enc : α → Dt} {n : Nat} {P : α → Prop} (e : Enc enc n P) {own : List Addr} {h : Heap} {v : Value} {l : List α} (r : TopR own h v (.list (l.map enc))) : ∃ as, Reads h v (.list (l.map fun a => toPy (enc a))) as := by
  obtain ⟨as, q⟩ := r.nil.reads (e.list.ok l)
  rw [toPy, toPys_map] at q
  exact ⟨as, q⟩
theorem enc_any {α : Type} [DecidableEq α] {enc : α → Dt} {n : Nat} {P : α → Prop} (e : Enc enc n P) (l : List α) (a : α) (hl : ∀ x ∈ l, P x) (ha : P a) : ((l.map fun a => toPy (enc a)).any fun y => PyData.eqv y (toPy (enc a))) = decide (a ∈ l) := by
  induction l with
  | nil => simp
  | cons b l ih =>
    have h1 := e.eqv b a (hl b (.head _)) ha
    have h2 := ih fun x hx => hl x (.tail _ hx)
    rw [List.map_cons, List.any_cons, h1, h2]
    by_cases q : a = b
    · simp [q]
    · simp [q, Ne.symm q]
theorem Cmp.inE {α : Type} [DecidableEq α] {enc : α → Dt} {n : Nat} {P : α → Prop} (e : Enc enc n P) {l r : Expr} {a : α} {bs : List α} (ha : P a) (hb : ∀ x ∈ bs, P x) (hl : Ev prog w mg mb k sc l σ (enc a)) (hr : EvT prog w mg mb k sc r σ (.list (bs.map enc))) (hn : n ≤ 100 := by decide) :
    Cmp prog w mg mb k sc l .In r σ (decide (a ∈ bs)) :=
  Cmp.ofT hl hr fun own A s E Q u v hg hal hrm r₁ r₂ h => by
    obtain ⟨as, q1⟩ := r₁.reads (e.ok a)
    obtain ⟨cs, q2⟩ := r₂.reads e
    have lay := e.list.lay bs hb
    rw [toPy, toPys_map, PyData.canLay0] at lay
    refine SeqAt.in_list_reads q2 q1 lay (e.lay a ha) ?_ (by rw [enc_any e bs a hb ha]; exact h _ (Kp.refl s))
    have := hrm.units; have := e.depth a; omega
theorem Cmp.notInE {α : Type} [DecidableEq α] {enc : α → Dt} {n : Nat} {P : α → Prop} (e : Enc enc n P) {l r : Expr} {a : α} {bs : List α} (ha : P a) (hb : ∀ x ∈ bs, P x) (hl : Ev prog w mg mb k sc l σ (enc a)) (hr : EvT prog w mg mb k sc r σ (.list (bs.map enc))) (hn : n ≤ 100 := by decide) :
    Cmp prog w mg mb k sc l .NotIn r σ (!decide (a ∈ bs)) :=
  Cmp.ofT hl hr fun own A s E Q u v hg hal hrm r₁ r₂ h => by
    obtain ⟨as, q1⟩ := r₁.reads (e.ok a)
    obtain ⟨cs, q2⟩ := r₂.reads e
    have lay := e.list.lay bs hb
    rw [toPy, toPys_map, PyData.canLay0] at lay
    refine SeqAt.notIn_list_reads q2 q1 lay (e.lay a ha) ?_ (by rw [enc_any e bs a hb ha]; exact h _ (Kp.refl s))
    have := hrm.units; have := e.depth a; omega
end
end Mine
end
section
open PySem PySem.W PyProof.Rows PySem.Calls
set_option Elab.async false
set_option linter.unusedVariables false
namespace Mine
section
variable {prog : Program} {w : World} {mg mb : Str → Option Value} {k : Nat} {sc : Scope} {σ : Sig}

theorem Ev.comp {elt iter : Expr} {x : Str} {px : Pos} {ifs : List Expr} {scope : Scope} {pos : Pos} {α : Type} (l : List α) (enc : α → Dt) (p : α → Bool) (f : α → Dt)
    (hok : compOk sc scope x σ = true) (hit : Itr prog w mg mb k sc iter σ (l.map enc))
    (ht : ∀ a ∈ l, Trs prog w mg mb k (relS scope sc) ifs ((x, (none, enc a)) :: σ) (p a))
    (hel : ∀ a ∈ l, p a = true → Ev prog w mg mb k (relS scope sc) elt ((x, (none, enc a)) :: σ) (f a)) (hsz : l.length ≤ sizeLine)
    (hf : ∀ env x, foldedSetIterable iter env x = pure x := by intro _ _; rfl) : Ev prog w mg mb k sc (.ListComp elt [⟨.Name x px, iter, ifs, 0⟩] scope pos) σ (.list ((l.filter p).map f)) := by
  intro own env A s E Q hs he hg ha hr h
  rw [eval_ListComp]
  obtain ⟨h1, h2, h3, h4⟩ := comp_core (px := px) (pos := pos) (RR := compPost (model prog w) A E none Q) (E := E) l enc p f hok hit ht hel hsz hs he hg ha hr (by
    intro D C s' k' hC hD hDC hns _ r
    obtain ⟨m, hn⟩ := hns
    obtain ⟨oC, es, ep, eC, dC, rC⟩ := id hn
    refine ⟨m, hn, fun h' hsb => h _ _ ⟨?_, fun b o e => hsb.extBut b o (fun q => by subst q; rw [hC] at e; cases e) (k'.heap b o e)⟩ (r.sameBut eC (fun us n q => by rw [dC] at q; cases q) hsb.extBut)⟩
    obtain ⟨⟨h0, tk0, rfl⟩, _⟩ := k'
    exact ⟨_, _, rfl⟩)
  exact wpAny_comprehension_free (use := none) rfl (hf env) h1 h2 h3 h4

/-- arguments -/
noncomputable def EvAll (prog : Program) (w : World) (mg mb : Str → Option Value) (k : Nat) (sc : Scope) (es : List Expr) (σ : Sig) (ds : List Dt) : Prop :=
  ∀ (own : List Addr) (env : Env) (A : Around) (s : Shared) (E : Value → Shared → Prop) (Q : List Value → Shared → Prop) (pos : Pos), env.scope = sc → EnvOk own env s.heap σ → Gd w mg mb s.heap → Alive own s.heap → Room k A →
    (∀ vs s', Kp s s' → RepAll own s'.heap vs ds → Q vs s') → wpAny (model prog w) A (spliced (backTo pos (starEach es env))) Q E s
theorem EvAll.nil : EvAll prog w mg mb k sc [] σ [] := fun own env A s E Q pos hs he hg ha hr h => args_nil (h [] s (Kp.refl s) .nil)
theorem EvAll.cons {e : Expr} {es : List Expr} {d : Dt} {ds : List Dt} (h1 : Ev prog w mg mb k sc e σ d) (h2 : EvAll prog w mg mb k sc es σ ds)
    (he : ∀ env, starEach (e :: es) env = (false, eval e env) :: starEach es env := by intro _; rfl) : EvAll prog w mg mb k sc (e :: es) σ (d :: ds) := by
  intro own env A s E Q pos hs hn hg ha hr h
  refine args_cons (h1 own env A s E _ hs hn hg ha hr fun v s₁ k₁ r₁ => ?_) (he env)
  exact h2 own env A s₁ E _ pos hs (hn.keeps k₁.heap) (hg.keeps k₁.heap) (ha.keeps k₁.heap) hr fun vs s₂ k₂ r₂ => h _ _ (k₁.trans k₂) (.cons (r₁.keeps k₂.heap) r₂)

theorem Ev.list {es : List Expr} {ds : List Dt} {p : Pos} (h : EvAll prog w mg mb k sc es σ ds) (hsz : ds.length ≤ sizeLine) : Ev prog w mg mb k sc (.List es p) σ (.list ds) := by
  intro own env A s E Q hs hn hg ha hr hQ
  refine List_ (h own env A s E _ p hs hn hg ha hr fun vs s₁ k₁ r => ?_)
  refine wpAny_newList (hQ _ _ (k₁.trans (Kp.push _ _)) ?_) (by rw [r.length]; exact hsz)
  exact .list (ha.keeps k₁.heap).fresh (Heap.get?_push_size _ rfl) ⟨rfl, rfl⟩ rfl (by simpa using r.keeps fun b o e => Heap.get?_push_of_some _ e)
theorem Ev.tuple {es : List Expr} {ds : List Dt} {kk : Nat} {p : Pos} (h : EvAll prog w mg mb k sc es σ ds) (hsz : ds.length ≤ sizeLine) : Ev prog w mg mb k sc (.Tuple es kk p) σ (.tuple ds) := by
  intro own env A s E Q hs hn hg ha hr hQ
  refine Tuple_ (h own env A s E _ p hs hn hg ha hr fun vs s₁ k₁ r => ?_)
  refine wpAny_newTuple (hQ _ _ (k₁.trans (Kp.push _ _)) ?_) (by rw [r.length]; exact hsz)
  exact .tuple (ha.keeps k₁.heap).fresh (Heap.get?_push_size _ rfl) rfl rfl (by simpa using r.keeps fun b o e => Heap.get?_push_of_some _ e)

/-- a call of a def of the text -/
theorem Ev.callD {x : Str} {p pos : Pos} {e : Expr} {es : List Expr} {ds : List Dt} {d : Dt} {a : Addr} {o : Obj} {fd : FuncData} (hm : ∀ h, Gd w mg mb h → mg x = some (.ref a)) (ho : ∀ h, Gd w mg mb h → h.get? a = some o) (hd : o.data = .func fd)
    (hx : isGl sc x = true) (h : EvAll prog w mg mb k sc (e :: es) σ ds) (hf : Fn prog w mg mb k a ds d) (he : ∀ env, starEach (e :: es) env = (false, eval e env) :: starEach es env := by intro _; rfl) :
    Ev prog w mg mb k sc (.Call (.Name x p) (e :: es) [] pos) σ d := by
  intro own env A s E Q hs hn hg ha hr hQ
  subst hs
  refine wpAny_Call_ofName (glob_load hn hg hx (hm _ hg) ?_)
  refine callWith_def hd (h own env A s E _ pos rfl hn hg ha hr fun vs s₁ k₁ r => ?_) (he env)
  exact ⟨ho _ (hg.keeps k₁.heap), hf own A s₁ E Q vs (hg.keeps k₁.heap) (ha.keeps k₁.heap) hr r fun v s' k' r' => hQ v s' (k₁.trans k') r'⟩

/-- a call of a built-in with one argument -/
theorem Ev.blt1 {x : Str} {p pos : Pos} {e : Expr} {d : Dt} {id : String} {res : Dt} (hm : ∀ h, Gd w mg mb h → mg x = none) (hb : bootBuiltins x = some (.builtin id)) (hne : x ≠ "__name__") (hx : isGl sc x = true) (h : Ev prog w mg mb k sc e σ d)
    (hc : ∀ (own : List Addr) (A : Around) (s : Shared) (E : Value → Shared → Prop) (Q : Value → Shared → Prop) (v : Value), Gd w mg mb s.heap → Alive own s.heap → Room k A → Rep own s.heap v d → (∀ v s', Kp s s' → Rep own s'.heap v res → Q v s') → wpAny (model prog w) A (call (.builtin id) [v]) Q E s)
    (he : ∀ env, starEach [e] env = (false, eval e env) :: starEach [] env := by intro _; rfl) : Ev prog w mg mb k sc (.Call (.Name x p) [e] [] pos) σ res := by
  intro own env A s E Q hs hn hg ha hr hQ
  subst hs
  refine wpAny_Call_ofName (blt_load hn hg hx (hm _ hg) ((hg.bb _ hne).trans hb) ?_)
  refine callWith_builtin1 (args_cons (h own env A s E _ rfl hn hg ha hr fun v s₁ k₁ r => args_nil ?_) (he env)) (he env)
  exact hc own A s₁ E Q v (hg.keeps k₁.heap) (ha.keeps k₁.heap) hr r fun v s' k' r' => hQ v s' (k₁.trans k') r'
theorem Ev.len {p pos : Pos} {e : Expr} {xs : List Dt} (hm : ∀ h, Gd w mg mb h → mg "len" = none) (hx : isGl sc "len" = true) (h : EvT prog w mg mb k sc e σ (.list xs)) (hsz : xs.length < 2 ^ 62)
    (he : ∀ env, starEach [e] env = (false, eval e env) :: starEach [] env := by intro _; rfl) : Ev prog w mg mb k sc (.Call (.Name "len" p) [e] [] pos) σ (.int xs.length) := by
  intro own env A s E Q hs hn hg ha hr hQ
  subst hs
  refine wpAny_Call_ofName (blt_load hn hg hx (hm _ hg) ((hg.bb _ (by decide)).trans boot_len) ?_)
  refine callWith_builtin1 (args_cons (h own env A s E _ rfl hn hg ha hr fun v s₁ k₁ r => args_nil ?_) (he env)) (he env)
  obtain ⟨a, vs, ys, rfl, e, hl, hra⟩ := r
  cases e
  have hlen : vs.size = xs.length := by have := hra.length; simpa using this
  refine len_list (plainL_list hl) (by rw [hlen]; omega) ?_
  rw [hlen]
  exact hQ _ _ (k₁.trans (Kp.toks _ _)) (.int _ _)
theorem repAll_ints {own : List Addr} {h : Heap} : ∀ {vs : List Value} {ns : List Int}, RepAll own h vs (ns.map Dt.int) → ∃ xs : List (Int × Tok), vs = xs.map (fun p => Value.int p.1 p.2) ∧ xs.map (·.1) = ns
  | [], [], _ => ⟨[], rfl, rfl⟩
  | [], n :: ns, r => by cases r
  | v :: vs, [], r => by cases r
  | v :: vs, n :: ns, r => by
    cases r with
    | cons r1 r2 =>
      obtain ⟨t, rfl⟩ := rep_int r1
      obtain ⟨xs, e1, e2⟩ := repAll_ints r2
      exact ⟨(n, t) :: xs, by simp [e1], by simp [e2]⟩
theorem Ev.sum {p pos : Pos} {e : Expr} {ns : List Int} (hm : ∀ h, Gd w mg mb h → mg "sum" = none) (hx : isGl sc "sum" = true) (h : Ev prog w mg mb k sc e σ (.list (ns.map .int)))
    (he : ∀ env, starEach [e] env = (false, eval e env) :: starEach [] env := by intro _; rfl) : Ev prog w mg mb k sc (.Call (.Name "sum" p) [e] [] pos) σ (.int ns.sum) :=
  Ev.blt1 hm boot_sum (by decide) hx h (fun own A s E Q v hg ha hr r hQ => by
    cases r with
    | @list a o vs n _ hna e hc hd hra =>
      obtain ⟨xs, e1, e2⟩ := repAll_ints hra
      have hv : vs = intItems xs.toArray := by
        rw [← Array.toList_inj, e1]; simp [intItems]
      refine sum_intListG (xs := xs.toArray) hr.handled ⟨o, e, hc.1, n, by rw [hd, hv]⟩ fun h' tk t' hk => ?_
      have : preSum (numAt xs.toArray) xs.toArray.size = ns.sum := by
        rw [preSum_eq, ← e2, List.take_of_length_le (by simp)]
      rw [this]
      exact hQ _ _ (Kp.of s tk hk) (.int _ _)) he

/-- an item of a list -/
theorem Ev.item {v i : Expr} {p : Pos} {xs : List Dt} {n : Int} {d : Dt} (hv : EvT prog w mg mb k sc v σ (.list xs)) (hi : Ev prog w mg mb k sc i σ (.int n)) (h0 : 0 ≤ n) (h1 : n < 2 ^ 63) (hd : xs[n.toNat]? = some d)
    (hsub : ∀ o iv, subscripted i false o iv = operate [o, iv] (getItem o iv) := by intro _ _; with_unfolding_all rfl) : Ev prog w mg mb k sc (.Subscript v i p) σ d := by
  intro own env A s E Q hs hn hg ha hr hQ
  refine Subscript_ (hv own env A s E _ hs hn hg ha hr fun u s₁ k₁ r₁ => ?_)
  refine hi own env A s₁ E _ hs (hn.keeps k₁.heap) (hg.keeps k₁.heap) (ha.keeps k₁.heap) hr fun iv s₂ k₂ r₂ => ?_
  obtain ⟨t, rfl⟩ := rep_int r₂
  obtain ⟨a, vs, ys, rfl, e, hl, hra⟩ := r₁
  cases e
  have hl₂ : s₂.heap.IsList a vs := plainL_list (hl.keeps k₂.heap)
  obtain ⟨x, hx, rx⟩ := (hra.keeps k₂.heap).get _ _ hd
  refine tail_any hl₂.typeIs list_getitem_lookup (wpAny_getItem_list hl₂ h0 h1 (by simpa using hx) (hQ _ _ (k₁.trans k₂) rx)) (hsub _ _)

/-- two lists laid together -/
theorem Ev.cat {l r : Expr} {p : Pos} {xs ys : List Dt} (hl : Ev prog w mg mb k sc l σ (.list xs)) (hr : Ev prog w mg mb k sc r σ (.list ys)) (hsz : xs.length + ys.length ≤ sizeLine) : Ev prog w mg mb k sc (.BinOp l .Add r p) σ (.list (xs ++ ys)) :=
  hl.bin hr fun own A s E Q u v hg ha hrm r₁ r₂ h => by
    cases r₁ with
    | @list a o vs n _ hna e hc hd hra =>
      cases r₂ with
      | @list b o2 ws n2 _ hnb e2 hc2 hd2 hrb =>
        obtain ⟨cls, dd, data, sl⟩ := o
        obtain ⟨cls2, dd2, data2, sl2⟩ := o2
        obtain ⟨hc, hcn⟩ := hc
        obtain ⟨hc2, hcn2⟩ := hc2
        simp only at hc hd hc2 hd2
        subst hc hd hc2 hd2
        have l1 : vs.size = xs.length := by have := hra.length; simpa using this
        have l2 : ws.size = ys.length := by have := hrb.length; simpa using this
        refine concat_meets ⟨_, e, rfl⟩ ⟨_, e2, rfl⟩ noFill_list_add seq_list_add PySem.F.slot_list_add PySem.F.entry_list_add (PySem.F.args_list_add_2 _ _) (list_addW a b vs ws n n2 dd dd2 sl sl2 (by rw [l1, l2]; exact hsz)) ⟨e, e2, ?_⟩
        refine h _ _ (Kp.push _ _) (.list ha.fresh (Heap.get?_push_size _ rfl) ⟨rfl, rfl⟩ rfl ?_)
        have := (hra.append hrb).keeps (h' := s.heap.push { cls := .type "list", data := .seq (vs ++ ws) }) fun b o e => Heap.get?_push_of_some _ e
        simpa using this

theorem RepAll.pick {own : List Addr} {h : Heap} {vs : List Value} {xs : List Dt} (r : RepAll own h vs xs) : ∀ idx : List Nat, RepAll own h (idx.filterMap (vs[·]?)) (idx.filterMap (xs[·]?))
  | [] => .nil
  | i :: idx => by
    have ih := RepAll.pick r idx
    cases hx : xs[i]? with
    | none =>
      have hv : vs[i]? = none := by
        rw [List.getElem?_eq_none_iff] at hx ⊢
        rw [r.length]; exact hx
      simpa [List.filterMap_cons, hx, hv] using ih
    | some d =>
      obtain ⟨v, hv, rv⟩ := r.get i d hx
      simpa [List.filterMap_cons, hx, hv] using RepAll.cons rv ih
/-- a cut of a list -/
noncomputable def cutL {α : Type} (xs : List α) (lo hi st : Option Int) : List α :=
  (sliceRange (sliceBounds lo hi st xs.length).1 (sliceBounds lo hi st xs.length).2.1 (sliceBounds lo hi st xs.length).2.2).filterMap (xs[·]?)
/-- a part of a slice -/
noncomputable def EvP (prog : Program) (w : World) (mg mb : Str → Option Value) (k : Nat) (sc : Scope) (e : Option Expr) (σ : Sig) (i : Option Int) : Prop :=
  ∀ (own : List Addr) (env : Env) (A : Around) (s : Shared) (E : Value → Shared → Prop) (Q : Value → Shared → Prop), env.scope = sc → EnvOk own env s.heap σ → Gd w mg mb s.heap → Alive own s.heap → Room k A →
    (∀ v s', Kp s s' → IsPart v i → Q v s') → wpAny (model prog w) A (evalPart e env) Q E s
theorem EvP.none : EvP prog w mg mb k sc none σ none := fun own env A s E Q hs hn hg ha hr h => wpAny_evalPart_none (h _ s (Kp.refl s) .none)
theorem EvP.some {e : Expr} {i : Int} (h : Ev prog w mg mb k sc e σ (.int i)) : EvP prog w mg mb k sc (some e) σ (some i) := fun own env A s E Q hs hn hg ha hr hQ =>
  wpAny_evalPart_some (h own env A s E Q hs hn hg ha hr fun v s' k' r => by obtain ⟨t, rfl⟩ := rep_int r; exact hQ _ s' k' (.int _ _))
theorem Ev.cut {v : Expr} {l u st : Option Expr} {q p : Pos} {xs : List Dt} {lo hi sp : Option Int} (hv : Ev prog w mg mb k sc v σ (.list xs)) (hl : EvP prog w mg mb k sc l σ lo) (hu : EvP prog w mg mb k sc u σ hi) (hst : EvP prog w mg mb k sc st σ sp) (h0 : sp ≠ some 0) (hsz : xs.length ≤ sizeLine) : Ev prog w mg mb k sc (.Subscript v (.Slice l u st q) p) σ (.list (cutL xs lo hi sp)) := by
  intro own env A s E Q hs hn hg ha hr hQ
  refine Subscript_ (hv own env A s E _ hs hn hg ha hr fun uv s₁ k₁ r₁ => ?_)
  refine wpAny_Slice (hl own env A s₁ E _ hs (hn.keeps k₁.heap) (hg.keeps k₁.heap) (ha.keeps k₁.heap) hr fun vl s₂ k₂ p₂ => ?_)
  have k12 := k₁.trans k₂
  refine hu own env A s₂ E _ hs (hn.keeps k12.heap) (hg.keeps k12.heap) (ha.keeps k12.heap) hr fun vu s₃ k₃ p₃ => ?_
  have k13 := k12.trans k₃
  refine hst own env A s₃ E _ hs (hn.keeps k13.heap) (hg.keeps k13.heap) (ha.keeps k13.heap) hr fun vst s₄ k₄ p₄ => ?_
  have k14 := k13.trans k₄
  have r₄ := r₁.keeps ((k₂.trans k₃).trans k₄).heap
  cases r₄ with
  | @list a o vs n _ hna e hc hd hra =>
    have hl₅ : (s₄.heap.push { cls := .type "slice", data := .fields #[vl, vu, vst] }).IsList a vs := ⟨o, Heap.get?_push_of_some _ e, hc.1, n, hd⟩
    have l1 : vs.size = xs.length := by have := hra.length; simpa using this
    have fin : ∀ ops, subscripted (.Slice l u st q) false (.ref a) (.ref s₄.heap.objs.size) = operate ops (getItem (.ref a) (.ref s₄.heap.objs.size)) → wpAny (model prog w) A (subscriptTail v (.Slice l u st q) (.ref a) (.ref s₄.heap.objs.size)) Q E { s₄ with heap := s₄.heap.push { cls := .type "slice", data := .fields #[vl, vu, vst] } } := fun ops hops => by
      refine tail_any (s := { s₄ with heap := s₄.heap.push { cls := .type "slice", data := .fields #[vl, vu, vst] } }) hl₅.typeIs list_getitem_lookup (wpAny_getItem_list_slice (s := { s₄ with heap := s₄.heap.push { cls := .type "slice", data := .fields #[vl, vu, vst] } }) hl₅ (Heap.IsSliceOf.new ..) p₂ p₃ p₄ h0 ?_ (by rw [l1]; exact hsz)) hops
      have k5 : ∀ b o, s₄.heap.get? b = some o → ((s₄.heap.push { cls := .type "slice", data := .fields #[vl, vu, vst] }).push { cls := .type "list", data := .seq (slicePick vs lo hi sp) }).get? b = some o := fun b o e => Heap.get?_push_of_some _ (Heap.get?_push_of_some _ e)
      have al : Alive own (s₄.heap.push { cls := .type "slice", data := .fields #[vl, vu, vst] }) := (ha.keeps k14.heap).keeps fun b o e => Heap.get?_push_of_some _ e
      refine hQ _ _ (k14.trans ⟨⟨_, _, rfl⟩, k5⟩) (.list al.fresh (Heap.get?_push_size _ rfl) ⟨rfl, rfl⟩ rfl ?_)
      have := (RepAll.pick hra (sliceRange (sliceBounds lo hi sp xs.length).1 (sliceBounds lo hi sp xs.length).2.1 (sliceBounds lo hi sp xs.length).2.2)).keeps k5
      have e5 : (slicePick vs lo hi sp).toList = (sliceRange (sliceBounds lo hi sp xs.length).1 (sliceBounds lo hi sp xs.length).2.1 (sliceBounds lo hi sp xs.length).2.2).filterMap (vs.toList[·]?) := by
        unfold slicePick; rw [l1]; simp
      rw [e5]
      exact this
    cases st with
    | none => exact fin _ rfl
    | some e => exact fin _ rfl
end
end Mine
end
section
open PySem PySem.W PyProof.Rows PySem.Calls
set_option Elab.async false
set_option linter.unusedVariables false
namespace Mine

/-- a may be changed -/
noncomputable def Mu (X : Addr → Prop) (s₀ : Shared) (a : Addr) : Prop := X a ∨ s₀.heap.get? a = none

/-- a frame at work: what stood in s₀ stands, but for X; the names are as σ says; the lists of lown are the frame's own -/
structure Fs (w : World) (mg mb : Str → Option Value) (own₀ lown : List Addr) (X : Addr → Prop) (s₀ : Shared) (env : Env) (σ : Sig) (s : Shared) : Prop where
  same : ∃ h' tk, s = { s₀ with heap := h', toks := tk }
  keep : ∀ b o, ¬ X b → s₀.heap.get? b = some o → s.heap.get? b = some o
  glob : env.globals = mainGlobals
  blt : env.builtins = builtinsNs
  kind : env.scope.kind = .function
  locMu : Mu X s₀ env.locals
  ns : ∃ m, s.heap.Ns env.locals m ∧ ∀ x e, σ.lookup x = some e → env.kindOf x = some .local → ∃ v, m x = some v ∧ RepF (lown ++ own₀) s.heap v e
  cell : ∀ x, env.kindOf x = some .cell → ∃ c v, env.cells.lookup x = some c ∧ Mu X s₀ c ∧ s.heap.IsCell c v ∧ ∀ e, σ.lookup x = some e → ∃ v', v = some v' ∧ RepF (lown ++ own₀) s.heap v' e
  nofree : ∀ x, env.kindOf x ≠ some .free
  apart : env.cells.Pairwise fun x y => x.2 ≠ y.2
  alive : Alive (lown ++ own₀) s.heap
  newl : ∀ a ∈ lown, Mu X s₀ a
  live : ∀ b, X b → ∃ o, s.heap.get? b = some o ∧ (b ∈ lown ++ own₀ ∨ NotSeq o)
  disj : ∀ a ∈ lown, a ∉ own₀
  gd : ∀ h', (∀ b o, ¬ X b → s₀.heap.get? b = some o → h'.get? b = some o) → Gd w mg mb h'

section
variable {prog : Program} {w : World} {mg mb : Str → Option Value} {k : Nat} {own₀ lown : List Addr} {X : Addr → Prop} {s₀ s s' : Shared} {env : Env} {σ σ' : Sig} {A : Around} {E : Value → Shared → Prop}

theorem Fs.envOk (F : Fs w mg mb own₀ lown X s₀ env σ s) : EnvOk (lown ++ own₀) env s.heap σ := by
  refine ⟨F.glob, F.blt, F.kind, fun x e hx => ⟨fun hk => ?_, fun hk => ?_⟩⟩
  · obtain ⟨m, hn, h⟩ := F.ns
    obtain ⟨v, h1, h2⟩ := h x e hx hk
    exact ⟨m, v, hn, h1, h2⟩
  · rcases hk with hk | hk
    · obtain ⟨c, v, h1, _, h3, h4⟩ := F.cell x hk
      obtain ⟨v', rfl, h5⟩ := h4 e hx
      exact ⟨c, v', h1, h3, h5⟩
    · exact absurd hk (F.nofree x)
theorem Fs.gd' (F : Fs w mg mb own₀ lown X s₀ env σ s) : Gd w mg mb s.heap := F.gd _ F.keep
theorem Fs.kp (F : Fs w mg mb own₀ lown X s₀ env σ s) (k' : Kp s s') : Fs w mg mb own₀ lown X s₀ env σ s' where
  same := by
    obtain ⟨h1, t1, rfl⟩ := F.same
    obtain ⟨h2, t2, rfl⟩ := k'.same
    exact ⟨_, _, rfl⟩
  keep := fun b o hb e => k'.heap b o (F.keep b o hb e)
  glob := F.glob
  blt := F.blt
  kind := F.kind
  locMu := F.locMu
  ns := let ⟨m, hn, h⟩ := F.ns; ⟨m, hn.keeps k'.heap, fun x e h1 h2 => let ⟨v, h3, h4⟩ := h x e h1 h2; ⟨v, h3, h4.keeps k'.heap⟩⟩
  cell := fun x hx => let ⟨c, v, h1, h2, h3, h4⟩ := F.cell x hx; ⟨c, v, h1, h2, h3.keeps k'.heap, fun e he => let ⟨v', h5, h6⟩ := h4 e he; ⟨v', h5, h6.keeps k'.heap⟩⟩
  nofree := F.nofree
  apart := F.apart
  alive := F.alive.keeps k'.heap
  newl := F.newl
  live := fun b hb => let ⟨o, e, r⟩ := F.live b hb; ⟨o, k'.heap _ _ e, r⟩
  disj := F.disj
  gd := F.gd
/-- fewer names -/
theorem Fs.weak (F : Fs w mg mb own₀ lown X s₀ env σ s) (h : ∀ p ∈ σ', σ.lookup p.1 = some p.2) : Fs w mg mb own₀ lown X s₀ env σ' s :=
  have h' : ∀ x e, σ'.lookup x = some e → σ.lookup x = some e := fun x e q => h _ (PySem.mem_of_lookup q)
  { F with
    ns := let ⟨m, hn, q⟩ := F.ns; ⟨m, hn, fun x e h1 h2 => q x e (h' x e h1) h2⟩
    cell := fun x hx => let ⟨c, v, h1, h2, h3, h4⟩ := F.cell x hx; ⟨c, v, h1, h2, h3, fun e he => h4 e (h' x e he)⟩ }

theorem liveOf' {own : List Addr} {X : Addr → Prop} {h h' : Heap} {a : Addr} {oa : Obj} (l : ∀ b, X b → ∃ o, h.get? b = some o ∧ (b ∈ own ∨ NotSeq o)) (hs : Heap.SameBut a h h') (ea : h.get? a = some oa) (hn : ∃ o, h'.get? a = some o ∧ NotSeq o) : ∀ b, X b → ∃ o, h'.get? b = some o ∧ (b ∈ own ∨ NotSeq o) := fun b hb => by
  by_cases q : b = a
  · subst q
    obtain ⟨o, e, n⟩ := hn
    exact ⟨o, e, .inr n⟩
  · obtain ⟨o, e, r⟩ := l b hb
    exact ⟨o, hs.extBut b o q e, r⟩
/-- a name is stored -/
theorem Fs.store' (F : Fs w mg mb own₀ lown X s₀ env σ s) {x : Str} {v : Value} {e : Option Addr × Dt} (hv : RepF (lown ++ own₀) s.heap v e) (hk : env.kindOf x = some .local ∨ env.kindOf x = some .cell) {Q : Unit → Shared → Prop}
    (h : ∀ s' ax ox, s.heap.get? ax = some ox → (ax = env.locals ∨ ∃ y, env.cells.lookup y = some ax ∧ env.kindOf y = some .cell) → NotSeq ox → Heap.SameBut ax s.heap s'.heap → (∃ h'' tk', s' = { s with heap := h'', toks := tk' }) → Fs w mg mb own₀ lown X s₀ env ((x, e) :: σ) s' → Q () s') : wpAny (model prog w) A (storeName env x v) Q E s := by
  have same : ∀ h' tk, ∃ h'' tk', ({ s with heap := h', toks := tk } : Shared) = { s₀ with heap := h'', toks := tk' } := fun h' tk => by
    obtain ⟨h1, t1, rfl⟩ := F.same; exact ⟨_, _, rfl⟩
  rcases hk with hk | hk
  · obtain ⟨m, hn, hm⟩ := F.ns
    obtain ⟨oL, es, ep, eL, dL, rL⟩ := id hn
    have nL : NotSeq oL := fun us n q => by rw [dL] at q; cases q
    refine wpAny_storeName_local hk hn (fun h' hn' hs' => h _ _ _ eL (.inl rfl) nL hs' ⟨_, _, rfl⟩ ?_) (by rw [F.kind]; rfl)
    refine ⟨same _ _, fun b o hb q => hs'.extBut b o (fun r => ?_) (F.keep b o hb q), F.glob, F.blt, F.kind, F.locMu, ⟨_, hn', fun y e' hy hl => ?_⟩, fun y hy => ?_, F.nofree, F.apart, ?_, F.newl, liveOf' F.live hs' eL (let ⟨o, es, ep, e, d, _⟩ := hn'; ⟨o, e, fun us n q => by rw [d] at q; cases q⟩), F.disj, F.gd⟩
    · subst r
      rcases F.locMu with r | r
      · exact hb r
      · rw [r] at q; cases q
    · by_cases hyx : y = x
      · subst hyx
        rw [List.lookup_cons] at hy; simp at hy; subst hy
        exact ⟨v, by simp, hv.sameBut eL nL hs'.extBut⟩
      · rw [lookup_ne hyx] at hy
        obtain ⟨v', h1, h2⟩ := hm y e' hy hl
        exact ⟨v', by simp [hyx, h1], h2.sameBut eL nL hs'.extBut⟩
    · obtain ⟨c, v', h1, h2, h3, h4⟩ := F.cell y hy
      have hcL : c ≠ env.locals := fun q => by
        obtain ⟨o, e1, d1⟩ := h3
        rw [q, eL] at e1; cases e1; rw [dL] at d1; cases d1
      refine ⟨c, v', h1, h2, h3.sameBut hs' hcL, fun e' he => ?_⟩
      have hyx : y ≠ x := fun q => by rw [q, hk] at hy; cases hy
      rw [lookup_ne hyx] at he
      obtain ⟨v'', h5, h6⟩ := h4 e' he
      exact ⟨v'', h5, h6.sameBut eL nL hs'.extBut⟩
    · intro a ha
      obtain ⟨vs, o, e1, c1, n, d1⟩ := F.alive a ha
      exact ⟨vs, o, hs'.extBut a o (fun q => by rw [q, eL] at e1; cases e1; rw [dL] at d1; cases d1) e1, c1, n, d1⟩
  · obtain ⟨c, v0, h1, h2, h3, h4⟩ := F.cell x hk
    obtain ⟨oc, ec, dc⟩ := id h3
    have nc : NotSeq oc := fun us n q => by rw [dc] at q; cases q
    refine wpAny_storeName_cell F.kind hk h1 h3 fun h' hc' hs' => h _ _ _ ec (.inr ⟨x, h1, hk⟩) nc hs' ⟨_, s.toks, rfl⟩ ?_
    refine ⟨same _ _, fun b o hb q => hs'.extBut b o (fun r => ?_) (F.keep b o hb q), F.glob, F.blt, F.kind, F.locMu, ?_, fun y hy => ?_, F.nofree, F.apart, ?_, F.newl, liveOf' F.live hs' ec (let ⟨o, e, d⟩ := hc'; ⟨o, e, fun us n q => by rw [d] at q; cases q⟩), F.disj, F.gd⟩
    · subst r
      rcases h2 with r | r
      · exact hb r
      · rw [r] at q; cases q
    · obtain ⟨m, hn, hm⟩ := F.ns
      obtain ⟨oL, es, ep, eL, dL, rL⟩ := id hn
      have hLc : env.locals ≠ c := fun q => by rw [q, ec] at eL; cases eL; rw [dc] at dL; cases dL
      refine ⟨m, hn.sameBut hs' hLc, fun y e' hy hl => ?_⟩
      have hyx : y ≠ x := fun q => by rw [q, hk] at hl; cases hl
      rw [lookup_ne hyx] at hy
      obtain ⟨v', h5, h6⟩ := hm y e' hy hl
      exact ⟨v', h5, h6.sameBut ec nc hs'.extBut⟩
    · by_cases hyx : y = x
      · subst hyx
        refine ⟨c, _, h1, h2, hc', fun e' he => ?_⟩
        rw [List.lookup_cons] at he; simp at he; subst he
        exact ⟨v, rfl, hv.sameBut ec nc hs'.extBut⟩
      · obtain ⟨c', v', q1, q2, q3, q4⟩ := F.cell y hy
        have hcc : c' ≠ c := fun q => hyx (name_of_addr F.apart (PySem.mem_of_lookup q1) (q ▸ PySem.mem_of_lookup h1))
        refine ⟨c', v', q1, q2, q3.sameBut hs' hcc, fun e' he => ?_⟩
        rw [lookup_ne hyx] at he
        obtain ⟨v'', q5, q6⟩ := q4 e' he
        exact ⟨v'', q5, q6.sameBut ec nc hs'.extBut⟩
    · intro a ha
      obtain ⟨vs, o, e1, c1, n, d1⟩ := F.alive a ha
      exact ⟨vs, o, hs'.extBut a o (fun q => by rw [q, ec] at e1; cases e1; rw [dc] at d1; cases d1) e1, c1, n, d1⟩

theorem Fs.store (F : Fs w mg mb own₀ lown X s₀ env σ s) {x : Str} {v : Value} {e : Option Addr × Dt} (hv : RepF (lown ++ own₀) s.heap v e) (hk : env.kindOf x = some .local ∨ env.kindOf x = some .cell) {Q : Unit → Shared → Prop}
    (h : ∀ s', Fs w mg mb own₀ lown X s₀ env ((x, e) :: σ) s' → Q () s') : wpAny (model prog w) A (storeName env x v) Q E s := F.store' hv hk fun s' _ _ _ _ _ _ _ F' => h s' F'
/-- another object turns -/
theorem Fs.other (F : Fs w mg mb own₀ lown X s₀ env σ s) {C : Addr} {oC : Obj} {h' : Heap} {tk : Nat} (hC : s.heap.get? C = some oC) (nC : NotSeq oC) (hL : C ≠ env.locals) (hc : ∀ x c, env.cells.lookup x = some c → env.kindOf x = some .cell → c ≠ C) (hM : Mu X s₀ C)
    (hs : Heap.ExtBut C s.heap h') (hC' : X C → ∃ o, h'.get? C = some o ∧ NotSeq o) : Fs w mg mb own₀ lown X s₀ env σ { s with heap := h', toks := tk } where
  same := by obtain ⟨h1, t1, rfl⟩ := F.same; exact ⟨_, _, rfl⟩
  keep := fun b o hb e => hs b o (fun q => by subst q; rcases hM with r | r; · exact hb r
                                              · rw [r] at e; cases e) (F.keep b o hb e)
  glob := F.glob
  blt := F.blt
  kind := F.kind
  locMu := F.locMu
  ns := let ⟨m, hn, h⟩ := F.ns; ⟨m, hn.extBut hs (Ne.symm hL), fun x e h1 h2 => let ⟨v, h3, h4⟩ := h x e h1 h2; ⟨v, h3, h4.sameBut hC nC hs⟩⟩
  cell := fun x hx => let ⟨c, v, h1, h2, ⟨o, e, d⟩, h4⟩ := F.cell x hx; ⟨c, v, h1, h2, ⟨o, hs c o (hc x c h1 hx) e, d⟩, fun e he => let ⟨v', h5, h6⟩ := h4 e he; ⟨v', h5, h6.sameBut hC nC hs⟩⟩
  nofree := F.nofree
  apart := F.apart
  alive := fun a ha => let ⟨vs, o, e, c, n, d⟩ := F.alive a ha; ⟨vs, o, hs a o (fun q => by subst q; rw [hC] at e; cases e; exact nC _ _ d) e, c, n, d⟩
  newl := F.newl
  live := fun b hb => by
    by_cases q : b = C
    · subst q
      obtain ⟨o, e, n⟩ := hC' hb
      exact ⟨o, e, .inr n⟩
    · obtain ⟨o, e, r⟩ := F.live b hb
      exact ⟨o, hs b o q e, r⟩
  disj := F.disj
  gd := F.gd

noncomputable def stores (sc : Scope) (x : Str) : Bool := match sc.names.lookup x with | some .local => true | some .cell => true | _ => false
theorem stores_spec (h : stores env.scope x = true) : env.kindOf x = some .local ∨ env.kindOf x = some .cell := by
  unfold stores at h
  unfold Env.kindOf
  split at h
  · exact .inl (by assumption)
  · exact .inr (by assumption)
  · cases h

/-- x = e -/
theorem Fs.assign {sc : Scope} (F : Fs w mg mb own₀ lown X s₀ env σ s) (hr : Room k A) (hsc : env.scope = sc) {x : Str} {e : Expr} {d : Dt} {p pos : Pos} (he : Ev prog w mg mb k sc e σ d) (hx : stores sc x = true) {Q : Flow → Shared → Prop}
    (h : ∀ s', Fs w mg mb own₀ lown X s₀ env ((x, (none, d)) :: σ) s' → Q .next s') (hs : ∀ e', e'.scope = sc → swapsWith e (some (.Name x p)) pos.line e' = pure false := by intro e' he; rfl) : wpAny (model prog w) A (exec (.Assign [.Name x p] e pos) env) Q E s := by
  refine wpAny_Assign_Name (he _ env A s E _ hsc F.envOk F.gd' F.alive hr fun v s₁ k₁ r => ?_) (hs env hsc)
  exact (F.kp k₁).store (e := (none, d)) r (stores_spec (hsc ▸ hx)) h

noncomputable def swapsC (sc scope : Scope) (pos : Pos) (y : Str) (py : Pos) : Bool :=
  (if sc.kind.isAnnotationScope then ScopeKind.function else sc.kind) == .function && sc.names.lookup y == some .local && py.line == pos.line && !(scope.names.any fun (n, k) => n == y && (k == .local || k == .cell))
theorem Fs.assignComp {sc : Scope} (F : Fs w mg mb own₀ lown X s₀ env σ s) (hrm : Room k A) (hsc : env.scope = sc) {elt iter : Expr} {x y : Str} {px py : Pos} {ifs : List Expr} {scope : Scope} {pos spos : Pos} {α : Type} (l : List α) (enc : α → Dt) (p : α → Bool) (f : α → Dt)
    (hok : compOk sc scope x σ = true) (hit : Itr prog w mg mb k sc iter σ (l.map enc))
    (ht : ∀ a ∈ l, Trs prog w mg mb k (relS scope sc) ifs ((x, (none, enc a)) :: σ) (p a))
    (hel : ∀ a ∈ l, p a = true → Ev prog w mg mb k (relS scope sc) elt ((x, (none, enc a)) :: σ) (f a)) (hsz : l.length ≤ sizeLine) (hx : stores sc y = true)
    (hsw : swapsC sc scope pos y py = true) {Q : Flow → Shared → Prop}
    (h : ∀ s', Fs w mg mb own₀ lown X s₀ env ((y, (none, .list ((l.filter p).map f))) :: σ) s' → Q .next s')
    (hf : ∀ env x, foldedSetIterable iter env x = pure x := by intro _ _; rfl) : wpAny (model prog w) A (exec (.Assign [.Name y py] (.ListComp elt [⟨.Name x px, iter, ifs, 0⟩] scope pos) spos) env) Q E s := by
  have hsw : swapsWith (.ListComp elt [⟨.Name x px, iter, ifs, 0⟩] scope pos) (some (.Name y py)) spos.line env = pure true := by subst hsc; unfold swapsC at hsw; unfold swapsWith; simp only [Env.blockKind]; rw [show Env.kindOf env y = env.scope.names.lookup y from rfl]; exact congrArg pure hsw
  rw [exec_Assign_Name_used _ _ _ _ hsw]
  refine wpAny_bind (wpAny_standAt (wpAny_bind ?_))
  show wpAny _ A (do let _ ← comprehension (.ListComp elt [⟨.Name x px, iter, ifs, 0⟩] scope pos) scope env _ (newList []) false (eval iter env) (some (PySem.assign (.Name y py) env))) _ _ s
  obtain ⟨h1, h2, h3, h4⟩ := comp_core (px := px) (pos := pos) (RR := compPost (model prog w) A E (some (PySem.assign (.Name y py) env)) (fun _ s' => Q .next s')) (E := E) l enc p f hok hit ht hel hsz hsc F.envOk F.gd' F.alive hrm (by
    intro D C s' k' hC hD hDC hns _ r
    obtain ⟨m, hn⟩ := hns
    obtain ⟨oC, es, ep, eC, dC, rC⟩ := id hn
    have F' := F.kp k'
    show wpAny _ A (PySem.assign (.Name y py) env (.ref D)) _ _ _
    refine wpAny_assign_Name ?_
    refine F'.store' (e := (none, .list ((l.filter p).map f))) r (stores_spec (hsc ▸ hx)) fun s'' ax ox eax hax nax hsb hsame F'' => ?_
    have hax' : ax ≠ C := fun q => by
      subst q
      rcases hax with q | ⟨z, q, qk⟩
      · obtain ⟨m', ⟨o1, _, _, e1, _⟩, _⟩ := F.ns
        rw [← q, hC] at e1; cases e1
      · obtain ⟨c, v, q1, _, ⟨o1, e1, _⟩, _⟩ := F.cell z qk
        rw [q] at q1; cases q1
        rw [hC] at e1; cases e1
    have hnC := hn.sameBut hsb (Ne.symm hax')
    obtain ⟨oC', es', ep', eC', dC', _⟩ := id hnC
    refine ⟨m, hnC, fun h' hsb' => h _ ?_⟩
    refine F''.other (tk := s''.toks) eC' (fun us n q => by rw [dC'] at q; cases q) (fun q => ?_) (fun z c q1 qk q2 => ?_) ?_ hsb'.extBut (fun hX => by obtain ⟨o, e, _⟩ := F.live _ hX; rw [hC] at e; cases e)
    · obtain ⟨m', ⟨o1, _, _, e1, _⟩, _⟩ := F.ns
      rw [← q, hC] at e1; cases e1
    · subst q2
      obtain ⟨c, v, r1, _, ⟨o1, e1, _⟩, _⟩ := F.cell z qk
      rw [q1] at r1; cases r1
      rw [hC] at e1; cases e1
    · by_cases hX : X C
      · exact .inl hX
      · refine .inr ?_
        cases q : s₀.heap.get? C with
        | none => rfl
        | some o => have := F.keep C o hX q; rw [hC] at this; cases this)
  exact wpAny_bind (wpAny_mono (wpAny_comprehension_free (use := some (PySem.assign (.Name y py) env)) (Q := fun _ s' => Q .next s') rfl (hf env) h1 h2 h3 h4) (fun _ s' hq => wpAny_pure (wpAny_pure hq)) fun _ _ e => e)
end
end Mine
end
section
open PySem PySem.W PyProof.Rows PySem.Calls
set_option Elab.async false
set_option linter.unusedVariables false
namespace Mine
section
variable {prog : Program} {w : World} {mg mb : Str → Option Value} {k : Nat} {own₀ lown : List Addr} {X : Addr → Prop} {s₀ s s' : Shared} {env : Env} {σ σ' : Sig} {A : Around} {E : Value → Shared → Prop}

/-- what a frame may change -/
noncomputable def Xf (X : Addr → Prop) (env : Env) (lown : List Addr) (b : Addr) : Prop := X b ∨ b = env.locals ∨ (∃ x, env.kindOf x = some .cell ∧ env.cells.lookup x = some b) ∨ b ∈ lown
theorem Fs.xf_mu (F : Fs w mg mb own₀ lown X s₀ env σ s) {b : Addr} (h : Xf X env lown b) : Mu X s₀ b := by
  rcases h with h | h | ⟨x, h1, h2⟩ | h
  · exact .inl h
  · exact h ▸ F.locMu
  · obtain ⟨c, v, q1, q2, _⟩ := F.cell x h1
    rw [h2] at q1; cases q1; exact q2
  · exact F.newl b h
theorem Fs.xf_not (F : Fs w mg mb own₀ lown X s₀ env σ s) {b : Addr} {o : Obj} (hb : ¬ X b) (e : s₀.heap.get? b = some o) : ¬ Xf X env lown b := fun h => by
  rcases F.xf_mu h with r | r
  · exact hb r
  · rw [r] at e; cases e
theorem Fs.root (F : Fs w mg mb own₀ lown X s₀ env σ s) : Fs w mg mb own₀ lown (Xf X env lown) s env σ s where
  same := ⟨s.heap, s.toks, rfl⟩
  keep := fun _ _ _ e => e
  glob := F.glob
  blt := F.blt
  kind := F.kind
  locMu := .inl (.inr (.inl rfl))
  ns := F.ns
  cell := fun x hx => let ⟨c, v, h1, h2, h3, h4⟩ := F.cell x hx; ⟨c, v, h1, .inl (.inr (.inr (.inl ⟨x, hx, h1⟩))), h3, h4⟩
  nofree := F.nofree
  apart := F.apart
  alive := F.alive
  newl := fun a ha => .inl (.inr (.inr (.inr ha)))
  live := fun b hb => by
    rcases hb with h | h | ⟨x, h1, h2⟩ | h
    · exact F.live b h
    · obtain ⟨m, ⟨o, es, ep, e, d, _⟩, _⟩ := F.ns
      exact ⟨o, h ▸ e, .inr fun us n q => by rw [d] at q; cases q⟩
    · obtain ⟨c, v, q1, q2, ⟨o, e, d⟩, _⟩ := F.cell x h1
      rw [h2] at q1; cases q1
      exact ⟨o, e, .inr fun us n q => by rw [d] at q; cases q⟩
    · obtain ⟨vs, o, e, _⟩ := F.alive b (List.mem_append_left _ h)
      exact ⟨o, e, .inl (List.mem_append_left _ h)⟩
  disj := F.disj
  gd := fun h' hk => F.gd h' fun b o hb e => hk b o (F.xf_not hb e) (F.keep b o hb e)
theorem Fs.unroot {lown' : List Addr} (F : Fs w mg mb own₀ lown X s₀ env σ s) (F' : Fs w mg mb own₀ lown' (Xf X env lown) s env σ' s') (hl : ∀ b, X b → b ∈ lown ++ own₀ → b ∈ lown' ++ own₀) : Fs w mg mb own₀ lown' X s₀ env σ' s' where
  same := by
    obtain ⟨h1, t1, rfl⟩ := F.same
    obtain ⟨h2, t2, rfl⟩ := F'.same
    exact ⟨_, _, rfl⟩
  keep := fun b o hb e => F'.keep b o (F.xf_not hb e) (F.keep b o hb e)
  glob := F.glob
  blt := F.blt
  kind := F.kind
  locMu := F.locMu
  ns := F'.ns
  cell := fun x hx => by
    obtain ⟨c, v, h1, h2, h3, h4⟩ := F'.cell x hx
    obtain ⟨c', v', q1, q2, _⟩ := F.cell x hx
    rw [h1] at q1; cases q1
    exact ⟨c, v, h1, q2, h3, h4⟩
  nofree := F.nofree
  apart := F.apart
  alive := F'.alive
  newl := fun a ha => by
    rcases F'.newl a ha with h | h
    · exact F.xf_mu h
    · by_cases hX : X a
      · exact .inl hX
      · refine .inr ?_
        cases q : s₀.heap.get? a with
        | none => rfl
        | some o => rw [F.keep a o hX q] at h; cases h
  live := fun b hb => F'.live b (.inl hb)
  disj := F'.disj
  gd := F.gd

/-- statements one behind the other -/
theorem seq_next {st : Stmt} {rest : List Stmt} {Q : Flow → Shared → Prop} (h : wpAny (model prog w) A (exec st env) (fun f s' => f = .next ∧ wpAny (model prog w) A (execs rest env) Q E s') E s) : wpAny (model prog w) A (execs (st :: rest) env) Q E s :=
  wpAny_execs_cons (wpAny_mono h (fun f s' h' => by obtain ⟨rfl, h'⟩ := h'; exact h') fun _ _ e => e)

/-- the turns of a for over xs by the iterator at It -/
theorem Fs.turns {sc : Scope} (F : Fs w mg mb own₀ lown X s₀ env σ s) (hsc : env.scope = sc) {x : Str} {px : Pos} {body orelse : List Stmt} {xs : List Dt} {It : Addr} {St : List Addr → Nat → Heap → Prop} (src : Src prog w A It xs St) (hst : St (lown ++ own₀) 0 s.heap) (hXI : ¬ X It) (hMI : Mu X s₀ It) (hIo : ∀ a ∈ lown ++ own₀, a ≠ It) (hx : stores sc x = true) (I : Nat → Sig → Prop) (h0 : I 0 σ) {Q : Flow → Shared → Prop} {R : Value → Shared → Prop}
    (turn : ∀ i d σ' X₁ s₁ s₂ E', xs[i]? = some d → I i σ' → Fs w mg mb own₀ lown X s₀ env ((x, (none, d)) :: σ') s₂ → Fs w mg mb own₀ lown X₁ s₁ env ((x, (none, d)) :: σ') s₂ →
      wpAny (model prog w) A (execs body env) (fun f s₃ => match f with
        | .next | .cont => ∃ σ'', I (i + 1) σ'' ∧ Fs w mg mb own₀ lown X₁ s₁ env σ'' s₃
        | .brk => ∃ σ'', Fs w mg mb own₀ lown X₁ s₁ env σ'' s₃ ∧ ∀ s₄, Fs w mg mb own₀ lown X s₀ env σ'' s₄ → Q .next s₄
        | .ret _ => False) E' s₂)
    (done : ∀ σ' s₂ E', I xs.length σ' → Fs w mg mb own₀ lown X s₀ env σ' s₂ → wpAny (model prog w) A (execs orelse env) Q E' s₂) :
    codeAny (model prog w) A (.forLoop (.Name x px) (.ref It) body orelse env) (fun r s' => match r with | .ok f => Q f s' | .error e => R e s') s := by
  refine codeAny_forLoop (fun n s' => ∃ i σ', I i σ' ∧ Fs w mg mb own₀ lown X s₀ env σ' s' ∧ St (lown ++ own₀) i s'.heap ∧ i ≤ xs.length ∧ n = xs.length + 1 - i) ?_ (xs.length + 1) ⟨0, σ, h0, F, hst, Nat.zero_le _, rfl⟩
  rintro n s' ⟨i, σ', hIi, F', hst', hi, rfl⟩
  obtain ⟨oi, fs, eI, dI⟩ := src.obj _ _ _ hst'
  have nI : NotSeq oi := fun us n q => by rw [dI] at q; cases q
  have hLI : It ≠ env.locals := fun q => by
    obtain ⟨m, ⟨o, es, ep, e, d, _⟩, _⟩ := F'.ns
    rw [← q, eI] at e; cases e; rw [dI] at d; cases d
  have hcI : ∀ x c, env.cells.lookup x = some c → env.kindOf x = some .cell → c ≠ It := fun x c h1 h2 q => by
    obtain ⟨c', v, q1, _, ⟨o, e, d⟩, _⟩ := F'.cell x h2
    rw [h1] at q1; cases q1
    rw [q, eI] at e; cases e; rw [dI] at d; cases d
  by_cases hlt : i < xs.length
  · have hxi : xs[i]? = some xs[i] := by simp [hlt]
    generalize xs[i] = d at hxi
    refine src.item (lown ++ own₀) i s' _ _ d hxi hst' fun v h₁ tk₁ hv hst₁ hk₁ => ?_
    have F₂ : Fs w mg mb own₀ lown X s₀ env σ' { s' with heap := h₁, toks := tk₁ } := F'.other eI nI hLI hcI hMI (fun b o hb e => hk₁ b o hb e) fun q => absurd q hXI
    obtain ⟨oi₁, fs₁, eI₁, dI₁⟩ := src.obj _ _ _ hst₁
    refine wpAny_assign_Name (F₂.store' (e := (none, d)) hv (stores_spec (hsc ▸ hx)) fun s₃ ax ox eax hax nax hsb _ F₃ => ?_)
    have haI : ax ≠ It := fun q => by
      rcases hax with r | ⟨z, r1, r2⟩
      · exact hLI (q ▸ r)
      · exact hcI z ax r1 r2 q
    have hst₃ : St (lown ++ own₀) (i + 1) s₃.heap := src.frame _ _ h₁ _ hst₁ fun b o e q => hsb.extBut b o (fun hb => by
      subst hb
      rcases q with q | ⟨⟨us, n, q⟩, _⟩
      · exact haI q
      · have eax' : h₁.get? b = some ox := eax
        rw [e] at eax'; cases eax'; exact nax _ _ q) e
    refine wpAny_mono (turn i d σ' _ s₃ s₃ _ hxi hIi F₃ F₃.root) (fun f s₄ h₄ => ?_) fun _ _ e => e
    have after : ∀ σ'', Fs w mg mb own₀ lown (Xf X env lown) s₃ env σ'' s₄ → Fs w mg mb own₀ lown X s₀ env σ'' s₄ ∧ St (lown ++ own₀) (i + 1) s₄.heap := fun σ'' F₄ => by
      refine ⟨F₃.unroot F₄ fun _ _ h => h, src.frame _ _ s₃.heap _ hst₃ fun b o e q => F₄.keep b o (fun hb => ?_) e⟩
      rcases hb with hb | hb | ⟨z, r1, r2⟩ | hb
      · rcases q with q | ⟨⟨us, n, q⟩, q2⟩
        · exact hXI (q ▸ hb)
        · obtain ⟨o', e', r⟩ := F₃.live b hb
          rw [e] at e'; cases e'
          rcases r with r | r
          · exact q2 r
          · exact r _ _ q
      · rcases q with q | ⟨⟨us, n, q⟩, q2⟩
        · exact hLI (q ▸ hb)
        · obtain ⟨m, ⟨o1, es, ep, e1, d1, _⟩, _⟩ := F₃.ns
          rw [hb] at e
          rw [e] at e1; cases e1; rw [q] at d1; cases d1
      · rcases q with q | ⟨⟨us, n, q⟩, q2⟩
        · exact hcI z b r2 r1 q
        · obtain ⟨c', v', q1, _, ⟨o1, e1, d1⟩, _⟩ := F₃.cell z r1
          rw [r2] at q1; cases q1
          rw [e] at e1; cases e1; rw [q] at d1; cases d1
      · rcases q with q | ⟨_, q2⟩
        · exact hIo b (List.mem_append_left _ hb) q
        · exact q2 (List.mem_append_left _ hb)
    cases f with
    | next => obtain ⟨σ'', q1, q2⟩ := h₄; exact ⟨xs.length + 1 - (i + 1), by omega, i + 1, σ'', q1, (after σ'' q2).1, (after σ'' q2).2, hlt, rfl⟩
    | cont => obtain ⟨σ'', q1, q2⟩ := h₄; exact ⟨xs.length + 1 - (i + 1), by omega, i + 1, σ'', q1, (after σ'' q2).1, (after σ'' q2).2, hlt, rfl⟩
    | brk => obtain ⟨σ'', q1, q2⟩ := h₄; exact q2 _ (after σ'' q1).1
    | ret v => exact h₄.elim
  · have hin : i = xs.length := by omega
    subst hin
    refine src.done (lown ++ own₀) s' _ _ hst' fun h₁ tk₁ hk₁ => ?_
    have F₂ : Fs w mg mb own₀ lown X s₀ env σ' { s' with heap := h₁, toks := tk₁ } := F'.other eI nI hLI hcI hMI (fun b o hb e => hk₁ b o hb e) fun q => absurd q hXI
    exact done σ' _ _ hIi F₂
/-- for x in iter: body, else: orelse -/
theorem Fs.for_ {sc : Scope} (F : Fs w mg mb own₀ lown X s₀ env σ s) (hr : Room k A) (hsc : env.scope = sc) {x : Str} {px pos : Pos} {iter : Expr} {body orelse : List Stmt} {xs : List Dt} (hit : Itr prog w mg mb k sc iter σ xs) (hx : stores sc x = true) (I : Nat → Sig → Prop) (h0 : I 0 σ) {Q : Flow → Shared → Prop}
    (turn : ∀ i d σ' X₁ s₁ s₂ E', xs[i]? = some d → I i σ' → Fs w mg mb own₀ lown X₁ s₁ env ((x, (none, d)) :: σ') s₂ →
      wpAny (model prog w) A (execs body env) (fun f s₃ => match f with
        | .next | .cont => ∃ σ'', I (i + 1) σ'' ∧ Fs w mg mb own₀ lown X₁ s₁ env σ'' s₃
        | .brk => ∃ σ'', Fs w mg mb own₀ lown X₁ s₁ env σ'' s₃ ∧ ∀ s₄, Fs w mg mb own₀ lown X s₀ env σ'' s₄ → Q .next s₄
        | .ret _ => False) E' s₂)
    (done : ∀ σ' s₂ E', I xs.length σ' → Fs w mg mb own₀ lown X s₀ env σ' s₂ → wpAny (model prog w) A (execs orelse env) Q E' s₂)
    (hf : ∀ env x, foldedSetIterable iter env x = pure x := by intro _ _; rfl) : wpAny (model prog w) A (exec (.For (.Name x px) iter body orelse pos) env) Q E s := by
  refine wpAny_For (hit _ env A s E _ hsc F.envOk F.gd' F.alive hr fun It St s₁ k₁ hI src hst => ?_) (hf env)
  have F₁ := F.kp k₁
  have hXI : ¬ X It := fun q => by obtain ⟨o, e, _⟩ := F.live _ q; rw [hI] at e; cases e
  have hMI : Mu X s₀ It := by
    refine .inr ?_
    cases q : s₀.heap.get? It with
    | none => rfl
    | some o => rw [F.keep It o hXI q] at hI; cases hI
  have hIo : ∀ a ∈ lown ++ own₀, a ≠ It := fun a ha q => by
    subst q
    obtain ⟨vs, o, e, _⟩ := F.alive a ha
    rw [hI] at e; cases e
  exact F₁.turns hsc src hst hXI hMI hIo hx I h0 (fun i d σ' X₁ s₁ s₂ E' h1 h2 _ h3 => turn i d σ' X₁ s₁ s₂ E' h1 h2 h3) done

theorem Fs.if_ {sc : Scope} (F : Fs w mg mb own₀ lown X s₀ env σ s) (hr : Room k A) (hsc : env.scope = sc) {t : Expr} {b : Bool} {body orelse : List Stmt} {pos : Pos} (ht : Tr prog w mg mb k sc t σ b) {Q : Flow → Shared → Prop}
    (hb : b = true → ∀ s', Fs w mg mb own₀ lown X s₀ env σ s' → wpAny (model prog w) A (execs body env) Q E s') (ho : b = false → ∀ s', Fs w mg mb own₀ lown X s₀ env σ s' → wpAny (model prog w) A (execs orelse env) Q E s') :
    wpAny (model prog w) A (exec (.If t body orelse pos) env) Q E s := by
  refine wpAny_If (ht _ env A s E _ hsc F.envOk F.gd' F.alive hr fun s₁ k₁ => ?_)
  cases b with
  | true => exact hb rfl s₁ (F.kp k₁)
  | false => exact ho rfl s₁ (F.kp k₁)
theorem Fs.ret {sc : Scope} (F : Fs w mg mb own₀ lown X s₀ env σ s) (hr : Room k A) (hsc : env.scope = sc) {e : Expr} {d : Dt} {pos : Pos} (he : Ev prog w mg mb k sc e σ d) {Q : Flow → Shared → Prop}
    (h : ∀ v s', Fs w mg mb own₀ lown X s₀ env σ s' → Rep (lown ++ own₀) s'.heap v d → Q (.ret v) s') : wpAny (model prog w) A (exec (.Return (some e) pos) env) Q E s :=
  wpAny_Return_some (he _ env A s E _ hsc F.envOk F.gd' F.alive hr fun v s₁ k₁ r => h v s₁ (F.kp k₁) r)
theorem Fs.kp0 (F : Fs w mg mb own₀ lown (fun _ => False) s₀ env σ s) : Kp s₀ s := ⟨F.same, fun b o e => F.keep b o (fun q => q) e⟩
/-- return e, the frame's end -/
theorem Fs.retF {sc : Scope} (F : Fs w mg mb own₀ lown (fun _ => False) s₀ env σ s) (hr : Room k A) (hsc : env.scope = sc) {e : Expr} {d : Dt} {pos : Pos} {rest : List Stmt} (he : Ev prog w mg mb k sc e σ d) {Q : Flow → Shared → Prop}
    (hQ : ∀ v s', Kp s₀ s' → Rep own₀ s'.heap v d → Q (.ret v) s') : wpAny (model prog w) A (execs (.Return (some e) pos :: rest) env) Q E s :=
  wpAny_execs_cons (F.ret hr hsc he fun v s' F' r => hQ v s' F'.kp0 (r.less fun a ha => List.mem_append_right _ ha))
end

theorem bindL_not {kd : Str → Option NameKind} {x : Str} : ∀ (binds : List (Str × Value)) (m : Str → Option Value), (∀ p ∈ binds, p.1 ≠ x) → bindL kd binds m x = m x
  | [], m, _ => rfl
  | (n, v) :: r, m, h => by
    unfold bindL
    rw [bindL_not r _ fun p hp => h p (.tail _ hp)]
    have hn : x ≠ n := fun q => h (n, v) (.head _) q.symm
    split
    · simp [hn]
    · rfl
theorem bindC_not {kd : Str → Option NameKind} {x : Str} : ∀ (binds : List (Str × Value)) (m : Str → Option Value), (∀ p ∈ binds, p.1 ≠ x) → bindC kd binds m x = m x
  | [], m, _ => rfl
  | (n, v) :: r, m, h => by
    unfold bindC
    rw [bindC_not r _ fun p hp => h p (.tail _ hp)]
    have hn : x ≠ n := fun q => h (n, v) (.head _) q.symm
    split
    · rfl
    · simp [hn]
theorem bindL_get {kd : Str → Option NameKind} {x : Str} {v : Value} (hk : kd x = some .local) : ∀ (binds : List (Str × Value)) (m : Str → Option Value), (binds.map (·.1)).Nodup → binds.lookup x = some v → bindL kd binds m x = some v
  | [], m, _, h => by cases h
  | (n, u) :: r, m, hn, h => by
    obtain ⟨h1, h2⟩ := List.nodup_cons.mp hn
    unfold bindL
    by_cases hx : x = n
    · subst hx
      rw [List.lookup_cons] at h; simp at h; subst h
      rw [bindL_not (x := x) r _ (fun p hp q => h1 (List.mem_map.mpr ⟨p, hp, q⟩)), if_pos hk]
      simp
    · rw [lookup_ne hx] at h
      exact bindL_get hk r _ h2 h
theorem bindC_get {kd : Str → Option NameKind} {x : Str} {v : Value} (hk : kd x ≠ some .local) : ∀ (binds : List (Str × Value)) (m : Str → Option Value), (binds.map (·.1)).Nodup → binds.lookup x = some v → bindC kd binds m x = some v
  | [], m, _, h => by cases h
  | (n, u) :: r, m, hn, h => by
    obtain ⟨h1, h2⟩ := List.nodup_cons.mp hn
    unfold bindC
    by_cases hx : x = n
    · subst hx
      rw [List.lookup_cons] at h; simp at h; subst h
      rw [bindC_not (x := x) r _ (fun p hp q => h1 (List.mem_map.mpr ⟨p, hp, q⟩)), if_neg hk]
      simp
    · rw [lookup_ne hx] at h
      exact bindC_get hk r _ h2 h
theorem cellsFrom_some (x : Str) : ∀ (names : List (Str × NameKind)) (n : Nat) (acc : List (Str × Addr)), ((x, NameKind.cell) ∈ names ∨ (acc.lookup x).isSome = true) → ((cellsFrom n names acc).lookup x).isSome = true
  | [], n, acc, h => by
    rcases h with h | h
    · cases h
    · exact h
  | (y, kd) :: r, n, acc, h => by
    unfold cellsFrom
    by_cases hk : kd = .cell
    · subst hk
      simp only [beq_self_eq_true, if_true]
      refine cellsFrom_some x r _ _ ?_
      by_cases hx : x = y
      · subst hx; exact .inr (by simp)
      · rcases h with h | h
        · rcases List.mem_cons.mp h with q | q
          · exact absurd (congrArg Prod.fst q) hx
          · exact .inl q
        · exact .inr (by rw [lookup_ne hx]; exact h)
    · have hb : (kd == NameKind.cell) = false := by simpa using hk
      simp only [hb, Bool.false_eq_true, if_false]
      refine cellsFrom_some x r _ _ ?_
      rcases h with h | h
      · rcases List.mem_cons.mp h with q | q
        · exact absurd (congrArg Prod.snd q).symm hk
        · exact .inl q
      · exact .inr h
theorem zip_lookup {own : List Addr} {h : Heap} {x : Str} {e : Option Addr × Dt} : ∀ {ps : List Str} {vs : List Value} {ds : List Dt}, RepAll own h vs ds → (ps.zip (ds.map fun d => ((none : Option Addr), d))).lookup x = some e → ∃ v d, e = (none, d) ∧ (ps.zip vs).lookup x = some v ∧ Rep own h v d
  | [], _, _, _, q => by simp at q
  | p :: ps, _, _, .nil, q => by simp at q
  | p :: ps, _, _, .cons (v := v) (d := d) r rs, q => by
    simp only [List.map_cons, List.zip_cons_cons] at q ⊢
    by_cases hx : x = p
    · subst hx
      rw [List.lookup_cons] at q; simp at q
      exact ⟨v, d, q.symm, by simp, r⟩
    · rw [lookup_ne hx] at q
      obtain ⟨v', d', h1, h2, h3⟩ := zip_lookup rs q
      exact ⟨v', d', h1, by rw [lookup_ne hx]; exact h2, h3⟩
theorem zip_names {ps : List Str} {vs : List Value} (h : vs.length = ps.length) : (ps.zip vs).map (·.1) = ps := by
  rw [List.map_fst_zip]; omega

/-- the frame of a call -/
theorem enter_fsQ {prog : Program} {w : World} {mg mb : Str → Option Value} {k : Nat} {a : Addr} {o : Obj} {fd : FuncData} {body : List Stmt} {args : List Dt} {ps : List Str} {own : List Addr} {A : Around} {s : Shared} {R : Result → Shared → Prop} {vs : List Value}
    (hg : Gd w mg mb s.heap) (ha : Alive own s.heap) (hr : Room (k + 1) A) (hra : RepAll own s.heap vs args) (ho : s.heap.get? a = some o) (hdata : o.data = .func fd) (hcd : s.heap.CodeRec fd.code fd.qualname) (hbody : fd.body = .stmts body)
    (hlen : vs.length = ps.length) (hbind : ∀ (Q : List (Str × Value) → Shared → Prop) (E : Value → Shared → Prop) (A : Around), Q (ps.zip vs) s → wpAny (model prog w) A (bindArgs fd ⟨vs, []⟩) Q E s) (hclo : fd.closure = []) (hgl : fd.globals = mainGlobals) (hbl : fd.builtins = builtinsNs)
    (hkind : (ps.all fun x => stores fd.scope x) = true) (hnd : ps.Nodup) (hnf : (fd.scope.names.all fun x => x.2 != .free) = true) (hk : fd.scope.kind = .function) (hco : fd.scope.isCoroutine = false) (hgen : fd.scope.isGenerator = false)
    (h : ∀ (s₁ : Shared) (env : Env) (E : Value → Shared → Prop), env.scope = fd.scope → env.code = fd.code → env.qual = fd.qualname ++ ".<locals>." → Room k (A.deeper env) → Fs w mg mb own [] (fun _ => False) s env (ps.zip (args.map fun d => (none, d))) s₁ →
      wpAny (model prog w) (A.deeper env) (execs body env) (fun f s' => R (.ok (.ret (match f with | .ret v => v | _ => .none))) s') E s₁) : codeAny (model prog w) A (.call (.ref a) ⟨vs, []⟩) R s := by
  refine codeAny_call_function (by have := hr.depth; omega) ho hdata hco hgen hbody hcd (hbind _ _ _ ?_)
  rw [hclo]
  refine wpAny_newFunctionEnv_cells hk ?_ fun env henv s₁ IC => ⟨hg.lim.keeps IC.toInCall.keep, codeAny_func ?_⟩
  · intro x hx
    have hm : x.1 ∈ ps := by have := List.mem_map_of_mem (f := (·.1)) hx; rwa [zip_names hlen] at this
    have hst := List.all_eq_true.mp hkind _ hm
    unfold stores at hst
    split at hst
    · exact .inl (by assumption)
    · rename_i q
      exact .inr ⟨q, cellsFrom_some _ _ _ _ (.inl (PySem.mem_of_lookup q))⟩
    · cases hst
  · have c1 : env.scope = fd.scope := by rw [henv]; rfl
    have c2 : env.locals = s.heap.objs.size := by rw [henv]; rfl
    have c3 : env.cells = cellsFrom (s.heap.objs.size + 1) fd.scope.names [] := by rw [henv]; rfl
    have fresh : ∀ b, s.heap.objs.size ≤ b → s.heap.get? b = none := fun b hb => by
      cases q : s.heap.get? b with
      | none => rfl
      | some o => exact absurd (Heap.lt_size q) (Nat.not_lt.mpr hb)
    refine h s₁ env _ c1 (by rw [henv]; rfl) (by rw [henv]; rfl) hr.deeper ?_
    refine ⟨IC.toInCall.same, fun b o _ e => IC.toInCall.keep b o e, by rw [henv]; exact hgl, by rw [henv]; exact hbl, by rw [c1]; exact hk, .inr (fresh _ (by rw [c2]; exact Nat.le_refl _)), ⟨_, IC.toInCall.ns, fun x e hx hl => ?_⟩, fun x hx => ?_, fun x => ?_, IC.apart, ?_, (fun _ q => by cases q), (fun _ q => q.elim), (fun _ q => by cases q), fun h' hk' => hg.keeps fun b o e => hk' b o (fun q => q) e⟩
    · obtain ⟨v, d', rfl, q2, q3⟩ := zip_lookup hra hx
      exact ⟨v, bindL_get hl _ _ (by rw [zip_names hlen]; exact hnd) q2, Rep.keeps q3 IC.toInCall.keep⟩
    · have hcx : fd.scope.names.lookup x = some .cell := by unfold Env.kindOf at hx; rwa [c1] at hx
      obtain ⟨c, hc⟩ := Option.isSome_iff_exists.mp (cellsFrom_some x fd.scope.names (s.heap.objs.size + 1) [] (.inl (PySem.mem_of_lookup hcx)))
      rw [← c3] at hc
      refine ⟨c, _, hc, .inr (fresh c ?_), IC.cell x c hc, fun e he => ?_⟩
      · have := IC.above x c (PySem.mem_of_lookup hc)
        rw [c2] at this
        exact Nat.le_of_lt this
      · obtain ⟨v, d', rfl, q2, q3⟩ := zip_lookup hra he
        exact ⟨v, bindC_get (by rw [hx]; simp) _ _ (by rw [zip_names hlen]; exact hnd) q2, Rep.keeps q3 IC.toInCall.keep⟩
    · intro q
      have hcx : fd.scope.names.lookup x = some .free := by unfold Env.kindOf at q; rwa [c1] at q
      have := List.all_eq_true.mp hnf _ (PySem.mem_of_lookup hcx)
      simp at this
    · exact ha.keeps IC.toInCall.keep
theorem enter_fs {prog : Program} {w : World} {mg mb : Str → Option Value} {k : Nat} {a : Addr} {o : Obj} {fd : FuncData} {body : List Stmt} {args : List Dt} {ps : List Str} {own : List Addr} {A : Around} {s : Shared} {R : Result → Shared → Prop} {vs : List Value}
    (hg : Gd w mg mb s.heap) (ha : Alive own s.heap) (hr : Room (k + 1) A) (hra : RepAll own s.heap vs args) (ho : s.heap.get? a = some o) (hdata : o.data = .func fd) (hcd : s.heap.CodeRec fd.code fd.qualname) (hbody : fd.body = .stmts body)
    (hlen : vs.length = ps.length) (hbind : ∀ (Q : List (Str × Value) → Shared → Prop) (E : Value → Shared → Prop) (A : Around), Q (ps.zip vs) s → wpAny (model prog w) A (bindArgs fd ⟨vs, []⟩) Q E s) (hclo : fd.closure = []) (hgl : fd.globals = mainGlobals) (hbl : fd.builtins = builtinsNs)
    (hkind : (ps.all fun x => stores fd.scope x) = true) (hnd : ps.Nodup) (hnf : (fd.scope.names.all fun x => x.2 != .free) = true) (hk : fd.scope.kind = .function) (hco : fd.scope.isCoroutine = false) (hgen : fd.scope.isGenerator = false)
    (h : ∀ (s₁ : Shared) (env : Env) (E : Value → Shared → Prop), env.scope = fd.scope → env.code = fd.code → Room k (A.deeper env) → Fs w mg mb own [] (fun _ => False) s env (ps.zip (args.map fun d => (none, d))) s₁ →
      wpAny (model prog w) (A.deeper env) (execs body env) (fun f s' => R (.ok (.ret (match f with | .ret v => v | _ => .none))) s') E s₁) : codeAny (model prog w) A (.call (.ref a) ⟨vs, []⟩) R s :=
  enter_fsQ hg ha hr hra ho hdata hcd hbody hlen hbind hclo hgl hbl hkind hnd hnf hk hco hgen fun s₁ env E h1 h2 _ h3 F => h s₁ env E h1 h2 h3 F
/-- a call of a def whose names are its arguments' -/
theorem fn_of {prog : Program} {w : World} {mg mb : Str → Option Value} {k : Nat} {a : Addr} {o : Obj} {fd : FuncData} {body : List Stmt} {args : List Dt} {d : Dt} {ps : List Str}
    (ho : ∀ h, Gd w mg mb h → h.get? a = some o) (hdata : o.data = .func fd) (hcd : ∀ h, Gd w mg mb h → h.CodeRec fd.code fd.qualname) (hbody : fd.body = .stmts body)
    (hps : ps.length = args.length) (hbind : ∀ vals : List Value, vals.length = ps.length → bindArgs fd ⟨vals, []⟩ = pure (ps.zip vals)) (hclo : fd.closure = []) (hgl : fd.globals = mainGlobals) (hbl : fd.builtins = builtinsNs)
    (hkind : (ps.all fun x => stores fd.scope x) = true) (hnd : ps.Nodup) (hnf : (fd.scope.names.all fun x => x.2 != .free) = true) (hk : fd.scope.kind = .function) (hco : fd.scope.isCoroutine = false) (hgen : fd.scope.isGenerator = false)
    (h : ∀ (own : List Addr) (A : Around) (s s₁ : Shared) (env : Env) (E : Value → Shared → Prop) (Q : Flow → Shared → Prop), env.scope = fd.scope → env.code = fd.code → Room k A → Fs w mg mb own [] (fun _ => False) s env (ps.zip (args.map fun d => (none, d))) s₁ →
      (∀ v s', Kp s s' → Rep own s'.heap v d → Q (.ret v) s') → wpAny (model prog w) A (execs body env) Q E s₁) : Fn prog w mg mb (k + 1) a args d := by
  intro own A s E Q vs hg ha hr hra hQ
  have hlen : vs.length = ps.length := by rw [hra.length, hps]
  refine wpAny_call (enter_fs hg ha hr hra (ho _ hg) hdata (hcd _ hg) hbody hlen (fun Q E A q => by rw [hbind vs hlen]; exact wpAny_pure q) hclo hgl hbl hkind hnd hnf hk hco hgen fun s₁ env E' c1 c2 hr' F => ?_)
  exact h own (A.deeper env) s s₁ env _ _ c1 c2 hr' F fun v s' k' r => hQ v s' k' r
end Mine
end
section
open PySem PySem.W PyProof.Rows PySem.Calls
set_option Elab.async false
set_option linter.unusedVariables false
set_option maxRecDepth 100000
namespace Mine
noncomputable def params0 : Params := { strHash := fun _ => 0, shareClass := fun _ => 0, mergeTok := id, idOf := fun _ => 0, idOfShared := fun _ _ => 0, followText := fun _ => false, idOfImm := fun _ => 0 }
/-- the def that lies at a -/
noncomputable def fdOf (a : Addr) : FuncData := match (hd0.heap_1 params0).lookup a with
  | some ⟨_, _, .func fd, _⟩ => fd
  | _ => default
noncomputable abbrev fnObj (a : Addr) : Obj := { cls := .type "function", data := .func (fdOf a) }
section
variable {prog : Program} {w : World} {mg mb : Str → Option Value} {k : Nat}
theorem bind1 {fd : FuncData} {x : Str} (h : ∀ v, bindArgs fd ⟨[v], []⟩ = pure [(x, v)]) : ∀ vals : List Value, vals.length = [x].length → bindArgs fd ⟨vals, []⟩ = pure ([x].zip vals)
  | [v], _ => h v
  | [], q => by cases q
  | _ :: _ :: _, q => by cases q
theorem bind2 {fd : FuncData} {x y : Str} (h : ∀ u v, bindArgs fd ⟨[u, v], []⟩ = pure [(x, u), (y, v)]) : ∀ vals : List Value, vals.length = [x, y].length → bindArgs fd ⟨vals, []⟩ = pure ([x, y].zip vals)
  | [u, v], _ => h u v
  | [], q => by cases q
  | [_], q => by cases q
  | _ :: _ :: _ :: _, q => by cases q
theorem bind3 {fd : FuncData} {x y z : Str} (h : ∀ u v t, bindArgs fd ⟨[u, v, t], []⟩ = pure [(x, u), (y, v), (z, t)]) : ∀ vals : List Value, vals.length = [x, y, z].length → bindArgs fd ⟨vals, []⟩ = pure ([x, y, z].zip vals)
  | [u, v, t], _ => h u v t
  | [], q => by cases q
  | [_], q => by cases q
  | [_, _], q => by cases q
  | _ :: _ :: _ :: _ :: _, q => by cases q

/-- a def of the text -/
theorem fn_at {a c : Addr} {oc : Obj} {vs : Array Value} {t : Tok} {body : List Stmt} {args : List Dt} {d : Dt} (ps : List Str) (e1 : ∀ P, (hd0.heap_1 P).lookup a = some (fnObj a)) (e2 : ∀ P, (hd0.heap_1 P).lookup c = some oc)
    (hc : (fdOf a).code = .ref c) (hv : oc.data = .fields vs) (hq : vs[1]? = some (.str (fdOf a).qualname t)) (hbody : (fdOf a).body = .stmts body) (hps : ps.length = args.length) (hbind : ∀ vals : List Value, vals.length = ps.length → bindArgs (fdOf a) ⟨vals, []⟩ = pure (ps.zip vals))
    (hclo : (fdOf a).closure = []) (hgl : (fdOf a).globals = mainGlobals) (hbl : (fdOf a).builtins = builtinsNs)
    (hkind : (ps.all fun x => stores (fdOf a).scope x) = true) (hnd : ps.Nodup) (hnf : ((fdOf a).scope.names.all fun x => x.2 != .free) = true) (hk : (fdOf a).scope.kind = .function) (hco : (fdOf a).scope.isCoroutine = false) (hgen : (fdOf a).scope.isGenerator = false)
    (h : ∀ (own : List Addr) (A : Around) (s s₁ : Shared) (env : Env) (E : Value → Shared → Prop) (Q : Flow → Shared → Prop), env.scope = (fdOf a).scope → env.code = (fdOf a).code → Room k A → Fs w mg mb own [] (fun _ => False) s env (ps.zip (args.map fun d => (none, d))) s₁ →
      (∀ v s', Kp s s' → Rep own s'.heap v d → Q (.ret v) s') → wpAny (model prog w) A (execs body env) Q E s₁) : Fn prog w mg mb (k + 1) a args d :=
  fn_of (fun h g => g.K a _ (e1 _)) rfl (fun h g => ⟨c, _, vs, t, hc, g.K c _ (e2 _), hv, hq⟩) hbody hps hbind hclo hgl hbl hkind hnd hnf hk hco hgen h

theorem fn_S_IMODE (i : Int) : Fn prog w mg mb (k + 1) 44 [.int i] (.int (Builtin.bitAnd i 4095)) :=
  fn_at [Str.ofString "mode"] (fun _ => rfl) (fun _ => rfl) rfl rfl rfl rfl rfl (bind1 fun v => rfl) rfl rfl rfl rfl (by decide) rfl rfl rfl rfl fun own A s s₁ env E Q hsc hcode hr F hQ =>
    F.retF hr hsc (Ev.band (Ev.name rfl rfl) Ev.int) hQ
theorem fn_S_IFMT (i : Int) : Fn prog w mg mb (k + 1) 51 [.int i] (.int (Builtin.bitAnd i 61440)) :=
  fn_at [Str.ofString "mode"] (fun _ => rfl) (fun _ => rfl) rfl rfl rfl rfl rfl (bind1 fun v => rfl) rfl rfl rfl rfl (by decide) rfl rfl rfl rfl fun own A s s₁ env E Q hsc hcode hr F hQ =>
    F.retF hr hsc (Ev.band (Ev.name rfl rfl) Ev.int) hQ
theorem gl_int {x : Str} {i : Int} {t : Tok} (h : ∀ P, nsIn (hd0.heap_1 P) mainGlobals x = some (some (.int i t))) : ∀ h, Gd w mg mb h → mg x = some (.int i t) := fun _ g => mg_of g.K g.g (h _)
theorem gl_fn {x : Str} {a : Addr} (h : ∀ P, nsIn (hd0.heap_1 P) mainGlobals x = some (some (.ref a))) : ∀ h, Gd w mg mb h → mg x = some (.ref a) := fun _ g => mg_of g.K g.g (h _)
theorem gl_none {x : Str} (h : ∀ P, nsIn (hd0.heap_1 P) mainGlobals x = some none) : ∀ h, Gd w mg mb h → mg x = none := fun _ g => mg_none g.K g.g (h _)
theorem obj_at {a : Addr} (e1 : ∀ P, (hd0.heap_1 P).lookup a = some (fnObj a)) : ∀ h, Gd w mg mb h → h.get? a = some (fnObj a) := fun _ g => g.K a _ (e1 _)

theorem fn_S_ISDIR (i : Int) : Fn prog w mg mb (k + 2) 58 [.int i] (.bool (Builtin.bitAnd i 61440 == 16384)) :=
  fn_at [Str.ofString "mode"] (fun _ => rfl) (fun _ => rfl) rfl rfl rfl rfl rfl (bind1 fun v => rfl) rfl rfl rfl rfl (by decide) rfl rfl rfl rfl fun own A s s₁ env E Q hsc hcode hr F hQ =>
    F.retF hr hsc (Ev.cmp (Cmp.eqI (Ev.callD (gl_fn fun _ => rfl) (obj_at fun _ => rfl) rfl rfl (.cons (Ev.name rfl rfl) .nil) (fn_S_IFMT i)) (Ev.gint (gl_int fun _ => rfl) rfl))) hQ
end
end Mine
end
section
open PySem PySem.W PyProof.Rows PySem.Calls
set_option Elab.async false
set_option linter.unusedVariables false
set_option maxRecDepth 100000
namespace Mine
section
variable {prog : Program} {w : World} {mg mb : Str → Option Value} {k : Nat} {sc : Scope} {σ : Sig}
theorem two_pow_ne (q : Nat) : 2 ^ q ≠ 0 := Nat.ne_of_gt (Nat.pow_pos (by decide))
theorem Ev.cast {e : Expr} {d d' : Dt} (h : Ev prog w mg mb k sc e σ d) (hd : d = d') : Ev prog w mg mb k sc e σ d' := hd ▸ h
theorem Ev.nat {n : Nat} {kd : Nat} {p : Pos} : Ev prog w mg mb k sc (.Constant (.int (n : Int)) kd p) σ (eN n) := Ev.int
theorem Ev.lit {i : Int} {n : Nat} {kd : Nat} {p : Pos} (h : i = (n : Int) := by rfl) : Ev prog w mg mb k sc (.Constant (.int i) kd p) σ (eN n) := Ev.int.cast (by rw [h]; rfl)
theorem Ev.addN {l r : Expr} {p : Pos} {a b : Nat} (hl : Ev prog w mg mb k sc l σ (eN a)) (hr : Ev prog w mg mb k sc r σ (eN b)) : Ev prog w mg mb k sc (.BinOp l .Add r p) σ (eN (a + b)) := (Ev.add hl hr).cast (by simp [eN])
theorem Ev.mulN {l r : Expr} {p : Pos} {a b : Nat} (hl : Ev prog w mg mb k sc l σ (eN a)) (hr : Ev prog w mg mb k sc r σ (eN b)) (ha : a < 2 ^ 60) : Ev prog w mg mb k sc (.BinOp l .Mult r p) σ (eN (a * b)) := by
  refine (Ev.mul hl hr (IntMulOk.of_left ?_)).cast (by simp [eN])
  unfold Builtin.Int.intBits
  split
  · omega
  · rename_i h
    have h0 : a ≠ 0 := by intro q; subst q; simp at h
    have : (a : Int).natAbs = a := by simp
    rw [this]
    have := (Nat.log2_lt h0 (k := 60)).mpr ha
    omega
theorem Ev.modN {l r : Expr} {p : Pos} {a b : Nat} (hl : Ev prog w mg mb k sc l σ (eN a)) (hr : Ev prog w mg mb k sc r σ (eN b)) (hb : b ≠ 0) : Ev prog w mg mb k sc (.BinOp l .Mod r p) σ (eN (a % b)) := by
  refine (Ev.mod hl hr (by omega)).cast ?_
  show Dt.int _ = Dt.int _
  rw [Int.fmod_eq_emod_of_nonneg _ (by omega)]; simp
theorem Ev.divN {l r : Expr} {p : Pos} {a b : Nat} (hl : Ev prog w mg mb k sc l σ (eN a)) (hr : Ev prog w mg mb k sc r σ (eN b)) (hb : b ≠ 0) (hs : b < 1073741824) : Ev prog w mg mb k sc (.BinOp l .FloorDiv r p) σ (eN (a / b)) := by
  refine (Ev.fdiv hl hr (by omega) (PyProof.noPylong_small (by simpa using hs))).cast ?_
  show Dt.int _ = Dt.int _
  rw [Int.fdiv_eq_ediv_of_nonneg _ (by omega)]; simp
theorem Ev.powN {l r : Expr} {p : Pos} {n : Nat} (hl : Ev prog w mg mb k sc l σ (eN 2)) (hr : Ev prog w mg mb k sc r σ (eN n)) (hn : n < 2 ^ 20) : Ev prog w mg mb k sc (.BinOp l .Pow r p) σ (eN (2 ^ n)) := by
  refine (Ev.pow hl hr (by omega) ?_).cast ?_
  · have : Builtin.Int.intBits ((2 : Nat) : Int) = 2 := by decide +kernel
    rw [this]; omega
  · show Dt.int _ = Dt.int _
    simp
theorem Cmp.eqN {l r : Expr} {a b : Nat} (hl : Ev prog w mg mb k sc l σ (eN a)) (hr : Ev prog w mg mb k sc r σ (eN b)) : Cmp prog w mg mb k sc l .Eq r σ (a == b) := by
  have := Cmp.eqI hl hr
  have e : (((a : Int)) == (b : Int)) = (a == b) := by rw [Bool.eq_iff_iff]; simp; omega
  rwa [e] at this
theorem Cmp.ltN {l r : Expr} {a b : Nat} (hl : Ev prog w mg mb k sc l σ (eN a)) (hr : Ev prog w mg mb k sc r σ (eN b)) : Cmp prog w mg mb k sc l .Lt r σ (decide (a < b)) := by
  have := Cmp.ltI hl hr
  have e : decide ((a : Int) < (b : Int)) = decide (a < b) := by rw [Bool.eq_iff_iff]; simp
  rwa [e] at this
theorem Cmp.gtN {l r : Expr} {a b : Nat} (hl : Ev prog w mg mb k sc l σ (eN a)) (hr : Ev prog w mg mb k sc r σ (eN b)) : Cmp prog w mg mb k sc l .Gt r σ (decide (a > b)) := by
  have := Cmp.gtI hl hr
  have e : decide ((a : Int) > (b : Int)) = decide (a > b) := by rw [Bool.eq_iff_iff]; simp
  rwa [e] at this
theorem Ev.itemN {v i : Expr} {p : Pos} {xs : List Dt} {n : Nat} {d : Dt} (hv : EvT prog w mg mb k sc v σ (.list xs)) (hi : Ev prog w mg mb k sc i σ (eN n)) (h1 : n < 2 ^ 62) (hd : xs[n]? = some d)
    (hsub : ∀ o iv, subscripted i false o iv = operate [o, iv] (getItem o iv) := by intro _ _; with_unfolding_all rfl) : Ev prog w mg mb k sc (.Subscript v i p) σ d :=
  Ev.item hv hi (by omega) (by omega) (by simpa using hd) hsub
theorem Ev.gnat {x : Str} {p : Pos} {n : Nat} {t : Tok} (hm : ∀ h, Gd w mg mb h → mg x = some (.int (n : Int) t)) (ho : isGl sc x = true) : Ev prog w mg mb k sc (.Name x p) σ (eN n) := Ev.gint hm ho
theorem Ev.lenN {p pos : Pos} {e : Expr} {xs : List Dt} {n : Nat} (hm : ∀ h, Gd w mg mb h → mg "len" = none) (hx : isGl sc "len" = true) (h : EvT prog w mg mb k sc e σ (.list xs)) (hn : xs.length = n) (hsz : n < 2 ^ 62)
    (he : ∀ env, starEach [e] env = (false, eval e env) :: starEach [] env := by intro _; rfl) : Ev prog w mg mb k sc (.Call (.Name "len" p) [e] [] pos) σ (eN n) := (Ev.len hm hx h (by omega) he).cast (by rw [hn]; rfl)
theorem bitAnd_nat (a b : Nat) : Builtin.bitAnd (a : Int) (b : Int) = ((a &&& b : Nat) : Int) := by
  unfold Builtin.bitAnd
  simp
theorem Ev.bandN {l r : Expr} {p : Pos} {a b : Nat} (hl : Ev prog w mg mb k sc l σ (eN a)) (hr : Ev prog w mg mb k sc r σ (eN b)) : Ev prog w mg mb k sc (.BinOp l .BitAnd r p) σ (eN (a &&& b)) := (Ev.band hl hr).cast (by rw [bitAnd_nat]; rfl)
/-- range(n) as a source -/
theorem Itr.rangeN {arg : Expr} {n : Nat} {p pos : Pos} (h : Ev prog w mg mb k sc arg σ (eN n)) (hx : isGl sc "range" = true) (hm : ∀ h, Gd w mg mb h → mg "range" = none) (hn : n < 2 ^ 62)
    (he : ∀ env, starEach [arg] env = (false, eval arg env) :: starEach [] env := by intro _; rfl) : Itr prog w mg mb k sc (.Call (.Name "range" p) [arg] [] pos) σ ((List.range n).map eN) := Itr.range h hx hm hn he

/-- _law_states -/
noncomputable def stF (n m : Nat) : List Nat := (List.range m).filter fun q => n / 2 ^ q % 2 == 1
theorem fn_states (n m : Nat) (hm : m < 30) : Fn prog w mg mb (k + 1) 110 [eN n, eN m] (eL (stF n m)) :=
  fn_at [Str.ofString "number", Str.ofString "many"] (fun _ => rfl) (fun _ => rfl) rfl rfl rfl rfl rfl (bind2 fun u v => rfl) rfl rfl rfl rfl (by decide) rfl rfl rfl rfl fun own A s s₁ env E Q hsc hcode hr F hQ =>
    F.retF hr hsc (Ev.comp (List.range m) eN (fun q => n / 2 ^ q % 2 == 1) eN rfl (Itr.rangeN (Ev.name rfl rfl) rfl (gl_none fun _ => rfl) (by omega))
      (fun q hq => Trs.one (Tr.cmp (Cmp.eqN (Ev.modN (Ev.divN (Ev.name rfl rfl) (Ev.powN Ev.lit (Ev.name rfl rfl) (by have := List.mem_range.mp hq; omega)) (two_pow_ne q) (by
          have hq := List.mem_range.mp hq
          exact Nat.lt_of_lt_of_le (Nat.pow_lt_pow_right (by decide) (show q < 30 by omega)) (by decide))) Ev.lit (by decide)) Ev.lit)))
      (fun q hq _ => Ev.name rfl rfl) (by have : sizeLine = 2 ^ 24 := rfl; simp; omega)) hQ
end
end Mine
end
section
open PySem PySem.W PyProof.Rows PySem.Calls
set_option Elab.async false
set_option linter.unusedVariables false
set_option maxRecDepth 100000
namespace Mine
section
variable {prog : Program} {w : World} {mg mb : Str → Option Value} {k : Nat} {sc : Scope} {σ : Sig}
theorem sum_cast (l : List Nat) : (l.map fun (n : Nat) => (n : Int)).sum = ((l.sum : Nat) : Int) := by
  induction l with
  | nil => rfl
  | cons a l ih => simp [ih]
theorem Ev.sumN {p pos : Pos} {e : Expr} {ns : List Nat} (hm : ∀ h, Gd w mg mb h → mg "sum" = none) (hx : isGl sc "sum" = true) (h : Ev prog w mg mb k sc e σ (eL ns))
    (he : ∀ env, starEach [e] env = (false, eval e env) :: starEach [] env := by intro _; rfl) : Ev prog w mg mb k sc (.Call (.Name "sum" p) [e] [] pos) σ (eN ns.sum) := by
  have h' : Ev prog w mg mb k sc e σ (.list ((ns.map fun (n : Nat) => (n : Int)).map .int)) := h.cast (by rw [List.map_map]; rfl)
  exact (Ev.sum hm hx h' he).cast (by rw [sum_cast]; rfl)
theorem getD_map {α : Type} (l : List α) (f : α → Dt) (n : Nat) (d : α) (h : n < l.length) : (l.map f)[n]? = some (f (l.getD n d)) := by
  rw [List.getElem?_map, List.getD_eq_getElem?_getD, List.getElem?_eq_getElem h]; rfl
theorem swaps_no {elt : Expr} {gens : List Comprehension} {scope : Scope} {pos py : Pos} {y : Str} {line : Nat} (h : swapsC sc scope pos y py = false) : ∀ e' : Env, e'.scope = sc → swapsWith (.ListComp elt gens scope pos) (some (.Name y py)) line e' = pure false := by
  intro e' he
  subst he
  unfold swapsC at h
  unfold swapsWith
  simp only [Env.blockKind]
  rw [show Env.kindOf e' y = e'.scope.names.lookup y from rfl]
  exact congrArg pure h
theorem size_le {n : Nat} (h : n < 2 ^ 24) : n ≤ sizeLine := by have : sizeLine = 2 ^ 24 := rfl; omega

noncomputable def rtF (l : List Nat) : Nat := (l.map fun k => 2 ^ (5 * k % 12)).sum
theorem fn_rights (l : List Nat) (hl : l.length < 2 ^ 24) : Fn prog w mg mb (k + 1) 115 [eL l] (eN (rtF l)) :=
  fn_at [Str.ofString "states"] (fun _ => rfl) (fun _ => rfl) rfl rfl rfl rfl rfl (bind1 fun u => rfl) rfl rfl rfl rfl (by decide) rfl rfl rfl rfl fun own A s s₁ env E Q hsc hcode hr F hQ =>
    F.retF hr hsc (Ev.sumN (gl_none fun _ => rfl) rfl ((Ev.comp l eN (fun _ => true) (fun k => eN (2 ^ (5 * k % 12))) rfl (Itr.list (Ev.name rfl rfl)) (fun q hq => Trs.nil)
      (fun q hq _ => Ev.powN Ev.lit (Ev.modN (Ev.mulN Ev.lit (Ev.name rfl rfl) (by decide)) Ev.lit (by decide)) (by have : 5 * q % 12 < 12 := Nat.mod_lt _ (by decide); omega)) (size_le hl)).cast
        (by simp [eL, List.filter_eq_self.mpr, Function.comp_def]))) hQ

noncomputable def meetF (some others : List Nat) : Bool := !decide ((some.filter fun q => decide (q ∈ others)) = [])
theorem fn_meet (a b : List Nat) (hl : a.length < 2 ^ 24) : Fn prog w mg mb (k + 1) 135 [eL a, eL b] (.bool (meetF a b)) :=
  fn_at [Str.ofString "some", Str.ofString "others"] (fun _ => rfl) (fun _ => rfl) rfl rfl rfl rfl rfl (bind2 fun u v => rfl) rfl rfl rfl rfl (by decide) rfl rfl rfl rfl fun own A s s₁ env E Q hsc hcode hr F hQ =>
    F.retF hr hsc (Ev.cmp (Cmp.neE enc_L (a := a.filter fun q => decide (q ∈ b)) (b := []) (by simp) (by simp) (Ev.comp a eN (fun q => decide (q ∈ b)) eN rfl (Itr.list (Ev.name rfl rfl))
      (fun q hq => Trs.one (Tr.cmp (Cmp.inE enc_nat (bs := b) trivial (fun _ _ => trivial) (Ev.name rfl rfl) (EvT.name rfl rfl)))) (fun q hq _ => Ev.name rfl rfl) (size_le hl)) (Ev.list EvAll.nil (by simp)))) hQ
end
end Mine
end
section
open PySem PySem.W PyProof.Rows PySem.Calls
set_option Elab.async false
set_option linter.unusedVariables false
set_option maxRecDepth 100000
namespace Mine
section
variable {prog : Program} {w : World} {mg mb : Str → Option Value} {k : Nat} {sc : Scope} {σ : Sig}

/-- tables all of one width -/
structure TabOk (T : List (List (List Nat))) (c : Nat) : Prop where
  pos : 0 < T.length
  len : ∀ t ∈ T, t.length = c
  small : c < 2 ^ 20
  few : T.length < 2 ^ 20
theorem TabOk.head {T : List (List (List Nat))} {c : Nat} (h : TabOk T c) : (T.getD 0 []).length = c := by
  refine h.len _ ?_
  rw [List.getD_eq_getElem?_getD, List.getElem?_eq_getElem h.pos]
  exact List.getElem_mem _
theorem TabOk.at {T : List (List (List Nat))} {c : Nat} (h : TabOk T c) {a : Nat} (ha : a < T.length) : (T.getD a []).length = c := by
  refine h.len _ ?_
  rw [List.getD_eq_getElem?_getD, List.getElem?_eq_getElem ha]
  exact List.getElem_mem _

noncomputable def turnF (T : List (List (List Nat))) : List (List Nat) :=
  T.map fun t => (List.range (T.getD 0 []).length).map fun q => 32768 + rtF ((List.range (T.getD 0 []).length).filter fun p => decide (q ∈ t.getD p []))
theorem fn_turned (T : List (List (List Nat))) (c : Nat) (hT : TabOk T c) : Fn prog w mg mb (k + 2) 120 [eLLL T] (eLL (turnF T)) :=
  fn_at [Str.ofString "tables"] (fun _ => rfl) (fun _ => rfl) rfl rfl rfl rfl rfl (bind1 fun u => rfl) rfl rfl rfl rfl (by decide) rfl rfl rfl rfl fun own A s s₁ env E Q hsc hcode hr F hQ =>
    seq_next (F.assign hr hsc (Ev.lenN (gl_none fun _ => rfl) rfl (Ev.top (Ev.itemN (xs := T.map eLL) (n := 0) (EvT.name rfl rfl) Ev.lit (by decide) (getD_map T eLL 0 [] hT.pos))) (by rw [List.length_map]; exact hT.head) (by have := hT.small; omega)) rfl fun s₂ F₂ => ⟨rfl,
      F₂.retF hr hsc ((Ev.comp T eLL (fun _ => true) (fun t => eL ((List.range c).map fun q => 32768 + rtF ((List.range c).filter fun p => decide (q ∈ t.getD p [])))) rfl (Itr.list (Ev.name rfl rfl)) (fun _ _ => Trs.nil)
        (fun t ht _ => (Ev.comp (List.range c) eN (fun _ => true) (fun q => eN (32768 + rtF ((List.range c).filter fun p => decide (q ∈ t.getD p [])))) rfl (Itr.rangeN (Ev.name rfl rfl) rfl (gl_none fun _ => rfl) (by have := hT.small; omega)) (fun _ _ => Trs.nil)
          (fun q hq _ => Ev.addN (Ev.gnat (gl_int fun _ => rfl) rfl) (Ev.callD (gl_fn fun _ => rfl) (obj_at fun _ => rfl) rfl rfl (.cons (Ev.comp (List.range c) eN (fun p => decide (q ∈ t.getD p [])) eN rfl (Itr.rangeN (Ev.name rfl rfl) rfl (gl_none fun _ => rfl) (by have := hT.small; omega))
              (fun p hp => Trs.one (Tr.cmp (Cmp.inE enc_nat (bs := t.getD p []) trivial (fun _ _ => trivial) (Ev.name rfl rfl) (Ev.top (Ev.itemN (xs := t.map eL) (EvT.name rfl rfl) (Ev.name rfl rfl) (by have := List.mem_range.mp hp; have := hT.small; omega) (getD_map t eL p [] (by rw [hT.len t ht]; exact List.mem_range.mp hp)))))))
              (fun p hp _ => Ev.name rfl rfl) (size_le (by have := hT.small; simp; omega))) .nil) (fn_rights _ (by
                refine Nat.lt_of_le_of_lt (List.length_filter_le _ _) ?_
                have := hT.small; simp; omega))))
          (size_le (by have := hT.small; simp; omega))).cast (by simp [eL, List.filter_eq_self.mpr, Function.comp_def]))
        (size_le (by have := hT.few; omega))).cast (by rw [turnF, hT.head]; simp [eLL, List.filter_eq_self.mpr, Function.comp_def])) hQ⟩)

noncomputable def stepF (T : List (List (List Nat))) (st : List Nat) (a : Nat) : List Nat :=
  (List.range (T.getD 0 []).length).filter fun q => !decide ((st.filter fun p => decide (q ∈ (T.getD a []).getD p [])) = [])
noncomputable def runF (T : List (List (List Nat))) (st : List Nat) (word : List Nat) : List Nat := word.foldl (stepF T) st
theorem wk0 {σ : Sig} : ∀ p ∈ ([] : Sig), σ.lookup p.1 = some p.2 := fun _ h => nomatch h
theorem wkc {σ σ' : Sig} {x : Str} {e : Option Addr × Dt} (h : σ.lookup x = some e) (r : ∀ p ∈ σ', σ.lookup p.1 = some p.2) : ∀ p ∈ (x, e) :: σ', σ.lookup p.1 = some p.2 := List.forall_mem_cons.mpr ⟨h, r⟩
theorem stepF_lt {T : List (List (List Nat))} {c : Nat} (hT : TabOk T c) {st : List Nat} {a : Nat} : ∀ p ∈ stepF T st a, p < c := fun p hp => by
  have := List.mem_range.mp (List.mem_filter.mp hp).1
  rwa [hT.head] at this
theorem stepF_len {T : List (List (List Nat))} {c : Nat} (hT : TabOk T c) {st : List Nat} {a : Nat} : (stepF T st a).length < 2 ^ 20 := by
  refine Nat.lt_of_le_of_lt (List.length_filter_le _ _) ?_
  rw [List.length_range, hT.head]; exact hT.small
theorem fn_run (T : List (List (List Nat))) (c : Nat) (hT : TabOk T c) (st word : List Nat) (hst : ∀ p ∈ st, p < c) (hl : st.length < 2 ^ 24) (hw : ∀ a ∈ word, a < T.length) : Fn prog w mg mb (k + 1) 130 [eLLL T, eL st, eL word] (eL (runF T st word)) :=
  fn_at [Str.ofString "tables", Str.ofString "states", Str.ofString "word"] (fun _ => rfl) (fun _ => rfl) rfl rfl rfl rfl rfl (bind3 fun u v t => rfl) rfl rfl rfl rfl (by decide) rfl rfl rfl rfl fun own A s s₁ env E Q hsc hcode hr F hQ =>
    seq_next ((F.weak (σ' := [(Str.ofString "states", (none, eL st)), (Str.ofString "tables", (none, eLLL T)), (Str.ofString "word", (none, eL word))]) (wkc rfl (wkc rfl (wkc rfl wk0)))).for_ hr hsc (Itr.list (xs := word.map eN) (Ev.name rfl rfl)) rfl
      (fun i σ' => ∃ st', st' = runF T st (word.take i) ∧ (∀ p ∈ st', p < c) ∧ st'.length < 2 ^ 24 ∧ σ' = [(Str.ofString "states", (none, eL st')), (Str.ofString "tables", (none, eLLL T)), (Str.ofString "word", (none, eL word))]) ⟨st, by simp [runF], hst, hl, rfl⟩
      (fun i d σ' X₁ s₁ s₂ E' hd ⟨st', e1, h1, h2, e⟩ F₂ => by
        subst e
        obtain ⟨a, ha, rfl⟩ : ∃ a, word[i]? = some a ∧ eN a = d := by simpa using hd
        have ham : a ∈ word := List.mem_of_getElem? ha
        have haT := hw a ham
        refine seq_next (F₂.assign hr hsc ((Ev.comp (List.range c) eN (fun q => !decide ((st'.filter fun p => decide (q ∈ (T.getD a []).getD p [])) = [])) eN rfl (Itr.rangeN (Ev.lenN (gl_none fun _ => rfl) rfl (Ev.top (Ev.itemN (xs := T.map eLL) (n := 0) (EvT.name rfl rfl) Ev.lit (by decide) (getD_map T eLL 0 [] hT.pos))) (by rw [List.length_map]; exact hT.head) (by have := hT.small; omega)) rfl (gl_none fun _ => rfl) (by have := hT.small; omega))
          (fun q hq => Trs.one (Tr.cmp (Cmp.neE enc_L (a := st'.filter fun p => decide (q ∈ (T.getD a []).getD p [])) (b := []) (by simp) (by simp) (Ev.comp st' eN (fun p => decide (q ∈ (T.getD a []).getD p [])) eN rfl (Itr.list (Ev.name rfl rfl))
            (fun p hp => Trs.one (Tr.cmp (Cmp.inE enc_nat (bs := (T.getD a []).getD p []) trivial (fun _ _ => trivial) (Ev.name rfl rfl) (Ev.top (Ev.itemN (xs := (T.getD a []).map eL) (Ev.top (Ev.itemN (xs := T.map eLL) (EvT.name rfl rfl) (Ev.name rfl rfl) (by have := hT.few; omega) (getD_map T eLL a [] haT))) (Ev.name rfl rfl) (by have := h1 p hp; have := hT.small; omega) (getD_map _ eL p [] (by rw [hT.at haT]; exact h1 p hp)))))))
            (fun p hp _ => Ev.name rfl rfl) (size_le h2)) (Ev.list EvAll.nil (by simp))))) (fun q hq _ => Ev.name rfl rfl) (size_le (by have := hT.small; simp; omega))).cast (d' := eL (stepF T st' a)) (by rw [stepF, hT.head]; rfl)) rfl (fun s₃ F₃ => ⟨rfl, ?_⟩) (swaps_no rfl))
        refine wpAny_execs_nil ⟨_, ⟨stepF T st' a, ?_, stepF_lt hT, Nat.lt_trans (stepF_len hT) (by decide), rfl⟩, F₃.weak (wkc rfl (wkc rfl (wkc rfl wk0)))⟩
        rw [e1, List.take_add_one, ha]
        simp [runF])
      (fun σ' s₂ E' ⟨st', e1, h1, h2, e⟩ F₂ => wpAny_execs_nil ⟨rfl, by
        subst e
        refine F₂.retF hr hsc (Ev.name rfl rfl) fun v s' k' r => hQ v s' k' ?_
        rw [e1, List.length_map, List.take_length] at r
        exact r⟩))
end
end Mine
end
section
open PySem PySem.W PyProof.Rows PySem.Calls
set_option Elab.async false
set_option linter.unusedVariables false
set_option maxRecDepth 100000
namespace Mine
noncomputable def sOf (l : List Nat) : Str := ⟨l.toArray⟩
noncomputable def eS (l : List Nat) : Dt := .str (sOf l)
section
variable {prog : Program} {w : World} {mg mb : Str → Option Value} {k : Nat} {sc : Scope} {σ : Sig} {own₀ lown : List Addr} {X : Addr → Prop} {s₀ s s' : Shared} {env : Env} {A : Around} {E : Value → Shared → Prop}

theorem Ev.strL {x : Str} {l : List Nat} {kd : Nat} {p : Pos} (h : x = sOf l := by rfl) : Ev prog w mg mb k sc (.Constant (.str x) kd p) σ (eS l) := h ▸ Ev.str
theorem Ev.subN {l r : Expr} {p : Pos} {a b : Nat} (hl : Ev prog w mg mb k sc l σ (eN a)) (hr : Ev prog w mg mb k sc r σ (eN b)) (h : b ≤ a) : Ev prog w mg mb k sc (.BinOp l .Sub r p) σ (eN (a - b)) := (Ev.sub hl hr).cast (by
  show Dt.int _ = Dt.int _
  congr 1; omega)
/-- a sign of a text -/
theorem Ev.sign {v i : Expr} {p : Pos} {l : List Nat} {n c : Nat} (hv : Ev prog w mg mb k sc v σ (eS l)) (hi : Ev prog w mg mb k sc i σ (eN n)) (h1 : n < 2 ^ 62) (hc : l[n]? = some c)
    (hsub : ∀ o iv, subscripted i false o iv = operate [o, iv] (getItem o iv) := by intro _ _; with_unfolding_all rfl) : Ev prog w mg mb k sc (.Subscript v i p) σ (eS [c]) := by
  intro own env A s E Q hs hn hg ha hr hQ
  refine Subscript_ (hv own env A s E _ hs hn hg ha hr fun u s₁ k₁ r₁ => ?_)
  refine hi own env A s₁ E _ hs (hn.keeps k₁.heap) (hg.keeps k₁.heap) (ha.keeps k₁.heap) hr fun iv s₂ k₂ r₂ => ?_
  obtain ⟨t, rfl⟩ := rep_int r₂
  obtain ⟨t', rfl⟩ := rep_str r₁
  have hlt : n < l.length := (List.getElem?_eq_some_iff.mp hc).1
  refine tail_any (typeIs_str s₂ _ _) F.slot_str_getitem.lookup (PyProof.Rows.getItem_str (by simp; omega) (c := c) ?_ (hQ _ _ (k₁.trans (k₂.trans (Kp.toks _ _))) (.str _ _))) (hsub _ _)
  have : (sOf l).length = l.length := by simp [sOf, Str.length]
  rw [this]
  have e : seqIndex? (n : Int) l.length = some n := by
    unfold seqIndex?
    simp; omega
  rw [e]
  simpa [sOf] using hc
theorem str_app (a b : List Nat) : sOf a ++ sOf b = sOf (a ++ b) := by
  show Str.mk _ = Str.mk _
  simp [sOf]
theorem str_fits {a b : List Nat} (h : a.length + b.length < 2 ^ 24) : (sOf a).length + (sOf b).length ≤ sizeLine := by
  have l1 : (sOf a).length = a.length := by simp [sOf, Str.length]
  have l2 : (sOf b).length = b.length := by simp [sOf, Str.length]
  rw [l1, l2]; exact size_le h
theorem Ev.catS {l r : Expr} {p : Pos} {a b : List Nat} (hl : Ev prog w mg mb k sc l σ (eS a)) (hr : Ev prog w mg mb k sc r σ (eS b)) (hsz : a.length + b.length < 2 ^ 24) : Ev prog w mg mb k sc (.BinOp l .Add r p) σ (eS (a ++ b)) :=
  hl.bin hr fun own A s E Q u v hg ha hrm r₁ r₂ h => by
    obtain ⟨t, rfl⟩ := rep_str r₁; obtain ⟨t', rfl⟩ := rep_str r₂
    refine add_str (fun t tk => ?_) (str_fits hsz)
    rw [str_app]
    exact h _ _ (Kp.toks s tk) (.str _ _)
/-- x += e, texts -/
theorem Fs.augS (F : Fs w mg mb own₀ lown X s₀ env σ s) (hr : Room k A) (hsc : env.scope = sc) {x : Str} {e : Expr} {a b : List Nat} {p pos : Pos} (hx : σ.lookup x = some (none, eS a)) (he : Ev prog w mg mb k sc e σ (eS b)) (hsz : a.length + b.length < 2 ^ 24) (hst : stores sc x = true) (ho : isOwn sc x = true) {Q : Flow → Shared → Prop}
    (h : ∀ s', Fs w mg mb own₀ lown X s₀ env ((x, (none, eS (a ++ b))) :: σ) s' → Q .next s') : wpAny (model prog w) A (exec (.AugAssign (.Name x p) .Add e pos) env) Q E s := by
  obtain ⟨kd, h1, h2, h3, h4⟩ := isOwn_spec ho
  refine wpAny_AugAssign_Name (named_load F.kind (F.envOk.name _ _ hx) (by unfold Env.kindOf; rw [hsc]; exact h1) h2 h3 fun u r₁ => ?_)
  obtain ⟨t, rfl⟩ := rep_str r₁
  refine he _ env A s E _ hsc F.envOk F.gd' F.alive hr fun v s₁ k₁ r₂ => ?_
  obtain ⟨t', rfl⟩ := rep_str r₂
  refine iadd_str (fun t tk => ?_) (str_fits hsz)
  rw [str_app]
  exact ((F.kp k₁).kp (Kp.toks s₁ tk)).store (e := (none, eS (a ++ b))) (Rep.str _ _) (stores_spec (hsc ▸ hst)) h

/-- three signs of a mode -/
noncomputable def tripF (r top : Nat) : List Nat :=
  [[45, 114].getD (r / 2 ^ top % 2) 45, [45, 119].getD (r / 2 ^ (top - 1) % 2) 45, (if top == 2 then [45, 120, 84, 116] else [45, 120, 83, 115]).getD (r / 2 ^ (top - 2) % 2 + 2 * (r / 2 ^ (9 + top / 3) % 2)) 45]
noncomputable def listF (folder : Bool) (r : Nat) : List Nat := [if folder then 100 else 45] ++ tripF r 8 ++ tripF r 5 ++ tripF r 2
theorem get2 {n : Nat} (a b : Nat) (h : n < 2) : [a, b][n]? = some ([a, b].getD n 45) := by
  rcases n with _ | _ | n
  · rfl
  · rfl
  · omega
theorem get4 {n : Nat} (a b c d : Nat) (h : n < 4) : [a, b, c, d][n]? = some ([a, b, c, d].getD n 45) := by
  rcases n with _ | _ | _ | _ | n
  · rfl
  · rfl
  · rfl
  · rfl
  · omega
theorem mod2 (n : Nat) : n % 2 < 2 := Nat.mod_lt _ (by decide)
theorem bit_ev {r : Nat} {er et : Expr} {p1 p2 p3 : Pos} {q1 q2 : Pos} {t : Nat} (ht : t < 30) (hr : Ev prog w mg mb k sc er σ (eN r)) (het : Ev prog w mg mb k sc et σ (eN t)) :
    Ev prog w mg mb k sc (.BinOp (.BinOp er .FloorDiv (.BinOp (.Constant (.int 2) 0 q1) .Pow et p1) p2) .Mod (.Constant (.int 2) 0 q2) p3) σ (eN (r / 2 ^ t % 2)) :=
  Ev.modN (Ev.divN hr (Ev.powN Ev.lit het (by omega)) (two_pow_ne t) (Nat.lt_of_lt_of_le (Nat.pow_lt_pow_right (by decide) ht) (by decide))) Ev.lit (by decide)
theorem fn_listing (folder : Bool) (r : Nat) : Fn prog w mg mb (k + 1) 147 [.bool folder, eN r] (eS (listF folder r)) :=
  fn_at [Str.ofString "folder", Str.ofString "rights"] (fun _ => rfl) (fun _ => rfl) rfl rfl rfl rfl rfl (bind2 fun u v => rfl) rfl rfl rfl rfl (by decide) rfl rfl rfl rfl fun own A s s₁ env E Q hsc hcode hr F hQ =>
    seq_next (F.assign hr hsc (d := eS [if folder then 100 else 45]) (Ev.ifExp (Tr.val (Ev.name rfl rfl)) (fun q => by subst q; exact Ev.strL) (fun q => by subst q; exact Ev.strL)) rfl fun s₂ F₂ => ⟨rfl,
    seq_next ((F₂.weak (σ' := [(Str.ofString "shown", (none, eS [if folder then 100 else 45])), (Str.ofString "rights", (none, eN r))]) (wkc rfl (wkc rfl wk0))).for_ hr hsc (Itr.list (xs := [8, 5, 2].map eN) (Ev.list (.cons Ev.lit (.cons Ev.lit (.cons Ev.lit .nil))) (by decide))) rfl
      (fun i σ' => σ' = [(Str.ofString "shown", (none, eS ([if folder then 100 else 45] ++ (([8, 5, 2].take i).map (tripF r)).flatten))), (Str.ofString "rights", (none, eN r))]) (by simp)
      (fun i d σ' X₁ s₁ s₂ E' hd e F₃ => by
        subst e
        obtain ⟨top, ht, rfl⟩ : ∃ top, [8, 5, 2][i]? = some top ∧ eN top = d := by rwa [List.getElem?_map, Option.map_eq_some_iff] at hd
        have hi : i < 3 := (List.getElem?_eq_some_iff.mp ht).1
        have htop : top = 8 ∨ top = 5 ∨ top = 2 := by
          rcases i with _ | _ | _ | i
          · simp at ht; omega
          · simp at ht; omega
          · simp at ht; omega
          · omega
        have hlen : ((([8, 5, 2].take i).map (tripF r)).flatten).length ≤ 9 := by
          rcases i with _ | _ | _ | i
          · simp
          · simp [tripF]
          · simp [tripF]
          · omega
        generalize hpre : [if folder then 100 else 45] ++ (([8, 5, 2].take i).map (tripF r)).flatten = pre at *
        have hpl : pre.length ≤ 10 := by rw [← hpre, List.length_append, List.length_singleton]; omega
        have hnext : [if folder then 100 else 45] ++ (([8, 5, 2].take (i + 1)).map (tripF r)).flatten = pre ++ tripF r top := by
          rw [List.take_add_one, ht, List.map_append, List.flatten_append, ← List.append_assoc, hpre]; simp
        rw [hnext]
        refine seq_next (F₃.augS hr hsc rfl (Ev.catS (Ev.sign Ev.strL (bit_ev (t := top) (by omega) (Ev.name rfl rfl) (Ev.name rfl rfl)) (by have := mod2 (r / 2 ^ top); omega) (get2 45 114 (mod2 _)))
          (Ev.sign Ev.strL (bit_ev (t := top - 1) (by omega) (Ev.name rfl rfl) (Ev.subN (Ev.name rfl rfl) Ev.lit (by omega))) (by have := mod2 (r / 2 ^ (top - 1)); omega) (get2 45 119 (mod2 _))) (by simp)) (by simp; omega) rfl rfl fun s₃ F₄ => ⟨rfl, ?_⟩)
        refine seq_next (F₄.assign hr hsc (Ev.addN (bit_ev (t := top - 2) (by omega) (Ev.name rfl rfl) (Ev.subN (Ev.name rfl rfl) Ev.lit (by omega))) (Ev.mulN Ev.lit (bit_ev (t := 9 + top / 3) (by omega) (Ev.name rfl rfl) (Ev.addN Ev.lit (Ev.divN (Ev.name rfl rfl) Ev.lit (by decide) (by decide)))) (by decide))) rfl fun s₄ F₅ => ⟨rfl, ?_⟩)
        have hth : r / 2 ^ (top - 2) % 2 + 2 * (r / 2 ^ (9 + top / 3) % 2) < 4 := by have := mod2 (r / 2 ^ (top - 2)); have := mod2 (r / 2 ^ (9 + top / 3)); omega
        refine seq_next (F₅.augS hr hsc (b := [(if top == 2 then [45, 120, 84, 116] else [45, 120, 83, 115]).getD (r / 2 ^ (top - 2) % 2 + 2 * (r / 2 ^ (9 + top / 3) % 2)) 45]) rfl (Ev.sign (l := if top == 2 then [45, 120, 84, 116] else [45, 120, 83, 115]) (Ev.ifExp (Tr.cmp (Cmp.eqN (Ev.name rfl rfl) Ev.lit)) (fun q => by rw [if_pos q]; exact Ev.strL) (fun q => by rw [q]; exact Ev.strL)) (Ev.name rfl rfl) (Nat.lt_trans hth (by decide)) (by
            split
            · exact get4 _ _ _ _ hth
            · exact get4 _ _ _ _ hth)) (by simp; omega) rfl rfl fun s₅ F₆ => ⟨rfl, ?_⟩)
        refine wpAny_execs_nil ⟨_, rfl, F₆.weak (wkc ?_ (wkc rfl wk0))⟩
        simp [tripF])
      (fun σ' s₂ E' e F₃ => wpAny_execs_nil ⟨rfl, by
        subst e
        refine F₃.retF hr hsc (Ev.name rfl rfl) fun v s' k' rr => hQ v s' k' ?_
        simpa [listF] using rr⟩))⟩)
end
end Mine
end
section
open PySem PySem.W PyProof.Rows PySem.Calls
set_option Elab.async false
set_option linter.unusedVariables false
set_option maxRecDepth 100000
namespace Mine
section
variable {prog : Program} {w : World} {mg mb : Str → Option Value} {k : Nat} {sc : Scope} {σ σ' : Sig} {own₀ lown : List Addr} {X : Addr → Prop} {s₀ s s' : Shared} {env : Env} {A : Around} {E : Value → Shared → Prop}

/-- a fresh list comes under own -/
theorem Fs.own (F : Fs w mg mb own₀ lown X s₀ env σ s) (k' : Kp s s') {a : Addr} {vs : Array Value} (ha : s.heap.get? a = none) (hl : s'.heap.IsList a vs) : Fs w mg mb own₀ (a :: lown) X s₀ env σ s' where
  same := (F.kp k').same
  keep := (F.kp k').keep
  glob := F.glob
  blt := F.blt
  kind := F.kind
  locMu := F.locMu
  ns := let ⟨m, hn, h⟩ := F.ns; ⟨m, hn.keeps k'.heap, fun x e h1 h2 => let ⟨v, h3, h4⟩ := h x e h1 h2; ⟨v, h3, (h4.more ha).keeps k'.heap⟩⟩
  cell := fun x hx => let ⟨c, v, h1, h2, h3, h4⟩ := F.cell x hx; ⟨c, v, h1, h2, h3.keeps k'.heap, fun e he => let ⟨v', h5, h6⟩ := h4 e he; ⟨v', h5, (h6.more ha).keeps k'.heap⟩⟩
  nofree := F.nofree
  apart := F.apart
  alive := fun b hb => by
    rcases List.mem_cons.mp hb with q | q
    · subst q; exact ⟨vs, hl⟩
    · exact (F.alive.keeps k'.heap) b q
  newl := fun b hb => by
    rcases List.mem_cons.mp hb with q | q
    · subst q
      refine .inr ?_
      cases r : s₀.heap.get? b with
      | none => rfl
      | some o => rw [F.keep b o (fun hX => by obtain ⟨o, e, _⟩ := F.live b hX; rw [ha] at e; cases e) r] at ha; cases ha
    · exact F.newl b q
  live := fun b hb => let ⟨o, e, r⟩ := F.live b hb; ⟨o, k'.heap _ _ e, r.imp (fun q => .tail _ q) id⟩
  disj := fun b hb => by
    rcases List.mem_cons.mp hb with q | q
    · subst q; intro q2
      obtain ⟨vs, o, e, _⟩ := F.alive b (List.mem_append_right _ q2)
      rw [ha] at e; cases e
    · exact F.disj b q
  gd := F.gd
/-- no list is the frame's own any more -/
theorem Fs.freeze (F : Fs w mg mb own₀ lown (fun _ => False) s₀ env σ s) (hf : ∀ p ∈ σ, ∀ a, p.2.1 = some a → a ∈ lown) : Fs w mg mb own₀ [] (fun _ => False) s₀ env (σ.map fun p => (p.1, (none, p.2.2))) s := by
  have hR : ∀ v e, (∀ a, e.1 = some a → a ∈ lown) → RepF (lown ++ own₀) s.heap v e → RepF ([] ++ own₀) s.heap v (none, e.2) := by
    rintro v ⟨f, d⟩ hfl r
    cases f with
    | none => exact Rep.less r fun a ha => List.mem_append_right _ ha
    | some a =>
      obtain ⟨rfl, hm, a', vs, xs, e1, rfl, ⟨o, n, e, c, cd, dd⟩, q⟩ := r
      cases e1
      refine .list ?_ e ⟨c, cd⟩ dd (q.less fun a ha => List.mem_append_right _ ha)
      exact F.disj a (hfl a rfl)
  have hσ : ∀ (σ : Sig) x e, (σ.map fun p => (p.1, ((none : Option Addr), p.2.2))).lookup x = some e → ∃ e', σ.lookup x = some e' ∧ e = (none, e'.2) := by
    intro σ
    induction σ with
    | nil => intro x e h; cases h
    | cons p r ih =>
      intro x e h
      by_cases hx : x = p.1
      · subst hx
        rw [List.map_cons, List.lookup_cons] at h; simp at h
        exact ⟨p.2, by rw [List.lookup_cons]; simp, h.symm⟩
      · rw [List.map_cons, lookup_ne hx] at h
        obtain ⟨e', h1, h2⟩ := ih x e h
        exact ⟨e', by rw [show p :: r = (p.1, p.2) :: r from rfl, lookup_ne hx]; exact h1, h2⟩
  exact { F with
    ns := let ⟨m, hn, q⟩ := F.ns; ⟨m, hn, fun x e h1 h2 => by
      obtain ⟨e', h3, rfl⟩ := hσ σ x e h1
      obtain ⟨v, h4, h5⟩ := q x e' h3 h2
      exact ⟨v, h4, hR v e' (hf _ (PySem.mem_of_lookup h3)) h5⟩⟩
    cell := fun x hx => let ⟨c, v, h1, h2, h3, h4⟩ := F.cell x hx; ⟨c, v, h1, h2, h3, fun e he => by
      obtain ⟨e', h5, rfl⟩ := hσ σ x e he
      obtain ⟨v', h6, h7⟩ := h4 e' h5
      exact ⟨v', h6, hR v' e' (hf _ (PySem.mem_of_lookup h5)) h7⟩⟩
    alive := fun a ha => F.alive a (List.mem_append_right _ (by simpa using ha))
    newl := fun a ha => by cases ha
    live := fun b hb => hb.elim
    disj := fun a ha => by cases ha }

/-- no other name bears the list a -/
noncomputable def Sep (x : Str) (a : Addr) : Sig → Prop
  | [] => True
  | p :: r => (p.1 = x ∨ p.2.1 ≠ some a) ∧ Sep x a r
theorem Sep.spec {x : Str} {a : Addr} : ∀ {σ : Sig}, Sep x a σ → ∀ y e, y ≠ x → σ.lookup y = some e → e.1 ≠ some a
  | [], _, y, e, _, h => by cases h
  | p :: r, hs, y, e, hy, h => by
    by_cases hp : y = p.1
    · subst hp
      rw [List.lookup_cons] at h; simp at h; subst h
      rcases hs.1 with q | q
      · exact absurd q hy
      · exact q
    · rw [show p :: r = (p.1, p.2) :: r from rfl, lookup_ne hp] at h
      exact Sep.spec hs.2 y e hy h
theorem RepF.ownBut {own : List Addr} {h h' : Heap} {v : Value} {e : Option Addr × Dt} {a : Addr} (r : RepF own h v e) (ha : a ∈ own) (he : e.1 ≠ some a) (hs : Heap.ExtBut a h h') : RepF own h' v e := by
  obtain ⟨f, d⟩ := e
  cases f with
  | none => exact Rep.ownBut r ha hs
  | some b =>
    obtain ⟨rfl, hm, b', vs, xs, e1, rfl, hp, q⟩ := r
    cases e1
    have hb : b ≠ a := fun q => he (by rw [q])
    exact ⟨rfl, hm, b, vs, xs, rfl, rfl, hp.extBut hs hb, q.ownBut ha hs⟩
/-- a list of the frame's own turned -/
theorem Fs.turned (F : Fs w mg mb own₀ lown X s₀ env σ s) {x : Str} {a : Addr} {ds ds' : List Dt} {h' : Heap} {vs' : Array Value} (hx : σ.lookup x = some (some a, .list ds)) (hst : stores env.scope x = true) (hl : a ∈ lown) (hsep : Sep x a σ) (hs : Heap.SameBut a s.heap h') (hp : PlainL h' a vs')
    (hr : RepAll (lown ++ own₀) s.heap vs'.toList ds') : Fs w mg mb own₀ lown X s₀ env ((x, (some a, .list ds')) :: σ) { s with heap := h' } := by
  have ha : a ∈ lown ++ own₀ := List.mem_append_left _ hl
  obtain ⟨vs0, o0, e0, c0, n0, d0⟩ := F.alive a ha
  have hr' := hr.ownBut ha hs.extBut
  have hnew : RepF (lown ++ own₀) h' (.ref a) (some a, .list ds') := ⟨rfl, ha, a, vs', ds', rfl, rfl, hp, hr'⟩
  have hval : ∀ v, RepF (lown ++ own₀) s.heap v (some a, .list ds) → v = .ref a := fun v r => r.1
  refine ⟨?_, fun b o hb e => hs.extBut b o (fun q => ?_) (F.keep b o hb e), F.glob, F.blt, F.kind, F.locMu, ?_, fun y hy => ?_, F.nofree, F.apart, fun b hb => ?_, F.newl, fun b hb => ?_, F.disj, F.gd⟩
  · obtain ⟨h1, t1, rfl⟩ := F.same; exact ⟨_, _, rfl⟩
  · subst q
    rcases F.newl b hl with r | r
    · exact hb r
    · rw [r] at e; cases e
  · obtain ⟨m, hn, h⟩ := F.ns
    obtain ⟨oL, es, ep, eL, dL, _⟩ := id hn
    have hLa : env.locals ≠ a := fun q => by rw [q, e0] at eL; cases eL; rw [d0] at dL; cases dL
    refine ⟨m, hn.sameBut hs hLa, fun y e hy hk => ?_⟩
    by_cases hyx : y = x
    · subst hyx
      rw [List.lookup_cons] at hy; simp at hy; subst hy
      obtain ⟨v, h1, h2⟩ := h y _ hx hk
      rw [hval v h2] at h1
      exact ⟨_, h1, hnew⟩
    · rw [lookup_ne hyx] at hy
      obtain ⟨v, h1, h2⟩ := h y e hy hk
      exact ⟨v, h1, h2.ownBut ha (hsep.spec y e hyx hy) hs.extBut⟩
  · obtain ⟨c, v, h1, h2, ⟨o, e, d⟩, h4⟩ := F.cell y hy
    have hca : c ≠ a := fun q => by rw [q, e0] at e; cases e; rw [d0] at d; cases d
    refine ⟨c, v, h1, h2, ⟨o, hs.extBut c o hca e, d⟩, fun e he => ?_⟩
    by_cases hyx : y = x
    · subst hyx
      rw [List.lookup_cons] at he; simp at he; subst he
      obtain ⟨v', h5, h6⟩ := h4 _ hx
      rw [hval v' h6] at h5
      exact ⟨_, h5, hnew⟩
    · rw [lookup_ne hyx] at he
      obtain ⟨v', h5, h6⟩ := h4 e he
      exact ⟨v', h5, h6.ownBut ha (hsep.spec y e hyx he) hs.extBut⟩
  · by_cases q : b = a
    · subst q; exact ⟨vs', plainL_list hp⟩
    · obtain ⟨vs, o, e, r⟩ := F.alive b hb
      exact ⟨vs, o, hs.extBut b o q e, r⟩
  · by_cases q : b = a
    · subst q
      obtain ⟨o, n, e, _⟩ := hp
      exact ⟨o, e, .inl ha⟩
    · obtain ⟨o, e, r⟩ := F.live b hb
      exact ⟨o, hs.extBut b o q e, r⟩
theorem append_plain {l : Addr} {items : Array Value} {x : Value} {Q : Value → Shared → Prop} (hl : PlainL s.heap l items)
    (hQ : ∀ h', PlainL h' l (items.push x) → Heap.SameBut l s.heap h' → Q .none { s with heap := h' }) (hsz : items.size ≤ sizeLine) :
    wpAny (model prog w) A (call (.builtin "list.append") [.ref l, x]) Q E s := by
  obtain ⟨o, n, ho, hc, hdi, hd⟩ := id hl
  obtain ⟨n', hd'⟩ := Obj.data_mapSeq hd (·.push x)
  refine wpAny_call_entry slot_list_append ⟨o, ho, hc⟩ entry_list_append ?_ (args_list_append _ _)
  show wpAny _ _ (updateSeq l (·.push x) >>= fun _ => PySem.ret .none) _ _ s
  refine wpAny_bind ?_
  refine wpAny_updateSeq ho hd (wpAny_pure ⟨.none, rfl, hQ _ ?_ (Heap.SameBut.update ..)⟩)
  refine ⟨_, n', Heap.get?_update_self _ ho (Obj.isFreed_of_seq hd'), (Obj.cls_mapSeq ..).trans hc, ?_, hd'⟩
  obtain ⟨c, d, dt, sl⟩ := o
  cases dt <;> exact hdi
/-- x.append(e) -/
theorem Fs.append (F : Fs w mg mb own₀ lown X s₀ env σ s) (hr : Room k A) (hsc : env.scope = sc) {x : Str} {e : Expr} {a : Addr} {ds : List Dt} {d : Dt} {p apos pos spos : Pos} (hx : σ.lookup x = some (some a, .list ds)) (he : Ev prog w mg mb k sc e σ d) (hst : stores sc x = true) (ho : isOwn sc x = true) (hl : a ∈ lown) (hsep : Sep x a σ) (hsz : ds.length < 2 ^ 24)
    {Q : Flow → Shared → Prop} (h : ∀ s', Fs w mg mb own₀ lown X s₀ env ((x, (some a, .list (ds ++ [d]))) :: σ) s' → Q .next s')
    (hbase : ∀ env, attributeBase (.Name x p) "append" env (eval (.Name x p) env) = eval (.Name x p) env := by intro _; rfl) (hline : (apos.endLine == pos.line) = true := by rfl) (htr : ∀ env, backTo pos (starEach [e] env) = [(false, eval e env)] := by intro _; rfl) (hint : ∀ env : Env, env.scope = sc → interactive env = false := by intro env hs; unfold interactive; rw [hs]; rfl) :
    wpAny (model prog w) A (exec (.Expr (.Call (.Attribute (.Name x p) "append" apos) [e] [] pos) spos) env) Q E s := by
  refine wpAny_Expr_any ?_ (hint env hsc) rfl
  obtain ⟨kd, h1, h2, h3, h4⟩ := isOwn_spec ho
  refine wpAny_Call_append (hbase env) ?_ hline (htr env) (wpAny_Name (named_load F.kind (F.envOk.name _ _ hx) (by unfold Env.kindOf; rw [hsc]; exact h1) h2 h3 fun u r₁ => ?_) h4)
  · rw [htr env]; rfl
  obtain ⟨rfl, hm, a', vs, xs, e1, e2, hp, q⟩ := r₁
  cases e1; cases e2
  refine ⟨a, vs, rfl, hp, ?_⟩
  refine he _ env A s E _ hsc F.envOk F.gd' F.alive hr fun y s₁ k₁ r₂ => ?_
  have F₁ := F.kp k₁
  have hlen : vs.size = ds.length := by have := q.length; simpa using this
  refine append_plain (hp.keeps k₁.heap) (fun h' hl' hs' => h _ ?_) (by rw [hlen]; exact size_le hsz)
  exact F₁.turned (vs' := vs.push y) hx (hsc ▸ hst) hl hsep hs' hl' (by rw [Array.toList_push]; exact (q.keeps k₁.heap).snoc r₂)
end
end Mine
end
section
open PySem PySem.W PyProof.Rows PySem.Calls
set_option Elab.async false
set_option linter.unusedVariables false
set_option maxRecDepth 100000
namespace Mine
section
variable {prog : Program} {w : World} {mg mb : Str → Option Value} {k : Nat} {sc : Scope} {σ σ' : Sig} {own₀ lown : List Addr} {X : Addr → Prop} {s₀ s s' : Shared} {env : Env} {A : Around} {E : Value → Shared → Prop}
theorem Fs.weakL (F : Fs w mg mb own₀ lown X s₀ env σ s) (h' : ∀ x e, σ'.lookup x = some e → σ.lookup x = some e) : Fs w mg mb own₀ lown X s₀ env σ' s :=
  { F with
    ns := let ⟨m, hn, q⟩ := F.ns; ⟨m, hn, fun x e h1 h2 => q x e (h' x e h1) h2⟩
    cell := fun x hx => let ⟨c, v, h1, h2, h3, h4⟩ := F.cell x hx; ⟨c, v, h1, h2, h3, fun e he => h4 e (h' x e he)⟩ }

/-- a fresh list -/
noncomputable def EvN (prog : Program) (w : World) (mg mb : Str → Option Value) (k : Nat) (sc : Scope) (e : Expr) (σ : Sig) (ds : List Dt) : Prop :=
  ∀ (own : List Addr) (env : Env) (A : Around) (s : Shared) (E : Value → Shared → Prop) (Q : Value → Shared → Prop), env.scope = sc → EnvOk own env s.heap σ → Gd w mg mb s.heap → Alive own s.heap → Room k A →
    (∀ a vs s', Kp s s' → s.heap.get? a = none → PlainL s'.heap a vs → RepAll (a :: own) s'.heap vs.toList ds → Q (.ref a) s') → wpAny (model prog w) A (eval e env) Q E s
theorem EvN.list {es : List Expr} {ds : List Dt} {p : Pos} (h : EvAll prog w mg mb k sc es σ ds) (hsz : ds.length ≤ sizeLine) : EvN prog w mg mb k sc (.List es p) σ ds := by
  intro own env A s E Q hs hn hg ha hr hQ
  refine List_ (h own env A s E _ p hs hn hg ha hr fun vs s₁ k₁ r => ?_)
  have hnew : s₁.heap.get? s₁.heap.objs.size = none := by
    cases q : s₁.heap.get? s₁.heap.objs.size with
    | none => rfl
    | some o => exact absurd (Heap.lt_size q) (Nat.lt_irrefl _)
  refine wpAny_newList (hQ _ vs.toArray _ (k₁.trans (Kp.push _ _)) ?_ ⟨_, _, Heap.get?_push_size _ rfl, rfl, rfl, rfl⟩ ?_) (by rw [r.length]; exact hsz)
  · cases q : s.heap.get? s₁.heap.objs.size with
    | none => rfl
    | some o => rw [k₁.heap _ _ q] at hnew; cases hnew
  · simpa using (r.more hnew).keeps fun b o e => Heap.get?_push_of_some _ e
/-- x = [..], the frame's own -/
theorem Fs.assignOwn (F : Fs w mg mb own₀ lown X s₀ env σ s) (hr : Room k A) (hsc : env.scope = sc) {x : Str} {e : Expr} {ds : List Dt} {p pos : Pos} (he : EvN prog w mg mb k sc e σ ds) (hx : stores sc x = true) {Q : Flow → Shared → Prop}
    (h : ∀ a s', a ∉ lown ++ own₀ → ¬ X a → Fs w mg mb own₀ (a :: lown) X s₀ env ((x, (some a, .list ds)) :: σ) s' → Q .next s') (hs : ∀ e', e'.scope = sc → swapsWith e (some (.Name x p)) pos.line e' = pure false := by intro e' he; rfl) : wpAny (model prog w) A (exec (.Assign [.Name x p] e pos) env) Q E s := by
  refine wpAny_Assign_Name (he _ env A s E _ hsc F.envOk F.gd' F.alive hr fun a vs s₁ k₁ hn hp r => ?_) (hs env hsc)
  exact (F.own k₁ hn (plainL_list hp)).store (e := (some a, .list ds)) ⟨rfl, .head _, a, vs, ds, rfl, rfl, hp, r⟩ (stores_spec (hsc ▸ hx)) fun s' => h a s' (F.alive.fresh' hn) fun q => by
    obtain ⟨o, e, _⟩ := F.live a q; rw [hn] at e; cases e

/-- what the two stores leave -/
theorem Fs.pair {x y : Str} {t : Addr} {u v : Value} {e f : Option Addr × Dt} {value : Expr} {kk : Nat} {p1 p2 tpos pos : Pos} (hr : Room k A) (hsc : env.scope = sc) (F : Fs w mg mb own₀ lown X s₀ env σ s) (ht : s.heap.IsTuple t #[u, v]) (ru : RepF (lown ++ own₀) s.heap u e) (rv : RepF (lown ++ own₀) s.heap v f)
    (hx : stores sc x = true) (hy : stores sc y = true) (hxy : x ≠ y) {Q : Flow → Shared → Prop} (h : ∀ s', Fs w mg mb own₀ lown X s₀ env ((x, e) :: (y, f) :: σ) s' → Q .next s') :
    wpAny (model prog w) A (PySem.assign (.Tuple [.Name x p1, .Name y p2] kk tpos) env (.ref t)) (fun _ => Q .next) E s ∧
    wpAny (model prog w) A (unpackItems (.ref t) [x, y].length none) (fun items s₂ => wpAny (model prog w) A (assignInOrder ([x, y].reverse.map fun n => bindName env n) items.reverse) (fun _ => Q .next) E s₂) E s := by
  have kx := stores_spec (env := env) (hsc ▸ hx : stores env.scope x = true)
  have ky := stores_spec (env := env) (hsc ▸ hy : stores env.scope y = true)
  have kp : ∀ h', Heap.ExtBut s.heap.objs.size s.heap h' → Kp s { s with heap := h' } := fun h' hx => ⟨⟨_, _, rfl⟩, fun b o e => hx b o (Nat.ne_of_lt (Heap.lt_size e)) e⟩
  constructor
  · refine wpAny_assign_Tuple hr.handled ht rfl rfl fun h' hext => ?_
    have F' := F.kp (kp h' hext)
    have ru' := ru.keeps (kp h' hext).heap
    have rv' := rv.keeps (kp h' hext).heap
    refine wpAny_assignInOrder_more (wpAny_assign_Name (F'.store' ru' kx fun s₁ ax ox eax hax nax hsb hsame F₁ => ?_))
    have rv₁ := rv'.sameBut eax nax hsb.extBut
    refine wpAny_assignInOrder_more (wpAny_assign_Name (F₁.store rv₁ ky fun s₂ F₂ => wpAny_assignInOrder_none (h s₂ (F₂.weakL fun z g hz => ?_))))
    by_cases hzx : z = x
    · subst hzx
      rw [lookup_ne hxy]
      simpa using hz
    · rw [lookup_ne hzx] at hz
      by_cases hzy : z = y
      · subst hzy; simpa using hz
      · rw [lookup_ne hzy] at hz; rw [lookup_ne hzy, lookup_ne hzx]; exact hz
  · refine wpAny_unpackItems_tuple (items := #[u, v]) hr.handled ht fun h' hext => ?_
    have F' := F.kp (kp h' hext)
    have ru' := ru.keeps (kp h' hext).heap
    have rv' := rv.keeps (kp h' hext).heap
    show wpAny (model prog w) A (assignInOrder [bindName env y, bindName env x] [v, u]) _ E _
    refine wpAny_assignInOrder_more (wpAny_bindName (F'.store' rv' ky fun s₁ ax ox eax hax nax hsb hsame F₁ => ?_))
    have ru₁ := ru'.sameBut eax nax hsb.extBut
    exact wpAny_assignInOrder_more (wpAny_bindName (F₁.store ru₁ kx fun s₂ F₂ => wpAny_assignInOrder_none (h s₂ F₂)))

/-- which of the two roads the stores take -/
noncomputable def Roads2 (sc : Scope) (x y : Str) (targets : List Expr) (value : Expr) : Prop :=
  (∀ e' : Env, e'.scope = sc → swappedStores targets value e' = pure none) ∨ (∀ e' : Env, e'.scope = sc → swappedStores targets value e' = pure (some [x, y]))
theorem Fs.pairStmt {x y : Str} {value : Expr} {kk : Nat} {p1 p2 tpos pos : Pos} (hr : Room k A) (hsc : env.scope = sc) (hx : stores sc x = true) (hy : stores sc y = true) (hxy : x ≠ y) (hroad : Roads2 sc x y [.Tuple [.Name x p1, .Name y p2] kk tpos] value) {Q : Flow → Shared → Prop}
    (hv : wpAny (model prog w) A (eval value env) (fun tv s₁ => ∃ t u v lown' σ₁ e f, tv = .ref t ∧ s₁.heap.IsTuple t #[u, v] ∧ Fs w mg mb own₀ lown' X s₀ env σ₁ s₁ ∧ RepF (lown' ++ own₀) s₁.heap u e ∧ RepF (lown' ++ own₀) s₁.heap v f ∧
      ∀ s', Fs w mg mb own₀ lown' X s₀ env ((x, e) :: (y, f) :: σ₁) s' → Q .next s') E s)
    (hs : ∀ e' : Env, e'.scope = sc → swapsWithSole [.Tuple [.Name x p1, .Name y p2] kk tpos] value pos.line e' = pure false) : wpAny (model prog w) A (exec (.Assign [.Tuple [.Name x p1, .Name y p2] kk tpos] value pos) env) Q E s := by
  rcases hroad with hroad | hroad
  · refine Assign_Tuple (wpAny_mono hv (fun tv s₁ ⟨t, u, v, lown', σ₁, e, f, et, ht, F, ru, rv, h⟩ => ?_) fun _ _ e => e) (hs env hsc) (hroad env hsc)
    subst et
    exact (Fs.pair (value := value) (pos := pos) hr hsc F ht ru rv hx hy hxy h).1
  · refine Assign_Tuple_swapped (names := [x, y]) (wpAny_mono hv (fun tv s₁ ⟨t, u, v, lown', σ₁, e, f, et, ht, F, ru, rv, h⟩ => ?_) fun _ _ e => e) (hs env hsc) (hroad env hsc)
    subst et
    exact (Fs.pair (p1 := p1) (p2 := p2) (kk := kk) (tpos := tpos) (value := value) (pos := pos) hr hsc F ht ru rv hx hy hxy h).2

theorem rep_tuple {own : List Addr} {h : Heap} {v : Value} {ds : List Dt} (r : Rep own h v (.tuple ds)) : ∃ t vs, v = .ref t ∧ h.IsTuple t vs ∧ RepAll own h vs.toList ds := by
  cases r with
  | tuple ha e c dd q => exact ⟨_, _, rfl, ⟨_, e, c, _, dd⟩, q⟩
theorem arr2 {vs : Array Value} {u v : Value} (h : vs.toList = [u, v]) : vs = #[u, v] := by rw [← Array.toList_inj, h]
theorem arr3 {vs : Array Value} {u v t : Value} (h : vs.toList = [u, v, t]) : vs = #[u, v, t] := by rw [← Array.toList_inj, h]
/-- x, y = e -/
theorem Fs.tup2 (F : Fs w mg mb own₀ lown X s₀ env σ s) (hr : Room k A) (hsc : env.scope = sc) {x y : Str} {value : Expr} {kk : Nat} {p1 p2 tpos pos : Pos} {d e : Dt} (he : Ev prog w mg mb k sc value σ (.tuple [d, e])) (hx : stores sc x = true) (hy : stores sc y = true) (hxy : x ≠ y) (hroad : Roads2 sc x y [.Tuple [.Name x p1, .Name y p2] kk tpos] value) {Q : Flow → Shared → Prop}
    (h : ∀ s', Fs w mg mb own₀ lown X s₀ env ((x, (none, d)) :: (y, (none, e)) :: σ) s' → Q .next s')
    (hs : ∀ e' : Env, e'.scope = sc → swapsWithSole [.Tuple [.Name x p1, .Name y p2] kk tpos] value pos.line e' = pure false := by intro e' he; rfl) : wpAny (model prog w) A (exec (.Assign [.Tuple [.Name x p1, .Name y p2] kk tpos] value pos) env) Q E s := by
  refine Fs.pairStmt (w := w) (mg := mg) (mb := mb) (own₀ := own₀) (X := X) (s₀ := s₀) hr hsc hx hy hxy hroad (he _ env A s E _ hsc F.envOk F.gd' F.alive hr fun v s₁ k₁ r => ?_) hs
  obtain ⟨t, vs, rfl, ht, q⟩ := rep_tuple r
  generalize hvl : vs.toList = l at q
  cases q with
  | cons q1 q2 =>
    cases q2 with
    | cons q2 q3 =>
      cases q3
      rw [arr2 hvl] at ht
      exact ⟨t, _, _, lown, σ, (none, d), (none, e), rfl, ht, F.kp k₁, q1, q2, h⟩
/-- x, y = [..], [..]: two lists of the frame's own -/
theorem Fs.tup2own (F : Fs w mg mb own₀ lown X s₀ env σ s) (hr : Room k A) (hsc : env.scope = sc) {x y : Str} {e1 e2 : Expr} {kk kv : Nat} {p1 p2 tpos vpos pos : Pos} {ds es : List Dt} (he1 : EvN prog w mg mb k sc e1 σ ds) (he2 : EvN prog w mg mb k sc e2 σ es) (hx : stores sc x = true) (hy : stores sc y = true) (hxy : x ≠ y) (hroad : Roads2 sc x y [.Tuple [.Name x p1, .Name y p2] kk tpos] (.Tuple [e1, e2] kv vpos)) {Q : Flow → Shared → Prop}
    (h : ∀ a b s', a ∉ lown ++ own₀ → b ∉ a :: lown ++ own₀ → ¬ X a → ¬ X b → Fs w mg mb own₀ (b :: a :: lown) X s₀ env ((x, (some a, .list ds)) :: (y, (some b, .list es)) :: σ) s' → Q .next s')
    (hs : ∀ e' : Env, e'.scope = sc → swapsWithSole [.Tuple [.Name x p1, .Name y p2] kk tpos] (.Tuple [e1, e2] kv vpos) pos.line e' = pure false := by intro e' he; rfl)
    (ht1 : ∀ env, starEach [e1, e2] env = (false, eval e1 env) :: starEach [e2] env := by intro _; rfl) (ht2 : ∀ env, starEach [e2] env = (false, eval e2 env) :: starEach [] env := by intro _; rfl) : wpAny (model prog w) A (exec (.Assign [.Tuple [.Name x p1, .Name y p2] kk tpos] (.Tuple [e1, e2] kv vpos) pos) env) Q E s := by
  refine Fs.pairStmt (w := w) (mg := mg) (mb := mb) (own₀ := own₀) (X := X) (s₀ := s₀) hr hsc hx hy hxy hroad ?_ hs
  refine Tuple_ (args_cons (he1 _ env A s E _ hsc F.envOk F.gd' F.alive hr fun a vs s₁ k₁ hn₁ hp₁ r₁ => ?_) (ht1 env))
  have F₁ := F.own k₁ hn₁ (plainL_list hp₁)
  refine args_cons (he2 _ env A s₁ E _ hsc F₁.envOk F₁.gd' F₁.alive hr fun b us s₂ k₂ hn₂ hp₂ r₂ => args_nil ?_) (ht2 env)
  have F₂ := F₁.own k₂ hn₂ (plainL_list hp₂)
  refine wpAny_newTuple ?_ (size_le (by simp))
  have k3 : ∀ b o, s₂.heap.get? b = some o → (s₂.heap.push { cls := .type "tuple", data := .seq [Value.ref a, Value.ref b].toArray }).get? b = some o := fun b o e => Heap.get?_push_of_some _ e
  refine ⟨_, .ref a, .ref b, b :: a :: lown, σ, (some a, .list ds), (some b, .list es), rfl, ⟨_, Heap.get?_push_size _ rfl, rfl, _, rfl⟩, F₂.kp (Kp.push _ _), ?_, ?_, fun s' => h a b s' (F.alive.fresh' hn₁) (F₁.alive.fresh' hn₂) (fun q => by obtain ⟨o, e, _⟩ := F.live a q; rw [hn₁] at e; cases e) (fun q => by obtain ⟨o, e, _⟩ := F₁.live b q; rw [hn₂] at e; cases e)⟩
  · exact ⟨rfl, .tail _ (.head _), a, vs, ds, rfl, rfl, (hp₁.keeps k₂.heap).keeps (Kp.push _ _).heap, ((r₁.more hn₂).keeps k₂.heap).keeps (Kp.push _ _).heap⟩
  · exact ⟨rfl, .head _, b, us, es, rfl, rfl, hp₂.keeps (Kp.push _ _).heap, r₂.keeps (Kp.push _ _).heap⟩
end
end Mine
end
section
open PySem PySem.W PyProof.Rows PySem.Calls
set_option Elab.async false
set_option linter.unusedVariables false
set_option maxRecDepth 100000
namespace Mine
section
variable {prog : Program} {w : World} {mg mb : Str → Option Value} {k : Nat} {sc : Scope} {σ σ' : Sig}
theorem ne_of_lt_idx {α : Type} [BEq α] [LawfulBEq α] {a : α} : ∀ {l : List α} {j : Nat}, j < l.idxOf a → ∀ (h : j < l.length), l[j] ≠ a
  | [], j, _, h => by cases h
  | b :: l, 0, h, _ => by
    intro q
    have q : b = a := q
    subst q
    simp at h
  | b :: l, j + 1, h, h2 => by
    cases hb : b == a with
    | true => rw [List.idxOf_cons, hb] at h; simp at h
    | false =>
      rw [List.idxOf_cons] at h
      rw [hb] at h
      simp only [cond_false] at h
      exact ne_of_lt_idx (l := l) (j := j) (by omega) (by simpa using h2)
theorem Ev.index {α : Type} [DecidableEq α] {B : BEq α} [LawfulBEq α] {enc : α → Dt} {n : Nat} {P : α → Prop} (e : Enc enc n P) {o x : Expr} {apos pos : Pos} {a : α} {bs : List α} (ha : P a) (hb : ∀ x ∈ bs, P x) (hm : a ∈ bs) (hsz : bs.length < 2 ^ 60) (ho : EvT prog w mg mb k sc o σ (.list (bs.map enc))) (hx : Ev prog w mg mb k sc x σ (enc a)) (hn : n ≤ 100 := by decide)
    (hbase : ∀ env, attributeBase o "index" env (eval o env) = eval o env := by intro _; rfl) (hline : (apos.endLine == pos.line) = true := by rfl) (htr : ∀ env, backTo pos (starEach [x] env) = [(false, eval x env)] := by intro _; rfl) :
    Ev prog w mg mb k sc (.Call (.Attribute o "index" apos) [x] [] pos) σ (eN (@List.idxOf α B a bs)) := by
  intro own env A s E Q hs hen hg hal hr hQ
  refine wpAny_Call_method1_late (hbase env) hline (htr env) (ho own env A s E _ hs hen hg hal hr fun ov s₁ k₁ r₁ => ?_)
  obtain ⟨l, vs, xs, rfl, e1, hp, hra⟩ := r₁
  cases e1
  obtain ⟨ob, nn, eo, co, cdn, dd⟩ := id hp
  refine ⟨"list", "list.index", F.plainAttrs_list, F.slot_list_index, F.type_list_index, ⟨ob, eo, co⟩, fun b q => by cases q; exact ⟨ob, eo, cdn⟩, ?_⟩
  refine seqMethod1_meets F.slot_list_index F.entry_list_index (hx own env A s₁ E _ hs (hen.keeps k₁.heap) (hg.keeps k₁.heap) (hal.keeps k₁.heap) hr fun xv s₂ k₂ r₂ => ?_)
  have eo₂ := k₂.heap _ _ eo
  have hra₂ := hra.keeps k₂.heap
  obtain ⟨cls, dct, data, sl⟩ := ob
  simp only at co cdn dd
  subst co cdn dd
  obtain ⟨as, q1⟩ := r₂.reads (e.ok a)
  obtain ⟨cs, q2⟩ := hra₂.reads (by have := e.list.ok bs; simpa [noBytes] using this)
  rw [toPys_map] at q2
  have lay := e.list.lay bs hb
  rw [toPy, toPys_map, PyData.canLay0] at lay
  have hlen : vs.size = bs.length := by have := hra₂.length; simpa using this
  have hj : @List.idxOf α B a bs < vs.size := by rw [hlen]; exact List.idxOf_lt_length_iff.mpr hm
  have val : ∀ j (hj : j < vs.size), PyData.eqv (SeqAt.readOf s₂.heap vs[j]) (toPy (enc a)) = decide (bs[j]'(by omega) = a) := fun j hj => by
    have hb' : (bs.map enc)[j]? = some (enc (bs[j]'(by omega))) := by rw [List.getElem?_map, List.getElem?_eq_getElem (by omega)]; rfl
    obtain ⟨v, hv, rv⟩ := hra₂.get j _ hb'
    have hvv : vs[j] = v := by
      have : vs.toList[j]? = some vs[j] := by simp
      rw [hv] at this; exact (Option.some.inj this).symm
    obtain ⟨ds, q3⟩ := rv.reads (e.ok _)
    rw [hvv, SeqAt.readOf_eq (e.lay _ (hb _ (List.getElem_mem _))) q3]
    exact e.eqv _ _ (hb _ (List.getElem_mem _)) ha
  refine ⟨⟨_, eo₂, rfl⟩, F.args_list_index_2 _ _, _, SeqAt.list_indexAt l vs nn none sl xv (fun y => PyData.eqv (SeqAt.readOf s₂.heap y) (toPy (enc a))) (@List.idxOf α B a bs) hj (by omega) ?_ ?_, eo₂, ?_, ?_⟩
  · show PyData.eqv _ _ = true
    rw [val _ hj]
    simp
  · intro m hm' hlt
    show PyData.eqv _ _ = false
    rw [val m hm']
    simp only [decide_eq_false_iff_not]
    intro q
    exact ne_of_lt_idx hlt (by omega) q
  · refine SeqAt.items_eqAt q2 q1 lay (e.lay a ha) ?_
    have := hr.units; have := e.depth a; show A.units + 1 + _ < _; omega
  · exact hQ _ _ ((k₁.trans k₂).trans (Kp.toks _ _)) (.int _ _)
end
end Mine
end
section
set_option Elab.async false
set_option linter.unusedVariables false
namespace Mine
theorem nodup_len {α : Type} [DecidableEq α] : ∀ {l m : List α}, l.Nodup → (∀ x ∈ l, x ∈ m) → l.length ≤ m.length
  | [], m, _, _ => Nat.zero_le _
  | a :: l, m, hn, hs => by
    obtain ⟨h1, h2⟩ := List.nodup_cons.mp hn
    have ha : a ∈ m := hs a (.head _)
    have := nodup_len (l := l) (m := m.erase a) h2 fun x hx => (List.mem_erase_of_ne (fun (q : x = a) => h1 (q ▸ hx))).mpr (hs x (.tail _ hx))
    rw [List.length_erase_of_mem ha] at this
    have : 0 < m.length := List.length_pos_of_mem ha
    simp only [List.length_cons]; omega
/-- the sets of states -/
noncomputable def subsF (c : Nat) : List (List Nat) := (List.range 8).map fun n => (List.range c).filter fun q => n / 2 ^ q % 2 == 1
theorem filter_subs {c : Nat} (hc : c ≤ 3) (p : Nat → Bool) : (List.range c).filter p ∈ subsF c := by
  have h : ∀ c ≤ 3, ∀ b0 b1 b2 : Bool, (List.range c).filter (fun q => if q = 0 then b0 else if q = 1 then b1 else b2) ∈ subsF c := by decide +kernel
  have e : (List.range c).filter p = (List.range c).filter (fun q => if q = 0 then p 0 else if q = 1 then p 1 else p 2) := by
    apply List.filter_congr
    intro x hx
    have := List.mem_range.mp hx
    by_cases h0 : x = 0
    · simp [h0]
    · by_cases h1 : x = 1
      · simp [h1]
      · have h2 : x = 2 := by omega
        simp [h2]
  rw [e]
  exact h c hc _ _ _
theorem subs_len {c : Nat} : (subsF c).length = 8 := by simp [subsF]
theorem subs_lt {c : Nat} {x : List Nat} (h : x ∈ subsF c) : ∀ p ∈ x, p < c := by
  obtain ⟨n, _, rfl⟩ := List.mem_map.mp h
  exact fun p hp => List.mem_range.mp (List.mem_filter.mp hp).1
theorem subs_size {c : Nat} {x : List Nat} (h : x ∈ subsF c) : x.length ≤ c := by
  obtain ⟨n, _, rfl⟩ := List.mem_map.mp h
  exact Nat.le_trans (List.length_filter_le _ _) (by simp)

noncomputable def aheadF (T : List (List (List Nat))) (S : List (List Nat)) (k : Nat) : List (List Nat) := [stepF T (S.getD k []) 0, stepF T (S.getD k []) 1]
noncomputable def insF (S : List (List Nat)) (x : List Nat) : List (List Nat) := if x ∈ S then S else S ++ [x]
noncomputable def insAll (S xs : List (List Nat)) : List (List Nat) := xs.foldl insF S
noncomputable def exStep (T : List (List (List Nat))) (q : List (List Nat) × List (List Nat)) (k : Nat) : List (List Nat) × List (List Nat) :=
  if k < q.1.length then (insAll q.1 (aheadF T q.1 k), q.2 ++ [(aheadF T q.1 k).map fun x => (insAll q.1 (aheadF T q.1 k)).idxOf x]) else q
noncomputable def exGo (T : List (List (List Nat))) (first : List Nat) (i : Nat) : List (List Nat) × List (List Nat) := (List.range i).foldl (exStep T) ([first], [])
theorem exGo_succ (T : List (List (List Nat))) (first : List Nat) (i : Nat) : exGo T first (i + 1) = exStep T (exGo T first i) i := by
  unfold exGo; rw [List.range_succ, List.foldl_append]; rfl
theorem ins_mem {S : List (List Nat)} {x y : List Nat} : y ∈ insF S x ↔ y ∈ S ∨ y = x := by
  unfold insF
  split
  · constructor
    · exact .inl
    · rintro (h | rfl)
      · exact h
      · assumption
  · simp
theorem ins_nodup {S : List (List Nat)} {x : List Nat} (h : S.Nodup) : (insF S x).Nodup := by
  unfold insF
  split
  · exact h
  · rename_i hx
    rw [List.nodup_append]
    exact ⟨h, by simp, fun a ha b hb => by simp at hb; subst hb; exact fun q => hx (q ▸ ha)⟩
theorem ins_len {S : List (List Nat)} {x : List Nat} : S.length ≤ (insF S x).length := by
  unfold insF; split <;> simp
structure ExOk (c : Nat) (i : Nat) (q : List (List Nat) × List (List Nat)) : Prop where
  nodup : q.1.Nodup
  sub : ∀ x ∈ q.1, x ∈ subsF c
  len : q.2.length = min i q.1.length
  rows : ∀ r ∈ q.2, ∃ a b, r = [a, b] ∧ a < q.1.length ∧ b < q.1.length
  pos : 0 < q.1.length
theorem step_subs {T : List (List (List Nat))} {c : Nat} (hT : TabOk T c) (hc : c ≤ 3) (st : List Nat) (a : Nat) : stepF T st a ∈ subsF c := by
  unfold stepF; rw [hT.head]; exact filter_subs hc _
theorem ExOk.step {T : List (List (List Nat))} {c : Nat} (hT : TabOk T c) (hc : c ≤ 3) {i : Nat} {q : List (List Nat) × List (List Nat)} (h : ExOk c i q) : ExOk c (i + 1) (exStep T q i) := by
  unfold exStep
  split
  · rename_i hi
    have hm : ∀ y, y ∈ insAll q.1 (aheadF T q.1 i) ↔ y ∈ q.1 ∨ y ∈ aheadF T q.1 i := fun y => by simp [insAll, aheadF, ins_mem, or_assoc]
    have hl : q.1.length ≤ (insAll q.1 (aheadF T q.1 i)).length := Nat.le_trans ins_len ins_len
    refine ⟨ins_nodup (ins_nodup h.nodup), fun x hx => ?_, ?_, fun r hr => ?_, ?_⟩
    · rcases (hm x).mp hx with hx | hx
      · exact h.sub x hx
      · simp only [aheadF, List.mem_cons, List.not_mem_nil, or_false] at hx
        rcases hx with rfl | rfl <;> exact step_subs hT hc _ _
    · rw [List.length_append, h.len]; simp only [List.length_singleton]; omega
    · rcases List.mem_append.mp hr with hr | hr
      · obtain ⟨a, b, e, h1, h2⟩ := h.rows r hr
        exact ⟨a, b, e, Nat.lt_of_lt_of_le h1 hl, Nat.lt_of_lt_of_le h2 hl⟩
      · simp only [List.mem_singleton] at hr
        subst hr
        refine ⟨_, _, rfl, ?_, ?_⟩ <;> (apply List.idxOf_lt_length_iff.mpr; rw [hm]; right; simp [aheadF])
    · have := h.pos; show 0 < (insAll q.1 (aheadF T q.1 i)).length; omega
  · rename_i hi
    exact ⟨h.nodup, h.sub, by rw [h.len]; omega, h.rows, h.pos⟩
theorem exGo_ok {T : List (List (List Nat))} {c : Nat} (hT : TabOk T c) (hc : c ≤ 3) {first : List Nat} (hf : first ∈ subsF c) : ∀ i, ExOk c i (exGo T first i)
  | 0 => ⟨by simp [exGo], by simpa [exGo] using hf, by simp [exGo], by simp [exGo], by simp [exGo]⟩
  | i + 1 => by rw [exGo_succ]; exact (exGo_ok hT hc hf i).step hT hc
theorem ExOk.small {c i : Nat} {q : List (List Nat) × List (List Nat)} (h : ExOk c i q) : q.1.length ≤ 8 := by
  have := nodup_len h.nodup h.sub; rwa [subs_len] at this

/-- Moore -/
noncomputable def marks0 (S : List (List Nat)) (last : List Nat) : List Nat := S.map fun x => if meetF x last then 1 else 0
noncomputable def rowsF (n : Nat) (M : List (List Nat)) (marks : List Nat) : List (List Nat) :=
  (List.range n).map fun k => [marks.getD k 0, marks.getD ((M.getD k []).getD 0 0) 0, marks.getD ((M.getD k []).getD 1 0) 0]
noncomputable def moore (n : Nat) (M : List (List Nat)) (marks : List Nat) : List Nat := (rowsF n M marks).map fun r => (rowsF n M marks).idxOf r
noncomputable def mooreGo (n : Nat) (M : List (List Nat)) (marks : List Nat) : Nat → List Nat
  | 0 => marks
  | i + 1 => moore n M (mooreGo n M marks i)
noncomputable def kindsF (n : Nat) (marks : List Nat) : List Nat := (List.range n).filter fun k => marks.getD k 0 == k
noncomputable def leastRows (S M : List (List Nat)) (last marks : List Nat) : List (Nat × Nat × Bool) :=
  (kindsF S.length marks).map fun k => ((kindsF S.length marks).idxOf (marks.getD ((M.getD k []).getD 0 0) 0), (kindsF S.length marks).idxOf (marks.getD ((M.getD k []).getD 1 0) 0), meetF (S.getD k []) last)
noncomputable def leastF (T : List (List (List Nat))) (first last : List Nat) : List (Nat × Nat × Bool) :=
  leastRows (exGo T first 8).1 (exGo T first 8).2 last (mooreGo (exGo T first 8).1.length (exGo T first 8).2 (marks0 (exGo T first 8).1 last) 8)
end Mine
end
section
set_option Elab.async false
set_option linter.unusedVariables false
namespace Mine
theorem rows_len (n : Nat) (M : List (List Nat)) (m : List Nat) : (rowsF n M m).length = n := by simp [rowsF]
theorem moore_len (n : Nat) (M : List (List Nat)) (m : List Nat) : (moore n M m).length = n := by simp [moore, rows_len]
theorem getD_lt {α : Type} {l : List α} {i : Nat} {d : α} (h : i < l.length) : l.getD i d = l[i] := by
  rw [List.getD_eq_getElem?_getD, List.getElem?_eq_getElem h]; rfl
theorem moore_at {n : Nat} {M : List (List Nat)} {m : List Nat} {j : Nat} (h : j < n) : (moore n M m).getD j 0 = (rowsF n M m).idxOf ((rowsF n M m)[j]'(by rw [rows_len]; exact h)) := by
  rw [getD_lt (by rw [moore_len]; exact h)]
  simp [moore]
theorem moore_lt {n : Nat} {M : List (List Nat)} {m : List Nat} {j : Nat} (h : j < n) : (moore n M m).getD j 0 < n := by
  rw [moore_at h]
  have := List.idxOf_lt_length_iff.mpr (List.getElem_mem (l := rowsF n M m) (n := j) (by rw [rows_len]; exact h))
  exact Nat.lt_of_lt_of_eq this (rows_len n M m)
theorem moore_row {n : Nat} {M : List (List Nat)} {m : List Nat} {j : Nat} (h : j < n) : (rowsF n M m)[(moore n M m).getD j 0]'(by rw [rows_len]; exact moore_lt h) = (rowsF n M m)[j]'(by rw [rows_len]; exact h) := by
  have e := moore_at (M := M) (m := m) h
  have hx : (rowsF n M m)[j]'(by rw [rows_len]; exact h) ∈ rowsF n M m := List.getElem_mem _
  have key := List.getElem_idxOf (List.idxOf_lt_length_iff.mpr hx)
  simp only [e]
  exact key
/-- marks are equal just where the rows are -/
theorem moore_eq {n : Nat} {M : List (List Nat)} {m : List Nat} {i j : Nat} (hi : i < n) (hj : j < n) : (moore n M m).getD i 0 = (moore n M m).getD j 0 ↔ (rowsF n M m)[i]'(by rw [rows_len]; exact hi) = (rowsF n M m)[j]'(by rw [rows_len]; exact hj) := by
  constructor
  · intro q
    have h1 := moore_row (M := M) (m := m) hi
    have h2 := moore_row (M := M) (m := m) hj
    rw [← h1, ← h2]
    simp only [q]
  · intro q
    rw [moore_at hi, moore_at hj, q]
theorem moore_idem {n : Nat} {M : List (List Nat)} {m : List Nat} {j : Nat} (h : j < n) : (moore n M m).getD ((moore n M m).getD j 0) 0 = (moore n M m).getD j 0 :=
  (moore_eq (moore_lt h) h).mpr (moore_row h)
theorem mooreGo_len {n : Nat} {M : List (List Nat)} {m : List Nat} (h : m.length = n) : ∀ i, (mooreGo n M m i).length = n
  | 0 => h
  | i + 1 => moore_len ..
theorem kinds_mem {n : Nat} {M : List (List Nat)} {m : List Nat} {j : Nat} (h : j < n) : (moore n M m).getD j 0 ∈ kindsF n (moore n M m) := by
  unfold kindsF
  rw [List.mem_filter]
  exact ⟨List.mem_range.mpr (moore_lt h), by simpa using moore_idem h⟩
end Mine
end
section
open PySem PySem.W PyProof.Rows PySem.Calls
set_option Elab.async false
set_option linter.unusedVariables false
set_option maxRecDepth 100000
namespace Mine
section
variable {prog : Program} {w : World} {mg mb : Str → Option Value} {k : Nat} {sc : Scope} {σ : Sig}
noncomputable def enc3 : Nat × Nat × Bool → Dt := fun p => .list [eN p.1, eN p.2.1, .bool p.2.2]
theorem filter_true {α : Type} (l : List α) : l.filter (fun _ => true) = l := List.filter_eq_self.mpr fun _ _ => rfl
theorem T2 {T : List (List (List Nat))} (h : T.length = 2) {a : Nat} (ha : a ∈ List.range 2) : ∀ b ∈ [a], b < T.length := fun b hb => by
  rw [List.mem_singleton.mp hb, h]; exact List.mem_range.mp ha
theorem map_len {α β : Type} (f : α → β) (l : List α) : (l.map f).length = l.length := List.length_map ..
noncomputable abbrev sgL (a b : Addr) (S M : List (List Nat)) (T : List (List (List Nat))) (last : List Nat) : Sig :=
  [(Str.ofString "sets", (some a, eLL S)), (Str.ofString "moves", (some b, eLL M)), (Str.ofString "tables", (none, eLLL T)), (Str.ofString "last", (none, eL last))]
noncomputable abbrev sgA (a b : Addr) (S M : List (List Nat)) (T : List (List (List Nat))) (last : List Nat) (ah : List (List Nat)) (i : Nat) : Sig :=
  [(Str.ofString "sets", (some a, eLL S)), (Str.ofString "moves", (some b, eLL M)), (Str.ofString "tables", (none, eLLL T)), (Str.ofString "last", (none, eL last)), (Str.ofString "ahead", (none, eLL ah)), (Str.ofString "k", (none, eN i))]
theorem lt8 {n m : Nat} (h : n ≤ 8) (hm : 8 < m := by decide) : n < m := Nat.lt_of_le_of_lt h hm
theorem getD_mem {S : List (List Nat)} {i : Nat} (h : i < S.length) : S.getD i [] ∈ S := by
  rw [List.getD_eq_getElem?_getD, List.getElem?_eq_getElem h]; exact List.getElem_mem _
theorem ins_small {S : List (List Nat)} {x : List Nat} : (insF S x).length ≤ S.length + 1 := by unfold insF; split <;> simp
noncomputable abbrev sgT (S M : List (List Nat)) (T : List (List (List Nat))) (last : List Nat) : Sig :=
  [(Str.ofString "sets", (none, eLL S)), (Str.ofString "moves", (none, eLL M)), (Str.ofString "tables", (none, eLLL T)), (Str.ofString "last", (none, eL last))]
noncomputable abbrev sgM (S M : List (List Nat)) (T : List (List (List Nat))) (last mk : List Nat) : Sig :=
  [(Str.ofString "sets", (none, eLL S)), (Str.ofString "moves", (none, eLL M)), (Str.ofString "tables", (none, eLLL T)), (Str.ofString "last", (none, eL last)), (Str.ofString "marks", (none, eL mk))]
theorem ExOk.row {c i : Nat} {S M : List (List Nat)} (h : ExOk c i (S, M)) {j : Nat} (hj : j < M.length) : ∃ a b, M.getD j [] = [a, b] ∧ a < S.length ∧ b < S.length := h.rows _ (getD_mem hj)
theorem least_tail {k₀ c : Nat} (hc : c ≤ 3) (T : List (List (List Nat))) (S M : List (List Nat)) (last : List Nat) (ok : ExOk c 8 (S, M)) {own : List Addr} {A : Around} {s s₁ : Shared} {env : Env} {E : Value → Shared → Prop} {Q : Flow → Shared → Prop} (hsc : env.scope = (fdOf 140).scope) (hr : Room (k₀ + 1) A)
    (F : Fs w mg mb own [] (fun _ => False) s env (sgT S M T last) s₁) (hQ : ∀ v s', Kp s s' → Rep own s'.heap v (.list ((leastRows S M last (mooreGo S.length M (marks0 S last) 8)).map enc3)) → Q (.ret v) s') :
    wpAny (model prog w) A (execs ((match (fdOf 140).body with | .stmts b => b | _ => []).drop 2) env) Q E s₁ := by
  have hS8 : S.length ≤ 8 := ok.small
  have hM : M.length = S.length := by have := ok.len; simp only at this; omega
  have hm0 : (marks0 S last).length = S.length := by simp [marks0]
  refine seq_next (F.assign hr hsc (Ev.cast (d' := eL (marks0 S last)) (Ev.comp S eL (fun _ => true) (fun x => eN (if meetF x last then 1 else 0)) rfl (Itr.list (Ev.name rfl rfl)) (fun _ _ => Trs.nil)
    (fun x hx _ => Ev.ifExp (Tr.val (Ev.callD (gl_fn fun _ => rfl) (obj_at fun _ => rfl) rfl rfl (.cons (Ev.name rfl rfl) (.cons (Ev.name rfl rfl) .nil)) (fn_meet x last (by have := ok.sub x hx; have := subs_size this; omega)))) (fun q => by rw [if_pos q]; exact Ev.lit) (fun q => by rw [q]; exact Ev.lit)) (size_le (lt8 hS8)))
    (by rw [filter_true]; simp [marks0, eL])) rfl (fun s₂ F₂ => ⟨rfl, ?_⟩) (swaps_no rfl))
  refine seq_next ((F₂.weak (σ' := sgM S M T last (marks0 S last)) (wkc rfl (wkc rfl (wkc rfl (wkc rfl (wkc rfl wk0)))))).for_ hr hsc (Itr.rangeN (n := 8) Ev.lit rfl (gl_none fun _ => rfl) (by decide)) rfl
      (fun i σ' => σ' = sgM S M T last (mooreGo S.length M (marks0 S last) i)) rfl ?_ ?_)
  · rintro i d σ' X₁ s₁ s₂ E' hd rfl F₃
    have hml := mooreGo_len (M := M) hm0 i
    generalize hmk : mooreGo S.length M (marks0 S last) i = mk at *
    refine seq_next (F₃.assign hr hsc (d := eLL (rowsF S.length M mk)) ?_ rfl (fun s₃ F₄ => ⟨rfl, ?_⟩) (swaps_no rfl))
    · refine Ev.cast (Ev.comp (List.range S.length) eN (fun _ => true) (fun k => eL [mk.getD k 0, mk.getD ((M.getD k []).getD 0 0) 0, mk.getD ((M.getD k []).getD 1 0) 0]) rfl (Itr.rangeN (Ev.lenN (xs := S.map eL) (n := S.length) (gl_none fun _ => rfl) rfl (EvT.name rfl rfl) (map_len _ _) (lt8 hS8)) rfl (gl_none fun _ => rfl) (lt8 hS8)) (fun _ _ => Trs.nil) (fun k hk _ => ?_) (size_le (by rw [List.length_range]; exact lt8 hS8))) (by rw [filter_true]; simp [eLL, rowsF, Function.comp_def])
      have hk : k < S.length := List.mem_range.mp hk
      obtain ⟨a, b, e, ha, hb⟩ := ok.row (j := k) (by omega)
      have h0 : (M.getD k []).getD 0 0 = a := by rw [e]; rfl
      have h1 : (M.getD k []).getD 1 0 = b := by rw [e]; rfl
      have mv : ∀ (sc' : Scope) (σ' : Sig) (j : Nat), j < 2 → ∀ {pp p0 p1 p2 p3 p4 : Pos} {i : Int}, i = (j : Int) → σ'.lookup (Str.ofString "moves") = some (none, eLL M) → σ'.lookup (Str.ofString "k") = some (none, eN k) → isOwn sc' (Str.ofString "moves") = true → isOwn sc' (Str.ofString "k") = true → Ev prog w mg mb (k₀ + 1) sc' (.Subscript (.Subscript (.Name (Str.ofString "moves") p0) (.Name (Str.ofString "k") p1) p2) (.Constant (.int i) 0 p3) p4) σ' (eN ((M.getD k []).getD j 0)) := by
        intro sc' σ' j hj pp p0 p1 p2 p3 p4 i hi g1 g2 g3 g4
        exact Ev.itemN (xs := (M.getD k []).map eN) (Ev.top (Ev.itemN (xs := M.map eL) (EvT.name g1 g3) (Ev.name g2 g4) (by omega) (getD_map M eL k [] (by omega)))) (Ev.lit hi) (by omega) (getD_map _ eN j 0 (by rw [e]; exact hj))
      refine Ev.list (ds := [mk.getD k 0, mk.getD ((M.getD k []).getD 0 0) 0, mk.getD ((M.getD k []).getD 1 0) 0].map eN) (.cons ?_ (.cons ?_ (.cons ?_ .nil))) (size_le (by simp))
      · exact Ev.itemN (xs := mk.map eN) (EvT.name rfl rfl) (Ev.name rfl rfl) (by omega) (getD_map mk eN k 0 (by omega))
      · exact Ev.itemN (xs := mk.map eN) (EvT.name rfl rfl) (mv _ _ 0 (by decide) (pp := default) rfl rfl rfl rfl rfl) (by omega) (getD_map mk eN _ 0 (by omega))
      · exact Ev.itemN (xs := mk.map eN) (EvT.name rfl rfl) (mv _ _ 1 (by decide) (pp := default) rfl rfl rfl rfl rfl) (by omega) (getD_map mk eN _ 0 (by omega))
    refine seq_next (F₄.assign hr hsc (d := eL (moore S.length M mk)) ?_ rfl (fun s₄ F₅ => ⟨rfl, ?_⟩) (swaps_no rfl))
    · refine Ev.cast (Ev.comp (rowsF S.length M mk) eL (fun _ => true) (fun r => eN ((rowsF S.length M mk).idxOf r)) rfl (Itr.list (Ev.name rfl rfl)) (fun _ _ => Trs.nil) (fun r hrr _ => ?_) (size_le (by rw [rows_len]; exact lt8 hS8))) (by rw [filter_true]; simp [eL, moore, Function.comp_def])
      exact Ev.index enc_L (bs := rowsF S.length M mk) (by simp) (by simp) hrr (by rw [rows_len]; exact lt8 hS8) (EvT.name rfl rfl) (Ev.name rfl rfl)
    refine wpAny_execs_nil ⟨_, rfl, ?_⟩
    rw [mooreGo, hmk]
    exact F₅.weak (wkc rfl (wkc rfl (wkc rfl (wkc rfl (wkc rfl wk0)))))
  · rintro σ' s₂ E' rfl F₃
    refine wpAny_execs_nil ⟨rfl, ?_⟩
    rw [List.length_map, List.length_range] at F₃
    have hml := mooreGo_len (M := M) hm0 8
    have hkm : ∀ j, j < S.length → (mooreGo S.length M (marks0 S last) 8).getD j 0 ∈ kindsF S.length (mooreGo S.length M (marks0 S last) 8) := fun j hj => kinds_mem hj
    generalize mooreGo S.length M (marks0 S last) 8 = mk at *
    refine seq_next (F₃.assign hr hsc (d := eL (kindsF S.length mk)) (Ev.comp (List.range S.length) eN (fun k => mk.getD k 0 == k) eN rfl (Itr.rangeN (Ev.lenN (xs := S.map eL) (n := S.length) (gl_none fun _ => rfl) rfl (EvT.name rfl rfl) (map_len _ _) (lt8 hS8)) rfl (gl_none fun _ => rfl) (lt8 hS8))
      (fun k hk => Trs.one (Tr.cmp (Cmp.eqN (Ev.itemN (xs := mk.map eN) (EvT.name rfl rfl) (Ev.name rfl rfl) (by have := List.mem_range.mp hk; omega) (getD_map mk eN k 0 (by have := List.mem_range.mp hk; omega))) (Ev.name rfl rfl)))) (fun k hk _ => Ev.name rfl rfl) (size_le (by rw [List.length_range]; exact lt8 hS8))) rfl (fun s₃ F₄ => ⟨rfl, ?_⟩) (swaps_no rfl))
    have hkl : (kindsF S.length mk).length ≤ 8 := Nat.le_trans (List.length_filter_le _ _) (by rw [List.length_range]; exact hS8)
    have hklt : ∀ k ∈ kindsF S.length mk, k < S.length := fun k hk => List.mem_range.mp (List.mem_filter.mp hk).1
    refine F₄.retF hr hsc ?_ hQ
    refine Ev.cast (Ev.comp (kindsF S.length mk) eN (fun _ => true) (fun k => enc3 ((kindsF S.length mk).idxOf (mk.getD ((M.getD k []).getD 0 0) 0), (kindsF S.length mk).idxOf (mk.getD ((M.getD k []).getD 1 0) 0), meetF (S.getD k []) last)) rfl (Itr.list (Ev.name rfl rfl)) (fun _ _ => Trs.nil) (fun k hk _ => ?_) (size_le (lt8 hkl))) (by rw [filter_true, leastRows, List.map_map]; rfl)
    have hk := hklt k hk
    obtain ⟨a, b, e, ha, hb⟩ := ok.row (j := k) (by omega)
    refine Ev.cast (Ev.cat (xs := [(kindsF S.length mk).idxOf (mk.getD a 0), (kindsF S.length mk).idxOf (mk.getD b 0)].map eN) (ys := [.bool (meetF (S.getD k []) last)]) ?_ ?_ (size_le (by simp))) (by rw [e]; rfl)
    · refine Ev.cast (Ev.comp [a, b] eN (fun _ => true) (fun j => eN ((kindsF S.length mk).idxOf (mk.getD j 0))) rfl (Itr.list ?_) (fun _ _ => Trs.nil) (fun j hj _ => ?_) (size_le (by simp))) rfl
      · exact Ev.itemN (xs := M.map eL) (EvT.name rfl rfl) (Ev.name rfl rfl) (by omega) (by rw [getD_map M eL k [] (by omega), e]; rfl)
      · have hj : j < S.length := by
          simp only [List.mem_cons, List.not_mem_nil, or_false] at hj
          rcases hj with rfl | rfl <;> assumption
        exact Ev.index enc_nat (bs := kindsF S.length mk) trivial (fun _ _ => trivial) (hkm j hj) (lt8 hkl) (EvT.name rfl rfl) (Ev.itemN (xs := mk.map eN) (EvT.name rfl rfl) (Ev.name rfl rfl) (by omega) (getD_map mk eN j 0 (by omega)))
    · have hsk := ok.sub _ (getD_mem hk)
      have hsz : (S.getD k []).length ≤ c := subs_size hsk
      exact Ev.list (ds := [.bool (meetF (S.getD k []) last)]) (.cons (Ev.callD (gl_fn fun _ => rfl) (obj_at fun _ => rfl) rfl rfl (.cons (Ev.itemN (xs := S.map eL) (EvT.name rfl rfl) (Ev.name rfl rfl) (by omega) (getD_map S eL k [] hk)) (.cons (Ev.name rfl rfl) .nil)) (fn_meet _ last (by omega))) .nil) (size_le (by simp))
theorem fn_least (T : List (List (List Nat))) (c : Nat) (hT : TabOk T c) (hT2 : T.length = 2) (hc : c ≤ 3) (first last : List Nat) (hf : first ∈ subsF c) : Fn prog w mg mb (k + 2) 140 [eLLL T, eL first, eL last] (.list ((leastF T first last).map enc3)) :=
  fn_at [Str.ofString "tables", Str.ofString "first", Str.ofString "last"] (fun _ => rfl) (fun _ => rfl) rfl rfl rfl rfl rfl (bind3 fun u v t => rfl) rfl rfl rfl rfl (by decide) rfl rfl rfl rfl fun own A s s₁ env E Q hsc hcode hr F hQ => by
    refine seq_next (F.tup2own hr hsc (ds := [first].map eL) (es := ([] : List (List Nat)).map eL) (EvN.list (.cons (Ev.name rfl rfl) .nil) (size_le (by simp))) (EvN.list .nil (size_le (by decide))) rfl rfl (by decide) ?_ fun a b s₂ ha hb _ _ F₂ => ⟨rfl, ?_⟩)
    · exact .inl fun e' he => by cases e'; cases he; rfl
    have hab : b ≠ a := fun q => hb (q ▸ .head _)
    have ok := exGo_ok hT hc hf
    refine seq_next ((F₂.weak (σ' := sgL a b [first] [] T last) (wkc rfl (wkc rfl (wkc rfl (wkc rfl wk0))))).for_ hr hsc (Itr.rangeN (n := 8) Ev.lit rfl (gl_none fun _ => rfl) (by decide)) rfl
      (fun i σ' => i ≤ 8 ∧ σ' = sgL a b (exGo T first i).1 (exGo T first i).2 T last) ⟨by decide, rfl⟩ ?_ ?_)
    · rintro i d σ' X₁ s₁ s₂ E' hd ⟨hi8, rfl⟩ F₃
      obtain ⟨j, hj, rfl⟩ : ∃ j, (List.range 8)[i]? = some j ∧ eN j = d := by rwa [List.getElem?_map, Option.map_eq_some_iff] at hd
      obtain ⟨hi, hji⟩ := List.getElem?_eq_some_iff.mp hj
      rw [List.getElem_range] at hji
      subst hji
      have hi' : i < 8 := by simpa using hi
      have oki := ok i
      generalize hq : exGo T first i = q at *
      obtain ⟨S, M⟩ := q
      have hS8 : S.length ≤ 8 := oki.small
      refine seq_next (F₃.if_ hr hsc (Tr.cmp (Cmp.ltN (Ev.name rfl rfl) (Ev.lenN (xs := S.map eL) (n := S.length) (gl_none fun _ => rfl) rfl (EvT.name rfl rfl) (map_len _ _) (lt8 hS8)))) ?_ ?_)
      · intro hlt s₄ F₄
        have hlt : i < S.length := by simpa using hlt
        have hSi := oki.sub _ (getD_mem hlt)
        -- ahead
        refine seq_next (F₄.assignComp hr hsc (List.range 2) eN (fun _ => true) (fun l => eL (stepF T (S.getD i []) l)) rfl (Itr.rangeN (n := 2) Ev.lit rfl (gl_none fun _ => rfl) (by decide)) (fun _ _ => Trs.nil)
          (fun l hl _ => Ev.callD (gl_fn fun _ => rfl) (obj_at fun _ => rfl) rfl rfl (.cons (Ev.name rfl rfl) (.cons (Ev.itemN (xs := S.map eL) (EvT.name rfl rfl) (Ev.name rfl rfl) (by omega) (getD_map S eL i [] hlt)) (.cons (Ev.list (ds := [l].map eN) (.cons (Ev.name rfl rfl) .nil) (size_le (by simp))) .nil)))
            (fn_run T c hT _ [l] (subs_lt hSi) (Nat.lt_of_le_of_lt (subs_size hSi) (by omega)) (T2 hT2 hl))) (size_le (by decide)) rfl rfl fun s₅ F₅ => ⟨rfl, ?_⟩)
        have e2 : Dt.list (((List.range 2).filter fun _ => true).map fun l => eL (stepF T (S.getD i []) l)) = eLL (aheadF T S i) := rfl
        rw [e2] at F₅
        -- the loop over ahead
        have hlenA : (aheadF T S i).length = 2 := rfl
        have hsmall : ∀ j, (insAll S ((aheadF T S i).take j)).length ≤ 10 := fun j => by
          have h1 := ins_small (S := S) (x := stepF T (S.getD i []) 0)
          have h2 := ins_small (S := insF S (stepF T (S.getD i []) 0)) (x := stepF T (S.getD i []) 1)
          rcases j with _ | _ | j
          · show S.length ≤ 10; omega
          · show (insF S (stepF T (S.getD i []) 0)).length ≤ 10; omega
          · rw [List.take_of_length_le (by rw [hlenA]; omega)]
            show (insF (insF S (stepF T (S.getD i []) 0)) (stepF T (S.getD i []) 1)).length ≤ 10; omega
        refine seq_next ((F₅.weak (σ' := sgA a b S M T last (aheadF T S i) i) (wkc rfl (wkc rfl (wkc rfl (wkc rfl (wkc rfl (wkc rfl wk0))))))).for_ hr hsc (Itr.list (xs := (aheadF T S i).map eL) (Ev.name rfl rfl)) rfl (fun j σ' => σ' = sgA a b (insAll S ((aheadF T S i).take j)) M T last (aheadF T S i) i) rfl ?_ ?_)
        · rintro j d σ' X₂ s₂' s₆ E'' hd rfl F₆
          obtain ⟨x, hx, rfl⟩ : ∃ x, (aheadF T S i)[j]? = some x ∧ eL x = d := by rwa [List.getElem?_map, Option.map_eq_some_iff] at hd
          have hnext : insAll S ((aheadF T S i).take (j + 1)) = insF (insAll S ((aheadF T S i).take j)) x := by
            rw [List.take_add_one, hx]; simp [insAll]
          have hsj := hsmall j
          generalize insAll S ((aheadF T S i).take j) = S' at *
          refine seq_next (F₆.if_ hr hsc (Tr.cmp (Cmp.notInE enc_L (a := x) (bs := S') (by simp) (by simp) (Ev.name rfl rfl) (EvT.name rfl rfl))) ?_ ?_)
          · intro hin s₇ F₇
            have hin : x ∉ S' := by simpa using hin
            refine seq_next (F₇.append hr hsc (a := a) (ds := S'.map eL) (d := eL x) rfl (Ev.name rfl rfl) rfl rfl (.tail _ (.head _)) ?_ (by rw [List.length_map]; omega) fun s₈ F₈ => ⟨rfl, ?_⟩)
            · exact ⟨.inr (by simp), .inl rfl, .inr (by simpa using hab), .inr (by simp), .inr (by simp), .inr (by simp), .inr (by simp), trivial⟩
            refine wpAny_execs_nil ⟨rfl, wpAny_execs_nil ⟨_, rfl, ?_⟩⟩
            rw [hnext]
            have e3 : eLL (insF S' x) = .list (S'.map eL ++ [eL x]) := by rw [insF, if_neg hin]; simp [eLL]
            rw [sgA, e3]
            exact F₈.weak (wkc rfl (wkc rfl (wkc rfl (wkc rfl (wkc rfl (wkc rfl wk0))))))
          · intro hin s₇ F₇
            have hin : x ∈ S' := by simpa using hin
            refine wpAny_execs_nil ⟨rfl, wpAny_execs_nil ⟨_, rfl, ?_⟩⟩
            rw [hnext, insF, if_pos hin]
            exact F₇.weak (wkc rfl (wkc rfl (wkc rfl (wkc rfl (wkc rfl (wkc rfl wk0))))))
        · rintro σ' s₆ E'' rfl F₆
          refine wpAny_execs_nil ⟨rfl, ?_⟩
          have e4 : (aheadF T S i).take ((aheadF T S i).map eL).length = aheadF T S i := by rw [List.length_map, List.take_length]
          rw [e4] at F₆
          have hmem : ∀ x ∈ aheadF T S i, x ∈ insAll S (aheadF T S i) := fun x hx => by
            simp only [aheadF, List.mem_cons, List.not_mem_nil, or_false] at hx
            simp only [insAll, aheadF, List.foldl_cons, List.foldl_nil, ins_mem]
            rcases hx with rfl | rfl <;> simp
          have hsm := hsmall 2
          rw [show (aheadF T S i).take 2 = aheadF T S i from rfl] at hsm
          refine seq_next (F₆.append hr hsc (a := b) (ds := M.map eL) (d := eL ((aheadF T S i).map fun x => (insAll S (aheadF T S i)).idxOf x)) rfl ?_ rfl rfl (.head _) ?_ (by have := oki.len; rw [List.length_map]; simp only at this; omega) fun s₈ F₈ => ⟨rfl, ?_⟩)
          · refine Ev.cast (Ev.comp (aheadF T S i) eL (fun _ => true) (fun x => eN ((insAll S (aheadF T S i)).idxOf x)) rfl (Itr.list (Ev.name rfl rfl)) (fun _ _ => Trs.nil) (fun x hx _ => ?_) (size_le (by rw [hlenA]; decide))) (by rw [filter_true]; simp [eL])
            exact Ev.index enc_L (bs := insAll S (aheadF T S i)) (by simp) (by simp) (hmem x hx) (by omega) (EvT.name rfl rfl) (Ev.name rfl rfl)
          · exact ⟨.inr (by simpa using Ne.symm hab), .inl rfl, .inr (by simp), .inr (by simp), .inr (by simp), .inr (by simp), trivial⟩
          refine wpAny_execs_nil ⟨rfl, wpAny_execs_nil ⟨_, ⟨by omega, rfl⟩, ?_⟩⟩
          have e5 : exGo T first (i + 1) = (insAll S (aheadF T S i), M ++ [(aheadF T S i).map fun x => (insAll S (aheadF T S i)).idxOf x]) := by
            rw [exGo_succ, hq, exStep, if_pos hlt]
          rw [e5, sgL]
          have e6 : eLL (M ++ [(aheadF T S i).map fun x => (insAll S (aheadF T S i)).idxOf x]) = .list (M.map eL ++ [eL ((aheadF T S i).map fun x => (insAll S (aheadF T S i)).idxOf x)]) := by simp [eLL]
          rw [e6]
          exact F₈.weak (wkc rfl (wkc rfl (wkc rfl (wkc rfl wk0))))
      · intro hlt s₄ F₄
        have hlt : ¬ i < S.length := by simpa using hlt
        refine wpAny_execs_nil ⟨rfl, wpAny_execs_nil ⟨_, ⟨by omega, rfl⟩, ?_⟩⟩
        have e5 : exGo T first (i + 1) = (S, M) := by rw [exGo_succ, hq, exStep, if_neg hlt]
        rw [e5]
        exact F₄.weak (wkc rfl (wkc rfl (wkc rfl (wkc rfl wk0))))
    · rintro σ' s₂ E' ⟨_, rfl⟩ F₃
      refine wpAny_execs_nil ⟨rfl, ?_⟩
      rw [List.length_map, List.length_range] at F₃
      have ok8 := ok 8
      unfold leastF at hQ
      generalize exGo T first 8 = q at *
      obtain ⟨S, M⟩ := q
      exact least_tail hc T S M last ok8 hsc hr (F₃.freeze (by
        intro p hp a' hp'
        simp only [sgL, List.mem_cons, List.not_mem_nil, or_false] at hp
        rcases hp with rfl | rfl | rfl | rfl
        · simp at hp'; subst hp'; exact .tail _ (.head _)
        · simp at hp'; subst hp'; exact .head _
        · simp at hp'
        · simp at hp')) hQ
end
end Mine
end
section
open PySem PySem.W PyProof.Rows PySem.Calls
set_option Elab.async false
set_option linter.unusedVariables false
set_option maxRecDepth 100000
namespace Mine
section
variable {prog : Program} {w : World} {mg mb : Str → Option Value} {k : Nat} {sc : Scope} {σ : Sig} {A : Around} {E : Value → Shared → Prop} {s : Shared}

theorem iter_list {l : Addr} {items : Array Value} {Q : Value → Shared → Prop} (hl : s.heap.IsList l items)
    (h : Q (.ref s.heap.objs.size) { s with heap := s.heap.push { cls := .type "list_iterator", data := .fields #[.ref l, .int 0 0] } }) : wpAny (model prog w) A (call (.builtin "iter") [.ref l]) Q E s := by
  refine call_function_entry (by decide +kernel) (by decide +kernel) kdk_entry_iter (kdk_args_iter _) ?_
  unfold Builtin.«iter»
  refine wpAny_bind (m := someArgs "iter" 1 2 _) (wpAny_of_eq (a := [Value.ref l]) (by first | rfl | kernel_rfl!) ?_)
  show wpAny _ _ (pyIter (.ref l) >>= _) _ _ _
  exact wpAny_bind (wpAny_pyIter_list hl (wpAny_pure ⟨_, rfl, h⟩))

/-- the function value fv, from s on, is f where P holds -/
noncomputable def Clo (prog : Program) (w : World) (mg mb : Str → Option Value) (k : Nat) (s : Shared) (fv : Value) (P : Nat → Nat → Prop) (f : Nat → Nat → Nat) : Prop :=
  (∃ a o fd, fv = .ref a ∧ s.heap.get? a = some o ∧ o.data = .func fd) ∧
  ∀ (own : List Addr) (A : Around) (s' : Shared) (E : Value → Shared → Prop) (Q : Value → Shared → Prop) (a x : Nat) (t u : Tok), Kp s s' → Gd w mg mb s'.heap → Alive own s'.heap → Room k A → P a x →
    (∀ r s'', Kp s' s'' → Rep own s''.heap r (eN (f a x)) → Q r s'') → wpAny (model prog w) A (call fv [.int a t, .int x u]) Q E s'

theorem reduce_bind (u v t : Value) {s : Shared} (hg : Gd w mg mb s.heap) (Q : List (Str × Value) → Shared → Prop) (E : Value → Shared → Prop) (A : Around) (h : Q ([Str.ofString "function", Str.ofString "sequence", Str.ofString "initial"].zip [u, v, t]) s) :
    wpAny (model prog w) A (bindArgs (fdOf 23) ⟨[u, v, t], []⟩) Q E s := by
  show wpAny (model prog w) A (seqItems? (.ref 16) >>= _) Q E s
  refine wpAny_bind (wpAny_seqItems (hg.K 16 _ rfl) rfl ?_)
  exact wpAny_pure h

theorem repAll_nat {own own' : List Addr} {h h' : Heap} : ∀ {vs : List Value} {l : List Nat}, RepAll own h vs (l.map eN) → RepAll own' h' vs (l.map eN)
  | [], [], _ => .nil
  | [], _ :: _, r => by cases r
  | _ :: _, [], r => by cases r
  | v :: vs, n :: l, r => by
    cases r with
    | cons r1 r2 =>
      obtain ⟨t, rfl⟩ := rep_int r1
      exact .cons (.int _ _) (repAll_nat r2)
theorem rep_any {own : List Addr} {h : Heap} {v u : Value} (r : Rep own h v (.any u)) : v = u := by cases r; rfl
/-- reduce(fv, l, i) -/
theorem call_reduce {fv : Value} {P : Nat → Nat → Prop} {f : Nat → Nat → Nat} {l : List Nat} {i0 : Nat} {t0 : Tok} {own : List Addr} {seqv : Value} {Q : Value → Shared → Prop} (hg : Gd w mg mb s.heap) (ha : Alive own s.heap) (hr : Room (k + 1) A)
    (hc : Clo prog w mg mb k s fv P f) (hs : Rep own s.heap seqv (eL l)) (hP : ∀ i x, l[i]? = some x → P ((l.take i).foldl f i0) x)
    (hQ : ∀ v s', Kp s s' → Rep own s'.heap v (eN (l.foldl f i0)) → Q v s') : wpAny (model prog w) A (call (.ref 23) [fv, seqv, .int i0 t0]) Q E s := by
  refine wpAny_call (enter_fs (args := [.any fv, eL l, eN i0]) (ps := [Str.ofString "function", Str.ofString "sequence", Str.ofString "initial"]) hg ha hr (.cons (.any _) (.cons hs (.cons (.int _ _) .nil))) (hg.K 23 (fnObj 23) rfl) rfl ⟨22, _, _, _, rfl, hg.K 22 _ rfl, rfl, rfl⟩ rfl rfl (fun Q E A q => reduce_bind _ _ _ hg Q E A q) rfl rfl rfl rfl (by decide) rfl rfl rfl rfl fun s₁ env E' hsc hcode hr' F => ?_)
  -- it = iter(sequence)
  refine seq_next (wpAny_Assign_Name (wpAny_Call_ofName (blt_load F.envOk F.gd' (by rw [hsc]; rfl) (gl_none (fun _ => rfl) _ F.gd') ((F.gd'.bb _ (by decide)).trans boot_iter) (callWith_builtin1 (args_cons (Ev.name (sc := (fdOf 23).scope) (d := eL l) rfl rfl _ env _ s₁ _ _ hsc F.envOk F.gd' F.alive hr' fun sv s₂ k₂ r₂ => args_nil ?_)))) ) rfl)
  have r₀ : Rep own s₂.heap sv (eL l) := r₂
  cases r₂ with
  | @list a o vs n _ hna e hcl hd hra =>
  refine iter_list ⟨o, e, hcl.1, n, hd⟩ ?_
  have F₃ := (F.kp k₂).kp (Kp.push s₂ { cls := .type "list_iterator", data := .fields #[.ref a, .int 0 0] })
  generalize hI : s₂.heap.objs.size = I at *
  have eI : (s₂.heap.push { cls := .type "list_iterator", data := .fields #[.ref a, .int 0 0] }).get? I = some { cls := .type "list_iterator", data := .fields #[.ref a, .int 0 0] } := hI ▸ Heap.get?_push_size _ rfl
  have haI : a ≠ I := hI ▸ Nat.ne_of_lt (Heap.lt_size e)
  have hsI : s.heap.get? I = none := by
    cases q : s.heap.get? I with
    | none => rfl
    | some o' => exact absurd (Heap.lt_size (k₂.heap _ _ (F.kp0.heap _ _ q))) (by rw [hI]; exact Nat.lt_irrefl _)
  refine F₃.store' (e := (none, .any (.ref I))) (.any _) (stores_spec (by rw [hsc]; rfl)) fun s₄ ax ox eax hax nax hsb hsame F₄ => ⟨rfl, ?_⟩
  have haxI : ax ≠ I := fun q => by
    rcases hax with r | ⟨z, r1, r2⟩
    · obtain ⟨m, ⟨o1, _, _, e1, d1, _⟩, _⟩ := F₃.ns
      rw [← r, q] at e1
      have e1' : (s₂.heap.push { cls := .type "list_iterator", data := .fields #[.ref a, .int 0 0] }).get? I = some o1 := e1
      rw [eI] at e1'; cases e1'; cases d1
    · obtain ⟨c, v, q1, _, ⟨o1, e1, d1⟩, _⟩ := F₃.cell z r2
      rw [r1] at q1; cases q1
      rw [q] at e1
      have e1' : (s₂.heap.push { cls := .type "list_iterator", data := .fields #[.ref a, .int 0 0] }).get? I = some o1 := e1
      rw [eI] at e1'; cases e1'; cases d1
  have eI₄ : s₄.heap.get? I = some { cls := .type "list_iterator", data := .fields #[.ref a, .int 0 0] } := hsb.extBut _ _ (Ne.symm haxI) eI
  have nXI : ¬ Xf (fun _ => False) env [] I := fun q => by
    rcases q with q | q | ⟨z, r1, r2⟩ | q
    · exact q
    · obtain ⟨m, ⟨o1, _, _, e1, d1, _⟩, _⟩ := F₄.ns
      rw [← q, eI₄] at e1; cases e1; cases d1
    · obtain ⟨c, v, q1, _, ⟨o1, e1, d1⟩, _⟩ := F₄.cell z r1
      rw [r2] at q1; cases q1
      rw [eI₄] at e1; cases e1; cases d1
    · cases q
  -- the test
  refine seq_next (F₄.root.if_ (b := false) hr' hsc (Tr.cmp (Cmp.of (a := eN i0) (b := .any (.ref 15)) (Ev.name rfl rfl) (fun own' env' A' s' E' Q' hs' he' hg' _ _ h' => by
      exact glob_load he' hg' (by rw [hs']; rfl) (gl_fn (a := 15) (fun _ => rfl) _ hg') (h' _ s' (Kp.refl s') (.any _))) fun own' A' s' E' Q' u v _ _ _ r1 r2 h' => by
        obtain ⟨t, rfl⟩ := rep_int r1
        rw [rep_any r2]
        exact wpAny_is_other rfl (by intro q; cases q) (h' s' (Kp.refl s')))) (fun q => by cases q) fun _ s₅ F₅ => ?_)
  refine seq_next (F₅.assign hr' hsc (d := eN i0) (Ev.name rfl rfl) rfl fun s₆ F₆ => ⟨rfl, wpAny_execs_nil ⟨rfl, ?_⟩⟩)
  have eI₆ := F₆.keep I _ nXI eI₄
  have F₇ := F₄.unroot F₆ fun _ _ h => h
  have haax : a ≠ ax := fun q => by
    subst q
    have e1 : (s₂.heap.push { cls := .type "list_iterator", data := .fields #[.ref a, .int 0 0] }).get? a = some o := Heap.get?_push_of_some _ e
    have e2 : (s₂.heap.push { cls := .type "list_iterator", data := .fields #[.ref a, .int 0 0] }).get? a = some ox := eax
    rw [e1] at e2; cases e2; exact nax _ _ hd
  have ea₄ : s₄.heap.get? a = some o := hsb.extBut _ _ haax (Heap.get?_push_of_some _ e)
  have nXa : ¬ Xf (fun _ => False) env [] a := fun q => by
    rcases q with q | q | ⟨z, r1, r2⟩ | q
    · exact q
    · obtain ⟨m, ⟨o1, _, _, e1, d1, _⟩, _⟩ := F₄.ns
      rw [← q, ea₄] at e1; cases e1; rw [hd] at d1; cases d1
    · obtain ⟨c, v, q1, _, ⟨o1, e1, d1⟩, _⟩ := F₄.cell z r1
      rw [r2] at q1; cases q1
      rw [ea₄] at e1; cases e1; rw [hd] at d1; cases d1
    · cases q
  have ea₆ := F₆.keep a _ nXa ea₄
  obtain ⟨⟨fa, fo, ffd, hfv, hfo, hfd⟩, hclo⟩ := hc
  subst hfv
  -- the loop
  refine seq_next (wpAny_For (named_load (e := (none, .any (.ref I))) F₇.kind (F₇.envOk.name _ _ rfl) (kd := .local) (by unfold Env.kindOf; rw [hsc]; rfl) rfl (by decide) (fun v rv => ?_) |> fun h => wpAny_Name h (by decide)))
  rw [rep_any rv]
  have src : Src prog w (A.deeper env) I (l.map eN) (listSt I a (l.map eN)) := src_list hr'.handled haI
  have hst : listSt I a (l.map eN) ([] ++ own) 0 s₆.heap := ⟨⟨_, eI₆, rfl, rfl⟩, o, vs, n, hna, ea₆, hcl.1, hd, repAll_nat hra⟩
  refine src.self ([] ++ own) 0 s₆ _ _ hst ?_
  refine (F₇.weak (σ' := [(Str.ofString "value", (none, eN i0)), (Str.ofString "function", (none, .any (.ref fa)))]) (wkc rfl (wkc rfl wk0))).turns hsc src hst (fun q => q) (.inr hsI) (fun b hb q => by
      subst q
      obtain ⟨us, o1, e1, _⟩ := ha b (by simpa using hb)
      rw [hsI] at e1; cases e1) rfl (fun i σ' => σ' = [(Str.ofString "value", (none, eN ((l.take i).foldl f i0))), (Str.ofString "function", (none, .any (.ref fa)))]) rfl ?_ ?_
  · rintro i d σ' X₁ s₁' s₇ E'' hd' rfl Fb Fr
    obtain ⟨x, hx, rfl⟩ : ∃ x, l[i]? = some x ∧ eN x = d := by rwa [List.getElem?_map, Option.map_eq_some_iff] at hd'
    have kb := Fb.kp0
    refine seq_next (wpAny_Assign_Name (wpAny_Call_ofName (wpAny_Name (named_load (e := (none, .any (.ref fa))) Fr.kind (Fr.envOk.name _ _ rfl) (kd := .local) (by unfold Env.kindOf; rw [hsc]; rfl) rfl (by decide) (fun v rv => ?_)) (by decide))) rfl)
    rw [rep_any rv]
    refine callWith_def hfd (have := EvAll.cons (sc := (fdOf 23).scope) (d := eN ((l.take i).foldl f i0)) (Ev.name rfl rfl) (EvAll.cons (d := eN x) (Ev.name rfl rfl) EvAll.nil (fun _ => rfl)) (fun _ => rfl); this _ env _ s₇ _ _ _ hsc Fr.envOk Fr.gd' Fr.alive hr' fun ws s₈ k₈ r₈ => ?_)
    refine ⟨k₈.heap _ _ (kb.heap _ _ hfo), ?_⟩
    cases r₈ with
    | cons q1 q2 =>
      cases q2 with
      | cons q2 q3 =>
        cases q3
        obtain ⟨t1, rfl⟩ := rep_int q1
        obtain ⟨t2, rfl⟩ := rep_int q2
        refine hclo ([] ++ own) _ s₈ _ _ _ _ _ _ (kb.trans k₈) (Fr.kp k₈).gd' (Fr.kp k₈).alive hr' (hP i x hx) fun r s₉ k₉ rr => ?_
        refine ((Fr.kp k₈).kp k₉).store (e := (none, eN (f ((l.take i).foldl f i0) x))) rr (stores_spec (by rw [hsc]; rfl)) fun s₁₀ F₁₀ => ⟨rfl, wpAny_execs_nil ⟨_, rfl, ?_⟩⟩
        have e9 : (l.take (i + 1)).foldl f i0 = f ((l.take i).foldl f i0) x := by rw [List.take_add_one, hx, List.foldl_append]; rfl
        rw [e9]
        exact F₁₀.weak (wkc rfl (wkc rfl wk0))
  · rintro σ' s₇ E'' rfl Fd
    refine wpAny_execs_nil ⟨rfl, ?_⟩
    rw [List.length_map, List.take_length] at Fd
    exact Fd.retF hr' hsc (Ev.name rfl rfl) fun v s' k' r => hQ v s' k' r
end
end Mine
end
section
open PySem PySem.W PyProof.Rows PySem.Calls
set_option Elab.async false
set_option linter.unusedVariables false
set_option maxRecDepth 100000
namespace Mine
section
variable {prog : Program} {w : World} {mg mb : Str → Option Value} {k : Nat} {sc : Scope} {σ σ' : Sig} {own₀ lown : List Addr} {X : Addr → Prop} {s₀ s s' : Shared} {env : Env} {A : Around} {E : Value → Shared → Prop}

/-- b is not among the frame's names -/
noncomputable def Apart (env : Env) (b : Addr) : Prop := b ≠ env.locals ∧ ∀ x, env.kindOf x = some .cell → env.cells.lookup x ≠ some b
theorem Fs.apartOf (F : Fs w mg mb own₀ lown X s₀ env σ s) {b : Addr} {o : Obj} (e : s.heap.get? b = some o) (h1 : ∀ es n, o.data ≠ .dict es n) (h2 : ∀ c, o.data ≠ .cell c) : Apart env b := by
  refine ⟨fun q => ?_, fun x hx q => ?_⟩
  · obtain ⟨m, ⟨o', es, ep, e', d, _⟩, _⟩ := F.ns
    rw [← q, e] at e'; cases e'; exact h1 _ _ d
  · obtain ⟨c, v, q1, _, ⟨o', e', d⟩, _⟩ := F.cell x hx
    rw [q] at q1; cases q1
    rw [e] at e'; cases e'; exact h2 _ d
theorem Fs.apartSeq (F : Fs w mg mb own₀ lown X s₀ env σ s) {b : Addr} {vs : Array Value} (e : PlainL s.heap b vs) : Apart env b := by
  obtain ⟨o, n, e, _, _, d⟩ := e
  exact F.apartOf e (fun es n q => by rw [d] at q; cases q) (fun c q => by rw [d] at q; cases q)
/-- all stands but W and the names -/
noncomputable def Sm (env : Env) (W : Addr → Prop) (h h' : Heap) : Prop := (∀ b o, ¬ W b → Apart env b → h.get? b = some o → h'.get? b = some o) ∧ ∀ b o vs n, h.get? b = some o → o.data = .seq vs n → h'.get? b = some o

/-- other objects turn -/
theorem Fs.others (F : Fs w mg mb own₀ lown X s₀ env σ s) {W : Addr → Prop} {h' : Heap} {tk : Nat} (nW : ∀ b, W b → ∃ o, s.heap.get? b = some o ∧ NotSeq o) (hL : ¬ W env.locals) (hc : ∀ x c, env.cells.lookup x = some c → env.kindOf x = some .cell → ¬ W c) (hM : ∀ b, W b → Mu X s₀ b)
    (hs : ∀ b o, ¬ W b → s.heap.get? b = some o → h'.get? b = some o) (hC' : ∀ b, W b → X b → ∃ o, h'.get? b = some o ∧ NotSeq o) : Fs w mg mb own₀ lown X s₀ env σ { s with heap := h', toks := tk } :=
  have hq : ∀ b o vs n, s.heap.get? b = some o → o.data = .seq vs n → ¬ W b := fun b o vs n e d q => by
    obtain ⟨o', e', n'⟩ := nW b q
    rw [e] at e'; cases e'; exact n' _ _ d
  have hR : ∀ v e, RepF (lown ++ own₀) s.heap v e → RepF (lown ++ own₀) h' v e := by
    rintro v ⟨f, d⟩ r
    cases f with
    | none => exact Rep.mono (fun b o vs n hb e dd => ⟨hs b o (hq b o vs n e dd) e, hb⟩) r
    | some a =>
      obtain ⟨r1, r2, a', vs, xs, e1, e2, ⟨o, n, e, c, cd, dd⟩, q⟩ := r
      exact ⟨r1, r2, a', vs, xs, e1, e2, ⟨o, n, hs _ _ (hq _ _ _ _ e dd) e, c, cd, dd⟩, RepAll.mono (fun b o vs n hb e dd => ⟨hs b o (hq b o vs n e dd) e, hb⟩) q⟩
  { same := by obtain ⟨h1, t1, rfl⟩ := F.same; exact ⟨_, _, rfl⟩
    keep := fun b o hb e => hs b o (fun q => by rcases hM b q with r | r; · exact hb r
                                                · rw [r] at e; cases e) (F.keep b o hb e)
    glob := F.glob
    blt := F.blt
    kind := F.kind
    locMu := F.locMu
    ns := let ⟨m, ⟨o, es, ep, e, d, r⟩, h⟩ := F.ns; ⟨m, ⟨o, es, ep, hs _ _ hL e, d, r⟩, fun x e h1 h2 => let ⟨v, h3, h4⟩ := h x e h1 h2; ⟨v, h3, hR v e h4⟩⟩
    cell := fun x hx => let ⟨c, v, h1, h2, ⟨o, e, d⟩, h4⟩ := F.cell x hx; ⟨c, v, h1, h2, ⟨o, hs c o (hc x c h1 hx) e, d⟩, fun e he => let ⟨v', h5, h6⟩ := h4 e he; ⟨v', h5, hR v' e h6⟩⟩
    nofree := F.nofree
    apart := F.apart
    alive := fun a ha => let ⟨vs, o, e, c, n, d⟩ := F.alive a ha; ⟨vs, o, hs a o (hq a o vs n e d) e, c, n, d⟩
    newl := F.newl
    live := fun b hb => by
      by_cases q : W b
      · obtain ⟨o, e, n⟩ := hC' b q hb
        exact ⟨o, e, .inr n⟩
      · obtain ⟨o, e, r⟩ := F.live b hb
        exact ⟨o, hs b o q e, r⟩
    disj := F.disj
    gd := F.gd }

/-- some objects that may turn are held for a while -/
theorem Fs.rebase (F : Fs w mg mb own₀ lown X s₀ env σ s) (Y : Addr → Prop) (hY : ∀ b, Y b → Apart env b ∧ b ∉ lown) : Fs w mg mb own₀ lown (fun b => Xf X env lown b ∧ ¬ Y b) s env σ s where
  same := ⟨s.heap, s.toks, rfl⟩
  keep := fun _ _ _ e => e
  glob := F.glob
  blt := F.blt
  kind := F.kind
  locMu := .inl ⟨.inr (.inl rfl), fun q => (hY _ q).1.1 rfl⟩
  ns := F.ns
  cell := fun x hx => let ⟨c, v, h1, h2, h3, h4⟩ := F.cell x hx; ⟨c, v, h1, .inl ⟨.inr (.inr (.inl ⟨x, hx, h1⟩)), fun q => (hY _ q).1.2 x hx h1⟩, h3, h4⟩
  nofree := F.nofree
  apart := F.apart
  alive := F.alive
  newl := fun a ha => .inl ⟨.inr (.inr (.inr ha)), fun q => (hY _ q).2 ha⟩
  live := fun b hb => F.root.live b hb.1
  disj := F.disj
  gd := fun h' hk => F.gd h' fun b o hb e => hk b o (fun q => F.xf_not hb e q.1) (F.keep b o hb e)
theorem Fs.unbase {lown' : List Addr} {Y : Addr → Prop} (F : Fs w mg mb own₀ lown X s₀ env σ s) (F' : Fs w mg mb own₀ lown' (fun b => Xf X env lown b ∧ ¬ Y b) s env σ' s') (hl : ∀ b ∈ lown, b ∈ lown') (hY : ∀ b, Y b → ∃ o, s.heap.get? b = some o ∧ (b ∈ own₀ ∨ NotSeq o)) : Fs w mg mb own₀ lown' X s₀ env σ' s' where
  same := by
    obtain ⟨h1, t1, rfl⟩ := F.same
    obtain ⟨h2, t2, rfl⟩ := F'.same
    exact ⟨_, _, rfl⟩
  keep := fun b o hb e => F'.keep b o (fun q => F.xf_not hb e q.1) (F.keep b o hb e)
  glob := F.glob
  blt := F.blt
  kind := F.kind
  locMu := F.locMu
  ns := F'.ns
  cell := fun x hx => by
    obtain ⟨c, v, h1, h2, h3, h4⟩ := F'.cell x hx
    obtain ⟨c', v', q1, q2, _⟩ := F.cell x hx
    rw [h1] at q1; cases q1
    exact ⟨c, v, h1, q2, h3, h4⟩
  nofree := F.nofree
  apart := F.apart
  alive := F'.alive
  newl := fun a ha => by
    rcases F'.newl a ha with h | h
    · exact F.xf_mu h.1
    · by_cases hX : X a
      · exact .inl hX
      · refine .inr ?_
        cases q : s₀.heap.get? a with
        | none => rfl
        | some o => rw [F.keep a o hX q] at h; cases h
  live := fun b hb => by
    by_cases q : Y b
    · obtain ⟨o, e, r⟩ := hY b q
      refine ⟨o, F'.keep b o (fun r => r.2 q) e, ?_⟩
      rcases r with r | r
      · exact .inl (List.mem_append_right _ r)
      · exact .inr r
    · exact F'.live b ⟨.inl hb, q⟩
  disj := F'.disj
  gd := F.gd
/-- the frame of a call, with objects that may turn -/
theorem Fs.widen (F : Fs w mg mb own₀ lown (fun _ => False) s₀ env σ s) (X : Addr → Prop) (hX : ∀ b, X b → ∃ o, s.heap.get? b = some o ∧ NotSeq o) (hg : ∀ h', (∀ b o, ¬ X b → s₀.heap.get? b = some o → h'.get? b = some o) → Gd w mg mb h') : Fs w mg mb own₀ lown X s₀ env σ s where
  same := F.same
  keep := fun b o _ e => F.keep b o id e
  glob := F.glob
  blt := F.blt
  kind := F.kind
  locMu := F.locMu.elim (fun q => q.elim) .inr
  ns := F.ns
  cell := fun x hx => let ⟨c, v, h1, h2, h3, h4⟩ := F.cell x hx; ⟨c, v, h1, h2.elim (fun q => q.elim) .inr, h3, h4⟩
  nofree := F.nofree
  apart := F.apart
  alive := F.alive
  newl := fun a ha => (F.newl a ha).elim (fun q => q.elim) .inr
  live := fun b hb => let ⟨o, e, n⟩ := hX b hb; ⟨o, e, .inr n⟩
  disj := F.disj
  gd := hg

/-- what an assignment to a target does -/
noncomputable def Tgt (prog : Program) (w : World) (mg mb : Str → Option Value) (sc : Scope) (tgt : Expr) (P : Dt → Prop) (up : Dt → Sig → Sig) : Prop :=
  ∀ (own₀ lown : List Addr) (X : Addr → Prop) (s₀ s : Shared) (env : Env) (σ : Sig) (A : Around) (E : Value → Shared → Prop) (v : Value) (d : Dt) (Q : Unit → Shared → Prop), env.scope = sc → A.handled = none → Fs w mg mb own₀ lown X s₀ env σ s → Rep (lown ++ own₀) s.heap v d → P d →
    (∀ s', Fs w mg mb own₀ lown X s₀ env (up d σ) s' → (∀ b o, Apart env b → s.heap.get? b = some o → s'.heap.get? b = some o) → Q () s') → wpAny (model prog w) A (assign tgt env v) Q E s
theorem Tgt.name {x : Str} {p : Pos} (hx : stores sc x = true) : Tgt prog w mg mb sc (.Name x p) (fun _ => True) (fun d σ => (x, (none, d)) :: σ) := by
  intro own₀ lown X s₀ s env σ A E v d Q hsc hh F hv _ h
  refine wpAny_assign_Name (F.store' (e := (none, d)) hv (stores_spec (hsc ▸ hx)) fun s' ax ox eax hax nax hsb _ F' => h s' F' fun b o hb e => hsb.extBut b o (fun q => ?_) e)
  rcases hax with r | ⟨y, r1, r2⟩
  · exact hb.1 (q.trans r)
  · exact hb.2 y r2 (q ▸ r1)
noncomputable def up2 (x y : Str) (d : Dt) (σ : Sig) : Sig := match d with
  | .tuple [a, b] => (x, (none, a)) :: (y, (none, b)) :: σ
  | _ => σ
theorem Tgt.pair {x y : Str} {kk : Nat} {p1 p2 tpos : Pos} (hx : stores sc x = true) (hy : stores sc y = true) (hxy : x ≠ y) : Tgt prog w mg mb sc (.Tuple [.Name x p1, .Name y p2] kk tpos) (fun d => ∃ a b, d = .tuple [a, b]) (up2 x y) := by
  rintro own₀ lown X s₀ s env σ A E v d Q hsc hh F hv ⟨a, b, rfl⟩ h
  obtain ⟨t, vs, rfl, ht, q⟩ := rep_tuple hv
  generalize hvl : vs.toList = l at q
  cases q with
  | cons q1 q2 =>
    cases q2 with
    | cons q2 q3 =>
      cases q3
      rename_i u v
      rw [arr2 hvl] at ht
      have kx := stores_spec (env := env) (hsc ▸ hx : stores env.scope x = true)
      have ky := stores_spec (env := env) (hsc ▸ hy : stores env.scope y = true)
      refine wpAny_assign_Tuple hh ht rfl rfl fun h' hext => ?_
      have kp : Kp s { s with heap := h' } := ⟨⟨_, _, rfl⟩, fun b o e => hext b o (Nat.ne_of_lt (Heap.lt_size e)) e⟩
      have F' := F.kp kp
      have ru' : RepF (lown ++ own₀) h' u (none, a) := Rep.keeps q1 kp.heap
      have rv' : RepF (lown ++ own₀) h' v (none, b) := Rep.keeps q2 kp.heap
      refine wpAny_assignInOrder_more (wpAny_assign_Name (F'.store' ru' kx fun s₁ ax ox eax hax nax hsb hsame F₁ => ?_))
      have rv₁ := rv'.sameBut eax nax hsb.extBut
      refine wpAny_assignInOrder_more (wpAny_assign_Name (F₁.store' rv₁ ky fun s₂ ax' ox' eax' hax' nax' hsb' hsame' F₂ => wpAny_assignInOrder_none (h s₂ (F₂.weakL fun z g hz => ?_) fun c o hc e => ?_)))
      · simp only [up2] at hz
        by_cases hzx : z = x
        · subst hzx
          rw [lookup_ne hxy]
          simpa using hz
        · rw [lookup_ne hzx] at hz
          by_cases hzy : z = y
          · subst hzy; simpa using hz
          · rw [lookup_ne hzy] at hz; rw [lookup_ne hzy, lookup_ne hzx]; exact hz
      · have ne1 : ∀ ax, (ax = env.locals ∨ ∃ y, env.cells.lookup y = some ax ∧ env.kindOf y = some .cell) → c ≠ ax := fun ax hax q => by
          rcases hax with r | ⟨y, r1, r2⟩
          · exact hc.1 (q.trans r)
          · exact hc.2 y r2 (q ▸ r1)
        exact hsb'.extBut c o (ne1 _ hax') (hsb.extBut c o (ne1 _ hax) (kp.heap c o e))

/-- a walk over xs by the iterator at I, which may turn the objects of W; the target is tgt -/
structure SrcJ (prog : Program) (w : World) (A : Around) (tgt : Expr) (I : Addr) (W : Addr → Prop) (xs : List Dt) (St : List Addr → Nat → Heap → Prop) : Prop where
  obj : ∀ own i h, St own i h → ∀ b, W b → ∃ o fs, h.get? b = some o ∧ o.data = .fields fs
  frame : ∀ own i h h', St own i h → (∀ b o, h.get? b = some o → (W b ∨ ((∃ vs n, o.data = .seq vs n) ∧ b ∉ own)) → h'.get? b = some o) → St own i h'
  item : ∀ own i (s : Shared) (Q : Value → Shared → Prop) (E : Value → Shared → Prop) (d : Dt), xs[i]? = some d → St own i s.heap → Alive own s.heap →
    (∀ v h' tk, Rep own h' v d → St own (i + 1) h' → (∀ b o, ¬ W b → s.heap.get? b = some o → h'.get? b = some o) → Q v { s with heap := h', toks := tk }) →
    wpAny (model prog w) A (pyNext (.ref I)) (fun r s₁ => match r with
      | none => False
      | some v => wpAny (model prog w) A (letOwnedTupleGo tgt (.ref I) v) (fun _ s₂ => Q v s₂) E s₁) E s
  done : ∀ own (s : Shared) (Q : Shared → Prop) (E : Value → Shared → Prop), St own xs.length s.heap →
    (∀ h' tk, (∀ b o, ¬ W b → s.heap.get? b = some o → h'.get? b = some o) → Q { s with heap := h', toks := tk }) → wpAny (model prog w) A (pyNext (.ref I)) (fun r s₁ => match r with
      | none => Q s₁
      | some _ => False) E s
theorem Src.toJ {x : Str} {p : Pos} {I : Addr} {xs : List Dt} {St : List Addr → Nat → Heap → Prop} (src : Src prog w A I xs St) : SrcJ prog w A (.Name x p) I (fun b => b = I) xs St where
  obj := fun own i h hs b hb => by subst hb; exact src.obj own i h hs
  frame := fun own i h h' hs hk => src.frame own i h h' hs fun b o e q => hk b o e q
  item := fun own i s Q E d hx hs _ h => src.item own i s _ E d hx hs fun v h' tk r hs' hk => by
    show wpAny _ _ (letOwnedTupleGo (.Name x p) (.ref I) v) _ _ _
    exact wpAny_pure (h v h' tk r hs' fun b o hb e => hk b o hb e)
  done := fun own s Q E hs h => src.done own s _ E hs fun h' tk hk => h h' tk fun b o hb e => hk b o hb e
/-- the turns of a for, with a word J about the whole state -/
theorem Fs.turnsJ (F : Fs w mg mb own₀ lown X s₀ env σ s) (hh : A.handled = none) (hsc : env.scope = sc) {tgt : Expr} {P : Dt → Prop} {up : Dt → Sig → Sig} (ht : Tgt prog w mg mb sc tgt P up) {body orelse : List Stmt} {xs : List Dt} (hP : ∀ d ∈ xs, P d) {It : Addr} {W : Addr → Prop} {St : List Addr → Nat → Heap → Prop} (src : SrcJ prog w A tgt It W xs St) (hst : St (lown ++ own₀) 0 s.heap) (hXI : ∀ b, W b → ¬ X b) (hMI : ∀ b, W b → Mu X s₀ b) (hIo : ∀ a ∈ lown ++ own₀, ¬ W a)
    (J : Nat → Sig → Heap → Prop) (hJ : ∀ i σ h h', J i σ h → Sm env W h h' → J i σ h') (h0 : J 0 σ s.heap) {Q : Flow → Shared → Prop} {R : Value → Shared → Prop}
    (turn : ∀ i d σ' s₂ E', (∀ b, W b → ∃ o fs, s₂.heap.get? b = some o ∧ o.data = .fields fs) → xs[i]? = some d → J i σ' s₂.heap → Fs w mg mb own₀ lown (Xf X env lown) s₂ env (up d σ') s₂ → 
      wpAny (model prog w) A (execs body env) (fun f s₃ => match f with
        | .next | .cont => ∃ σ'', J (i + 1) σ'' s₃.heap ∧ Fs w mg mb own₀ lown (Xf X env lown) s₂ env σ'' s₃
        | .brk => ∃ σ'', Fs w mg mb own₀ lown (Xf X env lown) s₂ env σ'' s₃ ∧ (Fs w mg mb own₀ lown X s₀ env σ'' s₃ → Q .next s₃)
        | .ret _ => False) E' s₂)
    (done : ∀ σ' s₂ E', J xs.length σ' s₂.heap → Fs w mg mb own₀ lown X s₀ env σ' s₂ → wpAny (model prog w) A (execs orelse env) Q E' s₂) :
    codeAny (model prog w) A (.forLoop tgt (.ref It) body orelse env) (fun r s' => match r with | .ok f => Q f s' | .error e => R e s') s := by
  refine codeAny_forLoop_any (fun n s' => ∃ i σ', J i σ' s'.heap ∧ Fs w mg mb own₀ lown X s₀ env σ' s' ∧ St (lown ++ own₀) i s'.heap ∧ i ≤ xs.length ∧ n = xs.length + 1 - i) ?_ (xs.length + 1) ⟨0, σ, h0, F, hst, Nat.zero_le _, rfl⟩
  rintro n s' ⟨i, σ', hIi, F', hst', hi, rfl⟩
  have aW : ∀ b, W b → Apart env b := fun b hb => by
    obtain ⟨o, fs, e, d⟩ := src.obj _ _ _ hst' b hb
    exact F'.apartOf e (fun es n q => by rw [d] at q; cases q) (fun c q => by rw [d] at q; cases q)
  have nW : ∀ b, W b → ∃ o, s'.heap.get? b = some o ∧ NotSeq o := fun b hb => by
    obtain ⟨o, fs, e, d⟩ := src.obj _ _ _ hst' b hb
    exact ⟨o, e, fun us n q => by rw [d] at q; cases q⟩
  have hLI : ¬ W env.locals := fun q => (aW _ q).1 rfl
  have hcI : ∀ x c, env.cells.lookup x = some c → env.kindOf x = some .cell → ¬ W c := fun x c h1 h2 q => (aW _ q).2 x h2 h1
  by_cases hlt : i < xs.length
  · have hxi : xs[i]? = some xs[i] := by simp [hlt]
    have hPd : P xs[i] := hP _ (List.getElem_mem _)
    generalize xs[i] = d at hxi hPd
    refine wpAny_mono (src.item (lown ++ own₀) i s' ?Qv (notedBy (model prog w) A env fun e s' => R e s') d hxi hst' F'.alive ?main) (fun r s₁ h₁ => ?mono) (fun _ _ e => e)
    case mono =>
      cases r with
      | none => exact h₁.elim
      | some v => exact h₁
    case main =>
      intro v h₁ tk₁ hv hst₁ hk₁
      have F₂ : Fs w mg mb own₀ lown X s₀ env σ' { s' with heap := h₁, toks := tk₁ } := F'.others nW hLI hcI hMI hk₁ fun b hb q => absurd q (hXI b hb)
      refine ht own₀ lown X s₀ { s' with heap := h₁, toks := tk₁ } env σ' A _ v d _ hsc hh F₂ hv hPd fun s₃ F₃ hap => ?_
      have hJ₃ : J i σ' s₃.heap := hJ i σ' _ _ hIi ⟨fun b o hb ha e => hap b o ha (hk₁ b o hb e), fun b o us n e q => hap b o (F'.apartOf e (fun es n r => by rw [q] at r; cases r) (fun c r => by rw [q] at r; cases r)) (hk₁ b o (fun hb => by obtain ⟨o', e', n'⟩ := nW b hb; rw [e] at e'; cases e'; exact n' _ _ q) e)⟩
      have hst₃ : St (lown ++ own₀) (i + 1) s₃.heap := src.frame _ _ h₁ _ hst₁ fun b o e q => hap b o (by
        rcases q with q | ⟨⟨us, n, q⟩, _⟩
        · exact aW b q
        · exact F₂.apartOf e (fun es n r => by rw [q] at r; cases r) (fun c r => by rw [q] at r; cases r)) e
      refine wpAny_mono (turn i d σ' s₃ _ (fun b hb => src.obj _ _ _ hst₃ b hb) hxi hJ₃ F₃.root) (fun f s₄ h₄ => ?_) fun _ _ e => e
      have after : ∀ σ'', Fs w mg mb own₀ lown (Xf X env lown) s₃ env σ'' s₄ → Fs w mg mb own₀ lown X s₀ env σ'' s₄ ∧ St (lown ++ own₀) (i + 1) s₄.heap := fun σ'' F₄ => by
        refine ⟨F₃.unroot F₄ fun _ _ h => h, src.frame _ _ s₃.heap _ hst₃ fun b o e q => F₄.keep b o (fun hb => ?_) e⟩
        rcases hb with hb | hb | ⟨z, r1, r2⟩ | hb
        · rcases q with q | ⟨⟨us, n, q⟩, q2⟩
          · exact hXI b q hb
          · obtain ⟨o', e', r⟩ := F₃.live b hb
            rw [e] at e'; cases e'
            rcases r with r | r
            · exact q2 r
            · exact r _ _ q
        · rcases q with q | ⟨⟨us, n, q⟩, q2⟩
          · exact hLI (hb ▸ q)
          · exact (F₃.apartOf e (fun es n r => by rw [q] at r; cases r) (fun c r => by rw [q] at r; cases r)).1 hb
        · rcases q with q | ⟨⟨us, n, q⟩, q2⟩
          · exact hcI z b r2 r1 q
          · exact (F₃.apartOf e (fun es n r => by rw [q] at r; cases r) (fun c r => by rw [q] at r; cases r)).2 z r1 r2
        · rcases q with q | ⟨_, q2⟩
          · exact hIo b (List.mem_append_left _ hb) q
          · exact q2 (List.mem_append_left _ hb)
      cases f with
      | next => obtain ⟨σ'', q1, q2⟩ := h₄; exact ⟨xs.length + 1 - (i + 1), by omega, i + 1, σ'', q1, (after σ'' q2).1, (after σ'' q2).2, hlt, rfl⟩
      | cont => obtain ⟨σ'', q1, q2⟩ := h₄; exact ⟨xs.length + 1 - (i + 1), by omega, i + 1, σ'', q1, (after σ'' q2).1, (after σ'' q2).2, hlt, rfl⟩
      | brk => obtain ⟨σ'', q1, q2⟩ := h₄; exact q2 (after σ'' q1).1
      | ret v => exact h₄.elim
  · have hin : i = xs.length := by omega
    subst hin
    refine wpAny_mono (src.done (lown ++ own₀) s' (fun s₁ => wpAny (model prog w) A (execs orelse env) Q (notedBy (model prog w) A env fun e s' => R e s') s₁) (notedBy (model prog w) A env fun e s' => R e s') hst' fun h₁ tk₁ hk₁ => ?_) (fun r s₁ h₁ => ?_) fun _ _ e => e
    · have F₂ : Fs w mg mb own₀ lown X s₀ env σ' { s' with heap := h₁, toks := tk₁ } := F'.others nW hLI hcI hMI hk₁ fun b hb q => absurd q (hXI b hb)
      exact done σ' { s' with heap := h₁, toks := tk₁ } _ (hJ _ σ' _ _ hIi ⟨fun b o hb ha e => hk₁ b o hb e, fun b o us n e q => hk₁ b o (fun hb => by obtain ⟨o', e', n'⟩ := nW b hb; rw [e] at e'; cases e'; exact n' _ _ q) e⟩) F₂
    · cases r with
      | none => exact h₁
      | some v => exact h₁.elim
/-- e is a source of xs for tgt -/
noncomputable def ItrJ (prog : Program) (w : World) (mg mb : Str → Option Value) (k : Nat) (sc : Scope) (tgt e : Expr) (σ : Sig) (xs : List Dt) : Prop :=
  ∀ (own : List Addr) (env : Env) (A : Around) (s : Shared) (E : Value → Shared → Prop) (Q : Value → Shared → Prop), env.scope = sc → EnvOk own env s.heap σ → Gd w mg mb s.heap → Alive own s.heap → Room k A →
    (∀ I W St s', Kp s s' → (∀ b, W b → s.heap.get? b = none) → SrcJ prog w A tgt I W xs St → St own 0 s'.heap → Q (.ref I) s') →
    wpAny (model prog w) A (eval e env) (fun x s₁ => wpAny (model prog w) A (pyIter x) Q E s₁) E s
theorem Itr.toJ {x : Str} {p : Pos} {e : Expr} {xs : List Dt} (h : Itr prog w mg mb k sc e σ xs) : ItrJ prog w mg mb k sc (.Name x p) e σ xs :=
  fun own env A s E Q h1 h2 h3 h4 h5 hQ => h own env A s E Q h1 h2 h3 h4 h5 fun I St s' hk hn src hst => hQ I _ St s' hk (fun b hb => by subst hb; exact hn) src.toJ hst
/-- for tgt in iter, with a word J about the whole state -/
theorem Fs.forJ (F : Fs w mg mb own₀ lown X s₀ env σ s) (hr : Room k A) (hsc : env.scope = sc) {tgt : Expr} {P : Dt → Prop} {up : Dt → Sig → Sig} (ht : Tgt prog w mg mb sc tgt P up) {pos : Pos} {iter : Expr} {body orelse : List Stmt} {xs : List Dt} (hP : ∀ d ∈ xs, P d) (hit : ItrJ prog w mg mb k sc tgt iter σ xs)
    (J : (Addr → Prop) → Nat → Sig → Heap → Prop) (hJ : ∀ W : Addr → Prop, (∀ b, W b → s.heap.get? b = none) → ∀ i σ h h', J W i σ h → Sm env W h h' → J W i σ h') (h0 : ∀ W s', (∀ b, W b → s.heap.get? b = none) → Kp s s' → J W 0 σ s'.heap) {Q : Flow → Shared → Prop}
    (turn : ∀ W i d σ' s₂ E', (∀ b, W b → ∃ o fs, s₂.heap.get? b = some o ∧ o.data = .fields fs) → xs[i]? = some d → J W i σ' s₂.heap → Fs w mg mb own₀ lown (Xf X env lown) s₂ env (up d σ') s₂ → 
      wpAny (model prog w) A (execs body env) (fun f s₃ => match f with
        | .next | .cont => ∃ σ'', J W (i + 1) σ'' s₃.heap ∧ Fs w mg mb own₀ lown (Xf X env lown) s₂ env σ'' s₃
        | .brk => ∃ σ'', Fs w mg mb own₀ lown (Xf X env lown) s₂ env σ'' s₃ ∧ (Fs w mg mb own₀ lown X s₀ env σ'' s₃ → Q .next s₃)
        | .ret _ => False) E' s₂)
    (done : ∀ W σ' s₂ E', J W xs.length σ' s₂.heap → Fs w mg mb own₀ lown X s₀ env σ' s₂ → wpAny (model prog w) A (execs orelse env) Q E' s₂)
    (hf : ∀ env x, foldedSetIterable iter env x = pure x := by intro _ _; rfl) : wpAny (model prog w) A (exec (.For tgt iter body orelse pos) env) Q E s := by
  refine wpAny_For (hit _ env A s E _ hsc F.envOk F.gd' F.alive hr fun It W St s₁ k₁ hI src hst => ?_) (hf env)
  have F₁ := F.kp k₁
  have hXI : ∀ b, W b → ¬ X b := fun b hb q => by obtain ⟨o, e, _⟩ := F.live _ q; rw [hI b hb] at e; cases e
  have hMI : ∀ b, W b → Mu X s₀ b := fun b hb => by
    refine .inr ?_
    cases q : s₀.heap.get? b with
    | none => rfl
    | some o =>
      have := F.keep b o (hXI b hb) q
      rw [hI b hb] at this; cases this
  have hIo : ∀ a ∈ lown ++ own₀, ¬ W a := fun a ha q => by
    obtain ⟨vs, o, e, _⟩ := F.alive a ha
    rw [hI a q] at e; cases e
  exact F₁.turnsJ hr.handled hsc ht hP src hst hXI hMI hIo (J W) (hJ W hI) (h0 W s₁ hI k₁) (turn W) (done W)
end
end Mine
end
section
open PySem PySem.W PyProof.Rows PySem.Calls
set_option Elab.async false
set_option linter.unusedVariables false
set_option maxRecDepth 100000
namespace Mine
section
variable {prog : Program} {w : World} {mg mb : Str → Option Value} {k : Nat} {sc : Scope} {σ σ' : Sig} {own₀ lown : List Addr} {X : Addr → Prop} {s₀ s s' : Shared} {env : Env} {A : Around} {E : Value → Shared → Prop}

/-- b bears nothing of the ground -/
noncomputable def Lo (w : World) (h : Heap) (b : Addr) : Prop := ∃ o, h.get? b = some o ∧ (∀ es n, o.data ≠ .dict es n) ∧ o.cls ≠ .type "module" ∧ (hd0.heap_1 w.params).lookup b = none
theorem Gd.but {h h' : Heap} (g : Gd w mg mb h) {X : Addr → Prop} (hX : ∀ b, X b → Lo w h b) (hk : ∀ b o, ¬ X b → h.get? b = some o → h'.get? b = some o) : Gd w mg mb h' := by
  have nd : ∀ b o es n, h.get? b = some o → o.data = .dict es n → ¬ X b := fun b o es n e d q => by
    obtain ⟨o', e', d', _⟩ := hX b q
    rw [e] at e'; cases e'; exact d' _ _ d
  have ns : ∀ a m, h.Ns a m → h'.Ns a m := fun a m ⟨o, es, ep, e, d, r⟩ => ⟨o, es, ep, hk _ _ (nd _ _ _ _ e d) e, d, r⟩
  refine ⟨ns _ _ g.g, ns _ _ g.b, g.bb, ?_, fun a o e => hk _ _ (fun q => ?_) (g.K a o e), ?_⟩
  · obtain ⟨mc, h1, h2⟩ := g.lim
    exact ⟨mc, ns _ _ h1, h2⟩
  · obtain ⟨_, _, _, _, h4⟩ := hX a q
    rw [e] at h4; cases h4
  · obtain ⟨bm, ob, h1, h2, h3, h4, r⟩ := g.bm
    refine ⟨bm, ob, h1, h2, hk _ _ (fun q => ?_) h3, h4, r⟩
    obtain ⟨o', e', _, d', _⟩ := hX bm q
    rw [h3] at e'; cases e'; exact d' h4
theorem Gd.fresh {h : Heap} (g : Gd w mg mb h) {b : Addr} (hb : h.get? b = none) : (hd0.heap_1 w.params).lookup b = none := by
  cases q : (hd0.heap_1 w.params).lookup b with
  | none => rfl
  | some o => have := g.K b o q; rw [hb] at this; cases this

/-- the table P bears at most one code, and none of N -/
noncomputable def Tb (N : Addr → Prop) (P : Addr) (pos : Pos) (q : Str) (h : Heap) : Prop := h.get? P = some (tabObj #[]) ∨ ∃ c', h.get? P = some (tabObj #[rawInt pos.line, rawInt pos.col, .ref c']) ∧ h.CodeRec (.ref c') q ∧ ¬ N c'
theorem Tb.obj {N : Addr → Prop} {P : Addr} {pos : Pos} {q : Str} {h : Heap} (t : Tb N P pos q h) : ∃ ps, h.get? P = some (tabObj ps) := by
  rcases t with e | ⟨c, e, _⟩
  · exact ⟨_, e⟩
  · exact ⟨_, e⟩
theorem Tb.at {N : Addr → Prop} {P : Addr} {pos : Pos} {q : Str} {h h' : Heap} (t : Tb N P pos q h) (hk : ∀ b o fs, (b = P ∨ ¬ N b) → h.get? b = some o → o.data = .fields fs → h'.get? b = some o) : Tb N P pos q h' := by
  rcases t with e | ⟨c, e, ⟨c2, o, vs, tt, e2, e3, e4, e5⟩, hn⟩
  · exact .inl (hk _ _ _ (.inl rfl) e rfl)
  · cases e2
    exact .inr ⟨c, hk _ _ _ (.inl rfl) e rfl, ⟨c, o, vs, tt, rfl, hk _ _ _ (.inr hn) e3 e4, e4, e5⟩, hn⟩
theorem Tb.keeps {N : Addr → Prop} {P : Addr} {pos : Pos} {q : Str} {h h' : Heap} (t : Tb N P pos q h) (hk : ∀ b o, h.get? b = some o → h'.get? b = some o) : Tb N P pos q h' := t.at fun b o _ _ e _ => hk b o e
theorem Tb.less {N N' : Addr → Prop} {P : Addr} {pos : Pos} {q : Str} {h : Heap} (t : Tb N P pos q h) (hn : ∀ b, N' b → N b) : Tb N' P pos q h := by
  rcases t with e | ⟨c, e, r, h⟩
  · exact .inl e
  · exact .inr ⟨c, e, r, fun q => h (hn _ q)⟩
theorem Tb.more {N : Addr → Prop} {P : Addr} {pos : Pos} {q : Str} {h : Heap} (t : Tb N P pos q h) {N' : Addr → Prop} (hn : ∀ b, N' b → h.get? b = none) : Tb (fun b => N b ∨ N' b) P pos q h := by
  rcases t with e | ⟨c, e, r, hc⟩
  · exact .inl e
  · refine .inr ⟨c, e, r, fun q => q.elim hc fun q => ?_⟩
    obtain ⟨c2, o, vs, tt, e2, e3, _⟩ := r
    cases e2
    rw [hn _ q] at e3; cases e3
theorem Tb.lo {N : Addr → Prop} {P : Addr} {pos : Pos} {q : Str} {h : Heap} (t : Tb N P pos q h) (hP : (hd0.heap_1 w.params).lookup P = none) : Lo w h P := by
  obtain ⟨ps, e⟩ := t.obj
  exact ⟨_, e, fun es n q => (by cases q), fun q => (by cases q), hP⟩
theorem Tb.notSeq {N : Addr → Prop} {P : Addr} {pos : Pos} {q : Str} {h : Heap} (t : Tb N P pos q h) : ∃ o, h.get? P = some o ∧ NotSeq o := by
  obtain ⟨ps, e⟩ := t.obj
  exact ⟨_, e, fun us n q => (by cases q)⟩

theorem Gd.bat (g : Gd w mg mb s.heap) {P : Addr} {ps : Array Value} (hP : s.heap.get? P = some (tabObj ps)) : mainGlobals ≠ P ∧ s.heap.BuiltinsAt mg P := by
  have h1 : mainGlobals ≠ P := fun q => by
    obtain ⟨o, es, ep, e, d, _⟩ := g.g
    rw [q, hP] at e; cases e; cases d
  obtain ⟨bm, ob, b1, b2, b3, b4, b5, b6⟩ := g.bm
  refine ⟨h1, bm, ob, b1, b2, fun q => ?_, fun q => ?_, b3, b4, b5, b6⟩
  · obtain ⟨o, es, ep, e, d, _⟩ := g.g
    rw [← q, b3] at e; cases e; rw [b6] at d; cases d
  · rw [q, hP] at b3; cases b3; cases b4

/-- all stands but X -/
structure Kb (X : Addr → Prop) (s s' : Shared) : Prop where
  same : ∃ h' tk, s' = { s with heap := h', toks := tk }
  heap : ∀ b o, ¬ X b → s.heap.get? b = some o → s'.heap.get? b = some o
theorem Kp.kb {X : Addr → Prop} (x : Kp s s') : Kb X s s' := ⟨x.same, fun b o _ => x.heap b o⟩
theorem Kb.trans {X : Addr → Prop} {s s' s'' : Shared} (x : Kb X s s') (y : Kb X s' s'') : Kb X s s'' := by
  obtain ⟨⟨h', tk, rfl⟩, r⟩ := x
  obtain ⟨⟨h'', tk', rfl⟩, r'⟩ := y
  exact ⟨⟨h'', tk', rfl⟩, fun b o hb e => r' b o hb (r b o hb e)⟩
theorem Kb.more {X Y : Addr → Prop} (x : Kb X s s') (h : ∀ b, X b → Y b) : Kb Y s s' := ⟨x.same, fun b o hb e => x.heap b o (fun q => hb (h b q)) e⟩

/-- the frame goes on where other objects turned -/
theorem Fs.kb (F : Fs w mg mb own₀ lown X s₀ env σ s) {W : Addr → Prop} (k' : Kb W s s') (nW : ∀ b, W b → (∃ o, s.heap.get? b = some o ∧ NotSeq o) ∧ Apart env b ∧ Mu X s₀ b) (hC' : ∀ b, W b → X b → ∃ o, s'.heap.get? b = some o ∧ NotSeq o) : Fs w mg mb own₀ lown X s₀ env σ s' := by
  obtain ⟨⟨h', tk, rfl⟩, hk⟩ := k'
  exact F.others (fun b hb => (nW b hb).1) (fun q => (nW _ q).2.1.1 rfl) (fun x c h1 h2 q => (nW _ q).2.1.2 x h2 h1) (fun b hb => (nW b hb).2.2) hk hC'

/-- what stood is there -/
theorem Fs.stays (F : Fs w mg mb own₀ lown X s₀ env σ s) {b : Addr} (h : ∃ o, s₀.heap.get? b = some o) : ∃ o, s.heap.get? b = some o := by
  by_cases q : X b
  · obtain ⟨o, e, _⟩ := F.live b q
    exact ⟨o, e⟩
  · obtain ⟨o, e⟩ := h
    exact ⟨o, F.keep b o q e⟩

/-- a lambda is made -/
theorem make_lam {N : Addr → Prop} {P c : Addr} {params : Arguments} {body : Expr} {scope : Scope} {pos : Pos} (hg : Gd w mg mb s.heap) (hge : env.globals = mainGlobals) (hcode : env.code = .ref c) (C : CodeHd s.heap c P) (T : Tb N P pos (env.qual ++ "<lambda>") s.heap)
    (hN : ∀ b, N b → ∃ o, s.heap.get? b = some o) (hcl : ∀ n, (n, NameKind.free) ∈ scope.names → (env.cells.lookup n).isSome = true) (hdef : defaultsOf params env = ([], [])) {Q : Value → Shared → Prop}
    (h : ∀ f c' ctv s', s'.heap.get? f = some (kla_obj "<lambda>" (env.qual ++ "<lambda>") params body scope (cloGo env scope.names []) ((mg "__name__").getD .none) c' ctv) → s'.heap.CodeRec (.ref c') (env.qual ++ "<lambda>") →
      Tb N P pos (env.qual ++ "<lambda>") s'.heap → s.heap.get? f = none → Kb (fun b => b = P) s s' → Q (.ref f) s') : wpAny (model prog w) A (eval (.Lambda params body scope pos) env) Q E s := by
  refine kla_eval hdef ?_
  rcases T with hP | ⟨c₁, hP, hc₁, hn₁⟩
  · obtain ⟨n1, n2⟩ := hg.bat hP
    refine kla_makeFunction (closure_of hcl) hge hg.g hcode C hP trivial rfl n1 n2 fun c' ctv h' tk hx hge hlt hrec htb => ?_
    refine h h'.objs.size c' ctv _ (Heap.get?_push_size _ rfl) (hrec.push _) (.inr ⟨c', ?_, hrec.push _, fun q => ?_⟩) ?_ ⟨⟨_, tk, rfl⟩, fun b o hb e => Heap.get?_push_of_some _ (hx b o hb e)⟩
    · exact Heap.get?_push_of_some _ (by simpa using htb)
    · obtain ⟨o, e⟩ := hN _ q
      exact absurd (Heap.lt_size e) (Nat.not_lt.mpr hge)
    · cases q : s.heap.get? h'.objs.size with
      | none => rfl
      | some o => exact absurd (Heap.lt_size q) (Nat.not_lt.mpr (Nat.le_of_lt (Nat.lt_of_le_of_lt hge hlt)))
  · obtain ⟨n1, n2⟩ := hg.bat hP
    refine kla_makeFunctionHit (closure_of hcl) hge hg.g hcode C hP (by exact trivial) (cv := .ref c₁) ?_ n2 fun ctv h' tk hk hsz => ?_
    · simp [codeAmong, rawInt]
    refine h h'.objs.size c₁ ctv _ (Heap.get?_push_size _ rfl) ((hc₁.keeps hk).push _) (.inr ⟨c₁, Heap.get?_push_of_some _ (hk _ _ hP), (hc₁.keeps hk).push _, hn₁⟩) ?_ ⟨⟨_, tk, rfl⟩, fun b o hb e => Heap.get?_push_of_some _ (hk b o e)⟩
    cases q : s.heap.get? h'.objs.size with
    | none => rfl
    | some o => exact absurd (Heap.lt_size q) (Nat.not_lt.mpr hsz)

theorem rep_intN {own own' : List Addr} {h h' : Heap} {v : Value} {i : Int} (r : Rep own h v (.int i)) : Rep own' h' v (.int i) := by
  obtain ⟨t, rfl⟩ := rep_int r; exact .int _ _
/-- a lambda of two arguments is called -/
theorem call_lam2 {f c' : Addr} {name qual : Str} {params : Arguments} {body : Expr} {scope : Scope} {cl : List (Str × Addr)} {pm ctv u v : Value} {x y : Str} {da db : Dt} {τ : Sig} {n : Nat} {Q : Value → Shared → Prop}
    (hg : Gd w mg mb s.heap) (hr : Room (k + 1) A) (ho : s.heap.get? f = some (kla_obj name qual params body scope cl pm c' ctv)) (hrec : s.heap.CodeRec (.ref c') qual)
    (hbind : bindArgs (kla_fn name qual params (body) scope cl pm (.ref c') ctv) ⟨[u, v], []⟩ = pure [(x, u), (y, v)]) (hxy : x ≠ y) (hx : scope.names.lookup x = some .local) (hy : scope.names.lookup y = some .local) (hcell : ∀ x ∈ scope.names, x.2 ≠ .cell)
    (hu : Rep [] s.heap u da) (hv : Rep [] s.heap v db) (hτ : ∀ z e, τ.lookup z = some e → scope.names.lookup z = some .free ∧ ∃ c v, cl.lookup z = some c ∧ s.heap.IsCell c (some v) ∧ RepF [] s.heap v e)
    (hev : Ev prog w mg mb k scope body ((x, (none, da)) :: (y, (none, db)) :: τ) (eN n)) (hQ : ∀ r s', Kp s s' → (∀ own, Rep own s'.heap r (eN n)) → Q r s')
    (hco : scope.isCoroutine = false) (hgen : scope.isGenerator = false) (hk : scope.kind = .function) : wpAny (model prog w) A (call (.ref f) [u, v]) Q E s := by
  refine wpAny_call (kla_callFunE (by have := hr.depth; omega) ho rfl hco hgen rfl hrec ?_)
  rw [hbind]
  refine wpAny_pure (wpAny_newFunctionEnv hcell (by
    intro b hb
    simp only [List.mem_cons, List.not_mem_nil, or_false] at hb
    rcases hb with rfl | rfl
    · exact hx
    · exact hy) (fun h₁ hns hsb => ?_) hk)
  have hk₁ : ∀ b o, s.heap.get? b = some o → h₁.get? b = some o := fun b o e => hsb.extBut b o (Nat.ne_of_lt (Heap.lt_size e)) (Heap.get?_push_of_some _ e)
  refine ⟨(hg.lim).keeps hk₁, kla_codeExpr ?_⟩
  refine hev [] _ _ { s with heap := h₁, toks := s.toks + [(x, u), (y, v)].length } _ _ rfl ?_ (hg.keeps hk₁) Alive.nil hr.deeper fun r s' k' rr => hQ r s' ⟨k'.same, fun b o e => k'.heap b o (hk₁ b o e)⟩ fun _ => rep_intN rr
  · refine ⟨rfl, rfl, hk, fun z e hz => ⟨fun kz => ⟨fun z' => [(x, u), (y, v)].reverse.lookup z', ?_⟩, fun kz => ?_⟩⟩
    · by_cases hzx : z = x
      · subst hzx
        rw [List.lookup_cons] at hz; simp at hz; subst hz
        refine ⟨u, hns, ?_, Rep.keeps hu hk₁⟩
        show [(y, v), (z, u)].lookup z = some u
        rw [lookup_ne hxy]; simp
      · rw [lookup_ne hzx] at hz
        by_cases hzy : z = y
        · subst hzy
          rw [List.lookup_cons] at hz; simp at hz; subst hz
          exact ⟨v, hns, by simp, Rep.keeps hv hk₁⟩
        · rw [lookup_ne hzy] at hz
          have := (hτ z e hz).1
          have kz' : scope.names.lookup z = some .local := kz
          rw [this] at kz'; cases kz'
    · have kz' : scope.names.lookup z = some .cell ∨ scope.names.lookup z = some .free := kz
      have hzx : z ≠ x := fun q => by subst q; rw [hx] at kz'; rcases kz' with q | q <;> cases q
      have hzy : z ≠ y := fun q => by subst q; rw [hy] at kz'; rcases kz' with q | q <;> cases q
      rw [lookup_ne hzx, lookup_ne hzy] at hz
      obtain ⟨_, c, v', h1, ⟨o, h2, h3⟩, h4⟩ := hτ z e hz
      exact ⟨c, v', h1, ⟨o, hk₁ _ _ h2, h3⟩, h4.keeps hk₁⟩
end
end Mine
end
section
open PySem PySem.W PyProof.Rows PySem.Calls
set_option Elab.async false
set_option linter.unusedVariables false
set_option maxRecDepth 100000
namespace Mine
section
variable {prog : Program} {w : World} {mg mb : Str → Option Value} {k : Nat} {sc : Scope} {σ σ' : Sig} {own₀ lown : List Addr} {X : Addr → Prop} {s₀ s s' : Shared} {env : Env} {A : Around} {E : Value → Shared → Prop}

theorem bitOr_nat (a b : Nat) : Builtin.bitOr (a : Int) (b : Int) = ((a ||| b : Nat) : Int) := by
  have hn : ∀ n : Nat, decide (0 ≤ Builtin.bitNot (n : Int)) = false := fun n => by
    unfold Builtin.bitNot; simp; omega
  have hb : ∀ n : Int, Builtin.bitNot (Builtin.bitNot n) = n := fun n => by unfold Builtin.bitNot; omega
  unfold Builtin.bitOr Builtin.bitAnd
  rw [hn, hn]
  simp only [hb]
  simp
theorem Ev.borN {l r : Expr} {p : Pos} {a b : Nat} (hl : Ev prog w mg mb k sc l σ (eN a)) (hr : Ev prog w mg mb k sc r σ (eN b)) : Ev prog w mg mb k sc (.BinOp l .BitOr r p) σ (eN (a ||| b)) := (Ev.bor hl hr).cast (by rw [bitOr_nat]; rfl)

theorem clo_of {f c' : Addr} {name qual : Str} {params : Arguments} {body : Expr} {scope : Scope} {cl : List (Str × Addr)} {pm ctv : Value} {x y : Str} {τ : Sig} {fN : Nat → Nat → Nat} {Pp : Nat → Nat → Prop}
    (ho : s.heap.get? f = some (kla_obj name qual params body scope cl pm c' ctv)) (hrec : s.heap.CodeRec (.ref c') qual)
    (hbind : ∀ u v, bindArgs (kla_fn name qual params (body) scope cl pm (.ref c') ctv) ⟨[u, v], []⟩ = pure [(x, u), (y, v)]) (hxy : x ≠ y) (hx : scope.names.lookup x = some .local) (hy : scope.names.lookup y = some .local) (hcell : ∀ x ∈ scope.names, x.2 ≠ .cell)
    (hτ : ∀ z e, τ.lookup z = some e → scope.names.lookup z = some .free ∧ ∃ c v, cl.lookup z = some c ∧ s.heap.IsCell c (some v) ∧ RepF [] s.heap v e)
    (hev : ∀ a b, Pp a b → Ev prog w mg mb k scope body ((x, (none, eN a)) :: (y, (none, eN b)) :: τ) (eN (fN a b)))
    (hco : scope.isCoroutine = false) (hgen : scope.isGenerator = false) (hk : scope.kind = .function) : Clo prog w mg mb (k + 1) s (.ref f) Pp fN :=
  ⟨⟨f, _, _, rfl, ho, rfl⟩, fun own A s' E Q a b t u k' hg' ha hr hp hQ => call_lam2 hg' hr (k'.heap _ _ ho) (hrec.keeps k'.heap) (hbind _ _) hxy hx hy hcell (.int _ _) (.int _ _)
    (fun z e hz => let ⟨h1, c, v, h2, ⟨o, h3, h4⟩, h5⟩ := hτ z e hz; ⟨h1, c, v, h2, ⟨o, k'.heap _ _ h3, h4⟩, h5.keeps k'.heap⟩) (hev a b hp) (fun r s'' k'' rr => hQ r s'' k'' (rr _)) hco hgen hk⟩

/-- reduce(lambda .., e2, e3) -/
theorem Fs.reduce {sc : Scope} (F : Fs w mg mb own₀ lown X s₀ env σ s) (hr : Room (k + 2) A) (hsc : env.scope = sc) {N : Addr → Prop} {P c : Addr} {params : Arguments} {body : Expr} {scope : Scope} {pos p cpos : Pos} {e2 e3 : Expr} {l : List Nat} {i0 : Nat} {x y : Str} {τ : Sig} {fN : Nat → Nat → Nat} {Pp : Nat → Nat → Prop} {Q : Value → Shared → Prop}
    (hcode : env.code = .ref c) (C : CodeHd s.heap c P) (T : Tb N P pos (env.qual ++ "<lambda>") s.heap) (hN : ∀ b, N b → ∃ o, s.heap.get? b = some o) (hP : Mu X s₀ P)
    (hgl : isGl sc (Str.ofString "reduce") = true) (h2 : Ev prog w mg mb (k + 2) sc e2 σ (eL l)) (h3 : Ev prog w mg mb (k + 2) sc e3 σ (eN i0))
    (hdef : defaultsOf params env = ([], []))
    (hbind : ∀ c' ctv cl pm u v, bindArgs (kla_fn "<lambda>" (env.qual ++ "<lambda>") params body scope cl pm (.ref c') ctv) ⟨[u, v], []⟩ = pure [(x, u), (y, v)]) (hxy : x ≠ y) (hx : scope.names.lookup x = some .local) (hy : scope.names.lookup y = some .local) (hcell : ∀ x ∈ scope.names, x.2 ≠ .cell)
    (hfree : ∀ n, (n, NameKind.free) ∈ scope.names → env.kindOf n = some .cell)
    (hτ : ∀ z e, τ.lookup z = some e → scope.names.lookup z = some .free ∧ σ.lookup z = some e ∧ e.1 = none)
    (hev : ∀ a b, Pp a b → Ev prog w mg mb k scope body ((x, (none, eN a)) :: (y, (none, eN b)) :: τ) (eN (fN a b)))
    (hP' : ∀ i x, l[i]? = some x → Pp ((l.take i).foldl fN i0) x)
    (h : ∀ v s', Fs w mg mb own₀ lown X s₀ env σ s' → Kb (fun b => b = P) s s' → Tb N P pos (env.qual ++ "<lambda>") s'.heap → Rep (lown ++ own₀) s'.heap v (eN (l.foldl fN i0)) → Q v s')
    (hco : scope.isCoroutine = false) (hgen : scope.isGenerator = false) (hk : scope.kind = .function)
    (ht1 : ∀ env, starEach [.Lambda params body scope pos, e2, e3] env = (false, eval (.Lambda params body scope pos) env) :: starEach [e2, e3] env := by intro _; rfl) (ht2 : ∀ env, starEach [e2, e3] env = (false, eval e2 env) :: starEach [e3] env := by intro _; rfl) (ht3 : ∀ env, starEach [e3] env = (false, eval e3 env) :: starEach [] env := by intro _; rfl) :
    wpAny (model prog w) A (eval (.Call (.Name (Str.ofString "reduce") p) [.Lambda params body scope pos, e2, e3] [] cpos) env) Q E s := by
  subst hsc
  refine wpAny_Call_ofName (glob_load F.envOk F.gd' hgl (gl_fn (a := 23) (fun _ => rfl) _ F.gd') ?_)
  refine callWith_def (o := fnObj 23) (fd := fdOf 23) rfl (args_cons ?_ (ht1 env)) (ht1 env)
  have hcl : ∀ n, (n, NameKind.free) ∈ scope.names → (env.cells.lookup n).isSome = true := fun n hn => by
    obtain ⟨c, v, q, _⟩ := F.cell n (hfree n hn)
    rw [q]; rfl
  refine make_lam F.gd' F.glob hcode C T hN hcl hdef fun f c' ctv s₁ ho hrec T₁ hnf kb₁ => ?_
  obtain ⟨ps, eP⟩ := T.obj
  have F₁ : Fs w mg mb own₀ lown X s₀ env σ s₁ := F.kb kb₁ (fun b hb => by
    subst hb
    exact ⟨T.notSeq, F.apartOf eP (fun es n q => by cases q) (fun c q => by cases q), hP⟩) fun b hb _ => by subst hb; exact T₁.notSeq
  have := EvAll.cons h2 (EvAll.cons h3 EvAll.nil ht3) ht2
  refine this _ env A s₁ _ _ _ rfl F₁.envOk F₁.gd' F₁.alive hr fun vs s₂ k₂ r₂ => ?_
  have F₂ := F₁.kp k₂
  refine ⟨F₂.gd'.K 23 _ rfl, ?_⟩
  cases r₂ with
  | cons q1 q2 =>
    cases q2 with
    | cons q2 q3 =>
      cases q3
      obtain ⟨t, rfl⟩ := rep_int q2
      refine call_reduce (k := k + 1) (fv := .ref f) (P := Pp) (f := fN) (l := l) (i0 := i0) F₂.gd' F₂.alive hr (clo_of (τ := τ) (k := k) (k₂.heap _ _ ho) (hrec.keeps k₂.heap) (fun u v => hbind _ _ _ _ u v) hxy hx hy hcell (fun z e hz => ?_) hev hco hgen hk) q1 hP' fun v s₃ k₃ rv => ?_
      · obtain ⟨z1, z2, z3⟩ := hτ z e hz
        have hzc := hfree z (PySem.mem_of_lookup z1)
        obtain ⟨c, v, q1, _, q3, q4⟩ := F₂.cell z hzc
        obtain ⟨v', rfl, q5⟩ := q4 e z2
        refine ⟨z1, c, v', ?_, q3, ?_⟩
        · exact (cloGo_lookup env z scope.names [] (.inl ⟨PySem.mem_of_lookup z1, by rw [q1]; rfl⟩)).trans q1
        · obtain ⟨e1, d⟩ := e
          cases z3
          exact Rep.less q5 (by simp)
      · exact h v s₃ (F₂.kp k₃) (kb₁.trans ((k₂.trans k₃).kb)) (T₁.keeps (k₂.trans k₃).heap) rv
end
end Mine
end
section
open PySem PySem.W PyProof.Rows PySem.Calls
set_option Elab.async false
set_option linter.unusedVariables false
set_option maxRecDepth 100000
namespace Mine
section
variable {prog : Program} {w : World} {mg mb : Str → Option Value} {k : Nat} {sc : Scope} {σ σ' : Sig} {own₀ lown : List Addr} {X : Addr → Prop} {s₀ s s' : Shared} {env : Env} {A : Around} {E : Value → Shared → Prop}

theorem RepF.perm {own own' : List Addr} {h : Heap} {v : Value} {e : Option Addr × Dt} (r : RepF own h v e) (hm : ∀ a, a ∈ own' ↔ a ∈ own) : RepF own' h v e := by
  obtain ⟨f, d⟩ := e
  cases f with
  | none => exact Rep.less r fun a ha => (hm a).mp ha
  | some b =>
    obtain ⟨r1, r2, a', vs, xs, e1, e2, hp, q⟩ := r
    exact ⟨r1, (hm b).mpr r2, a', vs, xs, e1, e2, hp, q.less fun a ha => (hm a).mp ha⟩
/-- the lists of one's own told otherwise -/
theorem Fs.reown (F : Fs w mg mb own₀ lown X s₀ env σ s) {own₀' lown' : List Addr} {X' : Addr → Prop} (hmem : ∀ a, a ∈ lown' ++ own₀' ↔ a ∈ lown ++ own₀) (hk : ∀ b o, ¬ X' b → s₀.heap.get? b = some o → ¬ X b) (hg : ∀ b o, ¬ X b → s₀.heap.get? b = some o → ¬ X' b)
    (hm : ∀ b, Mu X s₀ b → Mu X' s₀ b) (hl : ∀ b, X' b → X b ∨ b ∈ lown' ++ own₀') (hd : ∀ a ∈ lown', a ∉ own₀') (hn : ∀ a ∈ lown', Mu X' s₀ a) : Fs w mg mb own₀' lown' X' s₀ env σ s where
  same := F.same
  keep := fun b o hb e => F.keep b o (hk b o hb e) e
  glob := F.glob
  blt := F.blt
  kind := F.kind
  locMu := hm _ F.locMu
  ns := let ⟨m, hn, q⟩ := F.ns; ⟨m, hn, fun x e h1 h2 => let ⟨v, h3, h4⟩ := q x e h1 h2; ⟨v, h3, h4.perm hmem⟩⟩
  cell := fun x hx => let ⟨c, v, h1, h2, h3, h4⟩ := F.cell x hx; ⟨c, v, h1, hm _ h2, h3, fun e he => let ⟨v', h5, h6⟩ := h4 e he; ⟨v', h5, h6.perm hmem⟩⟩
  nofree := F.nofree
  apart := F.apart
  alive := fun a ha => F.alive a ((hmem a).mp ha)
  newl := hn
  live := fun b hb => by
    rcases hl b hb with q | q
    · obtain ⟨o, e, r⟩ := F.live b q
      exact ⟨o, e, r.imp (hmem b).mpr id⟩
    · obtain ⟨vs, o, e, _⟩ := F.alive b ((hmem b).mp q)
      exact ⟨o, e, .inl q⟩
  disj := hd
  gd := fun h' hk' => F.gd h' fun b o hb e => hk' b o (hg b o hb e) e
/-- the names told otherwise -/
theorem Fs.retell (F : Fs w mg mb own₀ lown X s₀ env σ s) (hσ : ∀ x e, σ'.lookup x = some e → ∃ e0, σ.lookup x = some e0 ∧ ∀ v, RepF (lown ++ own₀) s.heap v e0 → RepF (lown ++ own₀) s.heap v e) : Fs w mg mb own₀ lown X s₀ env σ' s :=
  { F with
    ns := let ⟨m, hn, q⟩ := F.ns; ⟨m, hn, fun x e h1 h2 => by
      obtain ⟨e0, h3, h4⟩ := hσ x e h1
      obtain ⟨v, h5, h6⟩ := q x e0 h3 h2
      exact ⟨v, h5, h4 v h6⟩⟩
    cell := fun x hx => let ⟨c, v, h1, h2, h3, h4⟩ := F.cell x hx; ⟨c, v, h1, h2, h3, fun e he => by
      obtain ⟨e0, h5, h6⟩ := hσ x e he
      obtain ⟨v', h7, h8⟩ := h4 e0 h5
      exact ⟨v', h7, h6 v' h8⟩⟩ }
/-- one name told otherwise -/
theorem Fs.retag (F : Fs w mg mb own₀ lown X s₀ env σ s) {x : Str} {e0 e' : Option Addr × Dt} (hx : σ.lookup x = some e0) (h : ∀ v, RepF (lown ++ own₀) s.heap v e0 → RepF (lown ++ own₀) s.heap v e') : Fs w mg mb own₀ lown X s₀ env ((x, e') :: σ) s :=
  F.retell fun y e hy => by
    by_cases hyx : y = x
    · subst hyx
      rw [List.lookup_cons] at hy; simp at hy; subst hy
      exact ⟨e0, hx, h⟩
    · rw [lookup_ne hyx] at hy
      exact ⟨e, hy, fun _ r => r⟩
/-- a list is no longer one's own -/
theorem Fs.drop {r : Addr} (F : Fs w mg mb own₀ (r :: lown) X s₀ env σ s) (hX : ¬ X r) (hfl : ∀ p ∈ σ, p.2.1 ≠ some r) : Fs w mg mb own₀ lown X s₀ env σ s :=
  have hR : ∀ v e, e.1 ≠ some r → RepF (r :: lown ++ own₀) s.heap v e → RepF (lown ++ own₀) s.heap v e := by
    rintro v ⟨f, d⟩ hf q
    cases f with
    | none => exact Rep.less q fun a ha => .tail _ ha
    | some b =>
      obtain ⟨r1, r2, a', vs, xs, e1, e2, hp, q⟩ := q
      refine ⟨r1, ?_, a', vs, xs, e1, e2, hp, q.less fun a ha => .tail _ ha⟩
      rcases List.mem_cons.mp r2 with q | q
      · exact absurd (by rw [q]) hf
      · exact q
  { F with
    ns := let ⟨m, hn, q⟩ := F.ns; ⟨m, hn, fun x e h1 h2 => let ⟨v, h3, h4⟩ := q x e h1 h2; ⟨v, h3, hR v e (hfl _ (PySem.mem_of_lookup h1)) h4⟩⟩
    cell := fun x hx => let ⟨c, v, h1, h2, h3, h4⟩ := F.cell x hx; ⟨c, v, h1, h2, h3, fun e he => let ⟨v', h5, h6⟩ := h4 e he; ⟨v', h5, hR v' e (hfl _ (PySem.mem_of_lookup he)) h6⟩⟩
    alive := fun a ha => F.alive a (.tail _ ha)
    newl := fun a ha => F.newl a (.tail _ ha)
    live := fun b hb => let ⟨o, e, q⟩ := F.live b hb; ⟨o, e, q.imp (fun q => by
      rcases List.mem_cons.mp q with q | q
      · exact absurd (q ▸ hb) hX
      · exact q) id⟩
    disj := fun a ha => F.disj a (.tail _ ha) }
/-- a list of one's own, or of the frames around, has turned -/
theorem Fs.chg (F : Fs w mg mb own₀ lown X s₀ env σ s) {a : Addr} {h' : Heap} {vs' : Array Value} (ha : a ∈ lown ++ own₀) (hM : Mu X s₀ a) (hs : Heap.SameBut a s.heap h') (hp : PlainL h' a vs')
    (hσ : ∀ x e, σ'.lookup x = some e → ∃ e0, σ.lookup x = some e0 ∧ ∀ v, RepF (lown ++ own₀) s.heap v e0 → RepF (lown ++ own₀) h' v e) : Fs w mg mb own₀ lown X s₀ env σ' { s with heap := h' } := by
  obtain ⟨vs0, o0, e0, c0, n0, d0⟩ := F.alive a ha
  refine ⟨?_, fun b o hb e => hs.extBut b o (fun q => ?_) (F.keep b o hb e), F.glob, F.blt, F.kind, F.locMu, ?_, fun y hy => ?_, F.nofree, F.apart, fun b hb => ?_, F.newl, fun b hb => ?_, F.disj, F.gd⟩
  · obtain ⟨h1, t1, rfl⟩ := F.same; exact ⟨_, _, rfl⟩
  · subst q
    rcases hM with r | r
    · exact hb r
    · rw [r] at e; cases e
  · obtain ⟨m, hn, h⟩ := F.ns
    obtain ⟨oL, es, ep, eL, dL, _⟩ := id hn
    have hLa : env.locals ≠ a := fun q => by rw [q, e0] at eL; cases eL; rw [d0] at dL; cases dL
    refine ⟨m, hn.sameBut hs hLa, fun y e hy hk => ?_⟩
    obtain ⟨e1, h1, h2⟩ := hσ y e hy
    obtain ⟨v, h3, h4⟩ := h y e1 h1 hk
    exact ⟨v, h3, h2 v h4⟩
  · obtain ⟨c, v, h1, h2, ⟨o, e, d⟩, h4⟩ := F.cell y hy
    have hca : c ≠ a := fun q => by rw [q, e0] at e; cases e; rw [d0] at d; cases d
    refine ⟨c, v, h1, h2, ⟨o, hs.extBut c o hca e, d⟩, fun e he => ?_⟩
    obtain ⟨e1, h5, h6⟩ := hσ y e he
    obtain ⟨v', h7, h8⟩ := h4 e1 h5
    exact ⟨v', h7, h6 v' h8⟩
  · by_cases q : b = a
    · subst q; exact ⟨vs', plainL_list hp⟩
    · obtain ⟨vs, o, e, r⟩ := F.alive b hb
      exact ⟨vs, o, hs.extBut b o q e, r⟩
  · by_cases q : b = a
    · subst q
      obtain ⟨o, n, e, _⟩ := hp
      exact ⟨o, e, .inl ha⟩
    · obtain ⟨o, e, r⟩ := F.live b hb
      exact ⟨o, hs.extBut b o q e, r⟩
/-- the names that bear not the list -/
theorem chg_rest {own : List Addr} {a : Addr} {h h' : Heap} (ha : a ∈ own) (hfl : ∀ p ∈ σ, p.2.1 ≠ some a) (hs : Heap.SameBut a h h') : ∀ x e, σ.lookup x = some e → ∃ e0, σ.lookup x = some e0 ∧ ∀ v, RepF own h v e0 → RepF own h' v e :=
  fun x e hx => ⟨e, hx, fun v r => r.ownBut ha (hfl _ (PySem.mem_of_lookup hx)) hs.extBut⟩

/-- x.append([..]): the new list is one's own -/
theorem Fs.appendNew (F : Fs w mg mb own₀ lown X s₀ env σ s) (hr : Room k A) (hsc : env.scope = sc) {x : Str} {e : Expr} {a : Addr} {ds ns : List Dt} {p apos pos spos : Pos} (hx : σ.lookup x = some (some a, .list ds)) (he : EvN prog w mg mb k sc e σ ns) (ho : isOwn sc x = true) (hl : a ∈ lown) (hsep : Sep x a σ) (hsz : ds.length < 2 ^ 24)
    {Q : Flow → Shared → Prop} (h : ∀ (r : Addr) (vs ws : Array Value) (s' : Shared), r ∉ lown ++ own₀ → ¬ X r → Fs w mg mb own₀ (r :: lown) X s₀ env ((x, (none, .any (.ref a))) :: σ) s' → PlainL s'.heap a (vs.push (.ref r)) → RepAll (r :: lown ++ own₀) s'.heap vs.toList ds →
      PlainL s'.heap r ws → RepAll (r :: lown ++ own₀) s'.heap ws.toList ns → Q .next s')
    (hbase : ∀ env, attributeBase (.Name x p) "append" env (eval (.Name x p) env) = eval (.Name x p) env := by intro _; rfl) (hline : (apos.endLine == pos.line) = true := by rfl) (htr : ∀ env, backTo pos (starEach [e] env) = [(false, eval e env)] := by intro _; rfl) (hint : ∀ env : Env, env.scope = sc → interactive env = false := by intro env hs; unfold interactive; rw [hs]; rfl) :
    wpAny (model prog w) A (exec (.Expr (.Call (.Attribute (.Name x p) "append" apos) [e] [] pos) spos) env) Q E s := by
  refine wpAny_Expr_any ?_ (hint env hsc) rfl
  obtain ⟨kd, h1, h2, h3, h4⟩ := isOwn_spec ho
  refine wpAny_Call_append (hbase env) ?_ hline (htr env) (wpAny_Name (named_load F.kind (F.envOk.name _ _ hx) (by unfold Env.kindOf; rw [hsc]; exact h1) h2 h3 fun u r₁ => ?_) h4)
  · rw [htr env]; rfl
  obtain ⟨rfl, hm, a', vs, xs, e1, e2, hp, q⟩ := r₁
  cases e1; cases e2
  refine ⟨a, vs, rfl, hp, ?_⟩
  refine he _ env A s E _ hsc F.envOk F.gd' F.alive hr fun r ws s₁ k₁ hn hpr rr => ?_
  have F₁ := F.own k₁ hn (plainL_list hpr)
  have hlen : vs.size = ds.length := by have := q.length; simpa using this
  have har : a ≠ r := fun q => by
    subst q
    obtain ⟨o, n, e, _⟩ := hp
    rw [hn] at e; cases e
  have ha : a ∈ r :: lown ++ own₀ := .tail _ (List.mem_append_left _ hl)
  refine append_plain (hp.keeps k₁.heap) (fun h' hl' hs' => h r vs ws _ (F.alive.fresh' hn) (fun q => by obtain ⟨o, e, _⟩ := F.live r q; rw [hn] at e; cases e) ?_ hl' ?_ (hpr.extBut hs'.extBut (Ne.symm har)) ?_) (by rw [hlen]; exact size_le hsz)
  · refine F₁.chg ha (F₁.newl _ (.tail _ hl)) hs' hl' fun y e hy => ?_
    by_cases hyx : y = x
    · subst hyx
      rw [List.lookup_cons] at hy; simp at hy; subst hy
      exact ⟨_, hx, fun v r => by rw [r.1]; exact .any _⟩
    · rw [lookup_ne hyx] at hy
      exact ⟨e, hy, fun v r => r.ownBut ha (hsep.spec y e hyx hy) hs'.extBut⟩
  · exact ((q.more hn).keeps k₁.heap).ownBut ha hs'.extBut
  · exact rr.ownBut ha hs'.extBut
/-- (l[i]).append(e), the list in it one's own -/
theorem Fs.appendIn (F : Fs w mg mb own₀ lown X s₀ env σ s) (hr : Room k A) (hsc : env.scope = sc) {x : Str} {ie e : Expr} {m r : Addr} {i : Nat} {vs ws : Array Value} {d : Dt} {p bpos apos pos spos : Pos} (hx : σ.lookup x = some (none, .any (.ref m))) (hi : Ev prog w mg mb k sc ie σ (eN i)) (he : Ev prog w mg mb k sc e σ d) (ho : isOwn sc x = true)
    (hm : PlainL s.heap m vs) (hmi : vs[i]? = some (.ref r)) (hw : PlainL s.heap r ws) (hrl : r ∈ lown ++ own₀) (hM : Mu X s₀ r) (hfl : ∀ p ∈ σ, p.2.1 ≠ some r) (hsz : ws.size < 2 ^ 24) (hi63 : i < 2 ^ 62)
    {Q : Flow → Shared → Prop} (h : ∀ y s₁ s', Kp s s₁ → Rep (lown ++ own₀) s₁.heap y d → Heap.SameBut r s₁.heap s'.heap → Fs w mg mb own₀ lown X s₀ env σ s' → PlainL s'.heap r (ws.push y) → Q .next s')
    (hsub : ∀ o iv, subscripted ie false o iv = operate [o, iv] (getItem o iv) := by intro _ _; with_unfolding_all rfl)
    (hbase : ∀ env, attributeBase (.Subscript (.Name x p) ie bpos) "append" env (eval (.Subscript (.Name x p) ie bpos) env) = eval (.Subscript (.Name x p) ie bpos) env := by intro _; rfl) (hline : (apos.endLine == pos.line) = true := by rfl) (htr : ∀ env, backTo pos (starEach [e] env) = [(false, eval e env)] := by intro _; rfl) (hint : ∀ env : Env, env.scope = sc → interactive env = false := by intro env hs; unfold interactive; rw [hs]; rfl) :
    wpAny (model prog w) A (exec (.Expr (.Call (.Attribute (.Subscript (.Name x p) ie bpos) "append" apos) [e] [] pos) spos) env) Q E s := by
  refine wpAny_Expr_any ?_ (hint env hsc) rfl
  obtain ⟨kd, h1, h2, h3, h4⟩ := isOwn_spec ho
  refine wpAny_Call_append (hbase env) ?_ hline (htr env) (Subscript_ (wpAny_Name (named_load F.kind (F.envOk.name _ _ hx) (by unfold Env.kindOf; rw [hsc]; exact h1) h2 h3 fun u r₁ => ?_) h4))
  · rw [htr env]; rfl
  rw [rep_any r₁]
  refine hi _ env A s E _ hsc F.envOk F.gd' F.alive hr fun iv s₁ k₁ r₂ => ?_
  obtain ⟨t, rfl⟩ := rep_int r₂
  have F₁ := F.kp k₁
  have hm₁ : s₁.heap.IsList m vs := plainL_list (hm.keeps k₁.heap)
  refine tail_any hm₁.typeIs list_getitem_lookup (wpAny_getItem_list hm₁ (by omega) (by omega) (by simpa using hmi) ?_) (hsub _ _)
  refine ⟨r, ws, rfl, hw.keeps k₁.heap, ?_⟩
  refine he _ env A s₁ E _ hsc F₁.envOk F₁.gd' F₁.alive hr fun y s₂ k₂ ry => ?_
  have F₂ := F₁.kp k₂
  refine append_plain ((hw.keeps k₁.heap).keeps k₂.heap) (fun h' hl' hs' => h y s₂ _ (k₁.trans k₂) ry hs' ?_ hl') (size_le hsz)
  exact F₂.chg hrl hM hs' hl' (chg_rest hrl hfl hs')
end
end Mine
end
section
open PySem PySem.W PyProof.Rows PySem.Calls
set_option Elab.async false
set_option linter.unusedVariables false
set_option maxRecDepth 100000
namespace Mine
section
variable {prog : Program} {w : World} {mg mb : Str → Option Value} {k : Nat} {sc : Scope} {σ σ' : Sig} {own₀ lown lown' : List Addr} {X : Addr → Prop} {s₀ s s' : Shared} {env : Env} {A : Around} {E : Value → Shared → Prop}

/-- what is held for a while: all but lists, and the lists of L -/
noncomputable def Hold (env : Env) (s : Shared) (L : List Addr) (b : Addr) : Prop := (Apart env b ∧ ∃ o, s.heap.get? b = some o ∧ NotSeq o) ∨ b ∈ L
theorem Hold.f {env : Env} {s : Shared} {L : List Addr} {b : Addr} {o : Obj} {fs : Array Value} (h : Apart env b) (e : s.heap.get? b = some o) (d : o.data = .fields fs) : Hold env s L b := .inl ⟨h, o, e, fun us n q => by rw [d] at q; cases q⟩
theorem Fs.hold (F : Fs w mg mb own₀ lown X s₀ env σ s) {L : List Addr} (hL : ∀ b ∈ L, b ∈ own₀) : Fs w mg mb own₀ lown (fun b => Xf X env lown b ∧ ¬ Hold env s L b) s env σ s :=
  F.rebase (Hold env s L) fun b hb => by
    rcases hb with ⟨h1, o, e, nn⟩ | hb
    · refine ⟨h1, fun q => ?_⟩
      obtain ⟨vs, o', e', _, n, d'⟩ := F.alive b (List.mem_append_left _ q)
      rw [e] at e'; cases e'; exact nn _ _ d'
    · have h0 := hL b hb
      obtain ⟨vs, o', e', _, n, d'⟩ := F.alive b (List.mem_append_right _ h0)
      exact ⟨F.apartOf e' (fun es n q => by rw [d'] at q; cases q) (fun c q => by rw [d'] at q; cases q), fun q => F.disj b q h0⟩
theorem Fs.unhold (F : Fs w mg mb own₀ lown X s₀ env σ s) {L : List Addr} (hL : ∀ b ∈ L, b ∈ own₀) (F' : Fs w mg mb own₀ lown' (fun b => Xf X env lown b ∧ ¬ Hold env s L b) s env σ' s') (hl : ∀ b ∈ lown, b ∈ lown') : Fs w mg mb own₀ lown' X s₀ env σ' s' :=
  F.unbase F' hl fun b hb => by
    rcases hb with ⟨h1, o, e, nn⟩ | hb
    · exact ⟨o, e, .inr nn⟩
    · have h0 := hL b hb
      obtain ⟨vs, o', e', _⟩ := F.alive b (List.mem_append_right _ h0)
      exact ⟨o', e', .inl h0⟩
theorem hold_tb {N : Addr → Prop} {P : Addr} {pos : Pos} {q : Str} {L : List Addr} {Z : Addr → Prop} (F' : Fs w mg mb own₀ lown' (fun b => Z b ∧ ¬ Hold env s L b) s env σ' s') (T : Tb N P pos q s.heap) (hN : ∀ b, ¬ Apart env b → N b) (hP : Apart env P) : Tb N P pos q s'.heap :=
  T.at fun b o fs hb e d => F'.keep b o (fun r => r.2 (Hold.f (by
    rcases hb with rfl | hb
    · exact hP
    · exact Classical.byContradiction fun q => hb (hN b q)) e d)) e
theorem hold_not {L : List Addr} {Z : Addr → Prop} (F' : Fs w mg mb own₀ lown' (fun b => Z b ∧ ¬ Hold env s L b) s env σ' s') {b : Addr} {o : Obj} (hA : Apart env b) (e : s.heap.get? b = some o) (nn : NotSeq o) : s'.heap.get? b = some o :=
  F'.keep b o (fun q => q.2 (.inl ⟨hA, o, e, nn⟩)) e
theorem hold_tab {L : List Addr} {Z : Addr → Prop} (F' : Fs w mg mb own₀ lown' (fun b => Z b ∧ ¬ Hold env s L b) s env σ' s') {P : Addr} (hA : Apart env P) (t : ∃ ps, s.heap.get? P = some (tabObj ps)) : ∃ ps, s'.heap.get? P = some (tabObj ps) := by
  obtain ⟨ps, e⟩ := t
  exact ⟨ps, hold_not F' hA e fun us n q => by cases q⟩
theorem hold_plain {L : List Addr} {Z : Addr → Prop} (F' : Fs w mg mb own₀ lown' (fun b => Z b ∧ ¬ Hold env s L b) s env σ' s') {b : Addr} {vs : Array Value} (hb : b ∈ L) (hp : PlainL s.heap b vs) : PlainL s'.heap b vs := by
  obtain ⟨o, n, e, r⟩ := hp
  exact ⟨o, n, F'.keep b o (fun q => q.2 (.inr hb)) e, r⟩
/-- what the frame may not turn stands -/
theorem Fs.seqStands (F : Fs w mg mb own₀ lown X s₀ env σ s) {b : Addr} {o : Obj} {vs : Array Value} {n : Nat} (hb : b ∉ lown ++ own₀) (e : s.heap.get? b = some o) (d : o.data = .seq vs n) : ¬ Xf X env lown b := fun q => by
  have hne : ∀ o', s.heap.get? b = some o' → ¬ NotSeq o' := fun o' e' n' => by rw [e] at e'; cases e'; exact n' _ _ d
  rcases q with q | q | ⟨x, h1, h2⟩ | q
  · obtain ⟨o', e', r⟩ := F.live b q
    exact r.elim hb (hne o' e')
  · obtain ⟨m, ⟨o', es, ep, e', d', _⟩, _⟩ := F.ns
    rw [← q] at e'
    exact hne o' e' fun us n q => by rw [d'] at q; cases q
  · obtain ⟨c, v, q1, _, ⟨o', e', d'⟩, _⟩ := F.cell x h1
    rw [h2] at q1; cases q1
    exact hne o' e' fun us n q => by rw [d'] at q; cases q
  · exact hb (List.mem_append_left _ q)
theorem Fs.keepRep (F : Fs w mg mb own₀ lown X s₀ env σ s) {own₁ : List Addr} {Z : Addr → Prop} (F' : Fs w mg mb own₁ lown' Z s env σ' s') (hZ : ∀ b, Z b → Xf X env lown b) {vs : List Value} {ds : List Dt} (r : RepAll (lown ++ own₀) s.heap vs ds) : RepAll (lown ++ own₀) s'.heap vs ds :=
  r.mono fun b o us n hb e d => ⟨F'.keep b o (fun q => F.seqStands hb e d (hZ b q)) e, hb⟩
theorem Fs.nApart (F : Fs w mg mb own₀ lown X s₀ env σ s) {b : Addr} (h : ¬ Apart env b) : ∃ o, s.heap.get? b = some o := by
  refine Classical.byContradiction fun q => h ⟨fun r => q ?_, fun x hx r => q ?_⟩
  · obtain ⟨m, ⟨o', es, ep, e', _⟩, _⟩ := F.ns
    exact ⟨o', r ▸ e'⟩
  · obtain ⟨c, v, q1, _, ⟨o', e', _⟩, _⟩ := F.cell x hx
    rw [r] at q1; cases q1
    exact ⟨o', e'⟩
theorem Fs.nApart₀ (F : Fs w mg mb own₀ lown (fun _ => False) s₀ env σ s) {b : Addr} (h : ¬ Apart env b) : s₀.heap.get? b = none := by
  refine Classical.byContradiction fun q => h ⟨fun r => q ?_, fun x hx r => q ?_⟩
  · exact r ▸ F.locMu.elim (fun q => q.elim) id
  · obtain ⟨c, v, q1, q2, _⟩ := F.cell x hx
    rw [r] at q1; cases q1
    exact q2.elim (fun q => q.elim) id
/-- the word of a table through a loop -/
theorem Tb.sm {N W : Addr → Prop} {P : Addr} {pos : Pos} {q : Str} {h h' : Heap} (t : Tb (fun b => (N b ∨ ¬ Apart env b) ∨ W b) P pos q h) (hP : Apart env P) (hW : ¬ W P) (sm : Sm env W h h') : Tb (fun b => (N b ∨ ¬ Apart env b) ∨ W b) P pos q h' :=
  t.at fun b o fs hb e d => by
    rcases hb with rfl | hb
    · exact sm.1 _ o hW hP e
    · exact sm.1 b o (fun q => hb (.inr q)) (Classical.byContradiction fun q => hb (.inl (.inr q))) e
theorem PlainL.sm {W : Addr → Prop} {h h' : Heap} {a : Addr} {vs : Array Value} (p : PlainL h a vs) (sm : Sm env W h h') : PlainL h' a vs := by
  obtain ⟨o, n, e, c, dd, d⟩ := p
  exact ⟨o, n, sm.2 _ _ _ _ e d, c, dd, d⟩
theorem RepAll.sm {W : Addr → Prop} {own : List Addr} {h h' : Heap} {vs : List Value} {ds : List Dt} (r : RepAll own h vs ds) (sm : Sm env W h h') : RepAll own h' vs ds :=
  r.mono fun b o us n hb e d => ⟨sm.2 _ _ _ _ e d, hb⟩
theorem plain_kb {P a : Addr} {vs : Array Value} (hP : ∃ ps, s.heap.get? P = some (tabObj ps)) (p : PlainL s.heap a vs) (kb : Kb (fun b => b = P) s s') : PlainL s'.heap a vs := by
  obtain ⟨o, n, e, c, dd, d⟩ := p
  obtain ⟨ps, e2⟩ := hP
  exact ⟨o, n, kb.heap a o (fun q => by subst q; rw [e] at e2; cases e2; cases d) e, c, dd, d⟩
theorem repAll_kb {P : Addr} {own : List Addr} {vs : List Value} {ds : List Dt} (hP : ∃ ps, s.heap.get? P = some (tabObj ps)) (r : RepAll own s.heap vs ds) (kb : Kb (fun b => b = P) s s') : RepAll own s'.heap vs ds := by
  obtain ⟨ps, e2⟩ := hP
  exact r.mono fun b o us n hb e d => ⟨kb.heap b o (fun q => by subst q; rw [e] at e2; cases e2; cases d) e, hb⟩
theorem Fs.ifJoin (F : Fs w mg mb own₀ lown X s₀ env σ s) (hr : Room k A) (hsc : env.scope = sc) {t : Expr} {b : Bool} {body orelse : List Stmt} {pos : Pos} (ht : Tr prog w mg mb k sc t σ b) {σ₁ : Sig} {Q : Flow → Shared → Prop}
    (hb : b = true → ∀ s', Fs w mg mb own₀ lown X s₀ env σ s' → wpAny (model prog w) A (execs body env) (fun f s'' => f = .next ∧ Fs w mg mb own₀ lown X s₀ env σ₁ s'') E s') (ho : b = false → ∀ s', Fs w mg mb own₀ lown X s₀ env σ s' → wpAny (model prog w) A (execs orelse env) (fun f s'' => f = .next ∧ Fs w mg mb own₀ lown X s₀ env σ₁ s'') E s')
    (h : ∀ s', Fs w mg mb own₀ lown X s₀ env σ₁ s' → Q .next s') : wpAny (model prog w) A (exec (.If t body orelse pos) env) Q E s :=
  F.if_ hr hsc ht (fun q s' F' => wpAny_mono (hb q s' F') (fun f s'' h' => by obtain ⟨rfl, h'⟩ := h'; exact h s'' h') fun _ _ e => e) fun q s' F' => wpAny_mono (ho q s' F') (fun f s'' h' => by obtain ⟨rfl, h'⟩ := h'; exact h s'' h') fun _ _ e => e
end
end Mine
end
section
set_option Elab.async false
set_option linter.unusedVariables false
namespace Mine
/-- _law_reached -/
noncomputable def rThere (tb : List Nat) (mode : Nat) : List Nat := (List.range tb.length).filter fun p => mode / 2 ^ (5 * p % 12) % 2 == 1
noncomputable def rLaid (tb : List Nat) (mode : Nat) : Nat := (rThere tb mode).foldl (fun kept p => kept ||| tb.getD p 0) 0 &&& 4095
noncomputable def rMode (ends laid : Nat) : Nat := (if 0 < laid &&& ends then 16384 else 32768) + laid
noncomputable def rStep (T : List (List Nat)) (ends mode a : Nat) : Nat := rMode ends (rLaid (T.getD a []) mode)
noncomputable def rLet (T : List (List Nat)) (ends k : Nat) (q : List Nat × List (List Nat) × List Nat) (a : Nat) : List Nat × List (List Nat) × List Nat :=
  if rStep T ends (q.1.getD k 0) a ∈ q.1 then (q.1, q.2.1, q.2.2 ++ [q.1.idxOf (rStep T ends (q.1.getD k 0) a)])
  else (q.1 ++ [rStep T ends (q.1.getD k 0) a], q.2.1 ++ [q.2.1.getD k [] ++ [a]], q.2.2 ++ [(q.1 ++ [rStep T ends (q.1.getD k 0) a]).idxOf (rStep T ends (q.1.getD k 0) a)])
noncomputable def rLets (T : List (List Nat)) (ends k : Nat) (S : List Nat) (W : List (List Nat)) (j : Nat) : List Nat × List (List Nat) × List Nat := (List.range j).foldl (rLet T ends k) (S, W, [])
noncomputable def rOne (T : List (List Nat)) (ends : Nat) (q : List Nat × List (List Nat) × List (List Nat)) (k : Nat) : List Nat × List (List Nat) × List (List Nat) :=
  if k < q.1.length then ((rLets T ends k q.1 q.2.1 2).1, (rLets T ends k q.1 q.2.1 2).2.1, q.2.2 ++ [(rLets T ends k q.1 q.2.1 2).2.2]) else q
noncomputable def rGo (T : List (List Nat)) (ends m0 i : Nat) : List Nat × List (List Nat) × List (List Nat) := (List.range i).foldl (rOne T ends) ([m0], [[]], [])
theorem rGo_succ (T : List (List Nat)) (ends m0 i : Nat) : rGo T ends m0 (i + 1) = rOne T ends (rGo T ends m0 i) i := by
  unfold rGo; rw [List.range_succ, List.foldl_append]; rfl
theorem rLets_succ (T : List (List Nat)) (ends k : Nat) (S : List Nat) (W : List (List Nat)) (j : Nat) : rLets T ends k S W (j + 1) = rLet T ends k (rLets T ends k S W j) j := by
  unfold rLets; rw [List.range_succ, List.foldl_append]; rfl
structure RInv (n : Nat) (S : List Nat) (W : List (List Nat)) : Prop where
  len : W.length = S.length
  small : S.length ≤ 1 + n
  wl : ∀ x ∈ W, x.length ≤ n
theorem getD_len {W : List (List Nat)} {k n : Nat} (h : ∀ x ∈ W, x.length ≤ n) : (W.getD k []).length ≤ n := by
  by_cases hk : k < W.length
  · rw [getD_lt hk]; exact h _ (List.getElem_mem _)
  · rw [List.getD_eq_getElem?_getD, List.getElem?_eq_none (by omega)]; simp
theorem RInv.let {T : List (List Nat)} {ends k n a : Nat} {q : List Nat × List (List Nat) × List Nat} (h : RInv n q.1 q.2.1) : RInv (n + 1) (rLet T ends k q a).1 (rLet T ends k q a).2.1 := by
  unfold rLet
  split
  · exact ⟨h.len, by have := h.small; simp only; omega, fun x hx => Nat.le_succ_of_le (h.wl x hx)⟩
  · refine ⟨by simp [h.len], by have := h.small; simp only [List.length_append, List.length_singleton]; omega, fun x hx => ?_⟩
    rcases List.mem_append.mp hx with hx | hx
    · exact Nat.le_succ_of_le (h.wl x hx)
    · simp only [List.mem_singleton] at hx
      subst hx
      have := getD_len (k := k) h.wl
      simp only [List.length_append, List.length_singleton]; omega
theorem RInv.lets {T : List (List Nat)} {ends k n : Nat} {S : List Nat} {W : List (List Nat)} (h : RInv n S W) : ∀ j, RInv (n + j) (rLets T ends k S W j).1 (rLets T ends k S W j).2.1
  | 0 => h
  | j + 1 => by rw [rLets_succ]; exact (h.lets j).let
theorem RInv.one {T : List (List Nat)} {ends k n : Nat} {q : List Nat × List (List Nat) × List (List Nat)} (h : RInv n q.1 q.2.1) : RInv (n + 2) (rOne T ends q k).1 (rOne T ends q k).2.1 := by
  unfold rOne
  split
  · exact h.lets 2
  · exact ⟨h.len, by have := h.small; omega, fun x hx => Nat.le_trans (h.wl x hx) (by omega)⟩
theorem rGo_inv (T : List (List Nat)) (ends m0 : Nat) : ∀ i, RInv (2 * i) (rGo T ends m0 i).1 (rGo T ends m0 i).2.1
  | 0 => ⟨rfl, by simp [rGo], by simp [rGo]⟩
  | i + 1 => by rw [rGo_succ]; exact (rGo_inv T ends m0 i).one
theorem rGo_moves (T : List (List Nat)) (ends m0 : Nat) : ∀ i, (rGo T ends m0 i).2.2.length = min i (rGo T ends m0 i).1.length ∧ 0 < (rGo T ends m0 i).1.length
  | 0 => by simp [rGo]
  | i + 1 => by
    obtain ⟨h1, h2⟩ := rGo_moves T ends m0 i
    rw [rGo_succ]
    generalize rGo T ends m0 i = q at *
    unfold rOne
    split
    · rename_i hi
      have hle : ∀ j, q.1.length ≤ (rLets T ends i q.1 q.2.1 j).1.length := fun j => by
        induction j with
        | zero => exact Nat.le_refl _
        | succ j ih =>
          rw [rLets_succ]
          unfold rLet
          split
          · exact ih
          · simp only [List.length_append]; omega
      have := hle 2
      simp only [List.length_append, List.length_singleton]
      omega
    · exact ⟨by omega, h2⟩
theorem rLets_row (T : List (List Nat)) (ends k : Nat) (S : List Nat) (W : List (List Nat)) : ∀ j, (rLets T ends k S W j).2.2.length = j
  | 0 => rfl
  | j + 1 => by
    rw [rLets_succ]
    have := rLets_row T ends k S W j
    unfold rLet
    split <;> simp [this]
theorem rLets_le (T : List (List Nat)) (ends k : Nat) (S : List Nat) (W : List (List Nat)) : ∀ j, S.length ≤ (rLets T ends k S W j).1.length
  | 0 => Nat.le_refl _
  | j + 1 => by
    rw [rLets_succ]
    have := rLets_le T ends k S W j
    unfold rLet
    split
    · exact this
    · simp only [List.length_append]; omega
theorem rLet_mem {T : List (List Nat)} {ends k a : Nat} {q : List Nat × List (List Nat) × List Nat} : rStep T ends (q.1.getD k 0) a ∈ (rLet T ends k q a).1 := by
  unfold rLet
  split
  · assumption
  · simp
theorem rLet_row {T : List (List Nat)} {ends k a : Nat} {q : List Nat × List (List Nat) × List Nat} : (rLet T ends k q a).2.2 = q.2.2 ++ [(rLet T ends k q a).1.idxOf (rStep T ends (q.1.getD k 0) a)] := by
  unfold rLet
  split <;> rfl
noncomputable def reachF (T : List (List Nat)) (start fin : List Nat) : List Nat × List (List Nat) × List (List Nat) := rGo T (rtF fin) (rMode (rtF fin) (rtF start)) 8
end Mine
end
section
open PySem PySem.W PyProof.Rows PySem.Calls
set_option Elab.async false
set_option linter.unusedVariables false
set_option maxRecDepth 100000
namespace Mine
section
variable {prog : Program} {w : World} {mg mb : Str → Option Value} {k : Nat} {sc : Scope} {σ σ' : Sig} {own₀ lown lown' : List Addr} {X : Addr → Prop} {s₀ s s' : Shared} {env : Env} {A : Around} {E : Value → Shared → Prop}

theorem Fs.freezeX (F : Fs w mg mb own₀ lown X s₀ env σ s) (hX : ∀ b, X b → b ∈ own₀ ∨ ∃ o, s.heap.get? b = some o ∧ NotSeq o) (hf : ∀ p ∈ σ, ∀ a, p.2.1 = some a → a ∈ lown) : Fs w mg mb own₀ [] X s₀ env (σ.map fun p => (p.1, (none, p.2.2))) s := by
  have hR : ∀ v e, (∀ a, e.1 = some a → a ∈ lown) → RepF (lown ++ own₀) s.heap v e → RepF ([] ++ own₀) s.heap v (none, e.2) := by
    rintro v ⟨f, d⟩ hfl r
    cases f with
    | none => exact Rep.less r fun a ha => List.mem_append_right _ ha
    | some a =>
      obtain ⟨rfl, hm, a', vs, xs, e1, rfl, ⟨o, n, e, c, cd, dd⟩, q⟩ := r
      cases e1
      refine .list ?_ e ⟨c, cd⟩ dd (q.less fun a ha => List.mem_append_right _ ha)
      exact F.disj a (hfl a rfl)
  have hσ : ∀ (σ : Sig) x e, (σ.map fun p => (p.1, ((none : Option Addr), p.2.2))).lookup x = some e → ∃ e', σ.lookup x = some e' ∧ e = (none, e'.2) := by
    intro σ
    induction σ with
    | nil => intro x e h; cases h
    | cons p r ih =>
      intro x e h
      by_cases hx : x = p.1
      · subst hx
        rw [List.map_cons, List.lookup_cons] at h; simp at h
        exact ⟨p.2, by rw [List.lookup_cons]; simp, h.symm⟩
      · rw [List.map_cons, lookup_ne hx] at h
        obtain ⟨e', h1, h2⟩ := ih x e h
        exact ⟨e', by rw [show p :: r = (p.1, p.2) :: r from rfl, lookup_ne hx]; exact h1, h2⟩
  exact { F with
    ns := let ⟨m, hn, q⟩ := F.ns; ⟨m, hn, fun x e h1 h2 => by
      obtain ⟨e', h3, rfl⟩ := hσ σ x e h1
      obtain ⟨v, h4, h5⟩ := q x e' h3 h2
      exact ⟨v, h4, hR v e' (hf _ (PySem.mem_of_lookup h3)) h5⟩⟩
    cell := fun x hx => let ⟨c, v, h1, h2, h3, h4⟩ := F.cell x hx; ⟨c, v, h1, h2, h3, fun e he => by
      obtain ⟨e', h5, rfl⟩ := hσ σ x e he
      obtain ⟨v', h6, h7⟩ := h4 e' h5
      exact ⟨v', h6, hR v' e' (hf _ (PySem.mem_of_lookup h5)) h7⟩⟩
    alive := fun a ha => F.alive a (List.mem_append_right _ (by simpa using ha))
    newl := fun a ha => by cases ha
    live := fun b hb => by
      rcases hX b hb with q | ⟨o, e, n⟩
      · obtain ⟨vs, o, e, _⟩ := F.alive b (List.mem_append_right _ q)
        exact ⟨o, e, .inl q⟩
      · exact ⟨o, e, .inr n⟩
    disj := fun a ha => by cases ha }

theorem fnN_S_IMODE (n : Nat) : Fn prog w mg mb (k + 1) 44 [eN n] (eN (n &&& 4095)) := by
  have := fn_S_IMODE (prog := prog) (w := w) (mg := mg) (mb := mb) (k := k) (n : Int)
  rw [show Builtin.bitAnd (n : Int) 4095 = ((n &&& 4095 : Nat) : Int) from bitAnd_nat n 4095] at this
  exact this
theorem ev_kind {e1 : Expr} {p p1 p2 q1 q2 : Pos} {a b : Nat} (h1 : Ev prog w mg mb k sc e1 σ (eN (a &&& b))) (g1 : isGl sc (Str.ofString "S_IFDIR") = true) (g2 : isGl sc (Str.ofString "S_IFREG") = true) :
    Ev prog w mg mb k sc (.IfExp (.Compare e1 [.Gt] [.Constant (.int 0) 0 p] p1) (.Name (Str.ofString "S_IFDIR") q1) (.Name (Str.ofString "S_IFREG") q2) p2) σ (eN (if 0 < a &&& b then 16384 else 32768)) :=
  Ev.ifExp (c := decide (a &&& b > 0)) (Tr.cmp (Cmp.gtN h1 Ev.lit)) (fun q => by rw [if_pos (by simpa using q)]; exact Ev.gnat (gl_int fun _ => rfl) g1) (fun q => by rw [if_neg (by simpa using q)]; exact Ev.gnat (gl_int fun _ => rfl) g2)

noncomputable abbrev lpos : Pos := ⟨100, 38, 100, 69⟩
noncomputable abbrev lq (a : Addr) : Str := (fdOf a).qualname ++ ".<locals>." ++ "<lambda>"
noncomputable abbrev noN : Addr → Prop := fun _ => False
noncomputable abbrev sgR (a b m : Addr) (S : List Nat) (W M T : List (List Nat)) (ends : Nat) : Sig :=
  [(Str.ofString "modes", (some a, eL S)), (Str.ofString "words", (some b, eLL W)), (Str.ofString "moves", (some m, eLL M)), (Str.ofString "tables", (none, eLL T)), (Str.ofString "ends", (none, eN ends))]
noncomputable abbrev sgI (a b m : Addr) (S : List Nat) (W T : List (List Nat)) (ends i : Nat) : Sig :=
  [(Str.ofString "modes", (some a, eL S)), (Str.ofString "words", (some b, eLL W)), (Str.ofString "moves", (none, .any (.ref m))), (Str.ofString "tables", (none, eLL T)), (Str.ofString "ends", (none, eN ends)), (Str.ofString "k", (none, eN i))]
set_option maxHeartbeats 4000000 in
theorem call_reached {T : List (List Nat)} {start fin : List Nat} (hT2 : T.length = 2) (hTs : ∀ t ∈ T, t.length < 2 ^ 20) (hl1 : start.length < 2 ^ 24) (hl2 : fin.length < 2 ^ 24) {own : List Addr} {tv sv ev : Value} {Q : Value → Shared → Prop} (hg : Gd w mg mb s.heap) (ha : Alive own s.heap) (hr : Room (k + 3) A)
    (r1 : Rep own s.heap tv (eLL T)) (r2 : Rep own s.heap sv (eL start)) (r3 : Rep own s.heap ev (eL fin)) (hT : Tb noN 122 lpos (lq 125) s.heap)
    (hQ : ∀ v s', Kb (fun b => b = 122) s s' → Tb noN 122 lpos (lq 125) s'.heap → Rep own s'.heap v (.tuple [eL (reachF T start fin).1, eLL (reachF T start fin).2.2, eLL (reachF T start fin).2.1]) → Q v s') : wpAny (model prog w) A (call (.ref 125) [tv, sv, ev]) Q E s := by
  refine wpAny_call (enter_fsQ (k := k + 2) (args := [eLL T, eL start, eL fin]) (ps := [Str.ofString "tables", Str.ofString "start", Str.ofString "end"]) hg ha hr (.cons r1 (.cons r2 (.cons r3 .nil))) (hg.K 125 (fnObj 125) rfl) rfl ⟨124, _, _, _, rfl, hg.K 124 _ rfl, rfl, rfl⟩ rfl rfl
    (fun Q E A q => by rw [bind3 (fd := fdOf 125) (x := Str.ofString "tables") (y := Str.ofString "start") (z := Str.ofString "end") (fun u v t => rfl) [tv, sv, ev] rfl]; exact wpAny_pure q) rfl rfl rfl rfl (by decide) rfl rfl rfl rfl fun s₁ env E' hsc hcode hqual hr' F => ?_)
  have hq : env.qual ++ "<lambda>" = lq 125 := by rw [hqual]
  refine seq_next (F.assign hr' hsc (d := eN (rtF fin)) (Ev.callD (gl_fn fun _ => rfl) (obj_at fun _ => rfl) rfl rfl (.cons (Ev.name rfl rfl) .nil) (fn_rights fin hl2)) rfl fun s₂ F₂ => ⟨rfl, ?_⟩)
  refine seq_next (F₂.assignOwn hr' hsc (ds := [rMode (rtF fin) (rtF start)].map eN) (EvN.list (.cons ?_ .nil) (size_le (by simp))) rfl fun a s₃ ha₃ _ F₃ => ⟨rfl, ?_⟩)
  · exact Ev.addN (ev_kind (Ev.bandN (Ev.callD (gl_fn fun _ => rfl) (obj_at fun _ => rfl) rfl rfl (.cons (Ev.name rfl rfl) .nil) (fn_rights start hl1)) (Ev.name rfl rfl)) rfl rfl) (Ev.callD (gl_fn fun _ => rfl) (obj_at fun _ => rfl) rfl rfl (.cons (Ev.name rfl rfl) .nil) (fn_rights start hl1))
  refine seq_next (F₃.tup2own hr' hsc (ds := [([] : List Nat)].map eL) (es := ([] : List (List Nat)).map eL) (EvN.list (.cons (Ev.list (ds := []) .nil (size_le (by simp))) .nil) (size_le (by simp))) (EvN.list .nil (size_le (by decide))) rfl rfl (by decide) ?_ fun b m s₄ hb₄ hm₄ _ _ F₄ => ⟨rfl, ?_⟩)
  · exact .inr fun e' he => by cases e'; cases he; rfl
  have hab : b ≠ a := fun q => hb₄ (q ▸ .head _)
  have ham : m ≠ a := fun q => hm₄ (q ▸ .tail _ (.head _))
  have hbm : m ≠ b := fun q => hm₄ (q ▸ .head _)
  have hao : a ∉ own := fun q => ha₃ (by simpa using q)
  have hbo : b ∉ own := fun q => hb₄ (by simp [q])
  have hmo : m ∉ own := fun q => hm₄ (by simp [q])
  -- the table
  have T₄ : Tb (fun b => noN b ∨ ¬ Apart env b) 122 lpos (lq 125) s₄.heap := (hT.more fun b hb => F.nApart₀ hb).keeps F₄.kp0.heap
  have ap122 : ∀ {σ lown own₀ X s₀ s}, Fs w mg mb own₀ lown X s₀ env σ s → (∃ N, Tb N 122 lpos (lq 125) s.heap) → Apart env 122 := fun F ⟨N, t⟩ => by
    obtain ⟨ps, e⟩ := t.obj
    exact F.apartOf e (fun es n q => by cases q) (fun c q => by cases q)
  have hA122 : Apart env 122 := ap122 F₄ ⟨_, T₄⟩
  have F₅ := F₄.widen (fun b => b = 122) (fun b hb => by subst hb; exact T₄.notSeq) fun h' hk => hg.but (X := fun b => b = 122) (fun b hb => by subst hb; exact hT.lo rfl) fun b o hb e => hk b o hb e
  refine seq_next ((F₅.weak (σ' := sgR a b m [rMode (rtF fin) (rtF start)] [[]] [] T (rtF fin)) (wkc rfl (wkc rfl (wkc rfl (wkc rfl (wkc rfl wk0)))))).forJ hr' hsc (Tgt.name (x := Str.ofString "k") rfl) (fun _ _ => trivial) (Itr.toJ (Itr.rangeN (n := 8) Ev.lit rfl (gl_none fun _ => rfl) (by decide)))
    (fun W i σ' h => i ≤ 8 ∧ σ' = sgR a b m (rGo T (rtF fin) (rMode (rtF fin) (rtF start)) i).1 (rGo T (rtF fin) (rMode (rtF fin) (rtF start)) i).2.1 (rGo T (rtF fin) (rMode (rtF fin) (rtF start)) i).2.2 T (rtF fin) ∧ Tb (fun b => (noN b ∨ ¬ Apart env b) ∨ W b) 122 lpos (lq 125) h)
    (fun W hW i σ h h' ⟨h1, h2, t⟩ sm => ⟨h1, h2, t.sm hA122 (fun q => by obtain ⟨ps, e⟩ := T₄.obj; rw [hW _ q] at e; cases e) sm⟩)
    (fun W s' hW k' => ⟨by decide, rfl, (T₄.more hW).keeps k'.heap⟩) ?_ ?_)
  · rintro W i d σ' s₅ E₁ hW hd ⟨hi8, rfl, T₅⟩ F₆
    obtain ⟨j, hj, rfl⟩ : ∃ j, (List.range 8)[i]? = some j ∧ eN j = d := by rwa [List.getElem?_map, Option.map_eq_some_iff] at hd
    obtain ⟨hi, hji⟩ := List.getElem?_eq_some_iff.mp hj
    rw [List.getElem_range] at hji
    subst hji
    have hi' : i < 8 := by simpa using hi
    have inv := rGo_inv T (rtF fin) (rMode (rtF fin) (rtF start)) i
    have hmv := rGo_moves T (rtF fin) (rMode (rtF fin) (rtF start)) i
    generalize hq0 : rGo T (rtF fin) (rMode (rtF fin) (rtF start)) i = q0 at *
    obtain ⟨S, Wd, M⟩ := q0
    simp only at inv hmv F₆
    have hSs := inv.small
    refine seq_next ((F₆.hold (L := []) (by simp)).if_ hr' hsc (Tr.cmp (Cmp.ltN (Ev.name rfl rfl) (Ev.lenN (xs := S.map eN) (n := S.length) (gl_none fun _ => rfl) rfl (EvT.name rfl rfl) (map_len _ _) (by omega)))) ?_ ?_)
    · intro hlt s₆ H₆
      have hlt : i < S.length := by simpa using hlt
      have hMl : M.length = i := by omega
      refine seq_next (H₆.appendNew hr' hsc (a := m) (ds := M.map eL) (ns := []) rfl (EvN.list .nil (size_le (by decide))) rfl (.head _) ?_ (by rw [List.length_map]; omega) fun r vs ws s₇ hr1 hr2 H₇ pm rm pr rr => ⟨rfl, ?_⟩)
      · exact ⟨.inr (by simp), .inr (by simpa using Ne.symm ham), .inr (by simpa using Ne.symm hbm), .inl rfl, .inr (by simp), .inr (by simp), trivial⟩
      have T₇ := hold_tb H₇ T₅ (fun b hb => .inl (.inr hb)) hA122
      have F₇ := F₆.unhold (by simp) H₇ (fun b hb => .tail _ hb)
      have hrm : r ≠ m := fun q => hr1 (q ▸ .head _)
      have hrb : r ≠ b := fun q => hr1 (q ▸ .tail _ (.head _))
      have hra : r ≠ a := fun q => hr1 (q ▸ .tail _ (.tail _ (.head _)))
      have hro : r ∉ own := fun q => hr1 (by simp [q])
      have hvs : vs.size = i := by have := rm.length; simpa [hMl] using this
      have hXr : ¬ Xf (fun b => b = 122) env [m, b, a] r := fun q => hr2 ⟨.inl q, fun q2 => by
        have q3 := q2
        rcases q2 with ⟨_, o, e, nn⟩ | q2
        · have e2 := H₇.keep r o (fun z => z.2 q3) e
          obtain ⟨o', n, e', _, _, d'⟩ := pr
          rw [e2] at e'; cases e'; exact nn _ _ d'
        · simp at q2⟩
      have hW7 : ∀ b, W b → Apart env b ∧ ∃ o fs, s₇.heap.get? b = some o ∧ o.data = .fields fs := fun b hb => by
        obtain ⟨o, fs, e, d⟩ := hW b hb
        have hA : Apart env b := F₆.apartOf e (fun es n q => by rw [d] at q; cases q) (fun c q => by rw [d] at q; cases q)
        exact ⟨hA, o, fs, H₇.keep b o (fun q => q.2 (Hold.f hA e d)) e, d⟩
      -- the two letters
      refine seq_next ((F₇.weak (σ' := sgI a b m S Wd T (rtF fin) i) (wkc rfl (wkc rfl (wkc rfl (wkc rfl (wkc rfl (wkc rfl wk0))))))).forJ hr' hsc (Tgt.name (x := Str.ofString "letter") rfl) (fun _ _ => trivial) (Itr.toJ (Itr.rangeN (n := 2) Ev.lit rfl (gl_none fun _ => rfl) (by decide)))
        (fun W2 j σ' h => j ≤ 2 ∧ σ' = sgI a b m (rLets T (rtF fin) i S Wd j).1 (rLets T (rtF fin) i S Wd j).2.1 T (rtF fin) i ∧ Tb (fun b => (W b ∨ ¬ Apart env b) ∨ W2 b) 122 lpos (lq 125) h ∧ PlainL h m (vs.push (.ref r)) ∧ RepAll (r :: [m, b, a] ++ own) h vs.toList (M.map eL) ∧ (∃ us, PlainL h r us ∧ RepAll [] h us.toList ((rLets T (rtF fin) i S Wd j).2.2.map eN)) ∧ ∀ b, W b → ¬ W2 b ∧ Apart env b ∧ ∃ o fs, h.get? b = some o ∧ o.data = .fields fs)
        (fun W2 hW2 j σ h h' ⟨h1, h2, t, p1, p2, ⟨us, p3, p4⟩, p5⟩ sm => ⟨h1, h2, t.sm hA122 (fun q => by obtain ⟨ps, e⟩ := T₇.obj; rw [hW2 _ q] at e; cases e) sm, PlainL.sm p1 sm, p2.sm sm, ⟨us, PlainL.sm p3 sm, p4.sm sm⟩, fun b hb => let ⟨z1, z2, o, fs, e, d⟩ := p5 b hb; ⟨z1, z2, o, fs, sm.1 b o z1 z2 e, d⟩⟩)
        (fun W2 s' hW2 k' => ⟨by decide, rfl, ((T₇.less (N' := fun b => W b ∨ ¬ Apart env b) fun b hb => hb.elim .inr fun h => .inl (.inr h)).more hW2).keeps k'.heap, pm.keeps k'.heap, rm.keeps k'.heap, ⟨ws, pr.keeps k'.heap, repAll_nat (l := []) (rr.keeps k'.heap)⟩, fun b hb => let ⟨z1, o, fs, e, d⟩ := hW7 b hb; ⟨fun z => (by rw [hW2 b z] at e; cases e), z1, o, fs, k'.heap _ _ e, d⟩⟩) ?_ ?_)
      · rintro W2 j d σ' s₈ E₂ hW2 hd2 ⟨hj2, rfl, T₈, pm, rm, ⟨us, pr, rr⟩, hW8⟩ F₈
        obtain ⟨j', hj', rfl⟩ : ∃ j', (List.range 2)[j]? = some j' ∧ eN j' = d := by rwa [List.getElem?_map, Option.map_eq_some_iff] at hd2
        obtain ⟨hjj, hjj2⟩ := List.getElem?_eq_some_iff.mp hj'
        rw [List.getElem_range] at hjj2
        subst hjj2
        have hj : j < 2 := by simpa using hjj
        have inv2 := inv.lets (T := T) (ends := rtF fin) (k := i) j
        have row := rLets_row T (rtF fin) i S Wd j
        have hil := rLets_le T (rtF fin) i S Wd j
        have hsucc := rLets_succ T (rtF fin) i S Wd j
        generalize hq1 : rLets T (rtF fin) i S Wd j = q at *
        obtain ⟨S', Wd', rw'⟩ := q
        simp only at inv2 row hil F₈ rr
        have hSs' := inv2.small
        have hWl' := inv2.len
        have hiS : i < S'.length := by omega
        have hjT : j < T.length := by omega
        have htb : (T.getD j []).length < 2 ^ 20 := hTs _ (getD_mem hjT)
        generalize htbe : T.getD j [] = tb at *
        have F₉ := F₈.reown (own₀' := r :: m :: own) (lown' := [b, a]) (X' := Xf (Xf (fun b => b = 122) env [m, b, a]) env [r, m, b, a]) (fun z => by grind) (fun b o h _ => h) (fun b o h _ => h) (fun b h => h) (fun b h => .inl h)
          (fun z hz => by simp only [List.mem_cons, List.not_mem_nil, or_false] at hz; rcases hz with rfl | rfl <;> simp [Ne.symm hrb, Ne.symm hra, Ne.symm hbm, Ne.symm ham, hao, hbo])
          (fun z hz => .inl (.inr (.inr (.inr (.tail _ (.tail _ hz))))))
        have H₉ := F₉.hold (L := [m, r]) (by simp)
        refine seq_next (H₉.assign hr' hsc (d := eL tb) (Ev.itemN (xs := T.map eL) (EvT.name rfl rfl) (Ev.name rfl rfl) (by omega) (by rw [getD_map T eL j [] hjT, htbe])) rfl fun s₁₀ H₁₀ => ⟨rfl, ?_⟩)
        refine seq_next (H₁₀.assignComp hr' hsc (List.range tb.length) eN (fun p => S'.getD i 0 / 2 ^ (5 * p % 12) % 2 == 1) eN rfl (Itr.rangeN (Ev.lenN (xs := tb.map eN) (n := tb.length) (gl_none fun _ => rfl) rfl (EvT.name rfl rfl) (map_len _ _) (by omega)) rfl (gl_none fun _ => rfl) (by omega))
          (fun p hp => Trs.one (Tr.cmp (Cmp.eqN (Ev.modN (Ev.divN (Ev.itemN (xs := S'.map eN) (EvT.name rfl rfl) (Ev.name rfl rfl) (by omega) (getD_map S' eN i 0 hiS)) (Ev.powN Ev.lit (Ev.modN (Ev.mulN Ev.lit (Ev.name rfl rfl) (by decide)) Ev.lit (by decide)) (by have : 5 * p % 12 < 12 := Nat.mod_lt _ (by decide); omega)) (two_pow_ne _) (by
            exact Nat.lt_of_lt_of_le (Nat.pow_lt_pow_right (by decide) (Nat.mod_lt _ (by decide) : 5 * p % 12 < 12)) (by decide))) Ev.lit (by decide)) Ev.lit)))
          (fun p hp _ => Ev.name rfl rfl) (size_le (by rw [List.length_range]; omega)) rfl rfl fun s₁₁ H₁₁ => ⟨rfl, ?_⟩)
        have eth : Dt.list (((List.range tb.length).filter fun p => S'.getD i 0 / 2 ^ (5 * p % 12) % 2 == 1).map eN) = eL (rThere tb (S'.getD i 0)) := rfl
        rw [eth] at H₁₁
        have T₁₁ := hold_tb H₁₁ T₈ (fun b hb => .inl (.inr hb)) hA122
        have pm₁₁ := hold_plain H₁₁ (by simp) pm
        have pr₁₁ := hold_plain H₁₁ (by simp) pr
        have rm₁₁ := F₉.keepRep H₁₁ (fun b h => h.1) (rm.less fun z hz => by grind)
        have F₁₁ := F₉.unhold (by simp) H₁₁ (fun b hb => hb)
        -- laid
        have hN : ∀ z, ((W z ∨ ¬ Apart env z) ∨ W2 z) → ∃ o, s₁₁.heap.get? z = some o := fun z hz => by
          rcases hz with (hz | hz) | hz
          · obtain ⟨_, _, o, fs, e, _⟩ := hW8 z hz
            exact F₁₁.stays ⟨o, e⟩
          · exact F₁₁.nApart hz
          · obtain ⟨o, fs, e, _⟩ := hW2 z hz
            exact F₁₁.stays ⟨o, e⟩
        refine seq_next (wpAny_Assign_Name (wpAny_Call_ofName (glob_load F₁₁.envOk F₁₁.gd' (by rw [hsc]; rfl) (gl_fn (a := 44) (fun _ => rfl) _ F₁₁.gd') (callWith_def (o := fnObj 44) (fd := fdOf 44) rfl (args_cons (F₁₁.reduce (k := k) hr' hsc (P := 122) (c := 124) (i0 := 0) (l := rThere tb (S'.getD i 0)) (x := Str.ofString "kept") (y := Str.ofString "p") (τ := [(Str.ofString "table", (none, eL tb))]) (fN := fun kept p => kept ||| tb.getD p 0) (Pp := fun _ p => p < tb.length)
          (hcode.trans rfl) (codeHd_of_K F₁₁.gd'.K rfl) (hq.symm ▸ T₁₁) hN (.inl (.inl (.inl rfl))) rfl (Ev.name rfl rfl) Ev.lit rfl (fun c' ctv cl pm u v => rfl) (by decide) rfl rfl (by decide) ?_ ?_ ?_ ?_ ?_ rfl rfl rfl) rfl) rfl))) rfl)
        · intro n hn
          have : n = Str.ofString "table" := by simpa using hn
          subst this
          unfold Env.kindOf; rw [hsc]; rfl
        · intro z e hz
          by_cases hzt : z = Str.ofString "table"
          · subst hzt
            rw [List.lookup_cons] at hz; simp at hz; subst hz
            exact ⟨rfl, rfl, rfl⟩
          · rw [lookup_ne hzt] at hz; cases hz
        · intro u v hv
          exact Ev.borN (Ev.name rfl rfl) (Ev.itemN (xs := tb.map eN) (EvT.name rfl rfl) (Ev.name rfl rfl) (by omega) (getD_map tb eN v 0 hv))
        · intro n x hx
          exact List.mem_range.mp (List.mem_filter.mp (List.mem_of_getElem? hx)).1
        intro v s₁₂ F₁₂ kb T₁₂ rv
        refine args_nil ⟨F₁₂.gd'.K 44 _ rfl, fnN_S_IMODE (k := k + 1) _ _ _ s₁₂ _ _ [v] F₁₂.gd' F₁₂.alive hr' (.cons rv .nil) fun v' s₁₃ k₁₃ rv' => ?_⟩
        have F₁₃ := F₁₂.kp k₁₃
        have T₁₃ : Tb (fun b => (W b ∨ ¬ Apart env b) ∨ W2 b) 122 lpos (lq 125) s₁₃.heap := hq ▸ T₁₂.keeps k₁₃.heap
        have pm₁₃ := (plain_kb T₁₁.obj pm₁₁ kb).keeps k₁₃.heap
        have pr₁₃ := (plain_kb T₁₁.obj pr₁₁ kb).keeps k₁₃.heap
        have rm₁₃ := (repAll_kb T₁₁.obj rm₁₁ kb).keeps k₁₃.heap
        have H₁₃ := F₁₃.hold (L := [m, r]) (by simp)
        have rv' : Rep ([b, a] ++ r :: m :: own) s₁₃.heap v' (eN (rLaid tb (S'.getD i 0))) := rv'
        refine H₁₃.store (e := (none, eN (rLaid tb (S'.getD i 0)))) rv' (stores_spec (by rw [hsc]; rfl)) fun s₁₄ H₁₄ => ⟨rfl, ?_⟩
        refine seq_next (H₁₄.assign hr' hsc (d := eN (rMode (rtF fin) (rLaid tb (S'.getD i 0)))) (Ev.addN (ev_kind (Ev.bandN (Ev.name rfl rfl) (Ev.name rfl rfl)) rfl rfl) (Ev.name rfl rfl)) rfl fun s₁₅ H₁₅ => ⟨rfl, ?_⟩)
        have hst : rStep T (rtF fin) (S'.getD i 0) j = rMode (rtF fin) (rLaid tb (S'.getD i 0)) := by rw [rStep, htbe]
        have hmem := rLet_mem (T := T) (ends := rtF fin) (k := i) (a := j) (q := (S', Wd', rw'))
        have hrow := rLet_row (T := T) (ends := rtF fin) (k := i) (a := j) (q := (S', Wd', rw'))
        have inv3 := RInv.let (T := T) (ends := rtF fin) (k := i) (a := j) (q := (S', Wd', rw')) inv2
        have hdef : rLet T (rtF fin) i (S', Wd', rw') j = if rStep T (rtF fin) (S'.getD i 0) j ∈ S' then (S', Wd', rw' ++ [S'.idxOf (rStep T (rtF fin) (S'.getD i 0) j)]) else (S' ++ [rStep T (rtF fin) (S'.getD i 0) j], Wd' ++ [Wd'.getD i [] ++ [j]], rw' ++ [(S' ++ [rStep T (rtF fin) (S'.getD i 0) j]).idxOf (rStep T (rtF fin) (S'.getD i 0) j)]) := rfl
        simp only at hmem hrow inv3
        rw [hst] at hmem hrow hdef
        generalize rMode (rtF fin) (rLaid tb (S'.getD i 0)) = md at *
        generalize hq3 : rLet T (rtF fin) i (S', Wd', rw') j = q3 at *
        obtain ⟨S3, W3, r3⟩ := q3
        simp only at hmem hrow inv3
        have hSs3 := inv3.small
        refine seq_next (H₁₅.ifJoin hr' hsc (σ₁ := (Str.ofString "mode", (none, eN md)) :: (Str.ofString "letter", (none, eN j)) :: sgI a b m S3 W3 T (rtF fin) i) (Tr.cmp (Cmp.notInE enc_nat (a := md) (bs := S') trivial (fun _ _ => trivial) (Ev.name rfl rfl) (EvT.name rfl rfl))) ?_ ?_ fun s₁₆ H₁₆ => ⟨rfl, ?_⟩)
        · intro hin s₁₆ H₁₆
          have hin : md ∉ S' := by simpa using hin
          rw [if_neg hin] at hdef
          cases hdef
          refine seq_next (H₁₆.append hr' hsc (a := a) (ds := S'.map eN) (d := eN md) rfl (Ev.name rfl rfl) rfl rfl (.tail _ (.head _)) (by simp [Sep, Ne.symm hab, hab]) (by rw [List.length_map]; omega) fun s₁₇ H₁₇ => ⟨rfl, ?_⟩)
          have hwl := inv2.wl
          refine seq_next (H₁₇.append hr' hsc (a := b) (ds := Wd'.map eL) (d := eL (Wd'.getD i [] ++ [j])) rfl ?_ rfl rfl (.head _) (by simp [Sep, Ne.symm hab, hab]) (by rw [List.length_map]; omega) fun s₁₈ H₁₈ => ⟨rfl, ?_⟩)
          · refine Ev.cast (Ev.cat (xs := (Wd'.getD i []).map eN) (ys := [j].map eN) (Ev.itemN (xs := Wd'.map eL) (EvT.name rfl rfl) (Ev.name rfl rfl) (by omega) (getD_map Wd' eL i [] (by omega))) (Ev.list (.cons (Ev.name rfl rfl) .nil) (size_le (by simp))) (size_le ?_)) (by simp [eL])
            have := getD_len (k := i) hwl
            simp only [List.length_map, List.length_singleton]; omega
          refine wpAny_execs_nil ⟨rfl, ?_⟩
          have e3 : eL (S' ++ [md]) = .list (S'.map eN ++ [eN md]) := by simp [eL]
          have e4 : eLL (Wd' ++ [Wd'.getD i [] ++ [j]]) = .list (Wd'.map eL ++ [eL (Wd'.getD i [] ++ [j])]) := by simp [eLL]
          rw [sgI, e3, e4]
          exact H₁₈.weak (wkc rfl (wkc rfl (wkc rfl (wkc rfl (wkc rfl (wkc rfl (wkc rfl (wkc rfl wk0))))))))
        · intro hin s₁₆ H₁₆
          have hin : md ∈ S' := by simpa using hin
          rw [if_pos hin] at hdef
          cases hdef
          exact wpAny_execs_nil ⟨rfl, H₁₆.weak (wkc rfl (wkc rfl (wkc rfl (wkc rfl (wkc rfl (wkc rfl (wkc rfl (wkc rfl wk0))))))))⟩
        have F₁₆ := F₁₃.unhold (by simp) H₁₆ (fun b hb => hb)
        have T₁₆ := hold_tb H₁₆ T₁₃ (fun b hb => .inl (.inr hb)) hA122
        have pm₁₆ := hold_plain H₁₆ (by simp) pm₁₃
        have pr₁₆ := hold_plain H₁₆ (by simp) pr₁₃
        have rm₁₆ := F₁₃.keepRep H₁₆ (fun b h => h.1) rm₁₃
        have hus : us.size = j := by have := rr.length; simpa [row] using this
        have hrl : r ∈ [b, a] ++ r :: m :: own := by simp
        refine seq_next (F₁₆.appendIn hr' hsc (x := Str.ofString "moves") (m := m) (r := r) (i := i) (vs := vs.push (.ref r)) (ws := us) (d := eN (S3.idxOf md)) rfl (Ev.name rfl rfl) (Ev.index enc_nat (bs := S3) trivial (fun _ _ => trivial) hmem (by omega) (EvT.name rfl rfl) (Ev.name rfl rfl)) rfl pm₁₆ (by rw [← hvs]; simp) pr₁₆ hrl
          (.inl (.inr (.inr (.inr (.head _))))) (by simp [Ne.symm hra, Ne.symm hrb]) (by omega) (by omega) fun y s₁₇ s₁₈ k₁₇ ry sb F₁₈ pr₁₈ => ⟨rfl, ?_⟩)
        obtain ⟨or, nr, er, cr, dr, dar⟩ := pr₁₆.keeps k₁₇.heap
        refine wpAny_execs_nil ⟨sgI a b m S3 W3 T (rtF fin) i, ⟨by omega, by rw [hsucc], ?_, ?_, ?_, ⟨us.push y, pr₁₈, ?_⟩, ?_⟩, ?_⟩
        · exact (T₁₆.keeps k₁₇.heap).at fun z o fs _ e d => sb.extBut z o (fun q => by subst q; rw [er] at e; cases e; rw [dar] at d; cases d) e
        · exact (pm₁₆.keeps k₁₇.heap).extBut sb.extBut (Ne.symm hrm)
        · exact ((rm₁₆.keeps k₁₇.heap).ownBut hrl sb.extBut).less fun z hz => by grind
        · rw [hsucc, hrow, Array.toList_push, List.map_append]
          exact (repAll_nat rr).append (.cons (rep_intN ry) .nil)
        · intro z hz
          obtain ⟨z1, z2, o, fs, e, d⟩ := hW8 z hz
          refine ⟨z1, z2, ?_⟩
          have fin : ∀ o fs, s₁₃.heap.get? z = some o → o.data = .fields fs → ∃ o fs, s₁₈.heap.get? z = some o ∧ o.data = .fields fs := fun o fs e d => by
            have e16 := k₁₇.heap z o (H₁₆.keep z o (fun q => q.2 (Hold.f z2 e d)) e)
            exact ⟨o, fs, sb.extBut z o (fun q => by subst q; rw [er] at e16; cases e16; rw [dar] at d; cases d) e16, d⟩
          by_cases hz122 : z = 122
          · subst hz122
            obtain ⟨ps, e⟩ := T₁₃.obj
            exact fin _ _ e rfl
          · exact fin o fs (k₁₃.heap z o (kb.heap z o hz122 (H₁₁.keep z o (fun q => q.2 (Hold.f z2 e d)) e))) d
        · have := F₁₈.reown (own₀' := own) (lown' := [r, m, b, a]) (X' := Xf (Xf (fun b => b = 122) env [m, b, a]) env [r, m, b, a]) (fun z => by grind) (fun b o h _ => h) (fun b o h _ => h) (fun b h => h) (fun b h => .inl h)
            (fun z hz => by simp only [List.mem_cons, List.not_mem_nil, or_false] at hz; rcases hz with rfl | rfl | rfl | rfl <;> assumption)
            (fun z hz => .inl (.inr (.inr (.inr hz))))
          exact this.weak (wkc rfl (wkc rfl (wkc rfl (wkc rfl (wkc rfl (wkc rfl wk0))))))
      · rintro W2 σ' s₈ E₂ ⟨_, rfl, T₈, pm, rm, ⟨us, pr, rr⟩, hW8⟩ F₈
        rw [List.length_map, List.length_range] at F₈ rr
        have F₉ := F₈.drop hXr (by simp [Ne.symm hra, Ne.symm hrb])
        obtain ⟨o, n, e, c, dd, d⟩ := id pr
        have F₁₀ := F₉.retag (x := Str.ofString "moves") (e' := (some m, .list (M.map eL ++ [eL (rLets T (rtF fin) i S Wd 2).2.2]))) rfl fun v rv => by
          rw [rep_any rv]
          refine ⟨rfl, .head _, m, vs.push (.ref r), _, rfl, rfl, pm, ?_⟩
          rw [Array.toList_push]
          exact (rm.less fun z hz => .tail _ hz).snoc (.list hr1 e ⟨c, dd⟩ d (repAll_nat rr))
        refine wpAny_execs_nil ⟨rfl, wpAny_execs_nil ⟨rfl, wpAny_execs_nil ⟨_, ⟨by omega, rfl, T₈.less fun z hz => ?_⟩, ?_⟩⟩⟩
        · rcases hz with (hz | hz) | hz
          · exact hz.elim
          · exact .inl (.inr hz)
          · exact .inl (.inl hz)
        · rw [rGo_succ, hq0, rOne, if_pos hlt]
          have e6 : eLL (M ++ [(rLets T (rtF fin) i S Wd 2).2.2]) = .list (M.map eL ++ [eL (rLets T (rtF fin) i S Wd 2).2.2]) := by simp [eLL]
          rw [sgR, e6]
          exact F₁₀.weak (wkc rfl (wkc rfl (wkc rfl (wkc rfl (wkc rfl wk0)))))
    · intro hge s₆ H₆
      have hge : ¬ i < S.length := by simpa using hge
      refine wpAny_execs_nil ⟨rfl, wpAny_execs_nil ⟨_, ⟨by omega, rfl, ?_⟩, ?_⟩⟩
      · exact hold_tb H₆ T₅ (fun b hb => .inl (.inr hb)) hA122
      · rw [rGo_succ, hq0, rOne, if_neg hge]
        exact (F₆.unhold (by simp) H₆ (fun b hb => hb)).weak (wkc rfl (wkc rfl (wkc rfl (wkc rfl (wkc rfl wk0)))))
  · rintro W σ' s₅ E₁ ⟨_, rfl, T₅⟩ F₆
    refine wpAny_execs_nil ⟨rfl, ?_⟩
    have T₅ : Tb (fun b => ¬ Apart env b) 122 lpos (lq 125) s₅.heap := T₅.less fun b hb => .inl (.inr hb)
    rw [List.length_map, List.length_range] at F₆
    unfold reachF at hQ
    generalize rGo T (rtF fin) (rMode (rtF fin) (rtF start)) 8 = q at *
    obtain ⟨S, Wd, M⟩ := q
    have F₇ := F₆.freezeX (fun b hb => by subst hb; exact .inr T₅.notSeq) (by
      intro p hp a' hp'
      simp only [sgR, List.mem_cons, List.not_mem_nil, or_false] at hp
      rcases hp with rfl | rfl | rfl | rfl | rfl
      · simp at hp'; subst hp'; exact .tail _ (.tail _ (.head _))
      · simp at hp'; subst hp'; exact .tail _ (.head _)
      · simp at hp'; subst hp'; exact .head _
      · simp at hp'
      · simp at hp')
    refine wpAny_execs_cons ((F₇.hold (L := []) (by simp)).ret hr' hsc (Ev.tuple (ds := [eL S, eLL M, eLL Wd]) (.cons (Ev.name rfl rfl) (.cons (Ev.name rfl rfl) (.cons (Ev.name rfl rfl) .nil))) (size_le (by simp))) fun v s' F₈ rv => ?_)
    have F₉ := F₇.unhold (by simp) F₈ fun b hb => hb
    exact hQ v s' ⟨F₉.same, fun b o hb e => F₉.keep b o hb e⟩ ((hold_tb F₈ T₅ (fun b hb => hb) hA122).less fun b hb => hb.elim) (by simpa using rv)
end
end Mine
end
section
open PySem PySem.W PyProof.Rows PySem.Calls
set_option Elab.async false
set_option linter.unusedVariables false
set_option maxRecDepth 100000
namespace Mine
section
variable {prog : Program} {w : World} {mg mb : Str → Option Value} {k : Nat} {sc : Scope} {σ σ' : Sig} {own₀ lown lown' : List Addr} {X : Addr → Prop} {s₀ s s' : Shared} {env : Env} {A : Around} {E : Value → Shared → Prop}

theorem notOwn_tuple {own : List Addr} {h : Heap} {a : Addr} {o : Obj} (ha : Alive own h) (e : h.get? a = some o) (hc : o.cls = .type "tuple") : a ∉ own := fun q => by
  obtain ⟨vs, o', e', c', _⟩ := ha a q
  rw [e] at e'; cases e'; rw [hc] at c'; simp at c'

noncomputable def tupSt (I t : Addr) (xs : List Dt) (own : List Addr) (i : Nat) (h : Heap) : Prop :=
  h.IsTupleIter I t i ∧ ∃ o vs n, t ∉ own ∧ h.get? t = some o ∧ o.cls = .type "tuple" ∧ o.data = .seq vs n ∧ RepAll own h vs.toList xs
theorem srcJ_tup (hh : A.handled = none) {tgt : Expr} {I t : Addr} (hne : t ≠ I) {xs : List Dt} : SrcJ prog w A tgt I (fun b => b = I) xs (tupSt I t xs) where
  obj := by
    rintro own i h ⟨⟨oi, e1, e2, e3⟩, _⟩ b rfl
    exact ⟨oi, _, e1, e3⟩
  frame := by
    rintro own i h h' ⟨⟨oi, e1, e2, e3⟩, o, vs, n, ha, e, hc, hd, hr⟩ hk
    exact ⟨⟨oi, hk _ _ e1 (.inl rfl), e2, e3⟩, o, vs, n, ha, hk _ _ e (.inr ⟨⟨_, _, hd⟩, ha⟩), hc, hd, hr.mono fun b o' us m hb e' hd' => ⟨hk _ _ e' (.inr ⟨⟨_, _, hd'⟩, hb⟩), hb⟩⟩
  item := by
    rintro own i s Q E d hx ⟨h1, o, vs, n, ha, e, hc, hd, hr⟩ _ hQ
    obtain ⟨v, hv, rv⟩ := hr.get i d hx
    refine wpAny_pyNext_tuple_item h1 ⟨o, e, hc, n, hd⟩ (x := v) (by simpa using hv) fun h' hit hs => ?_
    obtain ⟨oI, eI, _, dI⟩ := id h1
    have nI : NotSeq oI := fun us m q => by rw [dI] at q; cases q
    refine letGo_tupleiter hit ?_
    exact hQ v h' s.toks (rv.sameBut eI nI hs.extBut) ⟨hit, o, vs, n, ha, hs.extBut _ _ hne e, hc, hd, hr.sameBut eI nI hs.extBut⟩ fun b o hb e => hs.extBut b o hb e
  done := by
    rintro own s Q E ⟨h1, o, vs, n, ha, e, hc, hd, hr⟩ hQ
    have hl : xs.length = vs.size := by have := hr.length; simpa using this.symm
    exact wpAny_pyNext_tuple_end hh h1 ⟨o, e, hc, n, hd⟩ (by simp [hl]) fun h' hx => hQ h' s.toks fun b o hb e => hx b o hb e
theorem ItrJ.tup {tgt e : Expr} {xs : List Dt} (h : Ev prog w mg mb k sc e σ (.tuple xs)) : ItrJ prog w mg mb k sc tgt e σ xs := by
  intro own env A s E Q hs he hg ha hr hQ
  refine h own env A s E _ hs he hg ha hr fun v s₁ k₁ r => ?_
  cases r with
  | @tuple a o vs n _ hna e hc hd hra =>
    refine wpAny_pyIter_tuple ⟨o, e, hc, n, hd⟩ ?_
    have hne : a ≠ s₁.heap.objs.size := Nat.ne_of_lt (Heap.lt_size e)
    have hk : ∀ b o, s₁.heap.get? b = some o → (s₁.heap.push { cls := .type "tuple_iterator", data := .fields #[.ref a, .int 0 0] }).get? b = some o := fun b o e => Heap.get?_push_of_some _ e
    refine hQ s₁.heap.objs.size (fun b => b = s₁.heap.objs.size) (tupSt s₁.heap.objs.size a xs) _ (k₁.trans (Kp.push _ _)) (fun b hb => ?_) (srcJ_tup hr.handled hne)
      ⟨⟨_, Heap.get?_push_size _ rfl, rfl, rfl⟩, o, vs, n, hna, hk _ _ e, hc, hd, hra.keeps hk⟩
    subst hb
    cases q : s.heap.get? s₁.heap.objs.size with
    | none => rfl
    | some o' => exact absurd (Heap.lt_size (k₁.heap _ _ q)) (Nat.lt_irrefl _)

/-! enumerate over a tuple -/
theorem nextOf_tup {it l : Addr} {i : Nat} {items : Array Value} {x : Value} {Q : Value → Shared → Prop} (hit : s.heap.IsTupleIter it l i)
    (hl : s.heap.IsTuple l items) (hx : items[i]? = some x)
    (hQ : ∀ h', h'.IsTupleIter it l (i + 1) → Heap.SameBut it s.heap h' → Q x { s with heap := h' }) :
    wpAny (model prog w) A (Builtin.SmallTypes.nextOf (.ref it)) Q E s := by
  obtain ⟨o, ho, hc, hd⟩ := id hit
  obtain ⟨ol, hol, _, nl, hdl⟩ := hl
  unfold Builtin.SmallTypes.nextOf
  refine wpAny_bind (wpAny_callSpecial?_slot (name := Str.ofString "__next__") hit.typeIs F.slot_tuple_iterator_next
    (wpAny_call_entry F.slot_tuple_iterator_next hit.typeIs F.entry_tuple_iterator_next ?_ (F.args_tuple_iterator_next_1 _)))
  show wpAny _ _ (field (.ref it) 0 >>= _) _ _ s
  refine wpAny_bind (wpAny_field ho hd (x := .ref l) rfl ?_)
  show wpAny _ _ (if (Value.ref l == Value.none) = true then _ else _) _ _ s
  rw [if_neg (show ¬ ((Value.ref l == Value.none) = true) from Bool.false_ne_true)]
  show wpAny _ _ (field (.ref it) 1 >>= _) _ _ s
  refine wpAny_bind (wpAny_field ho hd (x := .int i 0) rfl ?_)
  show wpAny _ _ (seqItems? (.ref l) >>= _) _ _ s
  refine wpAny_bind (wpAny_seqItems hol hdl ?_)
  simp only [Int.toNat_natCast, hx]
  refine wpAny_bind (wpAny_setField ho hd (by simp) (wpAny_pure ⟨x, rfl, wpAny_pure (hQ _ ?_ (Heap.SameBut.update ..))⟩))
  exact ⟨_, Heap.get?_update_self _ ho (Obj.isFreed_of_fields (Obj.data_mapFields hd _)), (Obj.cls_mapFields ..).trans hc, by
    rw [Obj.data_mapFields hd]; simp [rawInt]⟩
theorem nextOf_tup_end {it l : Addr} {i : Nat} {items : Array Value} {Q : Value → Shared → Prop} (hh : A.handled = none)
    (hit : s.heap.IsTupleIter it l i) (hl : s.heap.IsTuple l items) (hx : items[i]? = none)
    (hE : ∀ h' e, Heap.ExtBut it s.heap h' → (∃ o, h'.get? e = some o ∧ o.cls = .type "StopIteration") → E (.ref e) { s with heap := h' }) :
    wpAny (model prog w) A (Builtin.SmallTypes.nextOf (.ref it)) Q E s := by
  obtain ⟨o, ho, hc, hd⟩ := id hit
  obtain ⟨ol, hol, _, nl, hdl⟩ := hl
  unfold Builtin.SmallTypes.nextOf
  refine wpAny_bind (wpAny_callSpecial?_slot (name := Str.ofString "__next__") hit.typeIs F.slot_tuple_iterator_next
    (wpAny_call_entry F.slot_tuple_iterator_next hit.typeIs F.entry_tuple_iterator_next ?_ (F.args_tuple_iterator_next_1 _)))
  show wpAny _ _ (field (.ref it) 0 >>= _) _ _ s
  refine wpAny_bind (wpAny_field ho hd (x := .ref l) rfl ?_)
  show wpAny _ _ (if (Value.ref l == Value.none) = true then _ else _) _ _ s
  rw [if_neg (show ¬ ((Value.ref l == Value.none) = true) from Bool.false_ne_true)]
  show wpAny _ _ (field (.ref it) 1 >>= _) _ _ s
  refine wpAny_bind (wpAny_field ho hd (x := .int i 0) rfl ?_)
  show wpAny _ _ (seqItems? (.ref l) >>= _) _ _ s
  refine wpAny_bind (wpAny_seqItems hol hdl ?_)
  simp only [Int.toNat_natCast, hx]
  refine wpAny_bind (wpAny_rule (wpAny_bind (wpAny_setField ho hd (by simp) ?_)))
  show wpAny _ _ (newExc (.type "StopIteration") [] >>= _) _ _ _
  refine wpAny_bind ?_
  simp only [newExc, newTuple]
  refine wpAny_bind (wpAny_newObj_type ?_ (by size_fits))
  refine wpAny_bind (m := firstArgMember _ _) (wpAny_of_eq (a := Value.none) (by first | rfl | (simp only [firstArgMember]; rfl)) ?_)
  refine wpAny_newObj_type ?_ (by size_fits)
  simp only [raiseNew]
  refine wpAny_bind (wpAny_handled ?_)
  first | rw [show A.in1.handled = none from hh] | rw [hh]
  refine wpAny_bind (wpAny_pure (wpAny_throw ?_))
  exact hE _ _ (((Heap.SameBut.update ..).extBut.push _).push _) ⟨_, Heap.get?_push_size _ rfl, rfl⟩
theorem draws_tup (hh : A.handled = none) (it l : Addr) (hne : l ≠ it) (items : Array Value) :
    Draws prog w A it [it, l] items.size (fun i v => items[i]? = some v) (fun i h => h.IsTupleIter it l i ∧ h.IsTuple l items) where
  live := fun _ _ st => let ⟨o, ho, _⟩ := st.1; ⟨o, ho⟩
  frame := fun _ _ _ st hk => ⟨let ⟨o, ho, r⟩ := st.1; ⟨o, hk it (by simp) o ho, r⟩, let ⟨o, ho, r⟩ := st.2; ⟨o, hk l (by simp) o ho, r⟩⟩
  item := fun i s Q E hi st hQ => by
    refine nextOf_tup st.1 st.2 (x := items[i]) (by simp [hi]) fun h' hit' hs' => ?_
    exact hQ _ h' s.toks (by simp [hi]) ⟨hit', st.2.extBut hs'.extBut hne⟩ hs'
  done := fun s Q E st hE => nextOf_tup_end hh st.1 st.2 (by simp) hE

theorem meets_enum_tup (l : Addr) (items : Array Value) (n : Nat) (dct : Option Addr) (sl : Array (Option Value)) :
    Meets (Builtin.«enumerate.__new__» ⟨[.type "enumerate", .ref l], []⟩) (fun _ R s => s.heap.get? l = some { cls := .type "tuple", dict := dct, data := .seq items n, slots := sl } ∧
      R (.ok (.ret (.ref (s.heap.push { cls := .type "tuple_iterator", data := .fields #[.ref l, .int 0 0] }).objs.size)))
        { s with heap := (s.heap.push { cls := .type "tuple_iterator", data := .fields #[.ref l, .int 0 0] }).push { cls := .type "enumerate", data := .fields #[.none, .bool false, .ref s.heap.objs.size, rawInt 0, .none, .none] } }) :=
  .of_wp fun prog w A R s h => by
    obtain ⟨hp, g, d, tk, os⟩ := s; obtain ⟨hl, h⟩ := h
    have hsub := sub_enumerate
    have hL : Heap.IsTuple (Shared.heap ⟨hp, g, d, tk, os⟩) l items := ⟨_, hl, rfl, n, rfl⟩
    wp_walk using AutoSeq1.wpAny_loadPart' hl
    refine wpAny_stack_any fun st => wpAny_pure ?_
    split
    · rename_i c _ _ _ _ _
      cases (c == Value.type "enumerate")
      · wp_walk using AutoSeq1.wpAny_loadPart' hl, wpAny_pyIter_tuple hL
        exact ⟨_, rfl, h⟩
      · wp_walk using AutoSeq1.wpAny_loadPart' hl, wpAny_pyIter_tuple hL
        exact ⟨_, rfl, h⟩
    · wp_walk using AutoSeq1.wpAny_loadPart' hl, wpAny_pyIter_tuple hL
      exact ⟨_, rfl, h⟩
theorem call_enum_tup {l : Addr} {items : Array Value} {Q : Value → Shared → Prop} (hL : s.heap.IsTuple l items)
    (h : ∀ h', IsEnum h' (s.heap.objs.size + 1) s.heap.objs.size 0 .none → h'.IsTupleIter s.heap.objs.size l 0 →
      (∀ b o, s.heap.get? b = some o → h'.get? b = some o) → Q (.ref (s.heap.objs.size + 1)) { s with heap := h' }) :
    wpAny (model prog w) A (call (.type "enumerate") [.ref l]) Q E s := by
  obtain ⟨⟨c, dct, dt, sl⟩, hl, hc, n, hd⟩ := hL
  replace hc : c = .type "tuple" := hc
  replace hd : dt = .seq items n := hd
  subst hc hd
  refine callType_new F.called_enumerate (by decide) (F.typeCall_enumerate_1 _) (F.newCall_enumerate_1 _) (fun obj => F.args_object_init_2 obj _) F.entry_enumerate_new
    (meets_enum_tup l items n dct sl) ⟨hl, ?_⟩
  have hz : (s.heap.push { cls := .type "tuple_iterator", data := .fields #[.ref l, .int 0 0] }).objs.size = s.heap.objs.size + 1 := Heap.size_push ..
  show _ ∧ _
  rw [hz]
  have he : IsEnum ((s.heap.push { cls := .type "tuple_iterator", data := .fields #[.ref l, .int 0 0] }).push
      { cls := .type "enumerate", data := .fields #[.none, .bool false, .ref s.heap.objs.size, rawInt 0, .none, .none] }) (s.heap.objs.size + 1) s.heap.objs.size 0 .none := by
    have := Heap.get?_push_size (s.heap.push { cls := .type "tuple_iterator", data := .fields #[.ref l, .int 0 0] })
      (o := { cls := .type "enumerate", data := .fields #[.none, .bool false, .ref s.heap.objs.size, rawInt 0, .none, .none] }) rfl
    rw [hz] at this; exact this
  exact ⟨⟨_, he, rfl⟩, h _ he ⟨_, Heap.get?_push_of_some _ (Heap.get?_push_size _ rfl), rfl, rfl⟩ fun b o x => Heap.get?_push_of_some _ (Heap.get?_push_of_some _ x)⟩

noncomputable def enumSt (e it t : Addr) (xs : List Dt) (own : List Addr) (i : Nat) (h : Heap) : Prop :=
  (∃ old, IsEnum h e it i old) ∧ h.IsTupleIter it t i ∧ ∃ o vs n, t ∉ own ∧ h.get? t = some o ∧ o.cls = .type "tuple" ∧ o.data = .seq vs n ∧ RepAll own h vs.toList xs
noncomputable def enumD (xs : List Dt) : List Dt := xs.mapIdx fun i d => .tuple [eN i, d]
theorem srcJ_enum (hh : A.handled = none) {elts : List Expr} {kk : Nat} {pos : Pos} {ea it t : Addr} (hei : ea ≠ it) (hte : t ≠ ea) (hti : t ≠ it) {xs : List Dt} : SrcJ prog w A (.Tuple elts kk pos) ea (fun b => b = ea ∨ b = it) (enumD xs) (enumSt ea it t xs) where
  obj := by
    rintro own i h ⟨⟨old, he⟩, ⟨oi, e1, e2, e3⟩, _⟩ b (rfl | rfl)
    · exact ⟨_, _, he, rfl⟩
    · exact ⟨oi, _, e1, e3⟩
  frame := by
    rintro own i h h' ⟨⟨old, he⟩, ⟨oi, e1, e2, e3⟩, o, vs, n, ha, e, hc, hd, hr⟩ hk
    exact ⟨⟨old, hk _ _ he (.inl (.inl rfl))⟩, ⟨oi, hk _ _ e1 (.inl (.inr rfl)), e2, e3⟩, o, vs, n, ha, hk _ _ e (.inr ⟨⟨_, _, hd⟩, ha⟩), hc, hd, hr.mono fun b o' us m hb e' hd' => ⟨hk _ _ e' (.inr ⟨⟨_, _, hd'⟩, hb⟩), hb⟩⟩
  item := by
    rintro own i s Q E d hx ⟨h0, h1, o, vs, n, ha, eo, hc, hd, hr⟩ hal hQ
    obtain ⟨d', hx', rfl⟩ : ∃ d', xs[i]? = some d' ∧ Dt.tuple [eN i, d'] = d := by
      rw [enumD, List.getElem?_mapIdx] at hx
      simpa using hx
    obtain ⟨v, hv, rv⟩ := hr.get i d' hx'
    have hi : i < vs.size := by have := (List.getElem?_eq_some_iff.mp hv).1; simpa using this
    have W := WalksT.enumerateD (draws_tup (prog := prog) (w := w) (A := A.in1) hh it t hti vs) ea hei (by simp [hei, Ne.symm hte]) (by simp)
    refine W.item i s _ E hi ⟨h0, h1, o, eo, hc, n, hd⟩ fun T vals h' tk hP hge hT hM hk => ?_
    obtain ⟨tt, x, hx2, rfl⟩ := hP
    have hxv : x = v := by
      have q : vs.toList[i]? = some x := by simpa using hx2
      rw [hv] at q; exact (Option.some.inj q).symm
    subst hxv
    have hap := W.apart _ _ _ hM
    refine W.go elts kk pos i T { s with heap := h', toks := tk } _ E hM fun h'' hst hk2 => ?_
    obtain ⟨oT, eT, cT, nT, dT⟩ := hT
    have kseq : ∀ b o us m, s.heap.get? b = some o → o.data = .seq us m → h''.get? b = some o := fun b o us m e d => by
      have nb : b ∉ [ea, it] := fun q => by
        rcases List.mem_cons.mp q with q | q
        · obtain ⟨old, he⟩ := h0
          rw [q, he] at e; cases e; cases d
        · obtain ⟨oi, e1, e2, e3⟩ := h1
          rw [List.mem_singleton.mp q, e1] at e; cases e; rw [e3] at d; cases d
      exact hk2 b o nb (hk b o nb e)
    have kown : ∀ a o vs n, a ∉ own → s.heap.get? a = some o → o.data = .seq vs n → h''.get? a = some o ∧ a ∉ own := fun a o vs n hb e d => ⟨kseq a o vs n e d, hb⟩
    refine hQ (.ref T) h'' tk (.tuple ?_ (hk2 T oT hap eT) cT dT (.cons (.int _ _) (.cons (rv.mono kown) .nil))) ⟨hst.1, hst.2.1, o, vs, n, ha, kseq _ _ _ _ eo hd, hc, hd, hr.mono kown⟩ fun b o hb e => ?_
    · intro q
      obtain ⟨us, o', e', _⟩ := hal T q
      exact absurd (Heap.lt_size e') (Nat.not_lt.mpr hge)
    · exact hk2 b o (by simpa using hb) (hk b o (by simpa using hb) e)
  done := by
    rintro own s Q E ⟨h0, h1, o, vs, n, ha, eo, hc, hd, hr⟩ hQ
    have hl : (enumD xs).length = vs.size := by have := hr.length; rw [enumD, List.length_mapIdx]; simpa using this.symm
    have W := WalksT.enumerateD (draws_tup (prog := prog) (w := w) (A := A.in1) hh it t hti vs) ea hei (by simp [hei, Ne.symm hte]) (by simp)
    refine W.done s _ E ?_ fun h' tk hk => hQ h' tk fun b o hb e => hk b o (by simpa using hb) e
    rw [hl] at h0 h1
    exact ⟨h0, h1, o, eo, hc, n, hd⟩
theorem ItrJ.enum {elts : List Expr} {kk : Nat} {tpos p pos : Pos} {e : Expr} {xs : List Dt} (h : Ev prog w mg mb k sc e σ (.tuple xs)) (hx : isGl sc "enumerate" = true) (hm : ∀ h, Gd w mg mb h → mg "enumerate" = none)
    (he : ∀ env, starEach [e] env = (false, eval e env) :: starEach [] env := by intro _; rfl) : ItrJ prog w mg mb k sc (.Tuple elts kk tpos) (.Call (.Name "enumerate" p) [e] [] pos) σ (enumD xs) := by
  intro own env A s E Q hs hev hg ha hr hQ
  subst hs
  refine wpAny_Call_ofName (blt_load hev hg hx (hm _ hg) ((hg.bb _ (by decide)).trans boot_enumerate) ?_)
  refine callWith_type1 (args_cons (h own env A s E _ rfl hev hg ha hr fun v s₁ k₁ r => args_nil ?_) (he env)) (he env)
  cases r with
  | @tuple a o vs n _ hna e hc hd hra =>
    refine call_enum_tup ⟨o, e, hc, n, hd⟩ fun h' hE hI hk => ?_
    have hlt : a < s₁.heap.objs.size := Heap.lt_size e
    refine wpAny_pyIter_enum hE ?_
    have fresh : ∀ b, s₁.heap.objs.size ≤ b → s.heap.get? b = none := fun b hb => by
      cases q : s.heap.get? b with
      | none => rfl
      | some o' => exact absurd (Heap.lt_size (k₁.heap _ _ q)) (Nat.not_lt.mpr hb)
    exact hQ _ (fun b => b = s₁.heap.objs.size + 1 ∨ b = s₁.heap.objs.size) (enumSt (s₁.heap.objs.size + 1) s₁.heap.objs.size a xs) _ (k₁.trans (Kp.of s₁ s₁.toks hk)) (fun b hb => fresh b (by rcases hb with rfl | rfl; exact Nat.le_succ _; exact Nat.le_refl _))
      (srcJ_enum hr.handled (Nat.succ_ne_self _) (Nat.ne_of_lt (Nat.lt_succ_of_lt hlt)) (Nat.ne_of_lt hlt)) ⟨⟨_, hE⟩, hI, o, vs, n, hna, hk _ _ e, hc, hd, hra.keeps hk⟩

/-! what the written part bears -/
mutual
noncomputable def datK (K : Frag) : Nat → Value → Option Dt
  | 0, _ => none
  | _ + 1, .int i _ => some (.int i)
  | _ + 1, .str s _ => some (.str s)
  | n + 1, .ref a => match K.lookup a with
    | some ⟨.type "tuple", _, .seq vs _, _⟩ => (datKs K n vs.toList).map .tuple
    | _ => none
  | _ + 1, _ => none
noncomputable def datKs (K : Frag) : Nat → List Value → Option (List Dt)
  | _, [] => some []
  | 0, _ :: _ => none
  | n + 1, v :: r => match datK K n v, datKs K n r with
    | some d, some ds => some (d :: ds)
    | _, _ => none
end
mutual
theorem datK_rep {K : Frag} {own : List Addr} {h : Heap} (X : K.In h) (ha : Alive own h) : ∀ (n : Nat) (v : Value) (d : Dt), datK K n v = some d → Rep own h v d
  | 0, v, d, e => by simp [datK] at e
  | n + 1, v, d, e => by
    cases v with
    | int i t => simp [datK] at e; subst e; exact .int _ _
    | str i t => simp [datK] at e; subst e; exact .str _ _
    | ref a =>
      simp only [datK] at e
      split at e
      · rename_i q
        obtain ⟨ds, h1, rfl⟩ := Option.map_eq_some_iff.mp e
        exact .tuple (notOwn_tuple ha (X _ _ q) rfl) (X _ _ q) rfl rfl (datKs_rep X ha n _ _ h1)
      · cases e
    | _ => simp [datK] at e
theorem datKs_rep {K : Frag} {own : List Addr} {h : Heap} (X : K.In h) (ha : Alive own h) : ∀ (n : Nat) (vs : List Value) (ds : List Dt), datKs K n vs = some ds → RepAll own h vs ds
  | _, [], ds, e => by simp [datKs] at e; subst e; exact .nil
  | 0, _ :: _, ds, e => by simp [datKs] at e
  | n + 1, v :: r, ds, e => by
    simp only [datKs] at e
    split at e
    · rename_i d' ds' h1 h2
      cases e
      exact .cons (datK_rep X ha n _ _ h1) (datKs_rep X ha n _ _ h2)
    · cases e
end
/-- a global that the written part bears -/
theorem Ev.gdat {x : Str} {p : Pos} {a : Addr} {n : Nat} {d : Dt} (hm : ∀ h, Gd w mg mb h → mg x = some (.ref a)) (ho : isGl sc x = true) (hd : ∀ P, datK (hd0.heap_1 P) n (.ref a) = some d) : Ev prog w mg mb k sc (.Name x p) σ d := by
  intro own env A s E Q hs he hg ha hr h
  subst hs
  exact glob_load he hg ho (hm _ hg) (h _ s (Kp.refl s) (datK_rep hg.K ha n _ _ (hd _)))

/-- texts joined -/
theorem repAll_strs {own : List Addr} {h : Heap} : ∀ {vs : List Value} {ts : List (List Nat)}, RepAll own h vs (ts.map eS) → ∃ l : List (Str × Tok), vs = strValues l ∧ l.map (·.1) = ts.map sOf
  | [], [], _ => ⟨[], rfl, rfl⟩
  | [], t :: ts, r => by cases r
  | v :: vs, [], r => by cases r
  | v :: vs, t :: ts, r => by
    cases r with
    | cons r1 r2 =>
      obtain ⟨tk, rfl⟩ := rep_str r1
      obtain ⟨l, e1, e2⟩ := repAll_strs r2
      exact ⟨(sOf t, tk) :: l, by rw [e1]; rfl, by simp [e2]⟩
end
end Mine
end
section
set_option Elab.async false
set_option linter.unusedVariables false
namespace Mine
/-- filemode -/
noncomputable def fmTab : List (List (Nat × Nat)) :=
  [[(40960, 108), (49152, 115), (32768, 45), (24576, 98), (16384, 100), (8192, 99), (4096, 112)], [(256, 114)], [(128, 119)], [(2112, 115), (2048, 83), (64, 120)], [(32, 114)], [(16, 119)], [(1032, 115), (1024, 83), (8, 120)], [(4, 114)], [(2, 119)], [(513, 116), (512, 84), (1, 120)]]
noncomputable def fmTest (mode i : Nat) (b : Nat) : Bool := if i == 0 then mode &&& 61440 == b else mode &&& b == b
noncomputable def fmChar (mode i : Nat) : List (Nat × Nat) → Nat
  | [] => if i == 0 then 63 else 45
  | q :: r => if fmTest mode i q.1 then q.2 else fmChar mode i r
noncomputable def fmF (mode : Nat) : List Nat := fmTab.mapIdx fun i t => fmChar mode i t
theorem fmF_len (mode : Nat) : (fmF mode).length = 10 := by simp [fmF, fmTab]
end Mine
end
section
open PySem PySem.W PyProof.Rows PySem.Calls
set_option Elab.async false
set_option linter.unusedVariables false
set_option maxRecDepth 100000
namespace Mine
section
variable {prog : Program} {w : World} {mg mb : Str → Option Value} {k : Nat} {sc : Scope} {σ σ' : Sig} {own₀ lown lown' : List Addr} {X : Addr → Prop} {s₀ s s' : Shared} {env : Env} {A : Around} {E : Value → Shared → Prop}

theorem join_nil : ∀ ts : List (List Nat), Txt.join (sOf []) (ts.map sOf) = sOf ts.flatten := by
  intro ts
  show Builtin.Str.glued _ _ = _
  rw [StrLaws.glued_eq_join]
  induction ts with
  | nil => rfl
  | cons t r ih =>
    cases r with
    | nil => show sOf t = sOf ([t].flatten); simp
    | cons u r =>
      show sOf t ++ sOf [] ++ Str.join (sOf []) ((u :: r).map sOf) = _
      rw [ih, str_app, str_app]
      simp
theorem Ev.join {xe : Expr} {p apos pos : Pos} {ts : List (List Nat)} {x0 : Str} (hx0 : x0 = sOf []) (hx : EvT prog w mg mb k sc xe σ (.list (ts.map eS))) (hsz : (ts.map (·.length)).sum ≤ 1000)
    (hbase : ∀ env, attributeBase (.Constant (.str x0) 0 p) "join" env (eval (.Constant (.str x0) 0 p) env) = eval (.Constant (.str x0) 0 p) env := by intro _; rfl) (hline : (apos.endLine == pos.line) = true := by rfl) (htr : ∀ env, backTo pos (starEach [xe] env) = [(false, eval xe env)] := by intro _; rfl) :
    Ev prog w mg mb k sc (.Call (.Attribute (.Constant (.str x0) 0 p) "join" apos) [xe] [] pos) σ (eS ts.flatten) := by
  intro own env A s E Q hs hen hg hal hr hQ
  refine wpAny_Call_method1_late (hbase env) hline (htr env) (wpAny_Constant_str ?_)
  refine ⟨"str", "str.join", F.plainAttrs_str, F.slot_str_join, F.type_str_join, typeIs_str _ _ _, (fun _ e => nomatch e), ?_⟩
  refine Calls.callWith_builtin rfl (Calls.evalArgs_plain (Calls.spliced_cons (hx own env A _ E _ hs (hen.keeps (Kp.toks s _).heap) (hg.keeps (Kp.toks s _).heap) (hal.keeps (Kp.toks s _).heap) hr fun u s₁ k₁ r => Calls.spliced_nil ?_)))
  obtain ⟨a, vs, xs, rfl, e1, hp, q⟩ := r
  cases e1
  obtain ⟨l, e2, e3⟩ := repAll_strs q
  have hl : s₁.heap.IsList a (strValues l).toArray := by
    have := plainL_list hp
    rw [← e2, Array.toArray_toList]
    exact this
  subst hx0
  have hlen : ∀ ts : List (List Nat), ((ts.map sOf).map (·.length)).sum = (ts.map (·.length)).sum := fun ts => by
    induction ts with
    | nil => rfl
    | cons t r ih => simp only [List.map_cons, List.sum_cons, ih]; rfl
  refine SC.join hl e3 (joinOk_of (by rw [hlen]; show _ + _ * 0 ≤ _; omega)) fun t' k => ?_
  rw [join_nil]
  exact hQ _ _ ((Kp.toks s _).trans (k₁.trans (Kp.toks _ _))) (.str _ _)

theorem fnN_S_IFMT (n : Nat) : Fn prog w mg mb (k + 1) 51 [eN n] (eN (n &&& 61440)) := by
  have := fn_S_IFMT (prog := prog) (w := w) (mg := mg) (mb := mb) (k := k) (n : Int)
  rw [show Builtin.bitAnd (n : Int) 61440 = ((n &&& 61440 : Nat) : Int) from bitAnd_nat n 61440] at this
  exact this
noncomputable def ePr (q : Nat × Nat) : Dt := .tuple [eN q.1, eS [q.2]]
noncomputable def eTb (t : List (Nat × Nat)) : Dt := .tuple (t.map ePr)
noncomputable def eC (c : Nat) : Dt := eS [c]
noncomputable abbrev sgP (a : Addr) (pre : List Nat) (mode : Nat) : Sig := [(Str.ofString "perm", (some a, .list (pre.map eC))), (Str.ofString "mode", (none, eN mode))]
noncomputable abbrev sgQ (a : Addr) (pre : List Nat) (mode i : Nat) (t : List (Nat × Nat)) : Sig := [(Str.ofString "perm", (some a, .list (pre.map eC))), (Str.ofString "mode", (none, eN mode)), (Str.ofString "index", (none, eN i)), (Str.ofString "table", (none, eTb t))]
theorem map_snoc {α : Type} (l : List α) (f : α → Dt) (c : α) : Dt.list ((l ++ [c]).map f) = .list (l.map f ++ [f c]) := by simp
set_option maxHeartbeats 4000000 in
theorem fn_filemode (mode : Nat) : Fn prog w mg mb (k + 2) 98 [eN mode] (eS (fmF mode)) :=
  fn_at [Str.ofString "mode"] (fun _ => rfl) (fun _ => rfl) rfl rfl rfl rfl rfl (bind1 fun u => rfl) rfl rfl rfl rfl (by decide) rfl rfl rfl rfl fun own A s s₁ env E Q hsc hcode hr F hQ => by
    refine seq_next (F.assignOwn hr hsc (ds := []) (EvN.list .nil (size_le (by decide))) rfl fun a s₂ ha _ F₂ => ⟨rfl, ?_⟩)
    refine seq_next ((F₂.weak (σ' := sgP a [] mode) (wkc rfl (wkc rfl wk0))).forJ hr hsc (Tgt.pair (x := Str.ofString "index") (y := Str.ofString "table") rfl rfl (by decide)) (xs := enumD (fmTab.map eTb)) ?_ (ItrJ.enum (Ev.gdat (a := 91) (n := 40) (gl_fn fun _ => rfl) rfl fun _ => rfl) rfl (gl_none fun _ => rfl))
      (fun W i σ' h => i ≤ 10 ∧ σ' = sgP a ((fmF mode).take i) mode) (fun W hW i σ h h' q _ => q) (fun W s' _ _ => ⟨by decide, rfl⟩) ?_ ?_)
    · intro d hd
      obtain ⟨i, hi, rfl⟩ := List.mem_mapIdx.mp hd
      exact ⟨_, _, rfl⟩
    · rintro W i d σ' s₃ E₁ hW hd ⟨hi10, rfl⟩ F₃
      obtain ⟨t, ht, rfl⟩ : ∃ t, fmTab[i]? = some t ∧ Dt.tuple [eN i, eTb t] = d := by
        rw [enumD, List.getElem?_mapIdx, List.getElem?_map] at hd
        cases q : fmTab[i]? with
        | none => rw [q] at hd; simp at hd
        | some t => rw [q] at hd; simp at hd; exact ⟨t, rfl, hd⟩
      have hi : i < 10 := (List.getElem?_eq_some_iff.mp ht).1
      have hlen := fmF_len mode
      have hch : (fmF mode)[i]? = some (fmChar mode i t) := by rw [fmF, List.getElem?_mapIdx, ht]; rfl
      have hnext : (fmF mode).take (i + 1) = (fmF mode).take i ++ [fmChar mode i t] := by rw [List.take_add_one, hch]; rfl
      have hpl : ((fmF mode).take i).length ≤ 10 := by rw [List.length_take]; omega
      generalize (fmF mode).take i = pre at *
      rw [hnext]
      -- the append of a sign, at the loop's end
      refine seq_next (((F₃.weak (σ' := sgQ a pre mode i t) (wkc rfl (wkc rfl (wkc rfl (wkc rfl wk0))))).forJ hr hsc (Tgt.pair (x := Str.ofString "bit") (y := Str.ofString "char") rfl rfl (by decide)) (xs := t.map ePr) ?_ (ItrJ.tup (Ev.name rfl rfl))
        (fun W j σ' h => j ≤ t.length ∧ σ' = sgQ a pre mode i t ∧ fmChar mode i t = fmChar mode i (t.drop j)) (fun W hW i σ h h' q _ => q) (fun W s' _ _ => ⟨Nat.zero_le _, rfl, rfl⟩) ?_ ?_))
      · intro d hd
        obtain ⟨q, _, rfl⟩ := List.mem_map.mp hd
        exact ⟨_, _, rfl⟩
      · rintro W2 j d σ' s₄ E₂ hW2 hd2 ⟨hj, rfl, hjc⟩ F₄
        obtain ⟨q, hq, rfl⟩ : ∃ q, t[j]? = some q ∧ ePr q = d := by rwa [List.getElem?_map, Option.map_eq_some_iff] at hd2
        have hjl := (List.getElem?_eq_some_iff.mp hq).1
        have hdrop : t.drop j = q :: t.drop (j + 1) := by rw [List.drop_eq_getElem_cons hjl]; congr 1; exact (List.getElem?_eq_some_iff.mp hq).2
        rw [hdrop] at hjc
        -- found
        have yes : fmTest mode i q.1 = true → ∀ (X : Addr → Prop) (s₀ s₅ : Shared) (E : Value → Shared → Prop) (Qx : Flow → Shared → Prop) (p1 p2 p3 p4 p5 p6 : Pos), p2.endLine = p4.line → Fs w mg mb own [a] X s₀ env ((Str.ofString "bit", (none, eN q.1)) :: (Str.ofString "char", (none, eC q.2)) :: sgQ a pre mode i t) s₅ →
            (∀ s₆, Fs w mg mb own [a] X s₀ env (sgP a (pre ++ [fmChar mode i t]) mode) s₆ → Qx .brk s₆) → wpAny (model prog w) A (execs [.Expr (.Call (.Attribute (.Name (Str.ofString "perm") p1) "append" p2) [.Name (Str.ofString "char") p3] [] p4) p5, .Break p6] env) Qx E s₅ := by
          intro ht X s₀ s₅ E Qx p1 p2 p3 p4 p5 p6 hpl' F₅ hQx
          rw [fmChar, if_pos ht] at hjc
          refine seq_next (F₅.append hr hsc (a := a) (ds := pre.map eC) (d := eC q.2) rfl (Ev.name rfl rfl) rfl rfl (.head _) (by simp [Sep]) (by rw [List.length_map]; omega) (fun s₆ F₆ => ⟨rfl, ?_⟩) (hline := by simp [hpl']))
          refine wpAny_execs_cons (wpAny_Break (hQx s₆ ?_))
          rw [hjc, sgP, map_snoc]
          exact F₆.weak (wkc rfl (wkc rfl wk0))
        have no : fmTest mode i q.1 = false → fmChar mode i t = fmChar mode i (t.drop (j + 1)) := fun ht => by rw [hjc, fmChar, if_neg (by simp [ht])]
        refine wpAny_execs_cons (F₄.if_ hr hsc (Tr.cmp (Cmp.eqN (Ev.name rfl rfl) Ev.lit)) ?_ ?_)
        · intro hi0 s₅ F₅
          have htest : fmTest mode i q.1 = (mode &&& 61440 == q.1) := by rw [fmTest, if_pos hi0]
          refine wpAny_execs_cons (F₅.if_ hr hsc (Tr.cmp (Cmp.eqN (Ev.callD (gl_fn fun _ => rfl) (obj_at fun _ => rfl) rfl rfl (.cons (Ev.name rfl rfl) .nil) (fnN_S_IFMT mode)) (Ev.name rfl rfl))) ?_ ?_)
          · intro hb s₆ F₆
            exact yes (htest.trans hb) _ _ _ _ _ _ _ _ _ _ _ rfl (F₆.weak (wkc rfl (wkc rfl (wkc rfl (wkc rfl (wkc rfl (wkc rfl wk0))))))) fun s₇ F₇ => ⟨_, F₇, fun F₈ => ⟨rfl, wpAny_execs_nil ⟨_, ⟨by omega, rfl⟩, F₈⟩⟩⟩
          · intro hb s₆ F₆
            exact wpAny_execs_nil (wpAny_execs_nil (wpAny_execs_nil ⟨_, ⟨hjl, rfl, no (htest.trans hb)⟩, F₆.weak (wkc rfl (wkc rfl (wkc rfl (wkc rfl wk0))))⟩))
        · intro hi0 s₅ F₅
          have htest : fmTest mode i q.1 = (mode &&& q.1 == q.1) := by rw [fmTest, if_neg (by simp [hi0])]
          refine wpAny_execs_cons (F₅.if_ hr hsc (Tr.cmp (Cmp.eqN (Ev.bandN (Ev.name rfl rfl) (Ev.name rfl rfl)) (Ev.name rfl rfl))) ?_ ?_)
          · intro hb s₆ F₆
            exact yes (htest.trans hb) _ _ _ _ _ _ _ _ _ _ _ rfl (F₆.weak (wkc rfl (wkc rfl (wkc rfl (wkc rfl (wkc rfl (wkc rfl wk0))))))) fun s₇ F₇ => ⟨_, F₇, fun F₈ => ⟨rfl, wpAny_execs_nil ⟨_, ⟨by omega, rfl⟩, F₈⟩⟩⟩
          · intro hb s₆ F₆
            exact wpAny_execs_nil (wpAny_execs_nil (wpAny_execs_nil ⟨_, ⟨hjl, rfl, no (htest.trans hb)⟩, F₆.weak (wkc rfl (wkc rfl (wkc rfl (wkc rfl wk0))))⟩))
      · rintro W2 σ' s₄ E₂ ⟨_, rfl, hjc⟩ F₄
        rw [List.length_map, List.drop_length] at hjc
        have e0 : fmChar mode i [] = if i == 0 then 63 else 45 := rfl
        rw [e0] at hjc
        refine seq_next (F₄.if_ hr hsc (Tr.cmp (Cmp.eqN (Ev.name rfl rfl) Ev.lit)) ?_ ?_)
        · intro hi0 s₅ F₅
          rw [if_pos hi0] at hjc
          refine seq_next (F₅.append hr hsc (a := a) (ds := pre.map eC) (d := eC 63) rfl Ev.strL rfl rfl (.head _) (by simp [Sep]) (by rw [List.length_map]; omega) fun s₆ F₆ => ⟨rfl, ?_⟩)
          refine wpAny_execs_nil ⟨rfl, wpAny_execs_nil ⟨rfl, wpAny_execs_nil ⟨_, ⟨by omega, rfl⟩, ?_⟩⟩⟩
          rw [hjc, sgP, map_snoc]
          exact F₆.weak (wkc rfl (wkc rfl wk0))
        · intro hi0 s₅ F₅
          rw [if_neg (by simp [hi0])] at hjc
          refine seq_next (F₅.append hr hsc (a := a) (ds := pre.map eC) (d := eC 45) rfl Ev.strL rfl rfl (.head _) (by simp [Sep]) (by rw [List.length_map]; omega) fun s₆ F₆ => ⟨rfl, ?_⟩)
          refine wpAny_execs_nil ⟨rfl, wpAny_execs_nil ⟨rfl, wpAny_execs_nil ⟨_, ⟨by omega, rfl⟩, ?_⟩⟩⟩
          rw [hjc, sgP, map_snoc]
          exact F₆.weak (wkc rfl (wkc rfl wk0))
    · rintro W σ' s₃ E₁ ⟨_, rfl⟩ F₃
      have hl10 : (enumD (fmTab.map eTb)).length = 10 := by rw [enumD, List.length_mapIdx, List.length_map]; rfl
      rw [hl10, List.take_of_length_le (by rw [fmF_len]; exact Nat.le_refl _)] at F₃
      refine wpAny_execs_nil ⟨rfl, ?_⟩
      have e1 : (fmF mode).map eC = ((fmF mode).map fun c => [c]).map eS := by rw [List.map_map]; rfl
      have e2 : ((fmF mode).map fun c => [c]).flatten = fmF mode := by induction fmF mode with
        | nil => rfl
        | cons c r ih => simp [ih]
      refine F₃.retF hr hsc (Ev.cast (Ev.join (ts := (fmF mode).map fun c => [c]) rfl (by rw [← e1]; exact EvT.name rfl rfl) ?_) (by rw [e2])) hQ
      have : ∀ l : List Nat, ((l.map fun c => [c]).map (·.length)).sum = l.length := fun l => by
        induction l with
        | nil => rfl
        | cons c r ih => rw [List.map_cons, List.map_cons, List.sum_cons, ih]; simp; omega
      rw [this, fmF_len]; decide
end
end Mine
end
section
open PySem PySem.W PyProof.Rows PySem.Calls
open Builtin Builtin.ObjectAttr
set_option Elab.async false
set_option linter.unusedVariables false
set_option maxRecDepth 100000
namespace Mine
theorem sf_ga : Slot "function" "__getattribute__" "object.__getattribute__" :=
  .of (owner := "object") (n := "__getattribute__") (by rw [typeLookup_type, builtinLookup_eq_fast]; kernel_rfl) (by decide +kernel) (by decide +kernel) (by decide +kernel)
    (by first | exact .inl (by decide +kernel) | exact .inr (by decide +kernel)) (by rw [isSubtype_type]; kernel_rfl)
theorem sf_sa : Slot "function" "__setattr__" "object.__setattr__" :=
  .of (owner := "object") (n := "__setattr__") (by rw [typeLookup_type, builtinLookup_eq_fast]; kernel_rfl) (by decide +kernel) (by decide +kernel) (by decide +kernel)
    (by first | exact .inl (by decide +kernel) | exact .inr (by decide +kernel)) (by rw [isSubtype_type]; kernel_rfl)
theorem fn_no_getattr : typeLookup (.type "function") "__getattr__" = pure none := by rw [typeLookup_type, builtinLookup_eq_fast]; kernel_rfl
theorem fn_no_read : typeLookup (.type "function") "read" = pure none := by rw [typeLookup_type, builtinLookup_eq_fast]; kernel_rfl
theorem ent_ga : entryFor table "object.__getattribute__" = some Builtin.«object.__getattribute__» := entryFor_of_tree (by kernel_rfl)
theorem ent_sa : entryFor table "object.__setattr__" = some Builtin.«object.__setattr__» := entryFor_of_tree (by kernel_rfl)
theorem arg_ga (a b : Value) : argsOk "object.__getattribute__" ⟨[a, b], []⟩ := by unfold argsOk; kernel_rfl
theorem arg_sa (a b c : Value) : argsOk "object.__setattr__" ⟨[a, b, c], []⟩ := by unfold argsOk; kernel_rfl
theorem fn_mro : mroOf (.type "function") = pure [.type "function", .type "object"] := by kernel_rfl
theorem fn_passes (self : Value) : refuseLoop self "__setattr__" [.type "function", .type "object"] = pure () := by kernel_rfl

section
variable {prog : Program} {w : World} {A : Around} {E : Value → Shared → Prop} {s : Shared}
theorem meets_ga_fn (a d rd : Addr) (fd : FuncData) (sl : Array (Option Value)) (u : Tok) :
    Meets (Builtin.«object.__getattribute__» ⟨[.ref a, .str "read" u], []⟩) (fun A R s => s.heap.get? a = some { cls := .type "function", dict := some d, data := .func fd, slots := sl } ∧ (∃ m, s.heap.Ns d m ∧ m "read" = some (.ref rd)) ∧ R (.ok (.ret (.ref rd))) s) :=
  Meets.of_wp fun prog w A R s hs => by
    obtain ⟨hp, g, dd, tk, os⟩ := s
    obtain ⟨hx, ⟨m, hn, hm⟩, hs⟩ := hs
    have hT : (⟨hp, g, dd, tk, os⟩ : Shared).TypeIs (.ref a) "function" := ⟨_, hx, rfl⟩
    have f1 := fn_no_read
    unfold Builtin.«object.__getattribute__»
    repeat (any_goals (first | assumption | ((with_reducible show wpAny _ _ (nsGet _ _) _ _ _); (refine wpAny_nsGet hn ?_); (rw [hm])) | wp_step))
    exact ⟨_, rfl, hs⟩
theorem getAttr_fn {a d rd : Addr} {o : Obj} {fd : FuncData} {m : Str → Option Value} {b : Bool} {Q : Value → Shared → Prop} (hx : s.heap.get? a = some o) (hc : o.cls = .type "function") (hd : o.dict = some d) (hdat : o.data = .func fd) (hn : s.heap.Ns d m) (hm : m "read" = some (.ref rd))
    (h : ∀ tk, Q (.ref rd) { s with toks := tk }) : wpAny (model prog w) A (getAttr (.ref a) "read" b) Q E s := by
  obtain ⟨c, dct, dat, sl⟩ := o
  simp only at hc hdat hd
  subst hc hdat hd
  obtain ⟨hp, g, dr, tk, os⟩ := s
  have hT : ∀ tk', (⟨hp, g, dr, tk', os⟩ : Shared).TypeIs (.ref a) "function" := fun _ => ⟨_, hx, rfl⟩
  have f3 := sf_ga.lookup
  have f4 := sf_ga.bind (.ref a)
  unfold getAttr getAttrBy
  repeat (any_goals (first | assumption | exact hT _ | exact h _ | ((with_reducible show wpAny _ _ (call (Value.builtin "object.__getattribute__") _ _) _ _ _); refine call_meets sf_ga (hT _) ent_ga (arg_ga _ _) (meets_ga_fn a d rd fd sl _) ⟨hx, ⟨m, hn, hm⟩, ?_⟩) | wp_step))
  rw [if_neg (show ¬ (b && onTheHeap (Value.builtin "object.__getattribute__")) = true from fun h => Bool.noConfusion (show false = true from (Bool.and_eq_true_iff.mp h).2))]
  repeat (any_goals (first | assumption | exact hT _ | exact h _ | ((with_reducible show wpAny _ _ (call (Value.builtin "object.__getattribute__") _ _) _ _ _); refine call_meets sf_ga (hT _) ent_ga (arg_ga _ _) (meets_ga_fn a d rd fd sl _) ⟨hx, ⟨m, hn, hm⟩, ?_⟩) | wp_step))
  show wpAny _ _ (handedOut (.ref rd)) _ _ _
  exact wpAny_pure (h _)
theorem getMethod_fn {a d rd : Addr} {o : Obj} {fd : FuncData} {m : Str → Option Value} {pl : Sem Bool} {Q : Value × List Value → Shared → Prop} (hx : s.heap.get? a = some o) (hc : o.cls = .type "function") (hd : o.dict = some d) (hdat : o.data = .func fd) (hn : s.heap.Ns d m) (hm : m "read" = some (.ref rd))
    (h : ∀ tk, Q (.ref rd, []) { s with toks := tk }) : wpAny (model prog w) A (getMethod (.ref a) "read" pl) Q E s := by
  have hT : s.TypeIs (.ref a) "function" := ⟨_, hx, hc⟩
  unfold getMethod
  refine wpAny_bind (wpAny_specialOf hT sf_ga.lookup ?_)
  show wpAny _ A (if (Manifest.canonical "object.__getattribute__" != "object.__getattribute__") = true then _ else _) Q E s
  rw [if_neg (by decide +kernel)]
  refine wpAny_bind (wpAny_specialOf hT fn_no_getattr ?_)
  refine wpAny_bind (wpAny_specialOf hT fn_no_read ?_)
  exact wpAny_bind (getAttr_fn hx hc hd hdat hn hm fun tk => wpAny_pure (h tk))

/-- the attribute is laid into a function without one -/
theorem setAttr_fn {a : Addr} {o : Obj} {fd : FuncData} {v : Value} {Q : Unit → Shared → Prop} (hx : s.heap.get? a = some o) (hc : o.cls = .type "function") (hd : o.dict = none) (hdat : o.data = .func fd)
    (h : ∀ h' tk d, h'.get? a = some { o with dict := some d } → h'.Ns d (fun y => if y = "read" then some v else none) → s.heap.get? d = none → (∀ b o, b ≠ a → s.heap.get? b = some o → h'.get? b = some o) → Q () { s with heap := h', toks := tk }) :
    wpAny (model prog w) A (setAttr (.ref a) "read" v) Q E s := by
  obtain ⟨hp, g, dr, tk, os⟩ := s
  have hT : ∀ tk', (⟨hp, g, dr, tk', os⟩ : Shared).TypeIs (.ref a) "function" := fun _ => ⟨_, hx, hc⟩
  unfold setAttr
  refine wpAny_bind (wpAny_mkText (wpAny_bind (wpAny_callSpecial?_slot (name := Str.ofString "__setattr__") (hT _) sf_sa (wpAny_call_entry sf_sa (hT _) ent_sa ?_ (arg_sa _ _ _)))))
  have hpass := fn_passes (.ref a)
  have f1 := fn_no_read
  unfold Builtin.«object.__setattr__»
  repeat (first | rw [refuse_eq] | (rw [fn_mro]) | (rw [hpass]) | (with_reducible refine wpAny_loadPart_at hx ?_; rw [hc]) | wp_step)
  rw [hd, if_neg (by decide +kernel), hdat]
  have hx : hp.get? a = some o := hx
  have hx₁ : (hp.push { cls := .type "dict", data := .dict #[] }).get? a = some o := Heap.get?_push_of_some _ hx
  have hxs : a ≠ hp.objs.size := Nat.ne_of_lt (Heap.lt_size hx)
  refine wpAny_bind (wpAny_alloc' ?_)
  refine wpAny_bind (wpAny_update' hx₁ ?_)
  unfold dictMade
  simp only []
  rw [if_neg (by decide +kernel)]
  refine wpAny_bind (wpAny_pure (wpAny_pure ?_))
  have hgd : ((hp.push { cls := .type "dict", data := .dict #[] }).update a fun o => { cls := o.cls, dict := some hp.objs.size, data := o.data, slots := o.slots }).get? hp.objs.size
      = some { cls := .type "dict", data := .dict #[] } :=
    (Heap.get?_update_ne _ _ _ _ hxs.symm).trans (Heap.get?_push_at rfl rfl)
  have hnd : ((hp.push { cls := .type "dict", data := .dict #[] }).update a fun o => { cls := o.cls, dict := some hp.objs.size, data := o.data, slots := o.slots }).Ns hp.objs.size (fun _ => none) :=
    ⟨_, #[], _, hgd, rfl, fun e he => absurd he (by simp), fun _ => rfl⟩
  show wpAny _ _ (storeInDict hp.objs.size (.str "read" _) "read" v) _ _ _
  unfold storeInDict newKeyGuard
  refine wpAny_bind (wpAny_pure (wpAny_bind (wpAny_nsSet1 (Heap.Ns1.of_empty hnd) fun h' hn' hs => ?_)))
  obtain ⟨oD, esD, epD, hoD, hdD, hcD⟩ := hn'.count (Within.cons "read" v Within.nil)
  refine wpAny_bind (wpAny_lookBehind hoD (by rw [hdD]; exact pastItsLine_dict (Nat.le_trans hcD (by rw [List.length_cons, List.length_nil, sizeLine_eq]; omega))) ?_)
  refine wpAny_pure ⟨_, rfl, wpAny_pure (h h' _ hp.objs.size ?_ ?_ ?_ fun b ob hbx hb => ?_)⟩
  · refine (hs.2 a hxs).trans (Heap.get?_update_self _ hx₁ ?_)
    obtain ⟨oc, od, odt, osl⟩ := o
    simp only at hdat
    subst hdat
    rfl
  · obtain ⟨o', es, ep, e1, e2, e3, eu, e4⟩ := hn'
    exact ⟨o', es, ep, e1, e2, e3, fun y => by rw [e4 y]⟩
  · cases q : hp.get? hp.objs.size with
    | none => rfl
    | some o' => exact absurd (Heap.lt_size q) (Nat.lt_irrefl _)
  · exact (hs.2 b (Nat.ne_of_lt (Heap.lt_size hb))).trans ((Heap.get?_update_ne _ _ _ _ hbx).trans (Heap.get?_push_of_some _ hb))
end
end Mine
end
section
open PySem PySem.W PyProof.Rows PySem.Calls
set_option Elab.async false
set_option linter.unusedVariables false
set_option maxRecDepth 100000
namespace Mine
noncomputable def bOf (l : List Nat) : Array UInt8 := (l.map Nat.toUInt8).toArray
noncomputable def eB (l : List Nat) : Dt := .bytes (bOf l)
theorem bOf_size (l : List Nat) : (bOf l).size = l.length := by simp [bOf]
theorem u8 {n : Nat} (h : n < 256) : n.toUInt8.toNat = n := by
  show (UInt8.ofNat n).toNat = n
  rw [UInt8.toNat_ofNat']; exact Nat.mod_eq_of_lt h
section
variable {prog : Program} {w : World} {mg mb : Str → Option Value} {k : Nat} {sc : Scope} {σ σ' : Sig} {own₀ lown lown' : List Addr} {X : Addr → Prop} {s₀ s s' : Shared} {env : Env} {A : Around} {E : Value → Shared → Prop}

theorem Ev.lenB {p pos : Pos} {e : Expr} {l : List Nat} (hm : ∀ h, Gd w mg mb h → mg "len" = none) (hx : isGl sc "len" = true) (h : Ev prog w mg mb k sc e σ (eB l)) (hsz : l.length < 2 ^ 30)
    (he : ∀ env, starEach [e] env = (false, eval e env) :: starEach [] env := by intro _; rfl) : Ev prog w mg mb k sc (.Call (.Name "len" p) [e] [] pos) σ (eN l.length) :=
  Ev.blt1 hm boot_len (by decide) hx h (fun own A s E Q v hg ha hr r hQ => by
    obtain ⟨t, rfl⟩ := rep_bytes r
    refine len_bytes (by rw [bOf_size]; omega) ?_
    rw [bOf_size]
    exact hQ _ _ ((Kp.toks s _).trans (Kp.toks _ _)) (.int _ _)) he
theorem Ev.min2N {p pos : Pos} {e1 e2 : Expr} {a b : Nat} (hm : ∀ h, Gd w mg mb h → mg "min" = none) (hx : isGl sc "min" = true) (h1 : Ev prog w mg mb k sc e1 σ (eN a)) (h2 : Ev prog w mg mb k sc e2 σ (eN b))
    (he1 : ∀ env, starEach [e1, e2] env = (false, eval e1 env) :: starEach [e2] env := by intro _; rfl) (he2 : ∀ env, starEach [e2] env = (false, eval e2 env) :: starEach [] env := by intro _; rfl) : Ev prog w mg mb k sc (.Call (.Name "min" p) [e1, e2] [] pos) σ (eN (min a b)) := by
  intro own env A s E Q hs hn hg ha hr hQ
  subst hs
  refine wpAny_Call_ofName (blt_load hn hg hx (hm _ hg) ((hg.bb _ (by decide)).trans boot_min) ?_)
  refine callWith_builtin1 (args_cons (h1 own env A s E _ rfl hn hg ha hr fun u s₁ k₁ r₁ => args_cons (h2 own env A s₁ E _ rfl (hn.keeps k₁.heap) (hg.keeps k₁.heap) (ha.keeps k₁.heap) hr fun v s₂ k₂ r₂ => args_nil ?_) (he2 env)) (he1 env)) (he1 env) (by rw [he2 env]; rfl)
  obtain ⟨t, rfl⟩ := rep_int r₁
  obtain ⟨t', rfl⟩ := rep_int r₂
  refine PySem.Flt.min_two_num hr.handled (.int _ _) (.int _ _) fun h' tk hk => hQ _ _ ((k₁.trans k₂).trans (Kp.of _ tk hk)) ?_
  show Rep own h' (if decide ((b : Int) < (a : Int)) = true then .int b t' else .int a t) (eN (min a b))
  by_cases hba : b < a
  · rw [if_pos (by simpa using hba), Nat.min_eq_right (Nat.le_of_lt hba)]; exact .int _ _
  · rw [if_neg (by simpa using hba), Nat.min_eq_left (by omega)]; exact .int _ _
theorem Ev.itemB {v i : Expr} {p : Pos} {l : List Nat} {n c : Nat} (hv : Ev prog w mg mb k sc v σ (eB l)) (hi : Ev prog w mg mb k sc i σ (eN n)) (hc : l[n]? = some c) (hc8 : c < 256) (hsz : l.length < 2 ^ 30)
    (hsub : ∀ o iv, subscripted i false o iv = operate [o, iv] (getItem o iv) := by intro _ _; with_unfolding_all rfl) (ht : ∀ b t r, letTemporaryGo v (.bytes b t) r = pure () := by intro _ _ _; with_unfolding_all rfl) : Ev prog w mg mb k sc (.Subscript v i p) σ (eN c) := by
  intro own env A s E Q hs hn hg ha hr hQ
  refine Subscript_ (hv own env A s E _ hs hn hg ha hr fun u s₁ k₁ r₁ => ?_)
  refine hi own env A s₁ E _ hs (hn.keeps k₁.heap) (hg.keeps k₁.heap) (ha.keeps k₁.heap) hr fun iv s₂ k₂ r₂ => ?_
  obtain ⟨t, rfl⟩ := rep_int r₂
  obtain ⟨t', rfl⟩ := rep_bytes r₁
  have hlt : n < l.length := (List.getElem?_eq_some_iff.mp hc).1
  refine tail_of_ItemOn ⟨"bytes", _, FB.slot_bytes_getitem.lookup, typeIs_bytes _ _ _, ?_⟩ (hsub _ _) (ht _ _)
  refine getItem_bytes (l := l.map Nat.toUInt8) (by rw [List.length_map]; omega) (by omega) (by rw [List.length_map]; omega) ?_
  have e : ((l.map Nat.toUInt8).getD (n : Int).toNat 0).toNat = c := by
    rw [List.getD_eq_getElem?_getD, List.getElem?_map, Int.toNat_natCast, hc]
    exact u8 hc8
  rw [e]
  exact hQ _ _ ((k₁.trans k₂).trans (Kp.toks _ _)) (.int _ _)
theorem picked_bOf (l : List Nat) {a c : Nat} (ha : a ≤ l.length) (hc : c ≤ l.length) : KBy.picked (bOf l) (some (a : Int)) (some (c : Int)) = bOf ((l.drop a).take (c - a)) := by
  rw [KBc.picked_eq, bOf_size]
  show ((((bOf l).toList).drop (clipAt l.length (a : Int))).take (clipAt l.length (c : Int) - clipAt l.length (a : Int))).toArray = _
  rw [clipAt_nat, clipAt_nat, Nat.min_eq_left ha, Nat.min_eq_left hc]
  simp [bOf]
theorem Ev.cutB {v lo hi : Expr} {q p : Pos} {l : List Nat} {a c : Nat} (hv : Ev prog w mg mb k sc v σ (eB l)) (hl : Ev prog w mg mb k sc lo σ (eN a)) (hu : Ev prog w mg mb k sc hi σ (eN c)) (ha' : a ≤ l.length) (hc' : c ≤ l.length) (hsz : l.length < 2 ^ 20)
    (ht : ∀ b t r, letTemporaryGo v (.bytes b t) r = pure () := by intro _ _ _; with_unfolding_all rfl) : Ev prog w mg mb k sc (.Subscript v (.Slice (some lo) (some hi) none q) p) σ (eB ((l.drop a).take (c - a))) := by
  intro own env A s E Q hs hn hg ha hr hQ
  refine Subscript_ (hv own env A s E _ hs hn hg ha hr fun u s₁ k₁ r₁ => ?_)
  obtain ⟨t', rfl⟩ := rep_bytes r₁
  refine wpAny_Slice (EvP.some hl own env A s₁ E _ hs (hn.keeps k₁.heap) (hg.keeps k₁.heap) (ha.keeps k₁.heap) hr fun vl s₂ k₂ p₂ => ?_)
  have k12 := k₁.trans k₂
  refine EvP.some hu own env A s₂ E _ hs (hn.keeps k12.heap) (hg.keeps k12.heap) (ha.keeps k12.heap) hr fun vu s₃ k₃ p₃ => ?_
  have k13 := k12.trans k₃
  refine EvP.none own env A s₃ E _ hs (hn.keeps k13.heap) (hg.keeps k13.heap) (ha.keeps k13.heap) hr fun vst s₄ k₄ p₄ => ?_
  have k14 := k13.trans k₄
  cases p₄
  refine tail_of_ItemOn (ops := [.ref s₄.heap.objs.size, .bytes (bOf l) t']) ⟨"bytes", _, FB.slot_bytes_getitem.lookup, typeIs_bytes _ _ _, getItem_meets (typeIs_bytes _ _ _) (by decide) FB.slot_bytes_getitem FB.entry_bytes_getitem (FB.args_bytes_getitem_2 _ _) (KBc.meets_slice2 (bOf l) t' _ p₂ p₃)
    ⟨Heap.IsSliceOf.new _ _ _ _, Nat.le_trans (KBc.size_picked_le _ _ _) (by rw [bOf_size]; exact size_le (by omega)), fun t'' k' => ?_⟩⟩ (by with_unfolding_all rfl) (ht _ _)
  rw [picked_bOf l ha' hc']
  exact hQ _ _ (k14.trans (Kp.push s₄ { cls := .type "slice", data := .fields #[vl, vu, .none] } |>.trans (Kp.toks _ _))) (.bytes _ _)
theorem Tr.bytes {e : Expr} {l : List Nat} (h : Ev prog w mg mb k sc e σ (eB l)) (hsz : l.length < 2 ^ 30) (he : ∀ env whole, isTrue e env whole = (do let v ← whole; standAt e.pos; holding [v] (truthy v)) := by intro _ _; rfl) : Tr prog w mg mb k sc e σ (decide (0 < l.length)) :=
  fun own env A s E Q hs hn hg ha hr hQ => wpAny_isTrue_value (h own env A s E _ hs hn hg ha hr fun v s' k' r => by
    obtain ⟨t, rfl⟩ := rep_bytes r
    refine truthy_bytes (by rw [bOf_size]; omega) ?_
    have e1 : (((bOf l).size : Int) != 0) = decide (0 < l.length) := by
      rw [bOf_size]; cases l with
      | nil => rfl
      | cons a l => simp; omega
    rw [e1]
    exact hQ _ (k'.trans (Kp.toks s' _))) (he _ _)
/-- isinstance(e, bytes) -/
theorem Ev.isBytes {e : Expr} {l : List Nat} {p p2 pos : Pos} (hm : ∀ h, Gd w mg mb h → mg "isinstance" = none) (hx : isGl sc "isinstance" = true) (hm2 : ∀ h, Gd w mg mb h → mg "bytes" = none) (hx2 : isGl sc "bytes" = true) (h : Ev prog w mg mb k sc e σ (eB l))
    (he1 : ∀ env, starEach [e, .Name "bytes" p2] env = (false, eval e env) :: starEach [.Name "bytes" p2] env := by intro _; rfl) : Ev prog w mg mb k sc (.Call (.Name "isinstance" p) [e, .Name "bytes" p2] [] pos) σ (.bool true) := by
  intro own env A s E Q hs hn hg ha hr hQ
  subst hs
  refine wpAny_Call_ofName (blt_load hn hg hx (hm _ hg) ((hg.bb _ (by decide)).trans boot_isinstance) ?_)
  refine callWith_builtin1 (args_cons (h own env A s E _ rfl hn hg ha hr fun u s₁ k₁ r₁ => args_cons (blt_load (hn.keeps k₁.heap) (hg.keeps k₁.heap) hx2 (hm2 _ hg) ((hg.bb _ (by decide)).trans boot_bytes) (args_nil ?_)) (by rfl)) (he1 env)) (he1 env)
  obtain ⟨t, rfl⟩ := rep_bytes r₁
  exact call_isinstance (isinstance_true (Tx := "bytes") (by kernel_rfl) F.sub_bytes_bytes) ⟨typeIs_bytes _ _ _, hQ _ _ k₁ (.bool true)⟩

/-- a walk over bytes -/
theorem src_bytes (hh : A.handled = none) {I : Addr} {l : List Nat} {t : Tok} (h8 : ∀ n ∈ l, n < 256) : Src prog w A I (l.map eN) (fun _ i h => KBw.IsBytesIter h I (bOf l) t i) where
  obj := fun own i h hs => let ⟨o, ho, hc, hd⟩ := hs; ⟨o, _, ho, hd⟩
  frame := fun own i h h' hs hk => let ⟨o, ho, r⟩ := hs; ⟨o, hk _ _ ho (.inl rfl), r⟩
  more := fun _ _ _ _ hs _ => hs
  item := by
    intro own i s Q E d hx hs hQ
    obtain ⟨n, hn, rfl⟩ : ∃ n, l[i]? = some n ∧ eN n = d := by rwa [List.getElem?_map, Option.map_eq_some_iff] at hx
    have hi := (List.getElem?_eq_some_iff.mp hn).1
    refine (KBw.walks hh I (bOf l) t).item i s Q E (by rw [bOf_size]; exact hi) hs fun v h' tk hv hst hk => ?_
    obtain ⟨c, u, hc, rfl⟩ := hv
    have e : (c.toNat : Int) = (n : Int) := by
      have h1 : (bOf l)[i]? = some n.toUInt8 := by simp [bOf, hn]
      rw [h1] at hc
      cases hc
      rw [u8 (h8 n (List.mem_of_getElem? hn))]
    have e2 : Value.int (↑c.toNat) u = .int n u := by rw [e]
    rw [e2]
    exact hQ _ h' tk (.int _ _) hst fun b o hb e => hk b o (by simpa using hb) e
  done := by
    intro own s Q E hs hQ
    rw [List.length_map, ← bOf_size] at hs
    exact (KBw.walks hh I (bOf l) t).done s Q E hs fun h' tk hk => hQ h' tk fun b o hb e => hk b o (by simpa using hb) e
  self := fun own i s Q E hs hQ => (KBw.walks hh I (bOf l) t).self i s Q E hs hQ
theorem Itr.bytes {e : Expr} {l : List Nat} (h : Ev prog w mg mb k sc e σ (eB l)) (h8 : ∀ n ∈ l, n < 256) : Itr prog w mg mb k sc e σ (l.map eN) := by
  intro own env A s E Q hs he hg ha hr hQ
  refine h own env A s E _ hs he hg ha hr fun v s₁ k₁ r => ?_
  obtain ⟨t, rfl⟩ := rep_bytes r
  refine KBw.pyIter_bytes ?_
  refine hQ s₁.heap.objs.size _ _ (k₁.trans (Kp.push _ _)) ?_ (src_bytes (t := t) hr.handled h8) ⟨_, Heap.get?_push_size _ rfl, rfl, rfl⟩
  cases q : s.heap.get? s₁.heap.objs.size with
  | none => rfl
  | some o' => exact absurd (Heap.lt_size (k₁.heap _ _ q)) (Nat.lt_irrefl _)
/-- bytes(e) -/
theorem Ev.toBytes {p pos : Pos} {e : Expr} {l : List Nat} (hm : ∀ h, Gd w mg mb h → mg "bytes" = none) (hx : isGl sc "bytes" = true) (h : Ev prog w mg mb k sc e σ (eL l)) (h8 : ∀ n ∈ l, n < 256) (hsz : l.length < 2 ^ 20)
    (he : ∀ env, starEach [e] env = (false, eval e env) :: starEach [] env := by intro _; rfl) : Ev prog w mg mb k sc (.Call (.Name "bytes" p) [e] [] pos) σ (eB l) := by
  intro own env A s E Q hs hn hg ha hr hQ
  subst hs
  refine wpAny_Call_ofName (blt_load hn hg hx (hm _ hg) ((hg.bb _ (by decide)).trans boot_bytes) ?_)
  refine callWith_type1 (args_cons (h own env A s E _ rfl hn hg ha hr fun v s₁ k₁ r => args_nil ?_) (he env)) (he env)
  cases r with
  | @list a o vs n _ hna e hc hd hra =>
    have hra' : RepAll own s₁.heap vs.toList ((l.map fun (n : Nat) => (n : Int)).map .int) := by rw [List.map_map]; exact hra
    obtain ⟨xs, e1, e2⟩ := repAll_ints hra'
    have hi : IntsAre vs.toList (l.map fun (n : Nat) => (n : Int)) := by
      rw [e1, ← e2]
      clear e1 e2 hra' hra hd
      induction xs with
      | nil => exact .nil
      | cons x r ih => exact .cons _ _ ih
    have hl : vs.toList.length = l.length := by have := hra.length; simpa using this
    refine call_bytes_ints (ns := l.map fun (n : Nat) => (n : Int)) (vs := vs.toList) ⟨o, e, hc.1, n, by rw [hd, Array.toArray_toList]⟩ hi ?_ (by rw [hl]; exact size_le (by omega)) hr.handled fun h' t k' hk => ?_
    · intro n hn
      obtain ⟨m, hm, rfl⟩ := List.mem_map.mp hn
      have := h8 m hm
      omega
    · have e3 : byteArr (l.map fun (n : Nat) => (n : Int)) = bOf l := by simp [byteArr, bOf, Function.comp_def]
      rw [e3]
      exact hQ _ _ (k₁.trans (Kp.of s₁ k' hk)) (.bytes _ _)
end
end Mine
end
section
open PySem PySem.W PyProof.Rows PySem.Calls
set_option Elab.async false
set_option linter.unusedVariables false
set_option maxRecDepth 100000
namespace Mine
section
variable {prog : Program} {w : World} {mg mb : Str → Option Value} {k : Nat} {sc : Scope} {σ σ' : Sig} {own₀ lown lown' : List Addr} {X : Addr → Prop} {s₀ s s' : Shared} {env : Env} {A : Around} {E : Value → Shared → Prop}

/-- the def read of _law_stream -/
noncomputable def rdDef : Arguments × List Stmt × Scope := match (fdOf 105).body with
  | .stmts (_ :: _ :: .FunctionDef _ params body _ _ _ scope _ _ _ :: _) => (params, body, scope)
  | _ => default
/-- rd is that def, over the place pl and the octets l -/
noncomputable def Rdr (N : Addr → Prop) (h : Heap) (rd pl : Addr) (l : List Nat) : Prop := ∃ qual clos doc pm c' ctv co cp t, h.get? rd = some (fnMade (Str.ofString "read") qual rdDef.1 rdDef.2.1 rdDef.2.2 clos doc pm c' ctv) ∧ h.CodeRec (.ref c') qual ∧
  clos.lookup (Str.ofString "octets") = some co ∧ h.IsCell co (some (.bytes (bOf l) t)) ∧ clos.lookup (Str.ofString "place") = some cp ∧ h.IsCell cp (some (.ref pl)) ∧ ¬ N co ∧ ¬ N cp
theorem Rdr.at {N : Addr → Prop} {h h' : Heap} {rd pl : Addr} {l : List Nat} (r : Rdr N h rd pl l) (hk : ∀ b o, (∀ vs n, o.data ≠ .seq vs n) → (¬ N b ∨ (∃ fd, o.data = .func fd) ∨ ∃ fs, o.data = .fields fs) → h.get? b = some o → h'.get? b = some o) : Rdr N h' rd pl l := by
  obtain ⟨qual, clos, doc, pm, c', ctv, co, cp, t, e1, ⟨c2, oc, vs, tt, q1, q2, q3, q4⟩, e3, ⟨o4, e4, d4⟩, e5, ⟨o6, e6, d6⟩, n1, n2⟩ := r
  exact ⟨qual, clos, doc, pm, c', ctv, co, cp, t, hk _ _ (fun _ _ q => by cases q) (.inr (.inl ⟨_, rfl⟩)) e1, ⟨c2, oc, vs, tt, q1, hk _ _ (fun _ _ q => by rw [q3] at q; cases q) (.inr (.inr ⟨_, q3⟩)) q2, q3, q4⟩, e3, ⟨o4, hk _ _ (fun _ _ q => by rw [d4] at q; cases q) (.inl n1) e4, d4⟩, e5, ⟨o6, hk _ _ (fun _ _ q => by rw [d6] at q; cases q) (.inl n2) e6, d6⟩, n1, n2⟩

/-- a frame over a closure: its names -/
theorem clo_envOk {h : Heap} {L pl : Addr} {l : List Nat} {n : Nat} {tn : Tok} {m : Str → Option Value} {clos : List (Str × Addr)} {co cp : Addr} {t : Tok} (hsc : env.scope = rdDef.2.2) (hL : env.locals = L) (hc : env.cells = clos) (hg : env.globals = mainGlobals) (hb : env.builtins = builtinsNs)
    (hn : h.Ns L m) (e3 : clos.lookup (Str.ofString "octets") = some co) (e4 : h.IsCell co (some (.bytes (bOf l) t))) (e5 : clos.lookup (Str.ofString "place") = some cp) (e6 : h.IsCell cp (some (.ref pl))) (hp : PlainL h pl #[.int (n : Int) tn]) {τ : Sig}
    (hτ : ∀ z e, τ.lookup z = some e → rdDef.2.2.names.lookup z = some .local ∧ ∃ v, m z = some v ∧ RepF [] h v e) : EnvOk [] env h (τ ++ [(Str.ofString "octets", (none, eB l)), (Str.ofString "place", (none, .list [eN n]))]) := by
  refine ⟨hg, hb, by rw [hsc]; rfl, fun z e hz => ?_⟩
  have hz2 : τ.lookup z = some e ∨ [(Str.ofString "octets", (none, eB l)), (Str.ofString "place", ((none : Option Addr), Dt.list [eN n]))].lookup z = some e := by
    clear hτ
    induction τ with
    | nil => exact .inr hz
    | cons p r ih =>
      by_cases hzp : z = p.1
      · subst hzp
        rw [List.cons_append, show p :: (r ++ _) = (p.1, p.2) :: (r ++ _) from rfl, List.lookup_cons] at hz
        simp at hz
        exact .inl (by rw [show p :: r = (p.1, p.2) :: r from rfl, List.lookup_cons]; simp [hz])
      · rw [List.cons_append, show p :: (r ++ _) = (p.1, p.2) :: (r ++ _) from rfl, lookup_ne hzp] at hz
        rw [show p :: r = (p.1, p.2) :: r from rfl, lookup_ne hzp]
        exact ih hz
  have kz : env.kindOf z = rdDef.2.2.names.lookup z := by unfold Env.kindOf; rw [hsc]
  rcases hz2 with hz2 | hz2
  · obtain ⟨h1, v, h2, h3⟩ := hτ z e hz2
    refine ⟨fun _ => ⟨m, v, by rw [hL]; exact hn, h2, h3⟩, fun q => ?_⟩
    rw [kz, h1] at q; rcases q with q | q <;> cases q
  · by_cases z1 : z = Str.ofString "octets"
    · subst z1
      rw [List.lookup_cons] at hz2; simp at hz2; subst hz2
      have k1 : env.kindOf (Str.ofString "octets") = some .free := by rw [kz]; rfl
      exact ⟨fun q => by (rw [k1] at q; cases q), fun _ => ⟨co, _, by rw [hc]; exact e3, e4, .bytes _ _⟩⟩
    · rw [lookup_ne z1] at hz2
      by_cases z2 : z = Str.ofString "place"
      · subst z2
        rw [List.lookup_cons] at hz2; simp at hz2; subst hz2
        have k1 : env.kindOf (Str.ofString "place") = some .free := by rw [kz]; rfl
        obtain ⟨o, nn, e, c, dd, d⟩ := hp
        exact ⟨fun q => by (rw [k1] at q; cases q), fun _ => ⟨cp, _, by rw [hc]; exact e5, e6, .list (by simp) e ⟨c, dd⟩ d (.cons (.int _ _) .nil)⟩⟩
      · rw [lookup_ne z2] at hz2; cases hz2
theorem plain_lo {h : Heap} {pl : Addr} {vs : Array Value} (hp : PlainL h pl vs) (hlo : (hd0.heap_1 w.params).lookup pl = none) : Lo w h pl := by
  obtain ⟨o, n, e, c, dd, d⟩ := hp
  exact ⟨o, e, fun es m q => by (rw [d] at q; cases q), fun q => by (rw [c] at q; simp at q), hlo⟩
theorem setItem_plain {l : Addr} {items : Array Value} {k : Int} {t : Tok} {v : Value} {Q : Unit → Shared → Prop} (hl : PlainL s.heap l items) (h0 : 0 ≤ k) (hfit : k < 2 ^ 63) (hn : k < items.size)
    (hQ : ∀ h', PlainL h' l (items.setIfInBounds k.toNat v) → Heap.SameBut l s.heap h' → Q () { s with heap := h' }) : wpAny (model prog w) A (setItem (.ref l) (.int k t) v) Q E s := by
  obtain ⟨o, n0, ho, hc, hdi, hd⟩ := id hl
  have hL := plainL_list hl
  unfold setItem
  try with_reducible refine wpAny_holding ?_
  first | refine wpAny_bind (wpAny_pure ?_) | skip
  refine wpAny_bind (wpAny_sequenceKey hL.typeIs (by decide) ?_)
  refine wpAny_bind (wpAny_callSpecial?_slot (name := Str.ofString "__setitem__") hL.typeIs slot_list_setitem
    (wpAny_call_entry slot_list_setitem hL.typeIs entry_list_setitem ?_ (args_list_setitem _ _ _)))
  show wpAny _ _ (Builtin.List.listSubscript? (.int k t) >>= _) _ _ s
  refine wpAny_bind (wpAny_listSubscript_int (fitsIndex_of h0 hfit) ?_)
  clear hfit
  obtain ⟨j, rfl⟩ := Int.eq_ofNat_of_zero_le h0
  have hj : j < items.size := by omega
  have hx' : items[j]? = some items[j] := Array.getElem?_eq_getElem hj
  show wpAny _ _ ((seqItemAt l j >>= fun r => pure (r.map (j, ·))) >>= _) _ _ s
  refine wpAny_bind (wpAny_bind (wpAny_seqItemAt ho hd (wpAny_pure ?_)))
  rw [hx']
  show wpAny _ _ (setSeqItemAt l j v >>= _) _ _ s
  obtain ⟨n', hd'⟩ := Obj.data_mapSeq hd (·.setIfInBounds j v)
  have hfin : PlainL (s.heap.update l (Obj.mapSeq (·.setIfInBounds j v))) l (items.setIfInBounds j v) := by
    refine ⟨_, n', Heap.get?_update_self _ ho (Obj.isFreed_of_seq hd'), (Obj.cls_mapSeq ..).trans hc, ?_, hd'⟩
    obtain ⟨c, d, dt, sl⟩ := o
    cases dt <;> exact hdi
  refine wpAny_bind (wpAny_setSeqItemAt ho hd ?_)
  first
    | exact wpAny_bind (wpAny_pure (wpAny_pure ⟨.none, rfl, wpAny_pure (hQ _ hfin (Heap.SameBut.update ..))⟩))
    | exact wpAny_pure ⟨.none, rfl, wpAny_pure (hQ _ hfin (Heap.SameBut.update ..))⟩
set_option maxHeartbeats 4000000 in
/-- read(count) -/
theorem call_read {N : Addr → Prop} {rd pl : Addr} {l : List Nat} {n c : Nat} {tn tc : Tok} {Q : Value → Shared → Prop} (hg : Gd w mg mb s.heap) (hr : Room (k + 1) A) (R : Rdr N s.heap rd pl l) (hp : PlainL s.heap pl #[.int (n : Int) tn]) (hlo : (hd0.heap_1 w.params).lookup pl = none) (hn : n ≤ l.length) (hl : l.length < 2 ^ 20)
    (hQ : ∀ t t' s', Kb (fun b => b = pl) s s' → PlainL s'.heap pl #[.int ((min l.length (n + c) : Nat) : Int) t'] → Q (.bytes (bOf ((l.drop n).take (min l.length (n + c) - n))) t) s') : wpAny (model prog w) A (call (.ref rd) [.int (c : Int) tc]) Q E s := by
  obtain ⟨qual, clos, doc, pm, c', ctv, co, cp, t, e1, e2, e3, e4, e5, e6, _⟩ := R
  refine wpAny_call (codeAny_call_function (by have := hr.depth; omega) e1 rfl rfl rfl rfl e2 ?_)
  show wpAny _ _ (pure [(Str.ofString "count", Value.int (c : Int) tc)]) _ _ _
  refine wpAny_pure (wpAny_newFunctionEnv (fun x hx => by have := List.all_eq_true.mp (show (rdDef.2.2.names.all fun x => x.2 != .cell) = true from rfl) x hx; simpa using this) (fun x hx => by rw [List.mem_singleton.mp hx]; rfl) (fun h₁ hns hsb => ?_) rfl)
  have k₁ : ∀ b o, s.heap.get? b = some o → h₁.get? b = some o := fun b o e => hsb.extBut b o (Nat.ne_of_lt (Heap.lt_size e)) (Heap.get?_push_of_some _ e)
  refine ⟨(hg.lim).keeps k₁, codeAny_func ?_⟩
  generalize hL : s.heap.objs.size = L at *
  generalize henv : newEnv _ L _ _ _ _ _ _ _ = env
  have c1 : env.scope = rdDef.2.2 := by rw [← henv]; rfl
  have c2 : env.locals = L := by rw [← henv]; rfl
  have c3 : env.cells = clos := by rw [← henv]; rfl
  have c4 : env.globals = mainGlobals := by rw [← henv]; rfl
  have c5 : env.builtins = builtinsNs := by rw [← henv]; rfl
  have hsL : s.heap.get? L = none := by
    cases q : s.heap.get? L with
    | none => rfl
    | some o => exact absurd (Heap.lt_size q) (by rw [hL]; exact Nat.lt_irrefl _)
  have hr' := hr.deeper (env := env)
  have kc : ∀ {h h' : Heap} {c : Addr} {v : Value}, (∀ b o, h.get? b = some o → h'.get? b = some o) → h.IsCell c (some v) → h'.IsCell c (some v) := fun hk ⟨o, e, d⟩ => ⟨o, hk _ _ e, d⟩
  -- first = place[0]
  have ok1 := clo_envOk (h := h₁) (τ := [(Str.ofString "count", (none, eN c))]) c1 c2 c3 c4 c5 hns e3 (kc k₁ e4) e5 (kc k₁ e6) (hp.keeps k₁) (by
    intro z e hz
    by_cases hzc : z = Str.ofString "count"
    · subst hzc
      rw [List.lookup_cons] at hz; simp at hz; subst hz
      exact ⟨rfl, _, by simp; rfl, .int _ _⟩
    · rw [lookup_ne hzc] at hz; cases hz)
  have ev1 : Ev prog w mg mb k rdDef.2.2 _ _ _ := Ev.itemN (p := ⟨78, 16, 78, 24⟩) (xs := [eN n]) (n := 0) (EvT.name (p := ⟨78, 16, 78, 21⟩) (x := Str.ofString "place") (σ := [(Str.ofString "count", (none, eN c))] ++ [(Str.ofString "octets", (none, eB l)), (Str.ofString "place", (none, .list [eN n]))]) rfl rfl) (Ev.lit (i := 0) (kd := 0) (p := ⟨78, 22, 78, 23⟩)) (by decide) rfl
  refine seq_next (wpAny_Assign_Name (ev1 [] env _ { s with heap := h₁, toks := _ } _ _ c1 ok1 (hg.keeps k₁) Alive.nil hr' fun v s₂ k₂ rv => ?_) (by rfl))
  obtain ⟨tf, rfl⟩ := rep_int rv
  have kL : env.kindOf (Str.ofString "first") = some .local := by unfold Env.kindOf; rw [c1]; rfl
  have kfn : (env.scope.kind == .class || (env.scope.kind == .module && env.locals != env.globals)) = false := by rw [c1]; rfl
  obtain ⟨oL, esL, epL, eL, dL, rL⟩ := id (hns.keeps k₂.heap)
  refine wpAny_storeName_local kL (by rw [c2]; exact hns.keeps k₂.heap) (fun h₃ hn₃ hs₃ => ⟨rfl, ?_⟩) kfn
  rw [c2] at hn₃ hs₃
  have k₃ : ∀ b o, s.heap.get? b = some o → h₃.get? b = some o := fun b o e => hs₃.extBut b o (fun q => by rw [q, hsL] at e; cases e) (k₂.heap b o (k₁ b o e))
  have τok : ∀ (h : Heap) (z : Str) (e : Option Addr × Dt), ([(Str.ofString "count", ((none : Option Addr), eN c)), (Str.ofString "first", (none, eN n))] : Sig).lookup z = some e → rdDef.2.2.names.lookup z = some .local ∧ ∃ v, (fun y => if y = Str.ofString "first" then some (Value.int (n : Int) tf) else [(Str.ofString "count", Value.int (c : Int) tc)].reverse.lookup y) z = some v ∧ RepF [] h v e := by
    intro h z e hz
    by_cases hzc : z = Str.ofString "count"
    · subst hzc
      rw [List.lookup_cons] at hz; simp at hz; subst hz
      exact ⟨rfl, .int (c : Int) tc, rfl, .int _ _⟩
    · rw [lookup_ne hzc] at hz
      by_cases hzf : z = Str.ofString "first"
      · subst hzf
        rw [List.lookup_cons] at hz; simp at hz; subst hz
        exact ⟨rfl, .int (n : Int) tf, by simp, .int _ _⟩
      · rw [lookup_ne hzf] at hz; cases hz
  -- place[0] = min(..)
  have ok3 := clo_envOk (h := h₃) (τ := [(Str.ofString "count", (none, eN c)), (Str.ofString "first", (none, eN n))]) c1 c2 c3 c4 c5 hn₃ e3 (kc k₃ e4) e5 (kc k₃ e6) (hp.keeps k₃) (τok h₃)
  have ev2 : Ev prog w mg mb k rdDef.2.2 _ _ _ := Ev.min2N (p := ⟨79, 19, 79, 22⟩) (pos := ⟨79, 19, 79, 50⟩) (gl_none fun _ => rfl) rfl (Ev.lenB (p := ⟨79, 23, 79, 26⟩) (pos := ⟨79, 23, 79, 34⟩) (gl_none fun _ => rfl) rfl (Ev.name (p := ⟨79, 27, 79, 33⟩) (x := Str.ofString "octets") (σ := [(Str.ofString "count", (none, eN c)), (Str.ofString "first", (none, eN n))] ++ [(Str.ofString "octets", (none, eB l)), (Str.ofString "place", (none, .list [eN n]))]) rfl rfl) (by omega))
    (Ev.addN (p := ⟨79, 36, 79, 49⟩) (Ev.name (p := ⟨79, 36, 79, 41⟩) (x := Str.ofString "first") rfl rfl) (Ev.name (p := ⟨79, 44, 79, 49⟩) (x := Str.ofString "count") rfl rfl))
  obtain ⟨⟨h2', tk2', e2'⟩, _⟩ := id k₂
  refine seq_next (wpAny_Assign_Subscript (ev2 [] env _ _ _ _ c1 ok3 (hg.keeps k₃) Alive.nil hr' fun v s₄ k₄ rv₄ => ?_) (by rfl))
  obtain ⟨t4, rfl⟩ := rep_int rv₄
  have hkp : env.kindOf (Str.ofString "place") = some .free := by unfold Env.kindOf; rw [c1]; rfl
  refine wpAny_Name (wpAny_loadName_free (by rw [c1]; rfl) hkp (by rw [c3]; exact e5) (kc k₄.heap (kc k₃ e6)) ?_ (by decide)) (by decide)
  refine wpAny_Constant_int ?_
  have hp₄ : PlainL s₄.heap pl #[.int (n : Int) tn] := (hp.keeps k₃).keeps k₄.heap
  refine setItem_plain (k := 0) (s := { s₄ with toks := _ }) hp₄ (by decide) (by decide) (by simp) fun h₅ hp₅ hs₅ => ⟨rfl, ?_⟩
  have hp₅ : PlainL h₅ pl #[.int ((min l.length (n + c) : Nat) : Int) t4] := hp₅
  have hs₅ : Heap.SameBut pl s₄.heap h₅ := hs₅
  obtain ⟨op, np, ep, cp', dp, dap⟩ := id hp₄
  have npl : ∀ {b : Addr} {o : Obj}, s₄.heap.get? b = some o → NotSeq o → b ≠ pl := fun e nn q => by subst q; rw [ep] at e; cases e; exact nn _ _ dap
  have k₅ : ∀ b o, b ≠ pl → s.heap.get? b = some o → h₅.get? b = some o := fun b o hb e => hs₅.extBut b o hb (k₄.heap b o (k₃ b o e))
  have kc₅ : ∀ {c : Addr} {v : Value}, s.heap.IsCell c (some v) → h₅.IsCell c (some v) := fun {c v} x => by
    obtain ⟨o, e, d⟩ := kc k₄.heap (kc k₃ x)
    exact ⟨o, hs₅.extBut c o (npl e fun us n q => by rw [d] at q; cases q) e, d⟩
  have hn₅ : h₅.Ns L (fun y => if y = Str.ofString "first" then some (Value.int (n : Int) tf) else [(Str.ofString "count", Value.int (c : Int) tc)].reverse.lookup y) := by
    have h4 := hn₃.keeps k₄.heap
    obtain ⟨o, es, epp, e, d, r⟩ := id h4
    exact h4.sameBut hs₅ (npl e fun us n q => by rw [d] at q; cases q)
  have hg₅ : Gd w mg mb h₅ := hg.but (X := fun b => b = pl) (fun b hb => by subst hb; exact plain_lo hp hlo) k₅
  have ok5 := clo_envOk (h := h₅) (τ := [(Str.ofString "count", (none, eN c)), (Str.ofString "first", (none, eN n))]) c1 c2 c3 c4 c5 hn₅ e3 (kc₅ e4) e5 (kc₅ e6) hp₅ (τok h₅)
  have hmin : min l.length (n + c) ≤ l.length := Nat.min_le_left _ _
  have ev3 : Ev prog w mg mb k rdDef.2.2 _ _ _ := Ev.cutB (q := ⟨80, 22, 80, 36⟩) (p := ⟨80, 15, 80, 37⟩) (Ev.name (p := ⟨80, 15, 80, 21⟩) (x := Str.ofString "octets") (σ := [(Str.ofString "count", (none, eN c)), (Str.ofString "first", (none, eN n))] ++ [(Str.ofString "octets", (none, eB l)), (Str.ofString "place", (none, .list [eN (min l.length (n + c))]))]) rfl rfl) (Ev.name (p := ⟨80, 22, 80, 27⟩) (x := Str.ofString "first") rfl rfl)
    (Ev.itemN (p := ⟨80, 28, 80, 36⟩) (xs := [eN (min l.length (n + c))]) (n := 0) (EvT.name (p := ⟨80, 28, 80, 33⟩) (x := Str.ofString "place") rfl rfl) (Ev.lit (i := 0) (kd := 0) (p := ⟨80, 34, 80, 35⟩)) (by decide) rfl) hn hmin hl
  refine wpAny_execs_cons (wpAny_Return_some (ev3 [] env _ _ _ _ c1 ok5 hg₅ Alive.nil hr' fun v s₆ k₆ rv => ?_))
  obtain ⟨t6, rfl⟩ := rep_bytes rv
  refine hQ t6 t4 s₆ ⟨?_, fun b o hb e => k₆.heap b o (k₅ b o hb e)⟩ (hp₅.keeps k₆.heap)
  obtain ⟨⟨h6, tk6, rfl⟩, _⟩ := k₆
  obtain ⟨⟨h4, tk4, rfl⟩, _⟩ := k₄
  subst e2'
  exact ⟨_, _, rfl⟩
end
end Mine
end
section
open PySem PySem.W PyProof.Rows PySem.Calls
set_option Elab.async false
set_option linter.unusedVariables false
set_option maxRecDepth 100000
namespace Mine
section
variable {prog : Program} {w : World} {mg mb : Str → Option Value} {k : Nat} {sc : Scope} {σ σ' : Sig} {own₀ lown lown' : List Addr} {X : Addr → Prop} {s₀ s s' : Shared} {env : Env} {A : Around} {E : Value → Shared → Prop}

/-- a list turned, all else stands -/
theorem Fs.chgX (F : Fs w mg mb own₀ lown X s₀ env σ s) {a : Addr} {vs' : Array Value} (k' : Kb (fun b => b = a) s s') (ha : a ∈ lown ++ own₀) (hM : Mu X s₀ a) (hp : PlainL s'.heap a vs') (hfl : ∀ p ∈ σ, p.2.1 ≠ some a) : Fs w mg mb own₀ lown X s₀ env σ s' := by
  obtain ⟨⟨h', tk, rfl⟩, hk⟩ := k'
  have hs : Heap.ExtBut a s.heap h' := fun b o hb e => hk b o hb e
  obtain ⟨vs0, o0, e0, c0, n0, d0⟩ := F.alive a ha
  refine ⟨?_, fun b o hb e => hs b o (fun q => ?_) (F.keep b o hb e), F.glob, F.blt, F.kind, F.locMu, ?_, fun y hy => ?_, F.nofree, F.apart, fun b hb => ?_, F.newl, fun b hb => ?_, F.disj, F.gd⟩
  · obtain ⟨h1, t1, rfl⟩ := F.same; exact ⟨_, _, rfl⟩
  · subst q
    rcases hM with r | r
    · exact hb r
    · rw [r] at e; cases e
  · obtain ⟨m, hn, h⟩ := F.ns
    obtain ⟨oL, es, ep, eL, dL, _⟩ := id hn
    have hLa : env.locals ≠ a := fun q => by rw [q, e0] at eL; cases eL; rw [d0] at dL; cases dL
    refine ⟨m, hn.extBut hs hLa, fun y e hy hk' => ?_⟩
    obtain ⟨v, h3, h4⟩ := h y e hy hk'
    exact ⟨v, h3, h4.ownBut ha (hfl _ (PySem.mem_of_lookup hy)) hs⟩
  · obtain ⟨c, v, h1, h2, ⟨o, e, d⟩, h4⟩ := F.cell y hy
    have hca : c ≠ a := fun q => by rw [q, e0] at e; cases e; rw [d0] at d; cases d
    refine ⟨c, v, h1, h2, ⟨o, hs c o hca e, d⟩, fun e he => ?_⟩
    obtain ⟨v', h7, h8⟩ := h4 e he
    exact ⟨v', h7, h8.ownBut ha (hfl _ (PySem.mem_of_lookup he)) hs⟩
  · by_cases q : b = a
    · subst q; exact ⟨vs', plainL_list hp⟩
    · obtain ⟨vs, o, e, r⟩ := F.alive b hb
      exact ⟨vs, o, hs b o q e, r⟩
  · by_cases q : b = a
    · subst q
      obtain ⟨o, n, e, _⟩ := hp
      exact ⟨o, e, .inl ha⟩
    · obtain ⟨o, e, r⟩ := F.live b hb
      exact ⟨o, hs b o q e, r⟩
/-- the frame of a call, with objects around that may turn -/
theorem Fs.widenO (F : Fs w mg mb own₀ lown (fun _ => False) s₀ env σ s) (X : Addr → Prop) (hX : ∀ b, X b → b ∈ own₀ ∨ ∃ o, s.heap.get? b = some o ∧ NotSeq o) (hg : ∀ h', (∀ b o, ¬ X b → s₀.heap.get? b = some o → h'.get? b = some o) → Gd w mg mb h') : Fs w mg mb own₀ lown X s₀ env σ s where
  same := F.same
  keep := fun b o _ e => F.keep b o id e
  glob := F.glob
  blt := F.blt
  kind := F.kind
  locMu := F.locMu.elim (fun q => q.elim) .inr
  ns := F.ns
  cell := fun x hx => let ⟨c, v, h1, h2, h3, h4⟩ := F.cell x hx; ⟨c, v, h1, h2.elim (fun q => q.elim) .inr, h3, h4⟩
  nofree := F.nofree
  apart := F.apart
  alive := F.alive
  newl := fun a ha => (F.newl a ha).elim (fun q => q.elim) .inr
  live := fun b hb => by
    rcases hX b hb with q | ⟨o, e, n⟩
    · obtain ⟨vs, o, e, _⟩ := F.alive b (List.mem_append_right _ q)
      exact ⟨o, e, .inl (List.mem_append_right _ q)⟩
    · exact ⟨o, e, .inr n⟩
  disj := F.disj
  gd := hg

/-- st is a stream over the place pl and the octets l -/
noncomputable def Stm (N : Addr → Prop) (h : Heap) (st pl : Addr) (l : List Nat) : Prop := ∃ o fd d m rd, h.get? st = some o ∧ o.cls = .type "function" ∧ o.dict = some d ∧ o.data = .func fd ∧ h.Ns d m ∧ m "read" = some (.ref rd) ∧ Rdr N h rd pl l ∧ ¬ N d
theorem Stm.at {N : Addr → Prop} {h h' : Heap} {st pl : Addr} {l : List Nat} (r : Stm N h st pl l) (hk : ∀ b o, (∀ vs n, o.data ≠ .seq vs n) → (¬ N b ∨ (∃ fd, o.data = .func fd) ∨ ∃ fs, o.data = .fields fs) → h.get? b = some o → h'.get? b = some o) : Stm N h' st pl l := by
  obtain ⟨o, fd, d, m, rd, e1, e2, e3, e4, ⟨on, es, ep, en, dn, rn⟩, e6, e7, e8⟩ := r
  exact ⟨o, fd, d, m, rd, hk _ _ (fun _ _ q => by rw [e4] at q; cases q) (.inr (.inl ⟨_, e4⟩)) e1, e2, e3, e4, ⟨on, es, ep, hk _ _ (fun _ _ q => by rw [dn] at q; cases q) (.inl e8) en, dn, rn⟩, e6, e7.at hk, e8⟩
theorem Stm.kb {N : Addr → Prop} {st pl : Addr} {l : List Nat} {vs : Array Value} (r : Stm N s.heap st pl l) (hp : PlainL s.heap pl vs) (k' : Kb (fun b => b = pl) s s') : Stm N s'.heap st pl l := by
  obtain ⟨o, n, e, _, _, d⟩ := hp
  exact r.at fun b o' hn _ e' => k'.heap b o' (fun q => by subst q; rw [e] at e'; cases e'; exact hn _ _ d) e'
theorem Stm.kp {N : Addr → Prop} {st pl : Addr} {l : List Nat} (r : Stm N s.heap st pl l) (k' : Kp s s') : Stm N s'.heap st pl l := r.at fun b o _ _ e => k'.heap b o e
/-- a table turns -/
theorem Stm.tb {N : Addr → Prop} {st pl P : Addr} {l : List Nat} {ps : Array Value} (r : Stm N s.heap st pl l) (hP : s.heap.get? P = some (tabObj ps)) (k' : Kb (fun b => b = P) s s') (hcd : ∀ b o fs, s.heap.get? b = some o → o.data = .fields fs → b ≠ P → s'.heap.get? b = some o) (hnP : ∀ qual t, ps[1]? ≠ some (.str qual t)) : Stm N s'.heap st pl l := by
  obtain ⟨o, fd, d, m, rd, e1, e2, e3, e4, ⟨on, es, ep, en, dn, rn⟩, e6, ⟨qual, clos, doc, pm, c', ctv, co, cp, t, f1, ⟨c2, oc, vs, tt, q1, q2, q3, q4⟩, f3, ⟨o4, f4, d4⟩, f5, ⟨o6, f6, d6⟩, n1, n2⟩, e8⟩ := r
  have ne : ∀ b o, s.heap.get? b = some o → (∀ fs, o.data ≠ .fields fs) → s'.heap.get? b = some o := fun b o e hn => k'.heap b o (fun q => by subst q; rw [hP] at e; cases e; exact hn _ rfl) e
  refine ⟨o, fd, d, m, rd, ne _ _ e1 (fun fs q => by rw [e4] at q; cases q), e2, e3, e4, ⟨on, es, ep, ne _ _ en (fun fs q => by rw [dn] at q; cases q), dn, rn⟩, e6, ⟨qual, clos, doc, pm, c', ctv, co, cp, t, ne _ _ f1 (fun fs q => by cases q), ⟨c2, oc, vs, tt, q1, hcd _ _ _ q2 q3 (fun q => ?_), q3, q4⟩, f3, ⟨o4, ne _ _ f4 (fun fs q => by rw [d4] at q; cases q), d4⟩, f5, ⟨o6, ne _ _ f6 (fun fs q => by rw [d6] at q; cases q), d6⟩, n1, n2⟩, e8⟩
  subst q
  rw [hP] at q2; cases q2; cases q3
  exact hnP _ _ q4
theorem hold_stm {N : Addr → Prop} {st pl : Addr} {l : List Nat} {L : List Addr} {Z : Addr → Prop} (F : Fs w mg mb own₀ lown X s₀ env σ s) (F' : Fs w mg mb own₀ lown' (fun b => Z b ∧ ¬ Hold env s L b) s env σ' s') (r : Stm N s.heap st pl l) (hN : ∀ b, ¬ Apart env b → N b) : Stm N s'.heap st pl l :=
  r.at fun b o hn ha e => hold_not F' (by
    rcases ha with ha | ⟨fd, d⟩ | ⟨fs, d⟩
    · exact Classical.byContradiction fun q => ha (hN b q)
    · exact F.apartOf e (fun es n q => by rw [d] at q; cases q) (fun c q => by rw [d] at q; cases q)
    · exact F.apartOf e (fun es n q => by rw [d] at q; cases q) (fun c q => by rw [d] at q; cases q)) e hn
/-- f.read(e) -/
theorem Fs.read (F : Fs w mg mb own₀ lown X s₀ env σ s) (hr : Room (k + 1) A) (hsc : env.scope = sc) {N : Addr → Prop} {f : Str} {st pl : Addr} {l : List Nat} {n c : Nat} {tn : Tok} {arg : Expr} {fp apos pos : Pos} {Q : Value → Shared → Prop} (hx : σ.lookup f = some (none, .any (.ref st))) (ho : isOwn sc f = true)
    (hS : Stm N s.heap st pl l) (hp : PlainL s.heap pl #[.int (n : Int) tn]) (hlo : (hd0.heap_1 w.params).lookup pl = none) (hn : n ≤ l.length) (hl : l.length < 2 ^ 20) (harg : Ev prog w mg mb (k + 1) sc arg σ (eN c)) (hpl : pl ∈ lown ++ own₀) (hM : Mu X s₀ pl) (hfl : ∀ p ∈ σ, p.2.1 ≠ some pl)
    (h : ∀ v s' t', Fs w mg mb own₀ lown X s₀ env σ s' → PlainL s'.heap pl #[.int ((min l.length (n + c) : Nat) : Int) t'] → Kb (fun b => b = pl) s s' → Rep (lown ++ own₀) s'.heap v (eB ((l.drop n).take (min l.length (n + c) - n))) → Q v s')
    (hbase : ∀ env, attributeBase (.Name f fp) "read" env (eval (.Name f fp) env) = eval (.Name f fp) env := by intro _; rfl) (hline : (apos.endLine == pos.line) = true := by rfl) (htr : ∀ env, starEach [arg] env = (false, eval arg env) :: starEach [] env := by intro _; rfl) :
    wpAny (model prog w) A (eval (.Call (.Attribute (.Name f fp) "read" apos) [arg] [] pos) env) Q E s := by
  obtain ⟨kd, h1, h2, h3, h4⟩ := isOwn_spec ho
  have hform : methodCallForm (([arg] : List Expr).length + ([] : List Keyword).length) (backTo pos (starEach [arg] env)) (backToKw pos (keywordEach [] env)) = true := by rw [htr env]; rfl
  have hpos : methodCallPos true (.Name f fp) env apos pos = pure pos := by unfold methodCallPos; simp [hline]
  rw [arm_eval_Call, hbase env]
  refine wpAny_bind (wpAny_Name (named_load F.kind (F.envOk.name _ _ hx) (by unfold Env.kindOf; rw [hsc]; exact h1) h2 h3 fun u r₁ => ?_) h4)
  refine wpAny_bind (wpAny_standAt ?_)
  unfold methodCall
  rw [hform]
  rw [rep_any r₁]
  obtain ⟨o, fd, d, m, rd, e1, e2, e3, e4, e5, e6, e7, _⟩ := id hS
  refine wpAny_bind (wpAny_holding (getMethod_fn e1 e2 e3 e4 e5 e6 fun tk => wpAny_bind (wpAny_of_eq hpos ?_)))
  have F₁ := F.kp (Kp.toks s tk)
  obtain ⟨qual, clos, doc, pm, c', ctv, co, cp, t, q1, _⟩ := id e7
  refine callWith_def (o := fnMade (Str.ofString "read") qual rdDef.1 rdDef.2.1 rdDef.2.2 clos doc pm c' ctv) rfl (args_cons (harg _ env A _ _ _ hsc F₁.envOk F₁.gd' F₁.alive hr fun v s₂ k₂ r₂ => args_nil ?_) (htr env)) (htr env)
  obtain ⟨t2, rfl⟩ := rep_int r₂
  have F₂ := F₁.kp k₂
  refine ⟨k₂.heap _ _ q1, call_read F₂.gd' hr (e7.at fun b o _ _ e => k₂.heap b o e) (hp.keeps k₂.heap) hlo hn hl fun t3 t4 s₃ kb hp₃ => ?_⟩
  have kk : Kb (fun b => b = pl) s s₃ := ((Kp.toks s tk).trans k₂).kb.trans kb
  exact h _ s₃ t4 (F₂.chgX kb hpl hM hp₃ hfl) hp₃ kk (.bytes _ _)
theorem take1 {l : List Nat} {n c : Nat} (h : l[n]? = some c) : (l.drop n).take (min l.length (n + 1) - n) = [c] := by
  obtain ⟨h1, h2⟩ := List.getElem?_eq_some_iff.mp h
  rw [Nat.min_eq_right (by omega), show n + 1 - n = 1 by omega, List.drop_eq_getElem_cons h1, h2]
  rfl
set_option maxHeartbeats 4000000 in
/-- read_uint1 -/
theorem call_uint1 {N : Addr → Prop} {st pl : Addr} {l : List Nat} {n c : Nat} {tn : Tok} {own : List Addr} {Q : Value → Shared → Prop} (hg : Gd w mg mb s.heap) (ha : Alive own s.heap) (hpl : pl ∈ own) (hr : Room (k + 2) A) (hS : Stm N s.heap st pl l) (hp : PlainL s.heap pl #[.int (n : Int) tn]) (hlo : (hd0.heap_1 w.params).lookup pl = none)
    (hn : l[n]? = some c) (hc : c < 256) (hl : l.length < 2 ^ 20) (hQ : ∀ t t' s', Kb (fun b => b = pl) s s' → PlainL s'.heap pl #[.int ((n + 1 : Nat) : Int) t'] → Q (.int (c : Int) t) s') : wpAny (model prog w) A (call (.ref 30) [.ref st]) Q E s := by
  have hnl : n < l.length := (List.getElem?_eq_some_iff.mp hn).1
  refine wpAny_call (enter_fs (k := k + 1) (args := [.any (.ref st)]) (ps := [Str.ofString "f"]) hg ha hr (.cons (.any _) .nil) (hg.K 30 (fnObj 30) rfl) rfl ⟨29, _, _, _, rfl, hg.K 29 _ rfl, rfl, rfl⟩ rfl rfl
    (fun Q E A q => by rw [bind1 (fd := fdOf 30) (x := Str.ofString "f") (fun u => rfl) [.ref st] rfl]; exact wpAny_pure q) rfl rfl rfl rfl (by decide) rfl rfl rfl rfl fun s₁ env E' hsc hcode hr' F => ?_)
  have F₁ := F.widenO (fun b => b = pl) (fun b hb => .inl (hb ▸ hpl)) fun h' hk => hg.but (X := fun b => b = pl) (fun b hb => by subst hb; exact plain_lo hp hlo) hk
  have hp₁ := hp.keeps F.kp0.heap
  have S₁ := hS.at fun b o _ _ e => F.kp0.heap b o e
  refine seq_next (wpAny_Assign_Name (F₁.read (k := k) (c := 1) hr' hsc rfl rfl S₁ hp₁ hlo (Nat.le_of_lt hnl) hl Ev.lit hpl (.inl rfl) (by simp) fun v s₂ t' F₂ hp₂ kb₂ rv => ?_) rfl)
  rw [take1 hn] at rv
  have H₂ := F₂.hold (L := [pl]) (by simpa using hpl)
  refine H₂.store (e := (none, eB [c])) rv (stores_spec (by rw [hsc]; rfl)) fun s₃ H₃ => ⟨rfl, ?_⟩
  refine wpAny_execs_cons (H₃.if_ hr' hsc (b := true) (Tr.bytes (l := [c]) (Ev.name rfl rfl) (by simp)) (fun _ s₄ H₄ => ?_) (fun q => by cases q))
  refine wpAny_execs_cons (H₄.ret hr' hsc (Ev.itemB (l := [c]) (n := 0) (c := c) (Ev.name rfl rfl) Ev.lit rfl hc (by simp)) fun v' s₅ H₅ rv' => ?_)
  obtain ⟨t5, rfl⟩ := rep_int rv'
  have F₅ := F₂.unhold (by simpa using hpl) H₅ fun b hb => hb
  have hp₅ := hold_plain H₅ (by simp) hp₂
  rw [Nat.min_eq_right (by omega)] at hp₅
  exact hQ t5 t' s₅ ⟨F₅.same, F₅.keep⟩ hp₅
theorem takeC {l : List Nat} {n c : Nat} (h : n + c ≤ l.length) : (l.drop n).take (min l.length (n + c) - n) = (l.drop n).take c := by
  rw [Nat.min_eq_right h, show n + c - n = c by omega]
set_option maxHeartbeats 4000000 in
/-- read_bytes1 -/
theorem call_bytes1 {N : Addr → Prop} {st pl : Addr} {l : List Nat} {n c : Nat} {tn : Tok} {own : List Addr} {Q : Value → Shared → Prop} (hg : Gd w mg mb s.heap) (ha : Alive own s.heap) (hpl : pl ∈ own) (hr : Room (k + 3) A) (hS : Stm N s.heap st pl l) (hp : PlainL s.heap pl #[.int (n : Int) tn]) (hlo : (hd0.heap_1 w.params).lookup pl = none)
    (hn : l[n]? = some c) (hc : c < 256) (hnc : n + 1 + c ≤ l.length) (hl : l.length < 2 ^ 20) (hQ : ∀ v t' s', Kb (fun b => b = pl) s s' → PlainL s'.heap pl #[.int ((n + 1 + c : Nat) : Int) t'] → Rep own s'.heap v (eB ((l.drop (n + 1)).take c)) → Q v s') : wpAny (model prog w) A (call (.ref 37) [.ref st]) Q E s := by
  refine wpAny_call (enter_fs (k := k + 2) (args := [.any (.ref st)]) (ps := [Str.ofString "f"]) hg ha hr (.cons (.any _) .nil) (hg.K 37 (fnObj 37) rfl) rfl ⟨36, _, _, _, rfl, hg.K 36 _ rfl, rfl, rfl⟩ rfl rfl
    (fun Q E A q => by rw [bind1 (fd := fdOf 37) (x := Str.ofString "f") (fun u => rfl) [.ref st] rfl]; exact wpAny_pure q) rfl rfl rfl rfl (by decide) rfl rfl rfl rfl fun s₁ env E' hsc hcode hr' F => ?_)
  have F₁ := F.widenO (fun b => b = pl) (fun b hb => .inl (hb ▸ hpl)) fun h' hk => hg.but (X := fun b => b = pl) (fun b hb => by subst hb; exact plain_lo hp hlo) hk
  have hp₁ := hp.keeps F.kp0.heap
  have S₁ := hS.at fun b o _ _ e => F.kp0.heap b o e
  -- n = read_uint1(f)
  refine seq_next (wpAny_Assign_Name (wpAny_Call_ofName (glob_load F₁.envOk F₁.gd' (by rw [hsc]; rfl) (gl_fn (a := 30) (fun _ => rfl) _ F₁.gd') (callWith_def (o := fnObj 30) (fd := fdOf 30) rfl (args_cons (Ev.name (d := .any (.ref st)) (x := Str.ofString "f") (sc := (fdOf 37).scope) (k := k + 2) rfl rfl _ env _ s₁ _ _ hsc F₁.envOk F₁.gd' F₁.alive hr' fun u s₂ k₂ ru => args_nil ?_) rfl) rfl))) rfl)
  rw [rep_any ru]
  have F₂ := F₁.kp k₂
  refine ⟨F₂.gd'.K 30 _ rfl, call_uint1 (k := k) F₂.gd' F₂.alive (by simpa using hpl) hr' (S₁.at fun b o _ _ e => k₂.heap b o e) (hp₁.keeps k₂.heap) hlo hn hc hl fun t t' s₃ kb₃ hp₃ => ?_⟩
  have F₃ := F₂.chgX kb₃ (by simpa using hpl) (.inl rfl) hp₃ (by simp)
  have H₃ := F₃.hold (L := [pl]) (by simpa using hpl)
  refine H₃.store (e := (none, eN c)) (.int _ _) (stores_spec (by rw [hsc]; rfl)) fun s₄ H₄ => ⟨rfl, ?_⟩
  -- assert n >= 0
  have cm : Cmp prog w mg mb (k + 2) (fdOf 37).scope _ .GtE _ _ (decide ((c : Int) ≥ 0)) := Cmp.geI (a := (c : Int)) (b := 0) (Ev.name (p := ⟨23, 11, 23, 12⟩) (x := Str.ofString "n") (σ := (Str.ofString "n", (none, eN c)) :: [Str.ofString "f"].zip (List.map (fun d => ((none : Option Addr), d)) [Dt.any (.ref st)])) rfl rfl) (Ev.int (kd := 0) (p := ⟨23, 16, 23, 17⟩))
  have e0 : decide ((c : Int) ≥ 0) = true := by simp
  rw [e0] at cm
  have tr := Tr.cmp (p := ⟨23, 11, 23, 17⟩) cm
  refine seq_next (wpAny_Assert_holds (tr _ env _ s₄ _ _ hsc H₄.envOk H₄.gd' H₄.alive hr' fun s₅ k₅ => ⟨rfl, rfl, ?_⟩))
  have H₅ := H₄.kp k₅
  have F₅ := F₃.unhold (by simpa using hpl) H₅ fun b hb => hb
  have hp₅ := hold_plain H₅ (by simp) hp₃
  have S₅ : Stm N s₅.heap st pl l := hS.at fun b o hn' _ e => F₅.keep b o (fun q => by
    subst q
    obtain ⟨o1, n1, e1, _, _, d1⟩ := hp
    rw [e1] at e; cases e; exact hn' _ _ d1) e
  -- data = f.read(n)
  refine seq_next (wpAny_Assign_Name (F₅.read (k := k + 1) (c := c) hr' hsc rfl rfl S₅ hp₅ hlo (by omega) hl (Ev.name rfl rfl) (by simpa using hpl) (.inl rfl) (by simp) fun v s₆ t6 F₆ hp₆ kb₆ rv => ?_) rfl)
  rw [takeC hnc] at rv
  rw [Nat.min_eq_right hnc] at hp₆
  have H₆ := F₆.hold (L := [pl]) (by simpa using hpl)
  refine H₆.store (e := (none, eB ((l.drop (n + 1)).take c))) rv (stores_spec (by rw [hsc]; rfl)) fun s₇ H₇ => ⟨rfl, ?_⟩
  have hlen : ((l.drop (n + 1)).take c).length = c := by rw [List.length_take, List.length_drop]; omega
  generalize (l.drop (n + 1)).take c = d at *
  refine wpAny_execs_cons (H₇.if_ hr' hsc (Tr.cmp (Cmp.eqN (Ev.lenB (l := d) (gl_none fun _ => rfl) rfl (Ev.name rfl rfl) (by omega)) (Ev.name rfl rfl))) (fun _ s₈ H₈ => ?_) (fun q => by rw [hlen] at q; simp at q))
  refine wpAny_execs_cons (H₈.ret hr' hsc (Ev.name (d := eB d) rfl rfl) fun v' s₉ H₉ rv' => ?_)
  have F₉ := F₆.unhold (by simpa using hpl) H₉ fun b hb => hb
  exact hQ v' t6 s₉ ⟨F₉.same, F₉.keep⟩ (hold_plain H₉ (by simp) hp₆) (by simpa using rv')
end
end Mine
end
section
open PySem PySem.W PyProof.Rows PySem.Calls
set_option Elab.async false
set_option linter.unusedVariables false
set_option maxRecDepth 100000
namespace Mine
section
variable {prog : Program} {w : World} {mg mb : Str → Option Value} {k : Nat} {sc : Scope} {σ σ' : Sig} {own₀ lown lown' : List Addr} {X : Addr → Prop} {s₀ s s' : Shared} {env : Env} {A : Around} {E : Value → Shared → Prop}
theorem ne_names (F : Fs w mg mb own₀ lown X s₀ env σ s) {b ax : Addr} (hb : Apart env b) (hax : ax = env.locals ∨ ∃ y, env.cells.lookup y = some ax ∧ env.kindOf y = some .cell) : b ≠ ax := fun q => by
  rcases hax with r | ⟨y, r1, r2⟩
  · exact hb.1 (q.trans r)
  · exact hb.2 y r2 (q ▸ r1)
set_option maxHeartbeats 8000000 in
/-- _law_stream -/
theorem call_stream {l : List Nat} {own : List Addr} {bv : Value} {Q : Value → Shared → Prop} (hg : Gd w mg mb s.heap) (ha : Alive own s.heap) (hr : Room (k + 1) A) (rb : Rep own s.heap bv (eB l)) (hT : s.heap.get? 100 = some (tabObj #[]))
    (hQ : ∀ st pl t s', Kb (fun b => b = 100) s s' → s.heap.get? pl = none → (∃ ps, s'.heap.get? 100 = some (tabObj ps)) → Stm (fun b => ∃ o, s.heap.get? b = some o) s'.heap st pl l → PlainL s'.heap pl #[.int ((0 : Nat) : Int) t] → Q (.ref st) s') : wpAny (model prog w) A (call (.ref 105) [bv]) Q E s := by
  refine wpAny_call (enter_fsQ (k := k) (args := [eB l]) (ps := [Str.ofString "octets"]) hg ha hr (.cons rb .nil) (hg.K 105 (fnObj 105) rfl) rfl ⟨104, _, _, _, rfl, hg.K 104 _ rfl, rfl, rfl⟩ rfl rfl
    (fun Q E A q => by rw [bind1 (fd := fdOf 105) (x := Str.ofString "octets") (fun u => rfl) [bv] rfl]; exact wpAny_pure q) rfl rfl rfl rfl (by decide) rfl rfl rfl rfl fun s₁ env E' hsc hcode hqual hr' F => ?_)
  -- place = [0]
  refine seq_next (F.assignOwn hr' hsc (ds := [eN 0]) (EvN.list (.cons Ev.lit .nil) (size_le (by simp))) rfl fun pl s₂ hpl _ F₂ => ⟨rfl, ?_⟩)
  have hpl0 : s.heap.get? pl = none := (F₂.newl pl (.head _)).elim (fun q => q.elim) id
  have hT₂ : s₂.heap.get? 100 = some (tabObj #[]) := F₂.kp0.heap _ _ hT
  have F₂' := F₂.widen (fun b => b = 100) (fun b hb => by subst hb; exact ⟨_, hT₂, fun us n q => by cases q⟩) fun h' hk => hg.but (X := fun b => b = 100) (fun b hb => by subst hb; exact ⟨_, hT, fun es n q => (by cases q), fun q => (by cases q), rfl⟩) fun b o hb e => hk b o hb e
  -- stream = lambda: None
  have hA100 : Apart env 100 := F₂.apartOf hT₂ (fun es n q => by cases q) (fun c q => by cases q)
  refine seq_next (wpAny_Assign_Name (make_lam (N := fun _ => False) (P := 100) (c := 104) F₂'.gd' F₂'.glob (hcode.trans rfl) (codeHd_of_K F₂'.gd'.K rfl) (.inl hT₂) (fun b hb => hb.elim) (fun n hn => by simp at hn) rfl fun st c' ctv s₃ ho hrec T₃ hnf kb₃ => ?_) rfl)
  have hst0 : s.heap.get? st = none := by
    cases q : s.heap.get? st with
    | none => rfl
    | some o => have := F₂.kp0.heap _ _ q; rw [hnf] at this; cases this
  have F₃ := F₂'.kb kb₃ (fun b hb => by subst hb; exact ⟨⟨_, hT₂, fun us n q => by cases q⟩, hA100, .inl rfl⟩) fun b hb _ => by subst hb; exact T₃.notSeq
  have hAst : Apart env st := F₃.apartOf ho (fun es n q => by cases q) (fun c q => by cases q)
  refine F₃.store' (e := (none, .any (.ref st))) (.any _) (stores_spec (by rw [hsc]; rfl)) fun s₄ ax ox eax hax nax hsb₄ hsame₄ F₄ => ⟨rfl, ?_⟩
  have ho₄ := hsb₄.extBut _ _ (ne_names F₃ hAst hax) ho
  have hT₄ : ∃ ps, s₄.heap.get? 100 = some (tabObj ps) ∧ TriplesOk ps.toList ∧ codeAmong ⟨77, 4, 80, 37⟩ ps.toList = none := by
    rcases T₃ with e | ⟨c2, e, _⟩
    · exact ⟨_, hsb₄.extBut _ _ (ne_names F₃ hA100 hax) e, trivial, rfl⟩
    · exact ⟨_, hsb₄.extBut _ _ (ne_names F₃ hA100 hax) e, trivial, rfl⟩
  obtain ⟨ps, hT₄, htr, hnone⟩ := hT₄
  obtain ⟨n1, n2⟩ := F₄.gd'.bat hT₄
  -- def read
  have kcell : ∀ x, env.kindOf x = some .cell → (env.cells.lookup x).isSome = true := fun x hx => by
    obtain ⟨c, v, q, _⟩ := F₄.cell x hx
    rw [q]; rfl
  have koct : env.kindOf (Str.ofString "octets") = some .cell := by unfold Env.kindOf; rw [hsc]; rfl
  have kpl : env.kindOf (Str.ofString "place") = some .cell := by unfold Env.kindOf; rw [hsc]; rfl
  refine seq_next (nestDef_K rfl rfl rfl (makeFunction_K (c := 104) (closure_of fun n hn => ?_) F₄.glob F₄.gd'.g (hcode.trans rfl) (codeHd_of_K F₄.gd'.K rfl) hT₄ htr hnone n1 n2 fun c₅ ctv₅ doc h₅ tk₅ hx₅ hge₅ hlt₅ hrec₅ htb₅ => ?_))
  · have : n = Str.ofString "octets" ∨ n = Str.ofString "place" := by simpa using hn
    rcases this with rfl | rfl
    · exact kcell _ koct
    · exact kcell _ kpl
  have qrd : qualnameIn env (Str.ofString "read") (Str.ofString "read") = qualnameIn env (Str.ofString "read") (Str.ofString "read") := rfl
  generalize hrd : h₅.objs.size = rd at *
  generalize hfo : fnMade _ _ _ _ _ _ doc _ c₅ ctv₅ = fo
  have kb₅ : Kb (fun b => b = 100) s₄ { s₄ with heap := h₅.push fo, toks := tk₅ } := ⟨⟨_, _, rfl⟩, fun b o hb e => Heap.get?_push_of_some _ (hx₅ b o hb e)⟩
  have F₅ := F₄.kb kb₅ (fun b hb => by subst hb; exact ⟨⟨_, hT₄, fun us n q => by cases q⟩, hA100, .inl rfl⟩) fun b hb _ => by subst hb; exact ⟨_, Heap.get?_push_of_some _ htb₅, fun us n q => by cases q⟩
  have hst100 : st ≠ 100 := fun q => by rw [q, hT₂] at hnf; cases hnf
  have ho₅ := kb₅.heap _ _ hst100 ho₄
  have hrd₅ : (h₅.push fo).get? rd = some fo := by rw [← hrd]; exact Heap.get?_push_size _ (by rw [← hfo]; rfl)
  have hrec₅' : (h₅.push fo).CodeRec (.ref c₅) _ := hrec₅.push fo
  have hArd : Apart env rd := F₅.apartOf hrd₅ (fun es n q => by rw [← hfo] at q; cases q) (fun c q => by rw [← hfo] at q; cases q)
  have hst_rd : rd ≠ st := fun q => by
    have h1 : st < s₄.heap.objs.size := Heap.lt_size ho₄
    rw [← q] at h1
    exact absurd h1 (Nat.not_lt.mpr (Nat.le_of_lt (Nat.lt_of_le_of_lt hge₅ hlt₅)))
  refine F₅.store' (e := (none, .any (.ref rd))) (.any _) (stores_spec (by rw [hsc]; rfl)) fun s₆ ax₆ ox₆ eax₆ hax₆ nax₆ hsb₆ hsame₆ F₆ => ⟨rfl, ?_⟩
  have ht₅ : ∃ ps, (h₅.push fo).get? 100 = some (tabObj ps) := ⟨_, Heap.get?_push_of_some _ htb₅⟩
  have ht₆ : ∃ ps, s₆.heap.get? 100 = some (tabObj ps) := let ⟨ps, e⟩ := ht₅; ⟨ps, hsb₆.extBut _ _ (ne_names F₅ hA100 hax₆) e⟩
  have ho₆ := hsb₆.extBut _ _ (ne_names F₅ hAst hax₆) ho₅
  have hrd₆ := hsb₆.extBut _ _ (ne_names F₅ hArd hax₆) hrd₅
  have hcr₆ : s₆.heap.CodeRec (.ref c₅) (qualnameIn env (Str.ofString "read") (Str.ofString "read")) := by
    obtain ⟨c2, oc, vs, tt, q1, q2, q3, q4⟩ := hrec₅'
    exact ⟨c2, oc, vs, tt, q1, hsb₆.extBut _ _ (ne_names F₅ (F₅.apartOf q2 (fun es n q => by rw [q3] at q; cases q) (fun c q => by rw [q3] at q; cases q)) hax₆) q2, q3, q4⟩
  -- stream.read = read
  refine seq_next (plainObj_wpAny_Assign_Attribute (Ev.name (k := k) (sc := (fdOf 105).scope) (d := .any (.ref rd)) rfl rfl _ env _ s₆ _ _ hsc F₆.envOk F₆.gd' F₆.alive hr' fun v s₇ k₇ rv => ?_) rfl)
  rw [rep_any rv]
  have F₇ := F₆.kp k₇
  refine Ev.name (k := k) (sc := (fdOf 105).scope) (d := .any (.ref st)) rfl rfl _ env _ s₇ _ _ hsc F₇.envOk F₇.gd' F₇.alive hr' fun v' s₈ k₈ rv' => ?_
  rw [rep_any rv']
  have F₈ := F₇.kp k₈
  have ho₈ := k₈.heap _ _ (k₇.heap _ _ ho₆)
  have hrd₈ := k₈.heap _ _ (k₇.heap _ _ hrd₆)
  have hcr₈ := (hcr₆.keeps k₇.heap).keeps k₈.heap
  refine setAttr_fn ho₈ rfl rfl rfl fun h₉ tk₉ d hst₉ hd₉ hdn hk₉ => ⟨rfl, ?_⟩
  have ht₈ : ∃ ps, s₈.heap.get? 100 = some (tabObj ps) := let ⟨ps, e⟩ := ht₆; ⟨ps, k₈.heap _ _ (k₇.heap _ _ e)⟩
  have hd0 : ¬ ∃ o, s.heap.get? d = some o := fun ⟨o, e⟩ => by
    by_cases q : d = 100
    · obtain ⟨ps, e2⟩ := ht₈
      rw [q, e2] at hdn; cases hdn
    · have := F₈.keep d o q e
      rw [hdn] at this; cases this
  have kb₉ : Kb (fun b => b = st) s₈ { s₈ with heap := h₉, toks := tk₉ } := ⟨⟨_, _, rfl⟩, fun b o hb e => hk₉ b o hb e⟩
  have hMst : Mu (fun b => b = 100) s st := .inr hst0
  have F₉ := F₈.kb kb₉ (fun b hb => by subst hb; exact ⟨⟨_, ho₈, fun us n q => by cases q⟩, hAst, hMst⟩) fun b hb hb2 => by subst hb; exact absurd hb2 hst100
  have hrd₉ := hk₉ _ _ hst_rd hrd₈
  have hcr₉ : h₉.CodeRec (.ref c₅) (qualnameIn env (Str.ofString "read") (Str.ofString "read")) := by
    obtain ⟨c2, oc, vs, tt, q1, q2, q3, q4⟩ := hcr₈
    exact ⟨c2, oc, vs, tt, q1, hk₉ _ _ (fun q => by subst q; rw [ho₈] at q2; cases q2; cases q3) q2, q3, q4⟩
  -- return stream
  generalize hs₉ : ({ s₈ with heap := h₉, toks := tk₉ } : Shared) = s₉ at *
  have hh₉ : s₉.heap = h₉ := by rw [← hs₉]
  refine wpAny_execs_cons (wpAny_Return_some (Ev.name (k := k) (sc := (fdOf 105).scope) (d := .any (.ref st)) rfl rfl _ env _ s₉ _ _ hsc F₉.envOk F₉.gd' F₉.alive hr' fun v'' s₁₀ k₁₀ rv'' => ?_))
  rw [rep_any rv'']
  have F₁₀ := F₉.kp k₁₀
  rw [← hh₉] at hst₉ hd₉ hrd₉ hcr₉
  obtain ⟨co, ov, o1, o2, o3, o4⟩ := F₁₀.cell _ koct
  obtain ⟨ov', rfl, o5⟩ := o4 (none, eB l) rfl
  obtain ⟨t1, rfl⟩ := rep_bytes o5
  obtain ⟨cp, pv, p1, p2, p3, p4⟩ := F₁₀.cell _ kpl
  obtain ⟨pv', rfl, rfl, p6, a', vs, xs, q1, q2, q3, q4⟩ := p4 (some pl, .list [eN 0]) rfl
  cases q1; cases q2
  have hcl : ∀ y, (y, NameKind.free) ∈ rdDef.2.2.names → (cloGo env rdDef.2.2.names []).lookup y = env.cells.lookup y := fun y hy => cloGo_lookup env y _ _ (.inl ⟨hy, by
    have : y = Str.ofString "octets" ∨ y = Str.ofString "place" := by simpa using (show (y, NameKind.free) ∈ [(Str.ofString "count", NameKind.local), (Str.ofString "first", NameKind.local), (Str.ofString "octets", NameKind.free), (Str.ofString "place", NameKind.free), (Str.ofString "min", NameKind.globalImplicit), (Str.ofString "len", NameKind.globalImplicit)] from hy)
    rcases this with rfl | rfl
    · rw [o1]; rfl
    · rw [p1]; rfl⟩)
  have hpl₁₀ : ∃ t, vs = #[.int ((0 : Nat) : Int) t] := by
    generalize hvl : vs.toList = vl at q4
    cases q4 with
    | cons z1 z2 =>
      cases z2
      obtain ⟨tt, rfl⟩ := rep_int z1
      exact ⟨tt, by rw [← Array.toList_inj, hvl]⟩
  obtain ⟨tp, rfl⟩ := hpl₁₀
  have ht₁₀ : ∃ ps, s₁₀.heap.get? 100 = some (tabObj ps) := let ⟨ps, e⟩ := ht₈; ⟨ps, k₁₀.heap _ _ (by rw [hh₉]; exact hk₉ _ _ (fun q => hst100 q.symm) e)⟩
  have nc : ∀ c v, Mu (fun b => b = 100) s c → s₁₀.heap.IsCell c v → ¬ ∃ o, s.heap.get? c = some o := fun c v hm ⟨o1, e1, d1⟩ ⟨o, e⟩ => by
    rcases hm with q | q
    · obtain ⟨ps, e2⟩ := ht₁₀
      rw [q, e2] at e1; cases e1; cases d1
    · rw [q] at e; cases e
  refine hQ st pl tp s₁₀ ⟨F₁₀.same, F₁₀.keep⟩ hpl0 ht₁₀ ⟨_, _, d, _, rd, k₁₀.heap _ _ hst₉, rfl, rfl, rfl, hd₉.keeps k₁₀.heap, by simp, ?_, hd0⟩ q3
  rw [← hfo] at hrd₉
  exact ⟨_, _, _, _, _, _, co, cp, t1, k₁₀.heap _ _ hrd₉, hcr₉.keeps k₁₀.heap, (hcl _ (by with_unfolding_all decide)).trans o1, o3, (hcl _ (by with_unfolding_all decide)).trans p1, p3, nc _ _ o2 o3, nc _ _ p2 p3⟩
end
end Mine
end
section
open PySem PySem.W PyProof.Rows PySem.Calls
set_option Elab.async false
set_option linter.unusedVariables false
namespace Mine
section
variable {prog : Program} {w : World} {mg mb : Str → Option Value} {k : Nat} {sc : Scope} {σ : Sig}
/-- the whole comprehension, its end left open; each turn may turn the list pl -/
theorem comp_coreJ {elt iter : Expr} {x : Str} {px : Pos} {scope : Scope} {pos : Pos} {α : Type} (l : List α) (enc : α → Dt) (f : α → Dt) {pl : Addr} (J : Nat → Heap → Prop)
    (hok : compOk sc scope x σ = true) (hit : Itr prog w mg mb k sc iter σ (l.map enc))
    (hel : ∀ i a, l[i]? = some a → ∀ (own : List Addr) (env : Env) (A : Around) (s : Shared) (E : Value → Shared → Prop) (Q : Value → Shared → Prop), env.scope = relS scope sc → EnvOk own env s.heap ((x, (none, enc a)) :: σ) → Gd w mg mb s.heap → Alive own s.heap → pl ∈ own → Room k A → J i s.heap →
      (∀ v s', Kb (fun b => b = pl) s s' → J (i + 1) s'.heap → Rep own s'.heap v (f a) → Q v s') → wpAny (model prog w) A (eval elt env) Q E s) (hsz : l.length ≤ sizeLine)
    {own : List Addr} {env : Env} {A : Around} {s : Shared} {E : Value → Shared → Prop} {RR : Value → Addr → Result → Shared → Prop} (hs : env.scope = sc) (he : EnvOk own env s.heap σ) (hg : Gd w mg mb s.heap) (ha : Alive own s.heap) (hr : Room k A) (hpl : pl ∈ own) (hfl : ∀ p ∈ σ, p.2.1 ≠ some pl) (hgX : ∀ h', (∀ b o, b ≠ pl → s.heap.get? b = some o → h'.get? b = some o) → Gd w mg mb h')
    (hJp : ∀ i h, J i h → ∃ vs, h.IsList pl vs) (hJ : ∀ i h h', J i h → (∀ b o, (∃ o', s.heap.get? b = some o') → h.get? b = some o → h'.get? b = some o) → J i h') (hJ0 : J 0 s.heap)
    (hRR : ∀ D C s', Kb (fun b => b = pl) s s' → J l.length s'.heap → s.heap.get? C = none → s.heap.get? D = none → D ≠ C → (∃ m, s'.heap.Ns C m) → (∃ ys, PlainL s'.heap D ys ∧ RepAll (D :: own) s'.heap ys.toList (l.map f)) → Rep own s'.heap (.ref D) (.list (l.map f)) → RR (.ref D) C (.ok .next) s') :
    closureFor scope env = pure (cloGo env scope.names []) ∧ scope.kind = .function ∧ (∀ y ∈ scope.names, y.2 = .local → scope.names.lookup y.1 = some .local) ∧
    wpAny (model prog w) A (eval iter env) (fun xv s₁ => wpAny (model prog w) A (pyIter xv) (fun it s₂ => wpAny (model prog w) A (newList []) (fun acc s₃ =>
      wpAny (model prog w) A (newFunctionEnv scope env.globals (cloGo env scope.names []) [] env.qual none .none (some env)) (fun cenv s₄ =>
        codeAny (model prog w) A (.compStart (.ListComp elt [⟨.Name x px, iter, [], 0⟩] scope pos) 0 it acc { cenv with scope := relabel scope env }) (RR acc cenv.locals) s₄) E s₃) E s₂) E s₁) E s := by
  unfold compOk at hok
  simp only [Bool.and_eq_true, Bool.or_eq_true, bne_iff_ne, ne_eq] at hok
  obtain ⟨⟨⟨⟨hkind, hxk⟩, hall⟩, hdot⟩, hxdot⟩ := hok
  have hkind : scope.kind = .function := by simpa using hkind
  have hall' := List.all_eq_true.mp hall
  have hlocal : ∀ n, (n, NameKind.local) ∈ scope.names → (n = x ∨ n = (".0" : Str)) ∧ scope.names.lookup n = some .local := fun n hn => by simpa using hall' _ hn
  have hcellx : ∀ n, (n, NameKind.cell) ∈ scope.names → n = x := fun n hn => by simpa using hall' _ hn
  have hfree : ∀ n, (n, NameKind.free) ∈ scope.names → (n ≠ x ∧ (σ.lookup n).isSome = true) ∧ (sc.names.lookup n = some .cell ∨ sc.names.lookup n = some .free) := fun n hn => by simpa using hall' _ hn
  have hclo : ∀ n, (n, NameKind.free) ∈ scope.names → ∃ c, env.cells.lookup n = some c := fun n hn => by
    obtain ⟨⟨_, h1⟩, h2⟩ := hfree n hn
    obtain ⟨e, h1⟩ := Option.isSome_iff_exists.mp h1
    obtain ⟨c, v, h3, _⟩ := (he.name n e h1).2 (by unfold Env.kindOf; rw [hs]; exact h2)
    exact ⟨c, h3⟩
  refine ⟨closure_of fun n hn => by obtain ⟨c, h⟩ := hclo n hn; rw [h]; rfl, hkind, fun y hy hl => (hlocal y.1 (by rw [← hl]; exact hy)).2, ?_⟩
  refine hit own env A s E _ hs he hg ha hr fun I St s₁ k₁ hI src hst => ?_
  refine wpAny_newList ?_ (by simp)
  refine compEnv_of ?_
  obtain ⟨oi, fs, eI, dI⟩ := src.obj _ _ _ hst
  -- the addresses
  generalize hD : s₁.heap.objs.size = D
  have hID : I < D := hD ▸ Heap.lt_size eI
  generalize hH2 : s₁.heap.push { cls := .type "list", data := .seq ([] : List Value).toArray } = H2
  have hC2 : H2.objs.size = D + 1 := by rw [← hH2, Heap.size_push, hD]
  dsimp only
  rw [hC2]
  generalize hH3 : H2.push { cls := .type "dict", data := .dict #[] } = H3
  have hsz3 : H3.objs.size = D + 1 + 1 := by rw [← hH3, Heap.size_push, hC2]
  have hcf := cellsFrom_one x scope.names H3 (cloGo env scope.names []) hcellx
  rw [hsz3] at hcf
  generalize hcs : cellsFrom (D + 1 + 1) scope.names (cloGo env scope.names []) = cs at hcf
  have hcl : ∀ y, y ≠ x → (y, NameKind.free) ∈ scope.names → cs.lookup y = env.cells.lookup y := fun y hy hm => by
    rw [hcf.1 y hy]
    refine cloGo_lookup env y scope.names [] (.inl ⟨hm, ?_⟩)
    obtain ⟨c, h⟩ := hclo y hm
    rw [h]; rfl
  have hsD : s.heap.get? D = none := by
    cases q : s.heap.get? D with
    | none => rfl
    | some o => exact absurd (Heap.lt_size (k₁.heap _ _ q)) (by rw [hD]; exact Nat.lt_irrefl _)
  have hsC : ∀ c, D < c → s.heap.get? c = none := fun c hc => by
    cases q : s.heap.get? c with
    | none => rfl
    | some o => have := Heap.lt_size (k₁.heap _ _ q); rw [hD] at this; exact absurd this (Nat.not_lt.mpr (Nat.le_of_lt hc))
  -- what the store of x is
  have hxstore : ∀ (cenv : Env), cenv.scope = relS scope sc → cenv.locals = D + 1 → cenv.cells = cs → ∀ (h : Heap), (∃ m, h.Ns (D + 1) m) → (∀ c, cs.lookup x = some c → (scope.names.lookup x = some .cell) → ∃ v, h.IsCell c v) → ∀ (tk : Nat) (s' : Shared) (v : Value) (Q : Unit → Shared → Prop) (E : Value → Shared → Prop), s'.heap = h →
      (∀ h' tk' ax ox, (ax = D + 1 ∨ D + 1 < ax) → h.get? ax = some ox → NotSeq ox → (∀ us, ox.data ≠ .fields us) → Heap.SameBut ax h h' → (∃ m, h'.Ns (D + 1) m) → (∀ c, cs.lookup x = some c → (scope.names.lookup x = some .cell) → ∃ v, h'.IsCell c v) →
        ((cenv.kindOf x = some .local → ∃ m, h'.Ns cenv.locals m ∧ m x = some v) ∧ (cenv.kindOf x = some .cell ∨ cenv.kindOf x = some .free → ∃ c, cenv.cells.lookup x = some c ∧ h'.IsCell c (some v))) → Q () { s' with heap := h', toks := tk' }) →
      wpAny (model prog w) A (assign (.Name x px) cenv v) Q E s' := by
    intro cenv c1 c2 c3 h ⟨m, hm⟩ hcell tk s' v Q E hh hQ
    subst hh
    refine wpAny_assign_Name ?_
    rcases hxk with ⟨⟨h1, h2⟩, h3⟩ | ⟨⟨⟨h1, h2⟩, h2'⟩, h3⟩
    · have h2 : (relS scope sc).names.lookup x = some .local := by simpa using h2
      have hk : cenv.kindOf x = some .local := by unfold Env.kindOf; rw [c1]; exact h2
      have h1 : scope.names.lookup x = some .local := by simpa using h1
      obtain ⟨oC, es, ep, eC, dC, r⟩ := id hm
      refine wpAny_storeName_local hk (by rw [c2]; exact hm) (fun h' hn' hsb => ?_) (by rw [c1]; simp [relS, hkind])
      rw [c2] at hn' hsb
      refine hQ h' _ (D + 1) oC (.inl rfl) eC (fun us n q => by rw [dC] at q; cases q) (fun us q => by rw [dC] at q; cases q) hsb ⟨_, hn'⟩ (fun c _ q => by rw [h1] at q; cases q) ⟨fun _ => ⟨_, by rw [c2]; exact hn', by simp⟩, fun q => by rw [hk] at q; simp at q⟩
    · have h2 : (relS scope sc).names.lookup x = some .cell := by simpa using h2
      have hk : cenv.kindOf x = some .cell := by unfold Env.kindOf; rw [c1]; exact h2
      have h1 : scope.names.lookup x = some .cell := by simpa using h1
      have hmem : (x, NameKind.cell) ∈ scope.names := by simpa using h2'
      obtain ⟨c, hc1, hc2, hc3⟩ := hcf.2 (.inl hmem)
      have hcgt : D + 1 < c := by
        rcases hc3 with ⟨c', q, rfl⟩ | q
        · exfalso
          have := mem_of_lookup q
          have key : ∀ (names : List (Str × NameKind)) (acc : List (Str × Addr)), (∀ n, (n, NameKind.free) ∈ names → n ≠ x) → (∀ n a, (n, a) ∈ acc → n ≠ x) → ∀ n a, (n, a) ∈ cloGo env names acc → n ≠ x := by
            intro names
            induction names with
            | nil => intro acc _ h n a hm; exact h n a hm
            | cons q r ih =>
              obtain ⟨n0, k0⟩ := q
              intro acc hf h n a hm
              refine ih _ (fun n hn => hf n (.tail _ hn)) ?_ n a hm
              intro n1 a1 hm1
              split at hm1
              · rename_i hk0
                have hk0 : k0 = .free := by simpa using hk0
                split at hm1
                · rcases List.mem_cons.mp hm1 with e | e
                  · cases e; exact hf _ (by rw [hk0]; exact .head _)
                  · exact h _ _ e
                · exact h _ _ hm1
              · exact h _ _ hm1
          exact key scope.names [] (fun n hn => (hfree n hn).1.1) (by simp) _ _ this rfl
        · omega
      obtain ⟨v0, hv0⟩ := hcell c hc1 h1
      obtain ⟨oc, ec, dc⟩ := id hv0
      refine wpAny_storeName_cell (by rw [c1]; exact hkind) hk (by rw [c3]; exact hc1) hv0 fun h' hc' hsb => ?_
      have hne : D + 1 ≠ c := Nat.ne_of_lt hcgt
      exact hQ h' s'.toks c oc (.inr hcgt) ec (fun us n q => by rw [dc] at q; cases q) (fun us q => by rw [dc] at q; cases q) hsb ⟨m, hm.sameBut hsb hne⟩ (fun c' q _ => by rw [hc1] at q; cases q; exact ⟨_, hc'⟩) ⟨fun q => by (rw [hk] at q; cases q), fun _ => ⟨c, by rw [c3]; exact hc1, hc'⟩⟩
  -- the state
  generalize hcenv : ({ newEnv scope (D + 1) env.globals cs env.qual none .none (some env) builtinsNs with scope := relabel scope env } : Env) = cenv
  have c1 : cenv.scope = relS scope sc := by rw [← hcenv, ← hs]; rfl
  have c2 : cenv.locals = D + 1 := by rw [← hcenv]; rfl
  have c3 : cenv.cells = cs := by rw [← hcenv]; rfl
  have c4 : cenv.globals = mainGlobals := by rw [← hcenv]; exact he.glob
  have c5 : cenv.builtins = builtinsNs := by rw [← hcenv]; exact he.blt
  have hloc : (newEnv scope (D + 1) env.globals cs env.qual none .none (some env) builtinsNs).locals = D + 1 := rfl
  rw [hloc]
  -- names in the block
  have hplx : ∀ b o, s.heap.get? b = some o → (∀ us n, o.data ≠ .seq us n) → b ≠ pl := fun b o e hn q => by
    subst q
    obtain ⟨us, o', e', _, n, d'⟩ := ha b hpl
    rw [e] at e'; cases e'; exact hn _ _ d'
  have henv : ∀ (h : Heap) (v : Value) (d : Dt), (∀ b o, b ≠ pl → s.heap.get? b = some o → h.get? b = some o) → Rep (D :: own) h v d →
      ((cenv.kindOf x = some .local → ∃ m, h.Ns cenv.locals m ∧ m x = some v) ∧ (cenv.kindOf x = some .cell ∨ cenv.kindOf x = some .free → ∃ c, cenv.cells.lookup x = some c ∧ h.IsCell c (some v))) → EnvOk (D :: own) cenv h ((x, (none, d)) :: σ) := by
    intro h v d hk hv hx
    refine ⟨c4, c5, by rw [c1]; exact hkind, fun y e hy => ?_⟩
    by_cases hyx : y = x
    · subst hyx
      rw [List.lookup_cons] at hy; simp at hy; subst hy
      exact ⟨fun q => let ⟨m, a, b⟩ := hx.1 q; ⟨m, v, a, b, hv⟩, fun q => let ⟨c, a, b⟩ := hx.2 q; ⟨c, v, a, b, hv⟩⟩
    · rw [lookup_ne hyx] at hy
      have hN := he.name y e hy
      refine ⟨fun q => ?_, fun q => ?_⟩
      · exfalso
        unfold Env.kindOf at q; rw [c1] at q
        obtain ⟨k0, hm, hk0⟩ := mem_relS q
        rcases hk0 with rfl | ⟨_, hk0⟩
        · rcases (hlocal y hm).1 with e1 | e1
          · exact hyx e1
          · subst e1; rw [Option.isNone_iff_eq_none.mp hdot] at hy; cases hy
        · cases hk0
      · have hm : (y, NameKind.free) ∈ scope.names := by
          have : ∃ kd, (relS scope sc).names.lookup y = some kd ∧ (kd = .cell ∨ kd = .free) := by
            unfold Env.kindOf at q; rw [c1] at q
            rcases q with q | q
            · exact ⟨_, q, .inl rfl⟩
            · exact ⟨_, q, .inr rfl⟩
          obtain ⟨kd, q, hkd⟩ := this
          obtain ⟨k0, hm, hk0⟩ := mem_relS q
          rcases hk0 with rfl | ⟨rfl, _⟩
          · rcases hkd with rfl | rfl
            · exact absurd (hcellx y hm) hyx
            · exact hm
          · exact hm
        obtain ⟨c, v', h1, h2, h3⟩ := hN.2 (by unfold Env.kindOf; rw [hs]; exact (hfree y hm).2)
        obtain ⟨oc, ec, dc⟩ := h2
        exact ⟨c, v', by rw [c3, hcl y hyx hm]; exact h1, ⟨oc, hk _ _ (hplx c oc ec fun us n q => by rw [dc] at q; cases q) ec, dc⟩, (h3.more hsD).ownBut (.tail _ hpl) (hfl _ (PySem.mem_of_lookup hy)) (fun b o hb e => hk b o hb e)⟩
  -- the loop
  have k13 : ∀ b o, s₁.heap.get? b = some o → (pushCells H3 scope.names).get? b = some o := fun b o e => pushCells_keeps _ _ b o (hH3 ▸ Heap.get?_push_of_some _ (hH2 ▸ Heap.get?_push_of_some _ e))
  have ks3 : ∀ b o, s.heap.get? b = some o → (pushCells H3 scope.names).get? b = some o := fun b o e => k13 b o (k₁.heap b o e)
  have hD3 : (pushCells H3 scope.names).PlainList D #[] := ⟨0, pushCells_keeps _ _ _ _ (hH3 ▸ Heap.get?_push_of_some _ (by rw [← hH2, ← hD]; exact Heap.get?_push_size _ rfl))⟩
  have hC3 : ∃ m, (pushCells H3 scope.names).Ns (D + 1) m := ⟨_, (by rw [← hH3, ← hC2]; exact (Heap.Ns.new H2 (.type "dict")).keeps (pushCells_keeps _ _))⟩
  have hst3 : St (D :: own) 0 (pushCells H3 scope.names) := by
    refine src.frame _ _ s₁.heap _ (src.more own D 0 _ hst ?_) fun b o e _ => k13 b o e
    cases q : s₁.heap.get? D with
    | none => rfl
    | some o => exact absurd (Heap.lt_size q) (by rw [hD]; exact Nat.lt_irrefl _)
  have hcell3 : ∀ c, cs.lookup x = some c → (scope.names.lookup x = some .cell) → ∃ v, (pushCells H3 scope.names).IsCell c v := fun c q hq => by
    obtain ⟨c', h1, h2, _⟩ := hcf.2 (.inl (mem_of_lookup hq))
    rw [h1] at q; cases q; exact ⟨_, h2⟩
  have loop : ∀ s₄ : Shared, s₄ = { s₁ with heap := pushCells H3 scope.names } →
      codeAny (model prog w) A (.compLoop (.ListComp elt [⟨.Name x px, iter, [], 0⟩] scope pos) 0 (.ref I) (.ref D) cenv) (RR (.ref D) (D + 1)) s₄ := by
    rintro s₄ rfl
    refine codeAny_compLoop_tests (fun n s' => ∃ h' tk i ys, s' = { s₁ with heap := h', toks := tk } ∧ St (D :: own) i h' ∧ h'.PlainList D ys ∧ RepAll (D :: own) h' ys.toList ((l.take i).map f) ∧ J i h' ∧ (∃ m, h'.Ns (D + 1) m) ∧
      (∀ c, cs.lookup x = some c → (scope.names.lookup x = some .cell) → ∃ v, h'.IsCell c v) ∧ (∀ b o, b ≠ pl → s.heap.get? b = some o → h'.get? b = some o) ∧ i ≤ l.length ∧ n = l.length + 1 - i) ?_ (l.length + 1)
      ⟨_, s₁.toks, 0, #[], rfl, hst3, hD3, by simpa using RepAll.nil, hJ 0 _ _ hJ0 (fun b o _ e => ks3 b o e), hC3, hcell3, fun b o _ e => ks3 b o e, Nat.zero_le _, rfl⟩
    rintro n s' ⟨h', tk, i, ys, rfl, hst', hD', hR', hJ', hC', hcell', hk', hi, rfl⟩
    obtain ⟨oi', fs', eI', dI'⟩ := src.obj _ _ _ hst'
    have hDI : D ≠ I := Nat.ne_of_gt hID
    have nI : NotSeq oi' := fun us n q => by rw [dI'] at q; cases q
    by_cases hlt : i < l.length
    · have hli : l[i]? = some l[i] := by simp [hlt]
      generalize hdd : l[i] = a at hli
      have hmem : a ∈ l := hdd ▸ List.getElem_mem hlt
      have hxi : (l.map enc)[i]? = some (enc a) := by rw [List.getElem?_map, hli]; rfl
      generalize hde : enc a = d at hxi
      refine src.item (D :: own) i _ _ _ d hxi hst' fun v h₁ tk₁ hv hst₁ hk₁ => ?_
      have hD₁ : h₁.PlainList D ys := hD'.at fun o e => hk₁ _ o hDI e
      have hR₁ := hR'.sameBut eI' nI (fun b o hb e => hk₁ b o hb e)
      have hCI : D + 1 ≠ I := Nat.ne_of_gt (Nat.lt_succ_of_lt hID)
      have hC₁ : ∃ m, h₁.Ns (D + 1) m := let ⟨m, q⟩ := hC'; ⟨m, q.extBut (fun b o hb e => hk₁ b o hb e) hCI⟩
      have hcI : ∀ c v, h'.IsCell c v → c ≠ I := fun c v ⟨o, e, d⟩ q => by subst q; rw [eI'] at e; cases e; rw [dI'] at d; cases d
      have hcell₁ : ∀ c, cs.lookup x = some c → (scope.names.lookup x = some .cell) → ∃ v, h₁.IsCell c v := fun c q1 q2 => let ⟨v, o, e, d⟩ := hcell' c q1 q2; ⟨v, o, hk₁ _ _ (hcI c v ⟨o, e, d⟩) e, d⟩
      have hsI : ∀ b o, s.heap.get? b = some o → b ≠ I := fun b o e q => by subst q; rw [hI] at e; cases e
      have ks₁ : ∀ b o, b ≠ pl → s.heap.get? b = some o → h₁.get? b = some o := fun b o hb e => hk₁ b o (hsI b o e) (hk' b o hb e)
      have hJ₁ := hJ i _ h₁ hJ' fun b o ⟨o', e'⟩ e => hk₁ b o (hsI b o' e') e
      refine hxstore cenv c1 c2 c3 h₁ hC₁ hcell₁ tk₁ _ v _ _ rfl fun h₂ tk₂ ax ox hax eax nax nfx hsb hC₂ hcell₂ hx₂ => ?_
      obtain ⟨oi₁, fs₁, eI₁, dI₁⟩ := src.obj _ _ _ hst₁
      have haI : ax ≠ I := by
        rcases hax with q | q
        · rw [q]; exact hCI
        · exact Nat.ne_of_gt (Nat.lt_trans (Nat.lt_succ_of_lt hID) q)
      have haD : ax ≠ D := by
        rcases hax with q | q
        · rw [q]; exact Nat.succ_ne_self _
        · exact Nat.ne_of_gt (Nat.lt_trans (Nat.lt_succ_self _) q)
      have has : ∀ b o, s.heap.get? b = some o → b ≠ ax := fun b o e q => by
        subst q
        have : D < b := by
          rcases hax with q | q
          · rw [q]; exact Nat.lt_succ_self _
          · exact Nat.lt_trans (Nat.lt_succ_self _) q
        rw [hsC _ this] at e; cases e
      have ks₂ : ∀ b o, b ≠ pl → s.heap.get? b = some o → h₂.get? b = some o := fun b o hb e => hsb.extBut b o (has b o e) (ks₁ b o hb e)
      have hJ₂ := hJ i _ h₂ hJ₁ fun b o ⟨o', e'⟩ e => hsb.extBut b o (has b o' e') e
      have hst₂ : St (D :: own) (i + 1) h₂ := src.frame _ _ h₁ _ hst₁ fun b o e q => hsb.extBut b o (fun hb => by
        subst hb
        rcases q with q | ⟨⟨us, n, q⟩, _⟩
        · exact haI q
        · rw [eax] at e; cases e; exact nax _ _ q) e
      have hD₂ : h₂.PlainList D ys := hD₁.at fun o e => hsb.extBut _ o (Ne.symm haD) e
      have hR₂ := hR₁.sameBut eax nax hsb.extBut
      have hv₂ := hv.sameBut eax nax hsb.extBut
      have al₂ : Alive (D :: own) h₂ := fun a q => by
        rcases List.mem_cons.mp q with q | q
        · subst q; exact ⟨ys, hD₂.isList⟩
        · by_cases qp : a = pl
          · subst qp; exact hJp i _ hJ₂
          · obtain ⟨us, o, e, r⟩ := ha a q
            exact ⟨us, o, ks₂ a o qp e, r⟩
      have en₂ := henv h₂ v d ks₂ hv₂ hx₂
      rw [← hde] at en₂
      have gd₂ := hgX _ ks₂
      refine wpAny_tests_nil ?_
      have tk1 : l.take (i + 1) = l.take i ++ [a] := by rw [List.take_add_one, hli]; rfl
      simp only [if_true]
      refine hel i a hli (D :: own) cenv A _ _ _ c1 en₂ gd₂ al₂ (.tail _ hpl) hr hJ₂ fun y s₄ k₄ hJ₄ ry => ?_
      have hIpl : I ≠ pl := fun q => by
        obtain ⟨us, o, e, _⟩ := ha pl hpl
        rw [← q, hI] at e; cases e
      have hDpl : D ≠ pl := fun q => by
        obtain ⟨us, o, e, _⟩ := ha pl hpl
        rw [← q, hsD] at e; cases e
      have ext₄ : Heap.ExtBut pl h₂ s₄.heap := fun b o hb e => k₄.heap b o hb e
      have hys : ys.size ≤ sizeLine := by
        have e1 := hR'.length
        have e2 : ((l.take i).map f).length ≤ l.length := by
          rw [List.length_map, List.length_take]; omega
        have e3 : ys.toList.length = ys.size := by simp
        omega
      have hD₄ : s₄.heap.PlainList D ys := hD₂.at fun o e => ext₄ _ o hDpl e
      refine wpAny_list_append_plain (hsz := hys) hD₄ fun h₅ hD₅ hs₅ => ?_
      obtain ⟨⟨h₄, tk₄, rfl⟩, _⟩ := id k₄
      have ks₅ : ∀ b o, b ≠ pl → s.heap.get? b = some o → h₅.get? b = some o := fun b o hb e => hs₅.extBut b o (fun q => by subst q; rw [hsD] at e; cases e) (ext₄ b o hb (ks₂ b o hb e))
      have hL2pl : ∀ b o, h₂.get? b = some o → (∀ us n, o.data ≠ .seq us n) → b ≠ pl := fun b o e hn q => by
        subst q
        obtain ⟨us, o', e', _, n, d'⟩ := hJp i _ hJ₂
        rw [e] at e'; cases e'; exact hn _ _ d'
      refine ⟨l.length + 1 - (i + 1), by omega, h₅, tk₄, i + 1, ys.push y, rfl, ?_, hD₅, ?_, ?_, ?_, (fun c q1 q2 => ?_), ks₅, hlt, rfl⟩
      · refine src.frame _ _ h₄ _ (src.frame _ _ h₂ _ hst₂ fun b o e q => ext₄ b o (fun hb => ?_) e) fun b o e q => hs₅.extBut b o (fun hb => ?_) e
        · subst hb
          rcases q with q | ⟨_, q⟩
          · exact hIpl q.symm
          · exact q (.tail _ hpl)
        · subst hb
          rcases q with q | ⟨_, q⟩
          · exact hDI q
          · exact q (.head _)
      · rw [tk1, List.map_append, Array.toList_push]
        have := ((hR₂.ownBut (.tail _ hpl) ext₄).snoc ry).ownBut (.head _) hs₅.extBut
        simpa using this
      · exact hJ _ _ _ hJ₄ fun b o ⟨o', e'⟩ e => hs₅.extBut b o (fun q => by subst q; rw [hsD] at e'; cases e') e
      · obtain ⟨m, o, es, ep, e, d, r⟩ := hC₂
        have q1 : h₄.Ns (D + 1) m := ⟨o, es, ep, ext₄ _ _ (hL2pl _ _ e fun us n q => by rw [d] at q; cases q) e, d, r⟩
        exact ⟨m, q1.sameBut hs₅ (Nat.succ_ne_self _)⟩
      · obtain ⟨v', o, e, d⟩ := hcell₂ c q1 q2
        have e4 := ext₄ c o (hL2pl _ _ e fun us n q => by rw [d] at q; cases q) e
        refine ⟨v', o, hs₅.extBut c o (fun e5 => ?_) e4, d⟩
        obtain ⟨n2, e2⟩ := hD₄
        rw [e5] at e4
        have e4' : h₄.get? D = some o := e4
        have e2' : h₄.get? D = _ := e2
        rw [e2'] at e4'; cases e4'; cases d
    · have hin : i = l.length := by omega
      subst hin
      refine src.done (D :: own) _ _ _ (by rw [List.length_map]; exact hst') fun h₁ tk₁ hk₁ => ?_
      have hsI : ∀ b o, s.heap.get? b = some o → b ≠ I := fun b o e q => by subst q; rw [hI] at e; cases e
      have hD₁ : h₁.PlainList D ys := hD'.at fun o e => hk₁ _ o hDI e
      have hR₁ := hR'.sameBut eI' nI (fun b o hb e => hk₁ b o hb e)
      have hCI : D + 1 ≠ I := Nat.ne_of_gt (Nat.lt_succ_of_lt hID)
      have hC₁ : ∃ m, h₁.Ns (D + 1) m := let ⟨m, q⟩ := hC'; ⟨m, q.extBut (fun b o hb e => hk₁ b o hb e) hCI⟩
      refine hRR D (D + 1) _ ⟨?_, fun b o hb e => hk₁ b o (hsI b o e) (hk' b o hb e)⟩ (hJ _ _ _ hJ' fun b o ⟨o', e'⟩ e => hk₁ b o (hsI b o' e') e) (hsC _ (Nat.lt_succ_self _)) hsD (Nat.ne_of_lt (Nat.lt_succ_self _)) hC₁ ?_ ?_
      · obtain ⟨⟨h0, tk0, rfl⟩, _⟩ := k₁
        exact ⟨_, _, rfl⟩
      · obtain ⟨n, e⟩ := hD₁
        rw [List.take_length] at hR₁
        exact ⟨ys, ⟨_, n, e, rfl, rfl, rfl⟩, hR₁⟩
      · obtain ⟨n, e⟩ := hD₁
        rw [List.take_length] at hR₁
        exact .list (ha.fresh' hsD) e ⟨rfl, rfl⟩ rfl (hR₁.less fun a q => .tail _ q)
  exact codeAny_compStart_list (loop _ rfl) (src.self (D :: own) 0 _ _ _ hst3 (loop _ rfl))
end
end Mine
end
section
open PySem PySem.W PyProof.Rows PySem.Calls
set_option Elab.async false
set_option linter.unusedVariables false
set_option maxRecDepth 100000
namespace Mine
theorem enc_bool : Enc Dt.bool 0 (fun _ => True) where
  eqv := fun a b _ _ => by cases a <;> cases b <;> simp [toPy, PyData.eqv]
  lay := fun a _ => by simp [toPy, PyData.canLay0]
  depth := fun a => by simp [toPy, PyData.depth]
  ok := fun a => rfl
theorem enc_3 : Enc enc3 1 (fun _ => True) where
  eqv := by
    rintro ⟨a, b, c⟩ ⟨a', b', c'⟩ _ _
    have h1 := enc_nat.eqv a a' trivial trivial
    have h2 := enc_nat.eqv b b' trivial trivial
    have h3 := enc_bool.eqv c c' trivial trivial
    simp only [enc3, toPy, toPys, PyData.eqv, PyData.eqvAll] at h1 h2 h3 ⊢
    rw [h1, h2, h3]
    by_cases q1 : a = a' <;> by_cases q2 : b = b' <;> by_cases q3 : c = c' <;> simp [q1, q2, q3]
  lay := by
    rintro ⟨a, b, c⟩ _
    simp [enc3, eN, toPy, toPys, PyData.canLay0, PyData.canLayAll0]
  depth := by
    rintro ⟨a, b, c⟩
    have h1 := enc_nat.depth a
    have h2 := enc_nat.depth b
    have h3 := enc_bool.depth c
    simp only [enc3, toPy, toPys, PyData.depth, PyData.depthAll] at h1 h2 h3 ⊢
    omega
  ok := fun ⟨a, b, c⟩ => rfl
theorem sOf_inj {a b : List Nat} : sOf a = sOf b ↔ a = b := by
  constructor
  · intro h
    have : (sOf a).cps.toList = (sOf b).cps.toList := by rw [h]
    simpa [sOf] using this
  · intro h; rw [h]
theorem enc_S : Enc eS 0 (fun l => ∀ c ∈ l, c < 256) where
  eqv := fun a b ha hb => by
    have hs : ∀ l : List Nat, (∀ c ∈ l, c < 256) → PyData.strOk (sOf l) = true := fun l h => by
      unfold PyData.strOk
      rw [Array.all_eq_true']
      intro c hc
      have := h c (by simpa [sOf] using hc)
      simp; omega
    have := enc_str.eqv (sOf a) (sOf b) (hs a ha) (hs b hb)
    rw [show toPy (eS a) = toPy (Dt.str (sOf a)) from rfl, show toPy (eS b) = toPy (Dt.str (sOf b)) from rfl, this]
    exact decide_eq_decide.mpr sOf_inj
  lay := fun a ha => enc_str.lay (sOf a) (by
    unfold PyData.strOk
    rw [Array.all_eq_true']
    intro c hc
    have := ha c (by simpa [sOf] using hc)
    simp; omega)
  depth := fun a => enc_str.depth (sOf a)
  ok := fun a => rfl
section
variable {prog : Program} {w : World} {mg mb : Str → Option Value} {k : Nat} {sc : Scope} {σ σ' : Sig} {own₀ lown lown' : List Addr} {X : Addr → Prop} {s₀ s s' : Shared} {env : Env} {A : Around} {E : Value → Shared → Prop}

theorem Cmp.ofTT {l r : Expr} {op : CmpOp} {a b : Dt} {c : Bool} (hl : Ev prog w mg mb k sc l σ a) (hr : EvT prog w mg mb k sc r σ b)
    (hop : ∀ (own : List Addr) (A : Around) (s : Shared) (E : Value → Shared → Prop) (Q : Value → Shared → Prop) (u v : Value), Gd w mg mb s.heap → Alive own s.heap → Room k A → Rep own s.heap u a → Rep [] s.heap v b →
      (∀ s', Kp s s' → Q (.bool c) s') → wpAny (model prog w) A (compareOp op u v) Q E s) : Cmp prog w mg mb k sc l op r σ c :=
  Cmp.ofT hl hr fun own A s E Q u v hg ha hrm r₁ r₂ h => hop own A s E Q u v hg ha hrm r₁ r₂.nil h
/-- == against a list that may be one's own -/
theorem Cmp.eqT {α : Type} [DecidableEq α] {enc : α → Dt} {n : Nat} {P : α → Prop} (e : Enc enc n P) {l r : Expr} {a b : List α} (ha : ∀ x ∈ a, P x) (hb : ∀ x ∈ b, P x) (hl : Ev prog w mg mb k sc l σ (.list (a.map enc))) (hr : EvT prog w mg mb k sc r σ (.list (b.map enc))) (hn : n ≤ 90 := by decide) :
    Cmp prog w mg mb k sc l .Eq r σ (decide (a = b)) :=
  Cmp.ofTT hl hr fun own A s E Q u v hg hal hrm r₁ r₂ h => by
    obtain ⟨as, q1⟩ := r₁.reads (e.list.ok a)
    obtain ⟨bs, q2⟩ := r₂.reads (e.list.ok b)
    refine SeqAt.compareEq_reads q1 q2 (e.list.lay a ha) (e.list.lay b hb) ?_ (by rw [e.list.eqv a b ha hb]; exact h _ (Kp.refl s))
    have := hrm.units; have := e.list.depth a; omega
theorem Tr.not {x : Expr} {b : Bool} {p : Pos} (h : Tr prog w mg mb k sc x σ b) : Tr prog w mg mb k sc (.UnaryOp .Not x p) σ (!b) :=
  fun own env A s E Q hs he hg ha hr hQ => isTrue_not (h own env A s E _ hs he hg ha hr hQ)
theorem Ev.neg1 {p q : Pos} : Ev prog w mg mb k sc (.UnaryOp .USub (.Constant (.int 1) 0 p) q) σ (.int (-1)) := by
  intro own env A s E Q hs he hg ha hr hQ
  refine UnaryOp_ (wpAny_Constant_int (neg_int ?_))
  exact hQ _ _ ((Kp.toks s _).trans (Kp.toks _ _)) (.int _ _)

/-- y = [..], the frame's own -/
theorem Fs.assignCompOwn {sc : Scope} (F : Fs w mg mb own₀ lown X s₀ env σ s) (hrm : Room k A) (hsc : env.scope = sc) {elt iter : Expr} {x y : Str} {px py : Pos} {ifs : List Expr} {scope : Scope} {pos spos : Pos} {α : Type} (l : List α) (enc : α → Dt) (p : α → Bool) (f : α → Dt)
    (hok : compOk sc scope x σ = true) (hit : Itr prog w mg mb k sc iter σ (l.map enc))
    (ht : ∀ a ∈ l, Trs prog w mg mb k (relS scope sc) ifs ((x, (none, enc a)) :: σ) (p a))
    (hel : ∀ a ∈ l, p a = true → Ev prog w mg mb k (relS scope sc) elt ((x, (none, enc a)) :: σ) (f a)) (hsz : l.length ≤ sizeLine) (hx : stores sc y = true)
    (hsw : swapsC sc scope pos y py = true) {Q : Flow → Shared → Prop}
    (h : ∀ D s', D ∉ lown ++ own₀ → ¬ X D → Fs w mg mb own₀ (D :: lown) X s₀ env ((y, (some D, .list ((l.filter p).map f))) :: σ) s' → Q .next s')
    (hf : ∀ env x, foldedSetIterable iter env x = pure x := by intro _ _; rfl) : wpAny (model prog w) A (exec (.Assign [.Name y py] (.ListComp elt [⟨.Name x px, iter, ifs, 0⟩] scope pos) spos) env) Q E s := by
  have hsw : swapsWith (.ListComp elt [⟨.Name x px, iter, ifs, 0⟩] scope pos) (some (.Name y py)) spos.line env = pure true := by subst hsc; unfold swapsC at hsw; unfold swapsWith; simp only [Env.blockKind]; rw [show Env.kindOf env y = env.scope.names.lookup y from rfl]; exact congrArg pure hsw
  rw [exec_Assign_Name_used _ _ _ _ hsw]
  refine wpAny_bind (wpAny_standAt (wpAny_bind ?_))
  show wpAny _ A (do let _ ← comprehension (.ListComp elt [⟨.Name x px, iter, ifs, 0⟩] scope pos) scope env _ (newList []) false (eval iter env) (some (PySem.assign (.Name y py) env))) _ _ s
  obtain ⟨h1, h2, h3, h4⟩ := comp_core (px := px) (pos := pos) (RR := compPost (model prog w) A E (some (PySem.assign (.Name y py) env)) (fun _ s' => Q .next s')) (E := E) l enc p f hok hit ht hel hsz hsc F.envOk F.gd' F.alive hrm (by
    intro D C s' k' hC hD hDC hns hys r
    obtain ⟨m, hn⟩ := hns
    obtain ⟨oC, es, ep, eC, dC, rC⟩ := id hn
    obtain ⟨ys, hpD, hrD⟩ := hys
    have F' := F.own k' hD (plainL_list hpD)
    show wpAny _ A (PySem.assign (.Name y py) env (.ref D)) _ _ _
    refine wpAny_assign_Name ?_
    refine F'.store' (e := (some D, .list ((l.filter p).map f))) ⟨rfl, .head _, D, ys, _, rfl, rfl, hpD, hrD⟩ (stores_spec (hsc ▸ hx)) fun s'' ax ox eax hax nax hsb hsame F'' => ?_
    have hax' : ax ≠ C := fun q => by
      subst q
      rcases hax with q | ⟨z, q, qk⟩
      · obtain ⟨m', ⟨o1, _, _, e1, _⟩, _⟩ := F.ns
        rw [← q, hC] at e1; cases e1
      · obtain ⟨c, v, q1, _, ⟨o1, e1, _⟩, _⟩ := F.cell z qk
        rw [q] at q1; cases q1
        rw [hC] at e1; cases e1
    have hnC := hn.sameBut hsb (Ne.symm hax')
    obtain ⟨oC', es', ep', eC', dC', _⟩ := id hnC
    have hXD : ¬ X D := fun q => by obtain ⟨o, e, _⟩ := F.live D q; rw [hD] at e; cases e
    refine ⟨m, hnC, fun h' hsb' => h D _ (F.alive.fresh' hD) hXD ?_⟩
    refine F''.other (tk := s''.toks) eC' (fun us n q => by rw [dC'] at q; cases q) (fun q => ?_) (fun z c q1 qk q2 => ?_) ?_ hsb'.extBut (fun hX => by obtain ⟨o, e, _⟩ := F.live _ hX; rw [hC] at e; cases e)
    · obtain ⟨m', ⟨o1, _, _, e1, _⟩, _⟩ := F.ns
      rw [← q, hC] at e1; cases e1
    · subst q2
      obtain ⟨c, v, r1, _, ⟨o1, e1, _⟩, _⟩ := F.cell z qk
      rw [q1] at r1; cases r1
      rw [hC] at e1; cases e1
    · by_cases hX : X C
      · exact .inl hX
      · refine .inr ?_
        cases q : s₀.heap.get? C with
        | none => rfl
        | some o => have := F.keep C o hX q; rw [hC] at this; cases this)
  exact wpAny_bind (wpAny_mono (wpAny_comprehension_free (use := some (PySem.assign (.Name y py) env)) (Q := fun _ s' => Q .next s') rfl (hf env) h1 h2 h3 h4) (fun _ s' hq => wpAny_pure (wpAny_pure hq)) fun _ _ e => e)

/-- what stands of the rest -/
noncomputable def Rest (env : Env) (h h' : Heap) : Prop := ∀ b o, Apart env b → NotSeq o → h.get? b = some o → h'.get? b = some o
/-- y = [..], each turn turning the list pl -/
theorem Fs.assignCompPl {sc : Scope} (F : Fs w mg mb own₀ lown X s₀ env σ s) (hrm : Room k A) (hsc : env.scope = sc) {elt iter : Expr} {x y : Str} {px py : Pos} {scope : Scope} {pos spos : Pos} {α : Type} (l : List α) (enc : α → Dt) (f : α → Dt) {pl : Addr} (c : Nat → Nat) {t0 : Tok} (hp : PlainL s.heap pl #[.int (c 0 : Int) t0])
    (hok : compOk sc scope x σ = true) (hit : Itr prog w mg mb k sc iter σ (l.map enc))
    (hel : ∀ i a, l[i]? = some a → ∀ (own : List Addr) (env' : Env) (A : Around) (s' : Shared) (E : Value → Shared → Prop) (Q : Value → Shared → Prop) (t : Tok), env'.scope = relS scope sc → EnvOk own env' s'.heap ((x, (none, enc a)) :: σ) → Gd w mg mb s'.heap → Alive own s'.heap → pl ∈ own → Room k A → Rest env s.heap s'.heap → PlainL s'.heap pl #[.int (c i : Int) t] →
      (∀ v s'' t', Kb (fun b => b = pl) s' s'' → PlainL s''.heap pl #[.int (c (i + 1) : Int) t'] → Rep own s''.heap v (f a) → Q v s'') → wpAny (model prog w) A (eval elt env') Q E s') (hsz : l.length ≤ sizeLine) (hx : stores sc y = true)
    (hpl : pl ∈ lown ++ own₀) (hM : Mu X s₀ pl) (hfl : ∀ p ∈ σ, p.2.1 ≠ some pl)
    (hsw : swapsC sc scope pos y py = true) {Q : Flow → Shared → Prop}
    (h : ∀ s' t', Fs w mg mb own₀ lown X s₀ env ((y, (none, .list (l.map f))) :: σ) s' → Rest env s.heap s'.heap → PlainL s'.heap pl #[.int (c l.length : Int) t'] → Q .next s')
    (hf : ∀ env x, foldedSetIterable iter env x = pure x := by intro _ _; rfl) : wpAny (model prog w) A (exec (.Assign [.Name y py] (.ListComp elt [⟨.Name x px, iter, [], 0⟩] scope pos) spos) env) Q E s := by
  have hsw : swapsWith (.ListComp elt [⟨.Name x px, iter, [], 0⟩] scope pos) (some (.Name y py)) spos.line env = pure true := by subst hsc; unfold swapsC at hsw; unfold swapsWith; simp only [Env.blockKind]; rw [show Env.kindOf env y = env.scope.names.lookup y from rfl]; exact congrArg pure hsw
  rw [exec_Assign_Name_used _ _ _ _ hsw]
  refine wpAny_bind (wpAny_standAt (wpAny_bind ?_))
  show wpAny _ A (do let _ ← comprehension (.ListComp elt [⟨.Name x px, iter, [], 0⟩] scope pos) scope env _ (newList []) false (eval iter env) (some (PySem.assign (.Name y py) env))) _ _ s
  have hApl : Apart env pl := F.apartSeq hp
  obtain ⟨op, np, ep0, cpl, dpl, dap⟩ := id hp
  have npl : ∀ {h : Heap} {vs : Array Value} {b : Addr} {o : Obj}, PlainL h pl vs → h.get? b = some o → NotSeq o → b ≠ pl := fun hp' e nn q => by
    obtain ⟨o1, n1, e1, _, _, d1⟩ := hp'
    subst q; rw [e] at e1; cases e1; exact nn _ _ d1
  obtain ⟨h1, h2, h3, h4⟩ := comp_coreJ (px := px) (pos := pos) (RR := compPost (model prog w) A E (some (PySem.assign (.Name y py) env)) (fun _ s' => Q .next s')) (E := E) l enc f (pl := pl) (fun i h => Rest env s.heap h ∧ ∃ t, PlainL h pl #[.int (c i : Int) t]) hok hit
    (fun i a hi own env' A' s' E' Q' c1 c2 c3 c4 c5 c6 ⟨c7, t, c8⟩ hQ' => hel i a hi own env' A' s' E' Q' t c1 c2 c3 c4 c5 c6 c7 c8 fun v s'' t' q1 q2 q3 => hQ' v s'' q1 ⟨fun b o hA nn e => q1.heap b o (npl c8 (c7 b o hA nn e) nn) (c7 b o hA nn e), t', q2⟩ q3) hsz hsc F.envOk F.gd' F.alive hrm hpl hfl
    (fun h' hk => F.gd h' fun b o hb e => hk b o (fun q => by
      subst q
      rcases hM with r | r
      · exact hb r
      · rw [r] at e; cases e) (F.keep b o hb e))
    (fun i h ⟨_, t, hp'⟩ => ⟨_, plainL_list hp'⟩)
    (fun i h h' ⟨q1, t, o1, n1, e1, r1⟩ hk => ⟨fun b o hA nn e => hk b o ⟨o, e⟩ (q1 b o hA nn e), t, o1, n1, hk pl o1 ⟨op, ep0⟩ e1, r1⟩)
    ⟨fun b o _ _ e => e, t0, hp⟩ (by
    intro D C s' k' hJ' hC hD hDC hns _ r
    obtain ⟨hR', t', hp'⟩ := hJ'
    obtain ⟨m, hn⟩ := hns
    obtain ⟨oC, es, ep, eC, dC, rC⟩ := id hn
    have F' := F.chgX k' hpl hM hp' hfl
    show wpAny _ A (PySem.assign (.Name y py) env (.ref D)) _ _ _
    refine wpAny_assign_Name ?_
    refine F'.store' (e := (none, .list (l.map f))) r (stores_spec (hsc ▸ hx)) fun s'' ax ox eax hax nax hsb hsame F'' => ?_
    have hax' : ax ≠ C := fun q => by
      subst q
      rcases hax with q | ⟨z, q, qk⟩
      · obtain ⟨m', ⟨o1, _, _, e1, _⟩, _⟩ := F.ns
        rw [← q, hC] at e1; cases e1
      · obtain ⟨c, v, q1, _, ⟨o1, e1, _⟩, _⟩ := F.cell z qk
        rw [q] at q1; cases q1
        rw [hC] at e1; cases e1
    have hnC := hn.sameBut hsb (Ne.symm hax')
    obtain ⟨oC', es', ep', eC', dC', _⟩ := id hnC
    have hCpl : pl ≠ C := fun q => by rw [q, hC] at ep0; cases ep0
    refine ⟨m, hnC, fun h' hsb' => h _ t' ?_ (fun b o hA nn e => ?_) ?_⟩
    · refine F''.other (tk := s''.toks) eC' (fun us n q => by rw [dC'] at q; cases q) (fun q => ?_) (fun z c q1 qk q2 => ?_) ?_ hsb'.extBut (fun hX => by obtain ⟨o, e, _⟩ := F.live _ hX; rw [hC] at e; cases e)
      · obtain ⟨m', ⟨o1, _, _, e1, _⟩, _⟩ := F.ns
        rw [← q, hC] at e1; cases e1
      · subst q2
        obtain ⟨c, v, r1, _, ⟨o1, e1, _⟩, _⟩ := F.cell z qk
        rw [q1] at r1; cases r1
        rw [hC] at e1; cases e1
      · by_cases hX : X C
        · exact .inl hX
        · refine .inr ?_
          cases q : s₀.heap.get? C with
          | none => rfl
          | some o => have := F.keep C o hX q; rw [hC] at this; cases this
    · exact hsb'.extBut b o (fun q => by subst q; rw [hC] at e; cases e) (hsb.extBut b o (fun q => by
        rcases hax with r | ⟨z, r1, r2⟩
        · exact hA.1 (q.trans r)
        · exact hA.2 z r2 (q ▸ r1)) (hR' b o hA nn e))
    · exact (hp'.extBut hsb.extBut (fun q => by
        rcases hax with r | ⟨z, r1, r2⟩
        · exact hApl.1 (q.trans r)
        · exact hApl.2 z r2 (q ▸ r1))).extBut hsb'.extBut hCpl)
  exact wpAny_bind (wpAny_mono (wpAny_comprehension_free (use := some (PySem.assign (.Name y py) env)) (Q := fun _ s' => Q .next s') rfl (hf env) h1 h2 h3 h4) (fun _ s' hq => wpAny_pure (wpAny_pure hq)) fun _ _ e => e)
end
end Mine
end
section
open PySem PySem.W PyProof.Rows PySem.Calls
set_option Elab.async false
set_option linter.unusedVariables false
set_option maxRecDepth 100000
namespace Mine
section
variable {prog : Program} {w : World} {mg mb : Str → Option Value} {k : Nat} {sc : Scope} {σ σ' : Sig} {own₀ lown lown' : List Addr} {X : Addr → Prop} {s₀ s s' : Shared} {env : Env} {A : Around} {E : Value → Shared → Prop}

/-- x, y = value, the frame told after it -/
theorem tupStmt2 {x y : Str} {value : Expr} {kk : Nat} {p1 p2 tpos pos : Pos} (hr : Room k A) (hsc : env.scope = sc) (hx : stores sc x = true) (hy : stores sc y = true) (hxy : x ≠ y) (hroad : Roads2 sc x y [.Tuple [.Name x p1, .Name y p2] kk tpos] value) {Q : Flow → Shared → Prop}
    (hv : wpAny (model prog w) A (eval value env) (fun tv s₁ => ∃ (own₀ lown : List Addr) (X : Addr → Prop) (s₀ : Shared) (t : Addr) (u v : Value) (σ₁ : Sig) (e f : Option Addr × Dt), tv = .ref t ∧ s₁.heap.IsTuple t #[u, v] ∧ Fs w mg mb own₀ lown X s₀ env σ₁ s₁ ∧ RepF (lown ++ own₀) s₁.heap u e ∧ RepF (lown ++ own₀) s₁.heap v f ∧
      ∀ s', Fs w mg mb own₀ lown X s₀ env ((x, e) :: (y, f) :: σ₁) s' → Q .next s') E s)
    (hs : ∀ e' : Env, e'.scope = sc → swapsWithSole [.Tuple [.Name x p1, .Name y p2] kk tpos] value pos.line e' = pure false := by intro e' he; rfl) : wpAny (model prog w) A (exec (.Assign [.Tuple [.Name x p1, .Name y p2] kk tpos] value pos) env) Q E s := by
  rcases hroad with hroad | hroad
  · refine Assign_Tuple (wpAny_mono hv (fun tv s₁ ⟨o₀, lo, X, s₀, t, u, v, σ₁, e, f, et, ht, F, ru, rv, h⟩ => ?_) fun _ _ e => e) (hs env hsc) (hroad env hsc)
    subst et
    exact (Fs.pair (value := value) (pos := pos) hr hsc F ht ru rv hx hy hxy h).1
  · refine Assign_Tuple_swapped (names := [x, y]) (wpAny_mono hv (fun tv s₁ ⟨o₀, lo, X, s₀, t, u, v, σ₁, e, f, et, ht, F, ru, rv, h⟩ => ?_) fun _ _ e => e) (hs env hsc) (hroad env hsc)
    subst et
    exact (Fs.pair (p1 := p1) (p2 := p2) (kk := kk) (tpos := tpos) (value := value) (pos := pos) hr hsc F ht ru rv hx hy hxy h).2
noncomputable def Roads3 (sc : Scope) (x y z : Str) (targets : List Expr) (value : Expr) : Prop :=
  (∀ e' : Env, e'.scope = sc → swappedStores targets value e' = pure none) ∨ (∀ e' : Env, e'.scope = sc → swappedStores targets value e' = pure (some [x, y, z]))
theorem lk3 {x y z : Str} {e f g : Option Addr × Dt} {σ : Sig} (hxy : x ≠ y) (hxz : x ≠ z) (hyz : y ≠ z) : ∀ a b, ((x, e) :: (y, f) :: (z, g) :: σ).lookup a = some b → ((z, g) :: (y, f) :: (x, e) :: σ).lookup a = some b := fun a b h => by
  by_cases h1 : a = x
  · subst h1
    rw [lookup_ne hxz, lookup_ne hxy]
    simpa using h
  · rw [lookup_ne h1] at h
    by_cases h2 : a = y
    · subst h2
      rw [lookup_ne hyz]
      simpa using h
    · rw [lookup_ne h2] at h
      by_cases h3 : a = z
      · subst h3; simpa using h
      · rw [lookup_ne h3] at h
        rw [lookup_ne h3, lookup_ne h2, lookup_ne h1]; exact h
/-- x, y, z = value, the frame told after it -/
theorem tupStmt3 {x y z : Str} {value : Expr} {kk : Nat} {p1 p2 p3 tpos pos : Pos} (hr : Room k A) (hsc : env.scope = sc) (hx : stores sc x = true) (hy : stores sc y = true) (hz : stores sc z = true) (hxy : x ≠ y) (hxz : x ≠ z) (hyz : y ≠ z) (hroad : Roads3 sc x y z [.Tuple [.Name x p1, .Name y p2, .Name z p3] kk tpos] value) {Q : Flow → Shared → Prop}
    (hv : wpAny (model prog w) A (eval value env) (fun tv s₁ => ∃ (own₀ lown : List Addr) (X : Addr → Prop) (s₀ : Shared) (t : Addr) (u v q : Value) (σ₁ : Sig) (e f g : Option Addr × Dt), tv = .ref t ∧ s₁.heap.IsTuple t #[u, v, q] ∧ Fs w mg mb own₀ lown X s₀ env σ₁ s₁ ∧ RepF (lown ++ own₀) s₁.heap u e ∧ RepF (lown ++ own₀) s₁.heap v f ∧ RepF (lown ++ own₀) s₁.heap q g ∧
      ∀ s', Fs w mg mb own₀ lown X s₀ env ((x, e) :: (y, f) :: (z, g) :: σ₁) s' → Q .next s') E s)
    (hs : ∀ e' : Env, e'.scope = sc → swapsWithSole [.Tuple [.Name x p1, .Name y p2, .Name z p3] kk tpos] value pos.line e' = pure false := by intro e' he; rfl) : wpAny (model prog w) A (exec (.Assign [.Tuple [.Name x p1, .Name y p2, .Name z p3] kk tpos] value pos) env) Q E s := by
  have kx := stores_spec (env := env) (hsc ▸ hx : stores env.scope x = true)
  have ky := stores_spec (env := env) (hsc ▸ hy : stores env.scope y = true)
  have kz := stores_spec (env := env) (hsc ▸ hz : stores env.scope z = true)
  have kp : ∀ (s : Shared) h', Heap.ExtBut s.heap.objs.size s.heap h' → Kp s { s with heap := h' } := fun s h' hx => ⟨⟨_, _, rfl⟩, fun b o e => hx b o (Nat.ne_of_lt (Heap.lt_size e)) e⟩
  rcases hroad with hroad | hroad
  · refine Assign_Tuple (wpAny_mono hv (fun tv s₁ ⟨o₀, lo, X, s₀, t, u, v, q, σ₁, e, f, g, et, ht, F, ru, rv, rq, h⟩ => ?_) fun _ _ e => e) (hs env hsc) (hroad env hsc)
    subst et
    refine wpAny_assign_Tuple hr.handled ht rfl rfl fun h' hext => ?_
    have F' := F.kp (kp s₁ h' hext)
    have ru' := ru.keeps (kp s₁ h' hext).heap
    have rv' := rv.keeps (kp s₁ h' hext).heap
    have rq' := rq.keeps (kp s₁ h' hext).heap
    refine wpAny_assignInOrder_more (wpAny_assign_Name (F'.store' ru' kx fun s₂ ax ox eax hax nax hsb hsame F₁ => ?_))
    have rv₁ := rv'.sameBut eax nax hsb.extBut
    have rq₁ := rq'.sameBut eax nax hsb.extBut
    refine wpAny_assignInOrder_more (wpAny_assign_Name (F₁.store' rv₁ ky fun s₃ ax ox eax hax nax hsb hsame F₂ => ?_))
    have rq₂ := rq₁.sameBut eax nax hsb.extBut
    exact wpAny_assignInOrder_more (wpAny_assign_Name (F₂.store rq₂ kz fun s₄ F₃ => wpAny_assignInOrder_none (h s₄ (F₃.weakL (lk3 hxy hxz hyz)))))
  · refine Assign_Tuple_swapped (names := [x, y, z]) (wpAny_mono hv (fun tv s₁ ⟨o₀, lo, X, s₀, t, u, v, q, σ₁, e, f, g, et, ht, F, ru, rv, rq, h⟩ => ?_) fun _ _ e => e) (hs env hsc) (hroad env hsc)
    subst et
    refine wpAny_unpackItems_tuple (items := #[u, v, q]) hr.handled ht fun h' hext => ?_
    have F' := F.kp (kp s₁ h' hext)
    have ru' := ru.keeps (kp s₁ h' hext).heap
    have rv' := rv.keeps (kp s₁ h' hext).heap
    have rq' := rq.keeps (kp s₁ h' hext).heap
    show wpAny (model prog w) A (assignInOrder [bindName env z, bindName env y, bindName env x] [q, v, u]) _ E _
    refine wpAny_assignInOrder_more (wpAny_bindName (F'.store' rq' kz fun s₂ ax ox eax hax nax hsb hsame F₁ => ?_))
    have rv₁ := rv'.sameBut eax nax hsb.extBut
    have ru₁ := ru'.sameBut eax nax hsb.extBut
    refine wpAny_assignInOrder_more (wpAny_bindName (F₁.store' rv₁ ky fun s₃ ax ox eax hax nax hsb hsame F₂ => ?_))
    have ru₂ := ru₁.sameBut eax nax hsb.extBut
    exact wpAny_assignInOrder_more (wpAny_bindName (F₂.store ru₂ kx fun s₄ F₃ => wpAny_assignInOrder_none (h s₄ F₃)))

/-- _law_reached(..) -/
theorem Fs.reached (F : Fs w mg mb own₀ lown X s₀ env σ s) (hr : Room (k + 3) A) (hsc : env.scope = sc) {T : List (List Nat)} {start fin : List Nat} (hT2 : T.length = 2) (hTs : ∀ t ∈ T, t.length < 2 ^ 20) (hl1 : start.length < 2 ^ 24) (hl2 : fin.length < 2 ^ 24) {e : Expr} {es : List Expr} {p pos : Pos} (hgl : isGl sc (Str.ofString "_law_reached") = true)
    (hargs : EvAll prog w mg mb (k + 3) sc (e :: es) σ [eLL T, eL start, eL fin]) (hT : Tb noN 122 lpos (lq 125) s.heap) (hM : Mu X s₀ 122) {Q : Value → Shared → Prop}
    (h : ∀ v s', Fs w mg mb own₀ lown X s₀ env σ s' → Kb (fun b => b = 122) s s' → Tb noN 122 lpos (lq 125) s'.heap → Rep (lown ++ own₀) s'.heap v (.tuple [eL (reachF T start fin).1, eLL (reachF T start fin).2.2, eLL (reachF T start fin).2.1]) → Q v s')
    (he : ∀ env, starEach (e :: es) env = (false, eval e env) :: starEach es env := by intro _; rfl) : wpAny (model prog w) A (eval (.Call (.Name (Str.ofString "_law_reached") p) (e :: es) [] pos) env) Q E s := by
  subst hsc
  refine wpAny_Call_ofName (glob_load F.envOk F.gd' hgl (gl_fn (a := 125) (fun _ => rfl) _ F.gd') ?_)
  refine callWith_def (o := fnObj 125) (fd := fdOf 125) rfl (hargs _ env A s E _ pos rfl F.envOk F.gd' F.alive hr fun vs s₁ k₁ r => ?_) (he env)
  have F₁ := F.kp k₁
  refine ⟨F₁.gd'.K 125 _ rfl, ?_⟩
  cases r with
  | cons q1 r =>
    cases r with
    | cons q2 r =>
      cases r with
      | cons q3 r =>
        cases r
        have T₁ := hT.keeps k₁.heap
        obtain ⟨ps, eP⟩ := T₁.obj
        refine call_reached (k := k) hT2 hTs hl1 hl2 F₁.gd' F₁.alive hr q1 q2 q3 T₁ fun v s₂ kb T₂ rv => ?_
        exact h v s₂ (F₁.kb kb (fun b hb => by subst hb; exact ⟨T₁.notSeq, F₁.apartOf eP (fun es n q => by cases q) (fun c q => by cases q), hM⟩) fun b hb _ => by subst hb; exact T₂.notSeq) (k₁.kb.trans kb) T₂ rv
/-- _law_states(read_uint1(stream), many) -/
theorem Fs.states1 (F : Fs w mg mb own₀ lown X s₀ env σ s) (hr : Room (k + 2) A) (hsc : env.scope = sc) {N : Addr → Prop} {f g : Str} {st pl : Addr} {l : List Nat} {n c m : Nat} {tn : Tok} {fp gp p1 p2 c1 c2 : Pos} {Q : Value → Shared → Prop} (hx : σ.lookup f = some (none, .any (.ref st))) (ho : isOwn sc f = true) (hy : σ.lookup g = some (none, eN m)) (ho2 : isOwn sc g = true) (hm : m < 30)
    (hgl1 : isGl sc (Str.ofString "read_uint1") = true) (hgl2 : isGl sc (Str.ofString "_law_states") = true)
    (hS : Stm N s.heap st pl l) (hp : PlainL s.heap pl #[.int (n : Int) tn]) (hlo : (hd0.heap_1 w.params).lookup pl = none) (hn : l[n]? = some c) (hc : c < 256) (hl : l.length < 2 ^ 20) (hpl : pl ∈ lown ++ own₀) (hM : Mu X s₀ pl) (hfl : ∀ p ∈ σ, p.2.1 ≠ some pl)
    (h : ∀ v s' t', Fs w mg mb own₀ lown X s₀ env σ s' → Kb (fun b => b = pl) s s' → PlainL s'.heap pl #[.int ((n + 1 : Nat) : Int) t'] → Rep (lown ++ own₀) s'.heap v (eL (stF c m)) → Q v s') :
    wpAny (model prog w) A (eval (.Call (.Name (Str.ofString "_law_states") p1) [.Call (.Name (Str.ofString "read_uint1") p2) [.Name f fp] [] c2, .Name g gp] [] c1) env) Q E s := by
  subst hsc
  refine wpAny_Call_ofName (glob_load F.envOk F.gd' hgl2 (gl_fn (a := 110) (fun _ => rfl) _ F.gd') ?_)
  refine callWith_def (o := fnObj 110) (fd := fdOf 110) rfl (args_cons (wpAny_Call_ofName (glob_load F.envOk F.gd' hgl1 (gl_fn (a := 30) (fun _ => rfl) _ F.gd') (callWith_def (o := fnObj 30) (fd := fdOf 30) rfl (args_cons (Ev.name (k := k + 2) hx ho _ env A s _ _ rfl F.envOk F.gd' F.alive hr fun u s₁ k₁ r₁ => args_nil ?_) rfl) rfl))) rfl) rfl
  rw [rep_any r₁]
  have F₁ := F.kp k₁
  refine ⟨F₁.gd'.K 30 _ rfl, call_uint1 (k := k) F₁.gd' F₁.alive hpl hr (hS.kp k₁) (hp.keeps k₁.heap) hlo hn hc hl fun t t' s₂ kb₂ hp₂ => ?_⟩
  have F₂ := F₁.chgX kb₂ hpl hM hp₂ hfl
  refine args_cons (Ev.name (k := k + 2) hy ho2 _ env A s₂ _ _ rfl F₂.envOk F₂.gd' F₂.alive hr fun u s₃ k₃ r₃ => args_nil ?_) rfl
  have F₃ := F₂.kp k₃
  refine ⟨F₃.gd'.K 110 _ rfl, fn_states (k := k + 1) c m hm _ A s₃ _ _ _ F₃.gd' F₃.alive hr (.cons (.int _ _) (.cons r₃ .nil)) fun v s₄ k₄ r₄ => ?_⟩
  exact h v s₄ t' (F₃.kp k₄) ((k₁.kb.trans kb₂).trans (k₃.trans k₄).kb) (hp₂.keeps (k₃.trans k₄).heap) r₄
end
end Mine
end
section
open PySem PySem.W PyProof.Rows PySem.Calls
set_option Elab.async false
set_option linter.unusedVariables false
set_option maxRecDepth 100000
namespace Mine
theorem fm_congr {α β : Type} {f g : β → Option α} : ∀ l : List β, (∀ x ∈ l, f x = g x) → l.filterMap f = l.filterMap g
  | [], _ => rfl
  | x :: r, h => by rw [List.filterMap_cons, List.filterMap_cons, h x (.head _), fm_congr r fun y hy => h y (.tail _ hy)]
theorem cutL_map {α β : Type} (f : α → β) (xs : List α) (lo hi st : Option Int) : cutL (xs.map f) lo hi st = (cutL xs lo hi st).map f := by
  unfold cutL
  rw [List.length_map, List.map_filterMap]
  refine fm_congr _ fun i _ => ?_
  rw [List.getElem?_map]
theorem cutL_plain {α : Type} (xs : List α) (lo hi : Option Int) : cutL xs lo hi none = (xs.drop (lo.elim 0 (clipAt xs.length))).take (hi.elim xs.length (clipAt xs.length) - lo.elim 0 (clipAt xs.length)) := by
  unfold cutL
  rw [sliceBounds_plain]
  have := fun a k => pick_run xs.toArray a k
  simp only [sliceRange_one]
  simpa using this _ _
theorem cutL_from {α : Type} (xs : List α) {a : Nat} (h : a ≤ xs.length) : cutL xs (some (a : Int)) none none = xs.drop a := by
  rw [cutL_plain]
  show (xs.drop (clipAt xs.length (a : Int))).take (xs.length - clipAt xs.length (a : Int)) = _
  rw [clipAt_nat, Nat.min_eq_left h, List.take_of_length_le (by rw [List.length_drop]; exact Nat.le_refl _)]
theorem cutL_to {α : Type} (xs : List α) {b : Nat} (h : b ≤ xs.length) : cutL xs none (some (b : Int)) none = xs.take b := by
  rw [cutL_plain]
  show (xs.drop 0).take (clipAt xs.length (b : Int) - 0) = _
  rw [clipAt_nat, Nat.min_eq_left h]; rfl
theorem cutL_mid {α : Type} (xs : List α) {a b : Nat} (h : b ≤ xs.length) (hab : a ≤ b) : cutL xs (some (a : Int)) (some (b : Int)) none = (xs.drop a).take (b - a) := by
  rw [cutL_plain]
  show (xs.drop (clipAt xs.length (a : Int))).take (clipAt xs.length (b : Int) - clipAt xs.length (a : Int)) = _
  rw [clipAt_nat, clipAt_nat, Nat.min_eq_left h, Nat.min_eq_left (Nat.le_trans hab h)]
theorem cutL_rev {α : Type} (xs : List α) : cutL xs none none (some (-1)) = xs.reverse := by
  unfold cutL
  have hb : sliceBounds none none (some (-1)) xs.length = ((xs.length : Int) - 1, -1, -1) := by simp [sliceBounds]
  rw [hb]
  have hr : sliceRange ((xs.length : Int) - 1) (-1) (-1) = (List.range xs.length).map fun k => xs.length - 1 - k := by
    unfold sliceRange
    simp only []
    rw [if_neg (by decide)]
    by_cases h : xs.length = 0
    · rw [h]; rfl
    · rw [if_pos (by omega)]
      have e : ((xs.length : Int) - 1 - -1 - -1 - 1) / (- -1) = (xs.length : Int) := by
        rw [show (- -1 : Int) = 1 by decide, Int.ediv_one]; omega
      rw [e, Int.toNat_natCast]
      apply List.map_congr_left
      intro k hk
      have := List.mem_range.mp hk
      omega
  rw [hr, List.filterMap_map]
  have h2 : ∀ ys : List α, (List.range ys.length).filterMap (fun k => ys[k]?) = ys := fun ys => by
    have := pick_run ys.toArray 0 ys.length
    simpa using this
  have h3 := h2 xs.reverse
  rw [List.length_reverse] at h3
  rw [← h3]
  refine (fm_congr _ fun k hk => ?_)
  have hk := List.mem_range.mp hk
  show xs[xs.length - 1 - k]? = xs.reverse[k]?
  rw [List.getElem?_reverse (by omega)]
/-- what law reckons first -/
noncomputable def baseL : List Nat := [1, 2, 4, 4, 1, 3, 6, 1, 2]
noncomputable def lawCell (ns : List Int) (k : Nat) : Int := (baseL.getD k 0 : Int) + (cutL ns (some (k : Int)) (some 60) (some 9)).sum
noncomputable def cellsL (ns : List Int) : List Int := (List.range 9).map (lawCell ns)
noncomputable def manyF (ns : List Int) : Nat := 2 + ((lawCell ns 0).fmod 2).toNat
noncomputable def octF (m : Nat) (x : Int) : Nat := (x.fmod ((2 ^ m : Nat) : Int)).toNat
noncomputable def octsF (ns : List Int) : List Nat := ((cellsL ns).drop 1).map (octF (manyF ns))
theorem many_or (ns : List Int) : manyF ns = 2 ∨ manyF ns = 3 := by
  unfold manyF
  rw [Int.fmod_eq_emod_of_nonneg _ (by decide)]
  omega
theorem oct_lt (m : Nat) (x : Int) : octF m x < 2 ^ m := by
  unfold octF
  rw [Int.fmod_eq_emod_of_nonneg _ (Int.natCast_nonneg _)]
  have h2 : ((2 ^ m : Nat) : Int) ≠ 0 := by have := Nat.two_pow_pos m; omega
  have h1 := Int.emod_lt_of_pos x (b := ((2 ^ m : Nat) : Int)) (by have := Nat.two_pow_pos m; omega)
  have h0 := Int.emod_nonneg x h2
  omega
theorem octs_len (ns : List Int) : (octsF ns).length = 8 := by simp [octsF, cellsL]
theorem octs_lt (ns : List Int) : ∀ x ∈ octsF ns, x < 2 ^ manyF ns := by
  intro x hx
  obtain ⟨y, _, rfl⟩ := List.mem_map.mp hx
  exact oct_lt _ _
noncomputable def lawB : { b : List Stmt // (fdOf 152).body = .stmts b } := ⟨_, rfl⟩
noncomputable abbrev lawBody : List Stmt := lawB.1
noncomputable def lawS : { b : Scope // (fdOf 152).scope = b } := ⟨_, rfl⟩
noncomputable abbrev lawSc : Scope := lawS.1
noncomputable def ownF (m : Nat) (o : List Nat) : List (List (List Nat)) := [(o.take m).map (stF · m), ((o.drop 3).take m).map (stF · m)]
noncomputable def firstF (m : Nat) (o : List Nat) : List Nat := stF (o.getD 6 0) m
noncomputable def lastF (m : Nat) (o : List Nat) : List Nat := stF (o.getD 7 0) m
noncomputable def bytF (m : Nat) (o : List Nat) : List Nat := [m] ++ o.take m ++ [m] ++ (o.drop 3).take m ++ o.drop 6
end Mine
end
section
open PySem PySem.W PyProof.Rows PySem.Calls
set_option Elab.async false
set_option linter.unusedVariables false
set_option maxRecDepth 100000
namespace Mine
section
variable {prog : Program} {w : World} {mg mb : Str → Option Value} {k : Nat} {sc : Scope} {σ σ' : Sig} {own₀ lown lown' : List Addr} {X : Addr → Prop} {s₀ s s' : Shared} {env : Env} {A : Around} {E : Value → Shared → Prop}
theorem EvAll.consC {c : Const} {kk : Nat} {p : Pos} {es : List Expr} {d : Dt} {ds : List Dt} (h1 : Ev prog w mg mb k sc (.Constant c kk p) σ d) (h2 : EvAll prog w mg mb k sc es σ ds) : EvAll prog w mg mb k sc (.Constant c kk p :: es) σ (d :: ds) := EvAll.cons h1 h2 (fun _ => rfl)
noncomputable abbrev sgA1 (m : Nat) (o : List Nat) : Sig := [(Str.ofString "last", (none, eL (lastF m o))), (Str.ofString "first", (none, eL (firstF m o))), (Str.ofString "own", (none, eLLL (ownF m o))), (Str.ofString "octets", (none, eL o)), (Str.ofString "many", (none, eN m))]
set_option maxHeartbeats 8000000 in
theorem law_A (ns : List Int) (hns : ns.length ≤ 63) {Q : Flow → Shared → Prop} (hr : Room (k + 5) A) (hsc : env.scope = lawSc) {own : List Addr} (F : Fs w mg mb own [] (fun _ => False) s₀ env [(Str.ofString "script", (none, .list (ns.map .int)))] s)
    (h : ∀ s', Fs w mg mb own [] (fun _ => False) s₀ env (sgA1 (manyF ns) (octsF ns)) s' → wpAny (model prog w) A (execs (lawBody.drop 6) env) Q E s') : wpAny (model prog w) A (execs lawBody env) Q E s := by
  have hm := many_or ns
  have hol := octs_len ns
  refine seq_next ?_
  refine F.assign hr hsc (d := eL baseL) ?_ rfl fun s₂ F₂ => ⟨rfl, ?_⟩
  · refine Ev.list (ds := [eN 1, eN 2, eN 4, eN 4, eN 1, eN 3, eN 6, eN 1, eN 2]) ?_ (size_le (by simp))
    refine EvAll.consC (Ev.lit (n := 1)) ?_
    refine EvAll.consC (Ev.lit (n := 2)) ?_
    refine EvAll.consC (Ev.lit (n := 4)) ?_
    refine EvAll.consC (Ev.lit (n := 4)) ?_
    refine EvAll.consC (Ev.lit (n := 1)) ?_
    refine EvAll.consC (Ev.lit (n := 3)) ?_
    refine EvAll.consC (Ev.lit (n := 6)) ?_
    refine EvAll.consC (Ev.lit (n := 1)) ?_
    exact EvAll.consC (Ev.lit (n := 2)) EvAll.nil
  refine seq_next (F₂.assignComp hr hsc (List.range 9) eN (fun _ => true) (fun i => .int (lawCell ns i)) rfl (Itr.rangeN (n := 9) Ev.lit rfl (gl_none fun _ => rfl) (by decide)) (fun _ _ => Trs.nil) (fun i hi _ => ?_) (size_le (by decide)) rfl rfl fun s₃ F₃ => ⟨rfl, ?_⟩)
  · have hi := List.mem_range.mp hi
    refine Ev.add (Ev.itemN (xs := baseL.map eN) (EvT.name rfl rfl) (Ev.name rfl rfl) (by omega) (getD_map baseL eN i 0 hi)) (Ev.sum (gl_none fun _ => rfl) rfl (Ev.cast (Ev.cut (xs := ns.map .int) (lo := some (i : Int)) (hi := some 60) (sp := some 9) (Ev.name rfl rfl) (EvP.some (Ev.name rfl rfl)) (EvP.some Ev.int) (EvP.some Ev.int) (by decide) (size_le (by rw [List.length_map]; omega))) (by rw [cutL_map])))
  have e1 : Dt.list (((List.range 9).filter fun _ => true).map fun i => Dt.int (lawCell ns i)) = .list ((cellsL ns).map .int) := by rw [filter_true, cellsL, List.map_map]; rfl
  rw [e1] at F₃
  have hcl : (cellsL ns).length = 9 := by simp [cellsL]
  refine seq_next (F₃.assign hr hsc (d := eN (manyF ns)) (Ev.cast (Ev.add Ev.int (Ev.mod (Ev.item (xs := (cellsL ns).map .int) (n := 0) (EvT.name rfl rfl) Ev.int (by decide) (by decide) (d := .int (lawCell ns 0)) (by rw [List.getElem?_map]; rfl)) Ev.int (by decide))) ?_) rfl fun s₄ F₄ => ⟨rfl, ?_⟩)
  · show Dt.int _ = Dt.int _
    unfold manyF
    have : 0 ≤ (lawCell ns 0).fmod 2 := by rw [Int.fmod_eq_emod_of_nonneg _ (by decide)]; exact Int.emod_nonneg _ (by decide)
    congr 1; omega
  have hm30 : manyF ns < 2 ^ 20 := by omega
  refine seq_next (F₄.assignComp hr hsc ((cellsL ns).drop 1) Dt.int (fun _ => true) (fun x => eN (octF (manyF ns) x)) rfl ?_ (fun _ _ => Trs.nil) (fun x hx _ => ?_) (size_le (by rw [List.length_drop, hcl]; decide)) rfl rfl fun s₅ F₅ => ⟨rfl, ?_⟩)
  · have hc : cutL ((cellsL ns).map Dt.int) (some ((1 : Nat) : Int)) none none = ((cellsL ns).drop 1).map Dt.int := by rw [cutL_from _ (by rw [List.length_map, hcl]; decide), List.map_drop]
    rw [← hc]
    exact Itr.list (Ev.cut (xs := (cellsL ns).map .int) (lo := some ((1 : Nat) : Int)) (hi := none) (sp := none) (Ev.name rfl rfl) (EvP.some Ev.int) EvP.none EvP.none (by simp) (size_le (by rw [List.length_map, hcl]; decide)))
  · refine Ev.cast (Ev.mod (Ev.name rfl rfl) (Ev.powN Ev.lit (Ev.name rfl rfl) hm30) (by have := Nat.two_pow_pos (manyF ns); omega)) ?_
    show Dt.int _ = Dt.int _
    unfold octF
    have : 0 ≤ x.fmod ((2 ^ manyF ns : Nat) : Int) := by rw [Int.fmod_eq_emod_of_nonneg _ (Int.natCast_nonneg _)]; exact Int.emod_nonneg _ (by have := Nat.two_pow_pos (manyF ns); omega)
    congr 1; omega
  have e2 : Dt.list ((((cellsL ns).drop 1).filter fun _ => true).map fun x => eN (octF (manyF ns) x)) = eL (octsF ns) := by rw [filter_true, eL, octsF, List.map_map]; rfl
  rw [e2] at F₅
  have holt := octs_lt ns
  generalize octsF ns = o at *
  generalize manyF ns = m at *
  have hm3 : m ≤ 3 := by omega
  refine seq_next (F₅.assign hr hsc (d := eLLL (ownF m o)) (Ev.list (ds := (ownF m o).map eLL) (.cons ?_ (.cons ?_ .nil)) (size_le (by simp [ownF]))) rfl fun s₆ F₆ => ⟨rfl, ?_⟩)
  · have hc : cutL (o.map eN) none (some (m : Int)) none = (o.take m).map eN := by rw [cutL_to _ (by rw [List.length_map]; omega), List.map_take]
    refine Ev.cast (Ev.comp (o.take m) eN (fun _ => true) (fun x => eL (stF x m)) rfl (by rw [← hc]; exact Itr.list (Ev.cut (xs := o.map eN) (lo := none) (hi := some (m : Int)) (sp := none) (Ev.name rfl rfl) EvP.none (EvP.some (Ev.name rfl rfl)) EvP.none (by simp) (size_le (by rw [List.length_map]; omega)))) (fun _ _ => Trs.nil)
      (fun x hx _ => Ev.callD (gl_fn fun _ => rfl) (obj_at fun _ => rfl) rfl rfl (.cons (Ev.name rfl rfl) (.cons (Ev.name rfl rfl) .nil)) (fn_states x m (by omega))) (size_le (by rw [List.length_take]; omega))) ?_
    rw [filter_true]; simp [eLL, Function.comp_def]
  · have hc : cutL (o.map eN) (some ((3 : Nat) : Int)) (some ((3 + m : Nat) : Int)) none = ((o.drop 3).take m).map eN := by rw [cutL_mid _ (by rw [List.length_map]; omega) (by omega), ← List.map_drop, ← List.map_take, show 3 + m - 3 = m by omega]
    refine Ev.cast (Ev.comp ((o.drop 3).take m) eN (fun _ => true) (fun x => eL (stF x m)) rfl (by rw [← hc]; exact Itr.list (Ev.cut (xs := o.map eN) (lo := some ((3 : Nat) : Int)) (hi := some ((3 + m : Nat) : Int)) (sp := none) (Ev.name rfl rfl) (EvP.some Ev.int) (EvP.some (Ev.addN Ev.lit (Ev.name rfl rfl))) EvP.none (by simp) (size_le (by rw [List.length_map]; omega)))) (fun _ _ => Trs.nil)
      (fun x hx _ => Ev.callD (gl_fn fun _ => rfl) (obj_at fun _ => rfl) rfl rfl (.cons (Ev.name rfl rfl) (.cons (Ev.name rfl rfl) .nil)) (fn_states x m (by omega))) (size_le (by rw [List.length_take, List.length_drop]; omega))) ?_
    rw [filter_true]; simp [eLL, Function.comp_def]
  refine seq_next (F₆.tup2 hr hsc (d := eL (firstF m o)) (e := eL (lastF m o)) (Ev.tuple (ds := [eL (firstF m o), eL (lastF m o)]) (.cons ?_ (.cons ?_ .nil)) (size_le (by simp))) rfl rfl (by decide) ?_ fun s₇ F₇ => ⟨rfl, ?_⟩)
  · exact Ev.callD (gl_fn fun _ => rfl) (obj_at fun _ => rfl) rfl rfl (.cons (Ev.itemN (xs := o.map eN) (n := 6) (EvT.name rfl rfl) Ev.lit (by decide) (getD_map o eN 6 0 (by omega))) (.cons (Ev.name rfl rfl) .nil)) (fn_states _ m (by omega))
  · exact Ev.callD (gl_fn fun _ => rfl) (obj_at fun _ => rfl) rfl rfl (.cons (Ev.itemN (xs := o.map eN) (n := 7) (EvT.name rfl rfl) Ev.lit (by decide) (getD_map o eN 7 0 (by omega))) (.cons (Ev.name rfl rfl) .nil)) (fn_states _ m (by omega))
  · first | exact .inl fun e' he => by cases e'; cases he; rfl
          | exact .inr fun e' he => by cases e'; cases he; rfl
  exact h s₇ (F₇.weak (wkc rfl (wkc rfl (wkc rfl (wkc rfl (wkc rfl wk0))))))
end
end Mine
end
section
open PySem PySem.W PyProof.Rows PySem.Calls
set_option Elab.async false
set_option linter.unusedVariables false
set_option maxRecDepth 100000
namespace Mine
noncomputable abbrev lpos2 : Pos := ⟨160, 33, 160, 69⟩
/-- the three tables -/
structure Tbs (env : Env) (h : Heap) : Prop where
  t122 : Tb (fun b => ¬ Apart env b) 122 lpos (lq 125) h
  t149 : Tb (fun b => ¬ Apart env b) 149 lpos2 (lq 152) h
  t100 : ∃ ps, h.get? 100 = some (tabObj ps)
  a122 : Apart env 122
  a149 : Apart env 149
  a100 : Apart env 100
theorem Tb.rest {env : Env} {P : Addr} {pos : Pos} {q : Str} {h h' : Heap} (t : Tb (fun b => ¬ Apart env b) P pos q h) (hA : Apart env P) (r : Rest env h h') : Tb (fun b => ¬ Apart env b) P pos q h' :=
  t.at fun b o fs hb e d => r b o (by
    rcases hb with rfl | hb
    · exact hA
    · exact Classical.byContradiction hb) (fun us n q => by rw [d] at q; cases q) e
/-- one table turned, the other stands -/
theorem Tb.kb {N : Addr → Prop} {P P' : Addr} {pos : Pos} {q : Str} {s s' : Shared} {ps : Array Value} (t : Tb N P pos q s.heap) (hne : P ≠ P') (e' : s.heap.get? P' = some (tabObj ps)) (hps : ∀ qq tt, ps[1]? ≠ some (.str qq tt)) (k : Kb (fun b => b = P') s s') : Tb N P pos q s'.heap := by
  rcases t with e | ⟨c, e, ⟨c2, o, vs, tt, e2, e3, e4, e5⟩, hn⟩
  · exact .inl (k.heap _ _ hne e)
  · cases e2
    refine .inr ⟨c, k.heap _ _ hne e, ⟨c, o, vs, tt, rfl, k.heap _ _ (fun q => ?_) e3, e4, e5⟩, hn⟩
    subst q
    rw [e'] at e3; cases e3; cases e4; exact hps _ _ e5
theorem Tb.shape {N : Addr → Prop} {P : Addr} {pos : Pos} {q : Str} {h : Heap} (t : Tb N P pos q h) : ∃ ps, h.get? P = some (tabObj ps) ∧ ∀ qq tt, ps[1]? ≠ some (.str qq tt) := by
  rcases t with e | ⟨c, e, _⟩
  · exact ⟨_, e, fun _ _ q => by simp at q⟩
  · exact ⟨_, e, fun _ _ q => by simp [rawInt] at q⟩
section
variable {prog : Program} {w : World} {mg mb : Str → Option Value} {k : Nat} {sc : Scope} {σ σ' : Sig} {own₀ lown lown' : List Addr} {X : Addr → Prop} {s₀ s s' : Shared} {env : Env} {A : Around} {E : Value → Shared → Prop}
theorem Tbs.rest {h h' : Heap} (t : Tbs env h) (r : Rest env h h') : Tbs env h' :=
  ⟨t.t122.rest t.a122 r, t.t149.rest t.a149 r, let ⟨ps, e⟩ := t.t100; ⟨ps, r _ _ t.a100 (fun us n q => by cases q) e⟩, t.a122, t.a149, t.a100⟩
theorem Tbs.kp {s s' : Shared} (t : Tbs env s.heap) (k : Kp s s') : Tbs env s'.heap := t.rest fun b o _ _ e => k.heap b o e
theorem Tbs.keeps {h h' : Heap} (t : Tbs env h) (k : ∀ b o, h.get? b = some o → h'.get? b = some o) : Tbs env h' := t.rest fun b o _ _ e => k b o e
theorem Tbs.kbL {pl : Addr} {vs : Array Value} (t : Tbs env s.heap) (hp : PlainL s.heap pl vs) (k : Kb (fun b => b = pl) s s') : Tbs env s'.heap := t.rest fun b o _ nn e => k.heap b o (fun q => by
  subst q
  obtain ⟨o', n, e', _, _, d⟩ := hp
  rw [e] at e'; cases e'; exact nn _ _ d) e
theorem Tbs.hold {L : List Addr} {Z : Addr → Prop} (F' : Fs w mg mb own₀ lown' (fun b => Z b ∧ ¬ Hold env s L b) s env σ' s') (t : Tbs env s.heap) : Tbs env s'.heap := t.rest fun b o hA nn e => hold_not F' hA e nn
theorem Tbs.kb122 (t : Tbs env s.heap) (k : Kb (fun b => b = 122) s s') (t' : Tb (fun b => ¬ Apart env b) 122 lpos (lq 125) s'.heap) : Tbs env s'.heap := by
  obtain ⟨ps, e, hps⟩ := t.t122.shape
  exact ⟨t', t.t149.kb (by decide) e hps k, let ⟨ps, e⟩ := t.t100; ⟨ps, k.heap _ _ (by decide) e⟩, t.a122, t.a149, t.a100⟩
theorem Tbs.kb149 (t : Tbs env s.heap) (k : Kb (fun b => b = 149) s s') (t' : Tb (fun b => ¬ Apart env b) 149 lpos2 (lq 152) s'.heap) : Tbs env s'.heap := by
  obtain ⟨ps, e, hps⟩ := t.t149.shape
  exact ⟨t.t122.kb (by decide) e hps k, t', let ⟨ps, e⟩ := t.t100; ⟨ps, k.heap _ _ (by decide) e⟩, t.a122, t.a149, t.a100⟩
/-- a fresh list comes under own, a table turned -/
theorem Fs.ownKb (F : Fs w mg mb own₀ lown X s₀ env σ s) {P : Addr} {oP : Obj} (eP : s.heap.get? P = some oP) (nP : NotSeq oP) (hA : Apart env P) (hM : Mu X s₀ P) (k' : Kb (fun b => b = P) s s') (hC : X P → ∃ o, s'.heap.get? P = some o ∧ NotSeq o) {a : Addr} {vs : Array Value} (ha : s.heap.get? a = none) (hl : s'.heap.IsList a vs) : Fs w mg mb own₀ (a :: lown) X s₀ env σ s' := by
  have F' := F.kb k' (fun b hb => by subst hb; exact ⟨⟨_, eP, nP⟩, hA, hM⟩) fun b hb hX => by subst hb; exact hC hX
  have hs : Heap.ExtBut P s.heap s'.heap := fun b o hb e => k'.heap b o hb e
  exact { F' with
    ns := let ⟨m, hn, h⟩ := F.ns; ⟨m, hn.extBut hs (Ne.symm hA.1), fun x e h1 h2 => let ⟨v, h3, h4⟩ := h x e h1 h2; ⟨v, h3, (h4.more ha).sameBut eP nP hs⟩⟩
    cell := fun x hx => let ⟨c, v, h1, h2, ⟨o, e, d⟩, h4⟩ := F.cell x hx; ⟨c, v, h1, h2, ⟨o, hs c o (fun q => hA.2 x hx (q ▸ h1)) e, d⟩, fun e he => let ⟨v', h5, h6⟩ := h4 e he; ⟨v', h5, (h6.more ha).sameBut eP nP hs⟩⟩
    alive := fun b hb => by
      rcases List.mem_cons.mp hb with q | q
      · subst q; exact ⟨vs, hl⟩
      · exact F'.alive b q
    newl := fun b hb => by
      rcases List.mem_cons.mp hb with q | q
      · subst q
        refine .inr ?_
        cases r : s₀.heap.get? b with
        | none => rfl
        | some o => rw [F.keep b o (fun hX => by obtain ⟨o, e, _⟩ := F.live b hX; rw [ha] at e; cases e) r] at ha; cases ha
      · exact F.newl b q
    live := fun b hb => let ⟨o, e, r⟩ := F'.live b hb; ⟨o, e, r.imp (fun q => .tail _ q) id⟩
    disj := fun b hb => by
      rcases List.mem_cons.mp hb with q | q
      · subst q; intro q2
        obtain ⟨vs, o, e, _⟩ := F.alive b (List.mem_append_right _ q2)
        rw [ha] at e; cases e
      · exact F.disj b q }
end
end Mine
end
section
open PySem PySem.W PyProof.Rows PySem.Calls
set_option Elab.async false
set_option linter.unusedVariables false
set_option maxRecDepth 100000
namespace Mine
section
variable {prog : Program} {w : World} {mg mb : Str → Option Value} {k : Nat} {sc : Scope} {σ σ' : Sig} {own₀ lown lown' : List Addr} {X : Addr → Prop} {s₀ s s' : Shared} {env : Env} {A : Around} {E : Value → Shared → Prop}
theorem stF_lt {n m : Nat} : ∀ p ∈ stF n m, p < m := fun p hp => List.mem_range.mp (List.mem_filter.mp hp).1
theorem stF_len {n m : Nat} : (stF n m).length ≤ m := by
  refine Nat.le_trans (List.length_filter_le _ _) ?_
  rw [List.length_range]; exact Nat.le_refl _
/-- the place behind the i-th bytes -/
noncomputable def plc (m i : Nat) : Nat := i * (m + 1)
theorem byt_len {m : Nat} {o : List Nat} (hm : m ≤ 3) (ho : o.length = 8) : (bytF m o).length = 2 * m + 4 := by
  simp only [bytF, List.length_append, List.length_take, List.length_drop, List.length_singleton]; omega
theorem byt_0 {m : Nat} {o : List Nat} : (bytF m o)[0]? = some m := by simp [bytF]
theorem byt_1 {m : Nat} {o : List Nat} (hm : m ≤ 3) (ho : o.length = 8) : (bytF m o)[m + 1]? = some m := by
  have e : bytF m o = ([m] ++ o.take m) ++ ([m] ++ ((o.drop 3).take m ++ o.drop 6)) := by simp [bytF]
  have hl : ([m] ++ o.take m).length = m + 1 := by simp only [List.length_append, List.length_take, List.length_singleton]; omega
  rw [e, List.getElem?_append_right (by omega), hl, Nat.sub_self]
  rfl
theorem byt_cut0 {m : Nat} {o : List Nat} (hm : m ≤ 3) (ho : o.length = 8) : ((bytF m o).drop 1).take m = o.take m := by
  have e : bytF m o = [m] ++ (o.take m ++ ([m] ++ ((o.drop 3).take m ++ o.drop 6))) := by simp [bytF]
  rw [e, List.drop_append_of_le_length (by simp)]
  simp only [List.drop_succ_cons, List.drop_zero, List.nil_append, List.drop_nil]
  rw [List.take_append_of_le_length (by rw [List.length_take]; omega), List.take_of_length_le (by rw [List.length_take]; omega)]
theorem byt_cut1 {m : Nat} {o : List Nat} (hm : m ≤ 3) (ho : o.length = 8) : ((bytF m o).drop (m + 1 + 1)).take m = (o.drop 3).take m := by
  have e : bytF m o = ([m] ++ o.take m ++ [m]) ++ ((o.drop 3).take m ++ o.drop 6) := by simp [bytF]
  have hl : ([m] ++ o.take m ++ [m]).length = m + 1 + 1 := by simp only [List.length_append, List.length_take, List.length_singleton]; omega
  rw [e, List.drop_append, List.drop_of_length_le (by rw [hl]; omega), hl, Nat.sub_self, List.drop_zero, List.nil_append]
  rw [List.take_append_of_le_length (by rw [List.length_take, List.length_drop]; omega), List.take_of_length_le (by rw [List.length_take]; omega)]
theorem byt_tail {m j : Nat} {o : List Nat} (hm : m ≤ 3) (ho : o.length = 8) : (bytF m o)[2 * m + 2 + j]? = o[6 + j]? := by
  have hl : ([m] ++ o.take m ++ [m] ++ (o.drop 3).take m).length = 2 * m + 2 := by simp only [List.length_append, List.length_take, List.length_drop, List.length_singleton]; omega
  rw [bytF, List.getElem?_append_right (by omega), hl, List.getElem?_drop]
  congr 1; omega
theorem byt_lt {m : Nat} {o : List Nat} (hm : m ≤ 3) (ho : ∀ x ∈ o, x < 2 ^ m) : ∀ x ∈ bytF m o, x < 256 := by
  intro x hx
  have h8 : 2 ^ m ≤ 8 := by
    rcases (by omega : m = 0 ∨ m = 1 ∨ m = 2 ∨ m = 3) with rfl | rfl | rfl | rfl <;> decide
  simp only [bytF, List.mem_append, List.mem_singleton] at hx
  rcases hx with (((hx | hx) | hx) | hx) | hx
  · omega
  · have := ho x (List.mem_of_mem_take hx); omega
  · omega
  · have := ho x (List.mem_of_mem_drop (List.mem_of_mem_take hx)); omega
  · have := ho x (List.mem_of_mem_drop hx); omega
noncomputable def itemF (m : Nat) (o : List Nat) (i : Nat) : List Nat := if i = 0 then o.take m else (o.drop 3).take m
noncomputable abbrev sgB (m : Nat) (o : List Nat) : Sig := [(Str.ofString "end", (none, eL (lastF m o))), (Str.ofString "begin", (none, eL (firstF m o))), (Str.ofString "plain", (none, eLLL (ownF m o))), (Str.ofString "last", (none, eL (lastF m o))), (Str.ofString "first", (none, eL (firstF m o))), (Str.ofString "own", (none, eLLL (ownF m o))), (Str.ofString "many", (none, eN m))]
noncomputable abbrev X1 (pl : Addr) (b : Addr) : Prop := (b = 122 ∨ b = 100 ∨ b = 149) ∨ b = pl
set_option maxHeartbeats 8000000 in
theorem law_B {m : Nat} {o : List Nat} (hm : m = 2 ∨ m = 3) (hol : o.length = 8) (holt : ∀ x ∈ o, x < 2 ^ m) {Q : Flow → Shared → Prop} (hr : Room (k + 5) A) (hsc : env.scope = lawSc) (hg₀ : Gd w mg mb s₀.heap) (ht₀ : ∀ P, (P = 122 ∨ P = 100 ∨ P = 149) → ∃ ps, s₀.heap.get? P = some (tabObj ps)) (F : Fs w mg mb [] [] (fun _ => False) s₀ env (sgA1 m o) s)
    (ht : Tbs env s.heap) (h100 : s.heap.get? 100 = some (tabObj #[]))
    (h : ∀ pl s', s₀.heap.get? pl = none → Fs w mg mb [pl] [] (X1 pl) s₀ env (sgB m o) s' → Tbs env s'.heap → wpAny (model prog w) A (execs (lawBody.drop 11) env) Q E s') : wpAny (model prog w) A (execs (lawBody.drop 6) env) Q E s := by
  have hm3 : m ≤ 3 := by omega
  have hbl := byt_len hm3 hol
  have hb8 := byt_lt hm3 holt
  have hlo : ∀ P, (P = 122 ∨ P = 100 ∨ P = 149) → (hd0.heap_1 w.params).lookup P = none := by
    rintro P (rfl | rfl | rfl) <;> rfl
  have F₀ := F.widen (fun b => b = 122 ∨ b = 100 ∨ b = 149) (fun b hb => by
    obtain ⟨ps, e⟩ := ht₀ b hb
    exact ⟨_, F.kp0.heap _ _ e, fun us n q => by cases q⟩) fun h' hk => hg₀.but (X := fun b => b = 122 ∨ b = 100 ∨ b = 149) (fun b hb => by
      obtain ⟨ps, e⟩ := ht₀ b hb
      exact ⟨_, e, fun es n q => (by cases q), fun q => (by cases q), hlo b hb⟩) hk
  -- stream = _law_stream(bytes(..))
  refine seq_next ?_
  refine wpAny_Assign_Name (wpAny_Call_ofName (glob_load F₀.envOk F₀.gd' (by rw [hsc]; rfl) (gl_fn (a := 105) (fun _ => rfl) _ F₀.gd') (callWith_def (o := fnObj 105) (fd := fdOf 105) rfl (args_cons (Ev.toBytes (k := k + 5) (sc := lawSc) (σ := sgA1 m o) (l := bytF m o) (gl_none fun _ => rfl) rfl ?ev hb8 (by omega) (fun _ => rfl) _ env _ s _ _ hsc F₀.envOk F₀.gd' F₀.alive hr fun bv s₁ k₁ rb => args_nil ?rest) rfl) rfl))) rfl
  case ev =>
    refine Ev.cast (d := .list (((([m].map eN ++ (o.take m).map eN) ++ [m].map eN) ++ ((o.drop 3).take m).map eN) ++ (o.drop 6).map eN)) ?_ (by simp [eL, bytF])
    have hc1 : cutL (o.map eN) none (some (m : Int)) none = (o.take m).map eN := by rw [cutL_to _ (by rw [List.length_map]; omega), List.map_take]
    have hc2 : cutL (o.map eN) (some ((3 : Nat) : Int)) (some ((3 + m : Nat) : Int)) none = ((o.drop 3).take m).map eN := by rw [cutL_mid _ (by rw [List.length_map]; omega) (by omega), ← List.map_drop, ← List.map_take, show 3 + m - 3 = m by omega]
    have hc3 : cutL (o.map eN) (some ((6 : Nat) : Int)) none none = (o.drop 6).map eN := by rw [cutL_from _ (by rw [List.length_map]; omega), List.map_drop]
    refine Ev.cat (Ev.cat (Ev.cat (Ev.cat (Ev.list (.cons (Ev.name rfl rfl) .nil) (size_le (by simp))) (Ev.cast (Ev.cut (xs := o.map eN) (lo := none) (hi := some (m : Int)) (sp := none) (Ev.name rfl rfl) EvP.none (EvP.some (Ev.name rfl rfl)) EvP.none (by simp) (size_le (by rw [List.length_map]; omega))) (by rw [hc1])) (size_le ?_)) (Ev.list (.cons (Ev.name rfl rfl) .nil) (size_le (by simp))) (size_le ?_))
      (Ev.cast (Ev.cut (xs := o.map eN) (lo := some ((3 : Nat) : Int)) (hi := some ((3 + m : Nat) : Int)) (sp := none) (Ev.name rfl rfl) (EvP.some Ev.int) (EvP.some (Ev.addN Ev.lit (Ev.name rfl rfl))) EvP.none (by simp) (size_le (by rw [List.length_map]; omega))) (by rw [hc2])) (size_le ?_)) (Ev.cast (Ev.cut (xs := o.map eN) (lo := some ((6 : Nat) : Int)) (hi := none) (sp := none) (Ev.name rfl rfl) (EvP.some Ev.int) EvP.none EvP.none (by simp) (size_le (by rw [List.length_map]; omega))) (by rw [hc3])) (size_le ?_)
    all_goals simp only [List.length_append, List.length_map, List.length_take, List.length_drop, List.length_singleton]; omega
  case rest =>
    have F₁ := F₀.kp k₁
    have h100₁ := k₁.heap _ _ h100
    have ht₁ := ht.kp k₁
    refine ⟨F₁.gd'.K 105 _ rfl, call_stream (k := k + 4) F₁.gd' F₁.alive hr rb h100₁ fun st pl t0 s₂ kb₂ hpl0 ht100 hS hp => ?_⟩
    have n100 : NotSeq (tabObj #[]) := fun us n q => by cases q
    have F₂ := F₁.ownKb h100₁ n100 ht.a100 (.inl (.inr (.inl rfl))) kb₂ (fun _ => let ⟨ps, e⟩ := ht100; ⟨_, e, fun us n q => by cases q⟩) hpl0 (plainL_list hp)
    have ht₂ : Tbs env s₂.heap := ⟨ht₁.t122.kb (by decide) h100₁ (fun _ _ q => by simp at q) kb₂, ht₁.t149.kb (by decide) h100₁ (fun _ _ q => by simp at q) kb₂, ht100, ht.a122, ht.a149, ht.a100⟩
    have hpls₀ : s₀.heap.get? pl = none := by
      cases q : s₀.heap.get? pl with
      | none => rfl
      | some o' =>
        by_cases hX : pl = 122 ∨ pl = 100 ∨ pl = 149
        · obtain ⟨o', e, _⟩ := F₁.live pl hX
          rw [hpl0] at e; cases e
        · have := F₁.keep pl o' hX q
          rw [hpl0] at this; cases this
    have hlopl : (hd0.heap_1 w.params).lookup pl = none := F₁.gd'.fresh hpl0
    have F₃ := F₂.reown (own₀' := [pl]) (lown' := []) (X' := X1 pl) (fun z => by simp) (fun b o' hb e q => hb (.inl q)) (fun b o' hb e q => by
      rcases q with q | q
      · exact hb q
      · subst q; rw [hpls₀] at e; cases e) (fun b hb => hb.imp (fun q => .inl q) id) (fun b hb => by
      rcases hb with q | q
      · exact .inl q
      · subst q; exact .inr (by simp)) (fun z hz => by simp at hz) (fun z hz => by simp at hz)
    have hS₂ : Stm (fun b => ¬ Apart env b) s₂.heap st pl (bytF m o) := by
      obtain ⟨o1, fd, d, m1, rd, e1, e2, e3, e4, e5, e6, ⟨q1, q2, q3, q4, q5, q6, co, cp, t, f1, f2, f3, f4, f5, f6, n1, n2⟩, e8⟩ := hS
      exact ⟨o1, fd, d, m1, rd, e1, e2, e3, e4, e5, e6, ⟨q1, q2, q3, q4, q5, q6, co, cp, t, f1, f2, f3, f4, f5, f6, fun q => n1 (F₁.nApart q), fun q => n2 (F₁.nApart q)⟩, fun q => e8 (F₁.nApart q)⟩
    have H₃ := F₃.hold (L := [pl]) (by simp)
    refine H₃.store (e := (none, .any (.ref st))) (.any _) (stores_spec (by rw [hsc]; rfl)) fun s₄ H₄ => ⟨rfl, ?_⟩
    have F₄ := F₃.unhold (by simp) H₄ fun b hb => hb
    have ht₄ := ht₂.hold H₄
    have hS₄ := hold_stm F₃ H₄ hS₂ fun b hb => hb
    have hp₄ := hold_plain H₄ (by simp) hp
    -- items
    refine seq_next ?_
    refine F₄.assignCompPl hr hsc (List.range 2) eN (fun i => eB (itemF m o i)) (plc m) (t0 := t0) (by simpa [plc] using hp₄) rfl (Itr.rangeN (n := 2) Ev.lit rfl (gl_none fun _ => rfl) (by decide)) (fun i a hi own env' A' s' E' Q' t c1 c2 c3 c4 c5 c6 c7 c8 hQ' => ?_) (size_le (by decide)) rfl (by simp) (.inl (.inr rfl)) (by simp) rfl fun s₅ t5 F₅ hR₅ hp₅ => ⟨rfl, ?_⟩
    · obtain ⟨hi2, hia⟩ := List.getElem?_eq_some_iff.mp hi
      rw [List.getElem_range] at hia
      subst hia
      have hi2 : i < 2 := by simpa using hi2
      refine wpAny_Call_ofName (glob_load c2 c3 (by rw [c1]; rfl) (gl_fn (a := 37) (fun _ => rfl) _ c3) (callWith_def (o := fnObj 37) (fd := fdOf 37) rfl (args_cons (Ev.name (k := k + 5) (d := .any (.ref st)) rfl rfl _ env' A' s' _ _ c1 c2 c3 c4 c6 fun u s₆ k₆ r₆ => args_nil ?_) rfl) rfl))
      rw [rep_any r₆]
      have hS' : Stm (fun b => ¬ Apart env b) s'.heap st pl (bytF m o) := hS₄.at fun b o' hn ha e => c7 b o' (by
        rcases ha with ha | ⟨fd, d⟩ | ⟨fs, d⟩
        · exact Classical.byContradiction ha
        · exact F₄.apartOf e (fun es n q => by rw [d] at q; cases q) (fun c q => by rw [d] at q; cases q)
        · exact F₄.apartOf e (fun es n q => by rw [d] at q; cases q) (fun c q => by rw [d] at q; cases q)) hn e
      have hcnt : (bytF m o)[plc m i]? = some m := by
        rcases (by omega : i = 0 ∨ i = 1) with rfl | rfl
        · simpa [plc] using byt_0
        · simpa [plc] using byt_1 hm3 hol
      have hle : plc m i + 1 + m ≤ (bytF m o).length := by
        rw [hbl]
        rcases (by omega : i = 0 ∨ i = 1) with rfl | rfl <;> simp [plc] <;> omega
      have hcut : ((bytF m o).drop (plc m i + 1)).take m = itemF m o i := by
        rcases (by omega : i = 0 ∨ i = 1) with rfl | rfl
        · simpa [plc, itemF] using byt_cut0 hm3 hol
        · simpa [plc, itemF] using byt_cut1 hm3 hol
      refine ⟨(c3.keeps k₆.heap).K 37 _ rfl, call_bytes1 (k := k + 2) (c3.keeps k₆.heap) (c4.keeps k₆.heap) c5 c6 (hS'.kp k₆) (c8.keeps k₆.heap) hlopl hcnt (by omega) hle (by omega) fun v t' s₇ kb₇ hp₇ rv => ?_⟩
      rw [hcut] at rv
      have e : plc m (i + 1) = plc m i + 1 + m := by simp [plc, Nat.add_mul]; omega
      rw [← e] at hp₇
      exact hQ' v s₇ t' (k₆.kb.trans kb₇) hp₇ rv
    have ht₅ := ht₄.rest hR₅
    have hS₅ : Stm (fun b => ¬ Apart env b) s₅.heap st pl (bytF m o) := hS₄.at fun b o' hn ha e => hR₅ b o' (by
        rcases ha with ha | ⟨fd, d⟩ | ⟨fs, d⟩
        · exact Classical.byContradiction ha
        · exact F₄.apartOf e (fun es n q => by rw [d] at q; cases q) (fun c q => by rw [d] at q; cases q)
        · exact F₄.apartOf e (fun es n q => by rw [d] at q; cases q) (fun c q => by rw [d] at q; cases q)) hn e
    have e2 : (List.range 2).map (fun i => eB (itemF m o i)) = [o.take m, (o.drop 3).take m].map eB := rfl
    rw [e2] at F₅
    have h8 : ∀ it ∈ [o.take m, (o.drop 3).take m], (∀ x ∈ it, x < 256) ∧ it.length ≤ 8 := by
      have h88 : 2 ^ m ≤ 8 := by rcases hm with rfl | rfl <;> decide
      intro it hit
      simp only [List.mem_cons, List.not_mem_nil, or_false] at hit
      rcases hit with rfl | rfl
      · exact ⟨fun x hx => by have := holt x (List.mem_of_mem_take hx); omega, by rw [List.length_take]; omega⟩
      · exact ⟨fun x hx => by have := holt x (List.mem_of_mem_drop (List.mem_of_mem_take hx)); omega, by rw [List.length_take]; omega⟩
    have hown : ownF m o = [o.take m, (o.drop 3).take m].map fun it => it.map (stF · m) := rfl
    generalize hits : [o.take m, (o.drop 3).take m] = its at *
    have hil : its.length = 2 := by rw [← hits]; rfl
    -- the test
    have H₅ := F₅.hold (L := [pl]) (by simp)
    refine seq_next ?_
    refine H₅.if_ hr hsc (b := false) (Tr.cmp (Cmp.neE enc_L (a := []) (b := []) (by simp) (by simp) ?_ (Ev.list .nil (size_le (by simp))))) (fun q => by cases q) (fun _ s₆ H₆ => wpAny_execs_nil ⟨rfl, ?_⟩)
    · refine Ev.cast (Ev.comp its eB (fun _ => false) eB rfl (Itr.list (Ev.name rfl rfl)) (fun a ha => Trs.one (Tr.not (b := true) (Tr.val (Ev.isBytes (gl_none fun _ => rfl) rfl (gl_none fun _ => rfl) rfl (Ev.name rfl rfl))))) (fun a ha q => by cases q) (size_le (by omega))) (by simp [eL])
    -- plain
    refine seq_next ?_
    refine H₆.assignComp hr hsc its eB (fun _ => true) (fun it => eLL (it.map (stF · m))) rfl (Itr.list (Ev.name rfl rfl)) (fun _ _ => Trs.nil) (fun it hit _ => ?_) (size_le (by omega)) rfl rfl fun s₇ H₇ => ⟨rfl, ?_⟩
    · refine Ev.cast (Ev.comp it eN (fun _ => true) (fun x => eL (stF x m)) rfl (Itr.bytes (Ev.name rfl rfl) (h8 it hit).1) (fun _ _ => Trs.nil) (fun x hx _ => Ev.callD (gl_fn fun _ => rfl) (obj_at fun _ => rfl) rfl rfl (.cons (Ev.name rfl rfl) (.cons (Ev.name rfl rfl) .nil)) (fn_states x m (by omega))) (size_le (by have := (h8 it hit).2; omega))) (by rw [filter_true]; simp [eLL, Function.comp_def])
    have e3 : Dt.list ((its.filter fun _ => true).map fun it => eLL (it.map (stF · m))) = eLLL (ownF m o) := by rw [filter_true, hown, eLLL, List.map_map]; rfl
    rw [e3] at H₇
    have F₇ := F₅.unhold (by simp) H₇ fun b hb => hb
    have ht₇ := ht₅.hold H₇
    have hS₇ := hold_stm F₅ H₇ hS₅ fun b hb => hb
    have hp₇ := hold_plain H₇ (by simp) hp₅
    have e4 : plc m (List.range 2).length = 2 * m + 2 := by simp [plc]; omega
    rw [e4] at hp₇
    have h6 : (bytF m o)[2 * m + 2]? = some (o.getD 6 0) := by
      have := byt_tail (j := 0) hm3 hol
      rw [Nat.add_zero] at this
      rw [this, List.getD_eq_getElem?_getD, List.getElem?_eq_getElem (by omega : 6 + 0 < o.length)]; rfl
    have h7 : (bytF m o)[2 * m + 2 + 1]? = some (o.getD 7 0) := by
      rw [byt_tail (j := 1) hm3 hol, List.getD_eq_getElem?_getD, List.getElem?_eq_getElem (by omega : 6 + 1 < o.length)]; rfl
    have h6' := hb8 _ (List.mem_of_getElem? h6)
    have h7' := hb8 _ (List.mem_of_getElem? h7)
    -- begin, end
    refine seq_next ?_
    refine tupStmt2 (w := w) (mg := mg) (mb := mb) hr hsc rfl rfl (by decide) ?road ?_
    case road =>
      first | exact .inl fun e' he => by cases e'; cases he; rfl
            | exact .inr fun e' he => by cases e'; cases he; rfl
    refine Tuple_ (args_cons (F₇.states1 (k := k + 3) (N := fun b => ¬ Apart env b) (l := bytF m o) hr hsc rfl rfl rfl rfl (by omega) rfl rfl hS₇ hp₇ hlopl h6 h6' (by omega) (by simp) (.inl (.inr rfl)) (by simp) fun v₁ s₈ t8 F₈ kb₈ hp₈ r₈ => ?_) rfl)
    have ht₈ := ht₇.kbL hp₇ kb₈
    have hS₈ := hS₇.kb hp₇ kb₈
    refine args_cons (F₈.states1 (k := k + 3) (N := fun b => ¬ Apart env b) (l := bytF m o) hr hsc rfl rfl rfl rfl (by omega) rfl rfl hS₈ hp₈ hlopl h7 h7' (by omega) (by simp) (.inl (.inr rfl)) (by simp) fun v₂ s₉ t9 F₉ kb₉ hp₉ r₉ => args_nil ?_) rfl
    have ht₉ := ht₈.kbL hp₈ kb₉
    have r₈' : Rep [pl] s₉.heap v₁ (eL (firstF m o)) := Rep.ownBut (a := pl) r₈ (by simp) fun b o' hb e => kb₉.heap b o' hb e
    refine wpAny_newTuple ?_ (size_le (by simp))
    have k₁₀ := Kp.push s₉ { cls := .type "tuple", data := .seq [v₁, v₂].toArray }
    have F₁₀ := F₉.kp k₁₀
    have H₁₀ := F₁₀.hold (L := [pl]) (by simp)
    refine ⟨_, _, _, _, _, v₁, v₂, _, (none, eL (firstF m o)), (none, eL (lastF m o)), rfl, ⟨_, Heap.get?_push_size _ rfl, rfl, _, rfl⟩, H₁₀, Rep.keeps r₈' k₁₀.heap, Rep.keeps r₉ k₁₀.heap, fun s₁₁ H₁₁ => ⟨rfl, ?_⟩⟩
    exact h pl s₁₁ hpls₀ ((F₁₀.unhold (by simp) H₁₁ fun b hb => hb).weak (wkc rfl (wkc rfl (wkc rfl (wkc rfl (wkc rfl (wkc rfl (wkc rfl wk0)))))))) ((ht₉.kp k₁₀).hold H₁₁)
end
end Mine
end
section
set_option Elab.async false
set_option linter.unusedVariables false
namespace Mine
noncomputable def isDir (n : Nat) : Bool := n &&& 61440 == 16384
noncomputable def freshF (mv : List (List Nat)) : List (List (List Nat)) := (List.range 2).map fun a => mv.map fun r => [r.getD a 0]
noncomputable def dirsF (md : List Nat) : List Nat := (List.range md.length).filter fun k => isDir (md.getD k 0)
/-- the last automaton, row by row -/
noncomputable def rows2 (ls : List Nat) (st : List (List Nat)) : List (Nat × Nat × Bool) := (List.range st.length).map fun k => ((st.getD k []).getD 0 0, (st.getD k []).getD 1 0, isDir (ls.getD k 0))
noncomputable def frontsF (T : List (List (List Nat))) (m : Nat) (last : List Nat) (wd : List (List Nat)) : List (List Nat) := wd.map fun word => (List.range m).filter fun q => meetF (runF T [q] word.reverse) last
noncomputable def takenF (fr : List (List Nat)) (states : List Nat) : List Nat := (List.range fr.length).filter fun j => meetF states (fr.getD j [])
noncomputable def dueN (T : List (List (List Nat))) (first last : List Nat) (fr : List (List Nat)) (wy : List (List Nat)) (n : Nat) : List (List Nat) :=
  fr.map (fun x => listF (meetF x first) (rtF x)) ++ (List.range n).map fun k => listF (meetF (runF T first (wy.getD k [])) last) (rtF (takenF fr (runF T first (wy.getD k []))))
noncomputable def hop (st : List (List Nat)) (at_ letter : Nat) : Nat := (st.getD at_ []).getD letter 0
/-- what the search leaves -/
structure ROk (q : List Nat × List (List Nat) × List (List Nat)) : Prop where
  rows : ∀ r ∈ q.2.2, r.length = 2 ∧ ∀ x ∈ r, x < q.1.length
  letters : ∀ w ∈ q.2.1, ∀ a ∈ w, a < 2
theorem rLet_ok {T : List (List Nat)} {ends k a : Nat} {q : List Nat × List (List Nat) × List Nat} (ha : a < 2) (h1 : ∀ x ∈ q.2.2, x < q.1.length) (h2 : ∀ w ∈ q.2.1, ∀ a ∈ w, a < 2) :
    (∀ x ∈ (rLet T ends k q a).2.2, x < (rLet T ends k q a).1.length) ∧ ∀ w ∈ (rLet T ends k q a).2.1, ∀ a ∈ w, a < 2 := by
  unfold rLet
  split
  · rename_i hin
    refine ⟨fun x hx => ?_, h2⟩
    rcases List.mem_append.mp hx with hx | hx
    · exact h1 x hx
    · rw [List.mem_singleton.mp hx]; exact List.idxOf_lt_length_iff.mpr hin
  · refine ⟨fun x hx => ?_, fun w hw => ?_⟩
    · rcases List.mem_append.mp hx with hx | hx
      · have := h1 x hx; simp only [List.length_append]; omega
      · rw [List.mem_singleton.mp hx]; exact List.idxOf_lt_length_iff.mpr (by simp)
    · rcases List.mem_append.mp hw with hw | hw
      · exact h2 w hw
      · rw [List.mem_singleton.mp hw]
        intro b hb
        rcases List.mem_append.mp hb with hb | hb
        · by_cases hk : k < q.2.1.length
          · rw [getD_lt hk] at hb; exact h2 _ (List.getElem_mem _) b hb
          · rw [List.getD_eq_getElem?_getD, List.getElem?_eq_none (by omega)] at hb; simp at hb
        · rw [List.mem_singleton.mp hb]; exact ha
theorem rLets_ok {T : List (List Nat)} {ends k : Nat} {S : List Nat} {W : List (List Nat)} (h2 : ∀ w ∈ W, ∀ a ∈ w, a < 2) : ∀ j, j ≤ 2 → (∀ x ∈ (rLets T ends k S W j).2.2, x < (rLets T ends k S W j).1.length) ∧ ∀ w ∈ (rLets T ends k S W j).2.1, ∀ a ∈ w, a < 2
  | 0, _ => ⟨by simp [rLets], h2⟩
  | j + 1, h => by
    rw [rLets_succ]
    have ih := rLets_ok (T := T) (ends := ends) (k := k) (S := S) h2 j (by omega)
    exact rLet_ok (by omega) ih.1 ih.2
theorem rGo_ok (T : List (List Nat)) (ends m0 : Nat) : ∀ i, ROk (rGo T ends m0 i)
  | 0 => ⟨by simp [rGo], by simp [rGo]⟩
  | i + 1 => by
    have ih := rGo_ok T ends m0 i
    rw [rGo_succ]
    unfold rOne
    split
    · have h := rLets_ok (T := T) (ends := ends) (k := i) (S := (rGo T ends m0 i).1) ih.letters 2 (by decide)
      refine ⟨fun r hr => ?_, h.2⟩
      rcases List.mem_append.mp hr with hr | hr
      · obtain ⟨h1, h2⟩ := ih.rows r hr
        exact ⟨h1, fun x hx => Nat.lt_of_lt_of_le (h2 x hx) (rLets_le T ends i _ _ 2)⟩
      · rw [List.mem_singleton.mp hr]
        exact ⟨rLets_row T ends i _ _ 2, h.1⟩
    · exact ih
structure RFin (q : List Nat × List (List Nat) × List (List Nat)) : Prop extends ROk q where
  len : q.2.1.length = q.1.length
  small : q.1.length ≤ 17
  wl : ∀ x ∈ q.2.1, x.length ≤ 16
  mv : q.2.2.length = min 8 q.1.length
  pos : 0 < q.1.length
theorem reachF_fin (T : List (List Nat)) (start fin : List Nat) : RFin (reachF T start fin) := by
  have h1 := rGo_ok T (rtF fin) (rMode (rtF fin) (rtF start)) 8
  have h2 := rGo_inv T (rtF fin) (rMode (rtF fin) (rtF start)) 8
  have h3 := rGo_moves T (rtF fin) (rMode (rtF fin) (rtF start)) 8
  unfold reachF
  generalize rGo T (rtF fin) (rMode (rtF fin) (rtF start)) 8 = q at *
  exact ⟨h1, h2.len, h2.small, h2.wl, h3.1, h3.2⟩
end Mine
end
section
open PySem PySem.W PyProof.Rows PySem.Calls
set_option Elab.async false
set_option linter.unusedVariables false
set_option maxRecDepth 100000
namespace Mine
section
variable {prog : Program} {w : World} {mg mb : Str → Option Value} {k : Nat} {sc : Scope} {σ σ' : Sig} {own₀ lown lown' : List Addr} {X : Addr → Prop} {s₀ s s' : Shared} {env : Env} {A : Around} {E : Value → Shared → Prop}
theorem fnN_S_ISDIR (n : Nat) : Fn prog w mg mb (k + 2) 58 [eN n] (.bool (isDir n)) := by
  have := fn_S_ISDIR (prog := prog) (w := w) (mg := mg) (mb := mb) (k := k) (n : Int)
  rw [show Builtin.bitAnd (n : Int) 61440 = ((n &&& 61440 : Nat) : Int) from bitAnd_nat n 61440] at this
  rw [isDir, show ((n &&& 61440) == 16384) = ((((n &&& 61440 : Nat) : Int)) == 16384) by
    rw [Bool.eq_iff_iff, beq_iff_eq, beq_iff_eq]; omega]
  exact this
/-- the table of a frame's own -/
theorem Fs.tb (F : Fs w mg mb own₀ lown X s₀ env σ s) {N : Addr → Prop} {P : Addr} {pos : Pos} {q : Str} (t : Tb N P pos q s.heap) : Tb (fun b => ¬ Apart env b) P pos q s.heap := by
  rcases t with e | ⟨c, e, ⟨c2, o, vs, tt, e2, e3, e4, e5⟩, hn⟩
  · exact .inl e
  · cases e2
    exact .inr ⟨c, e, ⟨c, o, vs, tt, rfl, e3, e4, e5⟩, fun h => h (F.apartOf e3 (fun es n q => by rw [e4] at q; cases q) (fun c q => by rw [e4] at q; cases q))⟩
theorem own_ok {m : Nat} {o : List Nat} (hm : m = 2 ∨ m = 3) (hol : o.length = 8) : TabOk (ownF m o) m where
  pos := by simp [ownF]
  len := fun t ht => by
    simp only [ownF, List.mem_cons, List.not_mem_nil, or_false] at ht
    rcases ht with rfl | rfl <;> simp only [List.length_map, List.length_take, List.length_drop] <;> omega
  small := by omega
  few := by simp [ownF]
theorem fresh_ok {mv : List (List Nat)} (h : mv.length ≤ 8) : TabOk (freshF mv) mv.length where
  pos := by simp [freshF]
  len := fun t ht => by
    simp only [freshF, List.mem_map, List.mem_range] at ht
    obtain ⟨a, _, rfl⟩ := ht
    simp
  small := by omega
  few := by simp [freshF]
theorem turn_small {T : List (List (List Nat))} {c : Nat} (h : TabOk T c) : ∀ t ∈ turnF T, t.length < 2 ^ 20 := fun t ht => by
  obtain ⟨x, hx, rfl⟩ := List.mem_map.mp ht
  rw [List.length_map, List.length_range, h.head]; exact h.small
theorem turn_len {T : List (List (List Nat))} : (turnF T).length = T.length := by simp [turnF]
noncomputable abbrev sgC1 (m : Nat) (o : List Nat) (q1 : List Nat × List (List Nat) × List (List Nat)) : Sig := (Str.ofString "modes", (none, eL q1.1)) :: (Str.ofString "moves", (none, eLL q1.2.2)) :: (Str.ofString "words", (none, eLL q1.2.1)) :: sgB m o
noncomputable abbrev sgC (m : Nat) (o : List Nat) (q1 q2 : List Nat × List (List Nat) × List (List Nat)) : Sig := [(Str.ofString "least", (none, eL q2.1)), (Str.ofString "steps", (none, eLL q2.2.2)), (Str.ofString "ways", (none, eLL q2.2.1)), (Str.ofString "modes", (none, eL q1.1)), (Str.ofString "words", (none, eLL q1.2.1)), (Str.ofString "last", (none, eL (lastF m o))), (Str.ofString "first", (none, eL (firstF m o))), (Str.ofString "own", (none, eLLL (ownF m o))), (Str.ofString "many", (none, eN m))]
theorem ev_dir {i : Expr} {v : Str} {p q r pos : Pos} {l : List Nat} {n : Nat} (hv : σ.lookup v = some (none, eL l)) (ho : isOwn sc v = true) (hg : isGl sc (Str.ofString "S_ISDIR") = true) (hi : Ev prog w mg mb (k + 2) sc i σ (eN n)) (hn : n < l.length) (hl : l.length < 2 ^ 20)
    (hsub : ∀ o iv, subscripted i false o iv = operate [o, iv] (getItem o iv) := by intro _ _; with_unfolding_all rfl)
    (he : ∀ env, starEach [.Subscript (.Name v p) i q] env = (false, eval (.Subscript (.Name v p) i q) env) :: starEach [] env := by intro _; rfl) : Ev prog w mg mb (k + 2) sc (.Call (.Name (Str.ofString "S_ISDIR") r) [.Subscript (.Name v p) i q] [] pos) σ (.bool (isDir (l.getD n 0))) :=
  Ev.callD (gl_fn fun _ => rfl) (obj_at fun _ => rfl) rfl hg (.cons (Ev.itemN (xs := l.map eN) (EvT.name hv ho) hi (by omega) (getD_map l eN n 0 hn) hsub) .nil he) (fnN_S_ISDIR _)
theorem rep_tuple3 {own : List Addr} {h : Heap} {v : Value} {d1 d2 d3 : Dt} (r : Rep own h v (.tuple [d1, d2, d3])) : ∃ t u1 u2 u3, v = .ref t ∧ h.IsTuple t #[u1, u2, u3] ∧ Rep own h u1 d1 ∧ Rep own h u2 d2 ∧ Rep own h u3 d3 := by
  generalize hd : Dt.tuple [d1, d2, d3] = d at r
  cases r with
  | @tuple a o vs n xs hna e hcl hdd hra =>
    cases hd
    obtain ⟨l⟩ := vs
    cases hra with
    | cons r1 r =>
      cases r with
      | cons r2 r =>
        cases r with
        | cons r3 r =>
          cases r
          exact ⟨a, _, _, _, rfl, ⟨o, e, hcl, n, hdd⟩, r1, r2, r3⟩
  | _ => cases hd
set_option maxHeartbeats 8000000 in
theorem law_C1 {m : Nat} {o : List Nat} {pl : Addr} (hm : m = 2 ∨ m = 3) (hol : o.length = 8) {q1 q2 : List Nat × List (List Nat) × List (List Nat)} (hq1 : reachF (turnF (ownF m o)) (lastF m o) (firstF m o) = q1) (hq2 : reachF (turnF (freshF q1.2.2)) (dirsF q1.1) [0] = q2) (h8 : q2.1.length ≤ 8)
    (E1 : rows2 q2.1 q2.2.2 = leastF (ownF m o) (firstF m o) (lastF m o)) {Q : Flow → Shared → Prop} (hr : Room (k + 5) A) (hsc : env.scope = lawSc) (F : Fs w mg mb [pl] [] (X1 pl) s₀ env (sgB m o) s) (ht : Tbs env s.heap)
    (h : ∀ s', Fs w mg mb [pl] [] (X1 pl) s₀ env (sgC m o q1 q2) s' → Tbs env s'.heap → wpAny (model prog w) A (execs (lawBody.drop 15) env) Q E s') : wpAny (model prog w) A (execs (lawBody.drop 11) env) Q E s := by
  have ok1 := hq1 ▸ reachF_fin (turnF (ownF m o)) (lastF m o) (firstF m o)
  have ok2 := hq2 ▸ reachF_fin (turnF (freshF q1.2.2)) (dirsF q1.1) [0]
  have hmv : q1.2.2.length ≤ 8 := by have := ok1.mv; omega
  have hs1 := ok1.small
  have hm3 : m ≤ 3 := by omega
  have X122 : ∀ {s}, Mu (X1 pl) s 122 := .inl (.inl (.inl rfl))
  have hlf : (firstF m o).length ≤ m := stF_len
  have hll : (lastF m o).length ≤ m := stF_len
  -- modes, moves, words
  refine seq_next ?_
  refine tupStmt3 (w := w) (mg := mg) (mb := mb) hr hsc rfl rfl rfl (by decide) (by decide) (by decide) ?road ?_
  case road =>
    first | exact .inl fun e' he => by cases e'; cases he; rfl
          | exact .inr fun e' he => by cases e'; cases he; rfl
  refine F.reached (k := k + 2) hr hsc (T := turnF (ownF m o)) (start := lastF m o) (fin := firstF m o) (by rw [turn_len]; rfl) (turn_small (own_ok hm hol)) (by omega) (by omega) rfl ?args (ht.t122.less fun b hb => hb.elim) X122 fun v s₁ F₁ kb₁ T₁ rv => ?_
  case args => exact .cons (Ev.callD (gl_fn fun _ => rfl) (obj_at fun _ => rfl) rfl rfl (.cons (Ev.name rfl rfl) .nil) (fn_turned _ m (own_ok hm hol))) (.cons (Ev.name rfl rfl) (.cons (Ev.name rfl rfl) .nil))
  have ht₁ := ht.kb122 kb₁ (F₁.tb T₁)
  rw [hq1] at rv
  obtain ⟨t, u1, u2, u3, rfl, hT, r1, r2, r3⟩ := rep_tuple3 rv
  have H₁ := F₁.hold (L := [pl]) (by simp)
  refine ⟨_, _, _, _, t, u1, u2, u3, _, (none, eL q1.1), (none, eLL q1.2.2), (none, eLL q1.2.1), rfl, hT, H₁, r1, r2, r3, fun s₂ H₂ => ⟨rfl, ?_⟩⟩
  clear r1 r2 r3 hT rv
  -- fresh
  refine seq_next ?_
  refine H₂.assignComp hr hsc (List.range 2) eN (fun _ => true) (fun a => eLL (q1.2.2.map fun r => [r.getD a 0])) rfl (Itr.rangeN (n := 2) Ev.lit rfl (gl_none fun _ => rfl) (by decide)) (fun _ _ => Trs.nil) (fun a ha _ => ?_) (size_le (by decide)) rfl rfl fun s₃ H₃ => ⟨rfl, ?_⟩
  · refine Ev.cast (Ev.comp q1.2.2 eL (fun _ => true) (fun r => eL [r.getD a 0]) rfl (Itr.list (Ev.name rfl rfl)) (fun _ _ => Trs.nil) (fun r hr _ => ?_) (size_le (by omega))) (by rw [filter_true]; simp [eLL, Function.comp_def])
    have ha2 := List.mem_range.mp ha
    have hrl := (ok1.rows r hr).1
    exact Ev.list (.cons (Ev.itemN (xs := r.map eN) (EvT.name rfl rfl) (Ev.name rfl rfl) (by omega) (getD_map r eN a 0 (by omega))) .nil) (size_le (by simp))
  have e3 : Dt.list (((List.range 2).filter fun _ => true).map fun a => eLL (q1.2.2.map fun r => [r.getD a 0])) = eLLL (freshF q1.2.2) := by rw [filter_true, freshF, eLLL, List.map_map]; rfl
  rw [e3] at H₃
  have F₃ := F₁.unhold (by simp) H₃ fun b hb => hb
  have ht₃ := ht₁.hold H₃
  -- least, steps, ways
  refine seq_next ?_
  refine tupStmt3 (w := w) (mg := mg) (mb := mb) hr hsc rfl rfl rfl (by decide) (by decide) (by decide) ?road2 ?_
  case road2 =>
    first | exact .inl fun e' he => by cases e'; cases he; rfl
          | exact .inr fun e' he => by cases e'; cases he; rfl
  refine F₃.reached (k := k + 2) hr hsc (T := turnF (freshF q1.2.2)) (start := dirsF q1.1) (fin := [0]) (by rw [turn_len]; rfl) (turn_small (fresh_ok hmv)) ?len (by simp) rfl ?args2 (ht₃.t122.less fun b hb => hb.elim) X122 fun v s₄ F₄ kb₄ T₄ rv => ?_
  case len =>
    refine Nat.lt_of_le_of_lt (List.length_filter_le _ _) ?_
    rw [List.length_range]; omega
  case args2 =>
    refine .cons (Ev.callD (gl_fn fun _ => rfl) (obj_at fun _ => rfl) rfl rfl (.cons (Ev.name rfl rfl) .nil) (fn_turned _ _ (fresh_ok hmv))) (.cons ?_ (.cons (Ev.list (.cons Ev.lit .nil) (size_le (by simp))) .nil))
    exact Ev.comp (List.range q1.1.length) eN (fun k => isDir (q1.1.getD k 0)) eN rfl (Itr.rangeN (Ev.lenN (xs := q1.1.map eN) (n := q1.1.length) (gl_none fun _ => rfl) rfl (EvT.name rfl rfl) (map_len _ _) (by omega)) rfl (gl_none fun _ => rfl) (by omega))
      (fun a ha => Trs.one (Tr.val (ev_dir rfl rfl rfl (Ev.name rfl rfl) (List.mem_range.mp ha) (by omega)))) (fun a ha _ => Ev.name rfl rfl) (size_le (by rw [List.length_range]; omega))
  have ht₄ := ht₃.kb122 kb₄ (F₄.tb T₄)
  rw [hq2] at rv
  obtain ⟨t, u1, u2, u3, rfl, hT, r1, r2, r3⟩ := rep_tuple3 rv
  have H₄ := F₄.hold (L := [pl]) (by simp)
  refine ⟨_, _, _, _, t, u1, u2, u3, _, (none, eL q2.1), (none, eLL q2.2.2), (none, eLL q2.2.1), rfl, hT, H₄, r1, r2, r3, fun s₅ H₅ => ⟨rfl, ?_⟩⟩
  clear r1 r2 r3 hT rv
  have hs2 := ok2.small
  have hst := ok2.mv
  have hst8 : q2.2.2.length = q2.1.length := by omega
  -- the test
  refine seq_next ?_
  refine H₅.if_ hr hsc (b := false) (Tr.cmp ?cmp) (fun q => by cases q) (fun _ s₆ H₆ => wpAny_execs_nil ⟨rfl, ?_⟩)
  case cmp =>
    refine (show (!decide (rows2 q2.1 q2.2.2 = leastF (ownF m o) (firstF m o) (lastF m o))) = false by rw [E1]; simp) ▸ Cmp.neE enc_3.list (a := rows2 q2.1 q2.2.2) (b := leastF (ownF m o) (firstF m o) (lastF m o)) (fun _ _ => trivial) (fun _ _ => trivial) ?_ (Ev.callD (gl_fn fun _ => rfl) (obj_at fun _ => rfl) rfl rfl (.cons (Ev.name rfl rfl) (.cons (Ev.name rfl rfl) (.cons (Ev.name rfl rfl) .nil))) (fn_least (k := k + 3) _ m (own_ok hm hol) rfl hm3 _ _ (filter_subs hm3 _)))
    refine Ev.cast (Ev.comp (List.range q2.2.2.length) eN (fun _ => true) (fun k => enc3 (((q2.2.2.getD k []).getD 0 0, (q2.2.2.getD k []).getD 1 0, isDir (q2.1.getD k 0)))) rfl (Itr.rangeN (Ev.lenN (xs := q2.2.2.map eL) (n := q2.2.2.length) (gl_none fun _ => rfl) rfl (EvT.name rfl rfl) (map_len _ _) (by omega)) rfl (gl_none fun _ => rfl) (by omega)) (fun _ _ => Trs.nil) (fun a ha _ => ?_) (size_le (by rw [List.length_range]; omega))) (by rw [filter_true, rows2, List.map_map]; rfl)
    have ha := List.mem_range.mp ha
    have hrow := (ok2.rows _ (getD_mem ha)).1
    generalize hro : q2.2.2.getD a [] = ro at *
    refine Ev.cast (Ev.cat (xs := ro.map eN) (ys := [Dt.bool (isDir (q2.1.getD a 0))]) (Ev.itemN (xs := q2.2.2.map eL) (EvT.name rfl rfl) (Ev.name rfl rfl) (by omega) (by rw [getD_map q2.2.2 eL a [] ha, hro]; rfl)) (Ev.list (.cons (ev_dir rfl rfl rfl (Ev.name rfl rfl) (by omega) (by omega)) .nil) (size_le (by simp))) (size_le (by rw [List.length_map, hrow, List.length_singleton]; decide))) ?_
    match ro, hrow with
    | [x, y], _ => rfl
  exact h s₆ ((F₄.unhold (by simp) H₆ fun b hb => hb).weak (wkc rfl (wkc rfl (wkc rfl (wkc rfl (wkc rfl (wkc rfl (wkc rfl (wkc rfl (wkc rfl wk0)))))))))) (ht₄.hold H₆)
end
end Mine
end
section
open PySem PySem.W PyProof.Rows PySem.Calls
set_option Elab.async false
set_option linter.unusedVariables false
set_option maxRecDepth 100000
namespace Mine
theorem run_lt {T : List (List (List Nat))} {c : Nat} (hT : TabOk T c) (hc : c ≤ 3) : ∀ (word : List Nat) {st : List Nat}, (∀ p ∈ st, p < c) → ∀ p ∈ runF T st word, p < c
  | [], st, h => h
  | a :: r, st, h => run_lt hT hc r (subs_lt (step_subs hT hc st a))
theorem run_len {T : List (List (List Nat))} {c : Nat} (hT : TabOk T c) (hc : c ≤ 3) : ∀ (word : List Nat) {st : List Nat}, st.length ≤ 3 → (runF T st word).length ≤ 3
  | [], st, h => h
  | a :: r, st, h => run_len hT hc r (Nat.le_trans (subs_size (step_subs hT hc st a)) hc)
section
variable {prog : Program} {w : World} {mg mb : Str → Option Value} {k : Nat} {sc : Scope} {σ σ' : Sig} {own₀ lown lown' : List Addr} {X : Addr → Prop} {s₀ s s' : Shared} {env : Env} {A : Around} {E : Value → Shared → Prop}
noncomputable abbrev q1T := List Nat × List (List Nat) × List (List Nat)
noncomputable abbrev sgD (D : Addr) (m : Nat) (o : List Nat) (q1 q2 : q1T) (fr due : List (List Nat)) : Sig := [(Str.ofString "due", (some D, .list (due.map eS))), (Str.ofString "fronts", (none, eLL fr)), (Str.ofString "least", (none, eL q2.1)), (Str.ofString "steps", (none, eLL q2.2.2)), (Str.ofString "ways", (none, eLL q2.2.1)), (Str.ofString "modes", (none, eL q1.1)), (Str.ofString "words", (none, eLL q1.2.1)), (Str.ofString "last", (none, eL (lastF m o))), (Str.ofString "first", (none, eL (firstF m o))), (Str.ofString "own", (none, eLLL (ownF m o)))]
theorem ev_meet {e1 e2 : Expr} {es : List Expr} {p pos : Pos} {a b : List Nat} (h : EvAll prog w mg mb (k + 1) sc [e1, e2] σ [eL a, eL b]) (hg : isGl sc (Str.ofString "_law_meet") = true) (hl : a.length ≤ 17) (he : ∀ env, starEach [e1, e2] env = (false, eval e1 env) :: starEach [e2] env := by intro _; rfl) : Ev prog w mg mb (k + 1) sc (.Call (.Name (Str.ofString "_law_meet") p) [e1, e2] [] pos) σ (.bool (meetF a b)) :=
  Ev.callD (gl_fn (a := 135) fun _ => rfl) (obj_at fun _ => rfl) rfl hg h (fn_meet a b (by omega)) he
set_option maxHeartbeats 8000000 in
theorem law_C2 {m : Nat} {o : List Nat} {pl : Addr} (hm : m = 2 ∨ m = 3) (hol : o.length = 8) {q1 q2 : q1T} {fr : List (List Nat)} (ok1 : RFin q1) (hfr : frontsF (ownF m o) m (lastF m o) q1.2.1 = fr) {Q : Flow → Shared → Prop} (hr : Room (k + 5) A) (hsc : env.scope = lawSc) (F : Fs w mg mb [pl] [] (X1 pl) s₀ env (sgC m o q1 q2) s) (ht : Tbs env s.heap)
    (h : ∀ D s', D ≠ pl → ¬ X1 pl D → Fs w mg mb [pl] [D] (X1 pl) s₀ env (sgD D m o q1 q2 fr (fr.map fun x => listF (meetF x (firstF m o)) (rtF x))) s' → Tbs env s'.heap → wpAny (model prog w) A (execs (lawBody.drop 17) env) Q E s') : wpAny (model prog w) A (execs (lawBody.drop 15) env) Q E s := by
  have hT := own_ok hm hol
  have hm3 : m ≤ 3 := by omega
  have hs1 := ok1.small
  have hwn := ok1.len
  have hlf : (firstF m o).length ≤ m := stF_len
  have hll : (lastF m o).length ≤ m := stF_len
  have H := F.hold (L := [pl]) (by simp)
  -- fronts
  refine seq_next ?_
  refine H.assign hr hsc (d := eLL fr) ?fr rfl (fun s₁ H₁ => ⟨rfl, ?_⟩) (swaps_no rfl)
  case fr =>
    have e3 : Dt.list ((q1.2.1.filter fun _ => true).map fun word => eL ((List.range m).filter fun q => meetF (runF (ownF m o) [q] word.reverse) (lastF m o))) = eLL fr := by rw [filter_true, ← hfr, frontsF, eLL, List.map_map]; rfl
    refine Ev.cast (Ev.comp q1.2.1 eL (fun _ => true) (fun word => eL ((List.range m).filter fun q => meetF (runF (ownF m o) [q] word.reverse) (lastF m o))) rfl (Itr.list (Ev.name rfl rfl)) (fun _ _ => Trs.nil) (fun word hw _ => ?_) (size_le (by omega))) e3
    refine Ev.comp (List.range m) eN (fun q => meetF (runF (ownF m o) [q] word.reverse) (lastF m o)) eN rfl (Itr.rangeN (Ev.name rfl rfl) rfl (gl_none fun _ => rfl) (by omega)) (fun q hq => Trs.one (Tr.val (ev_meet (es := []) (.cons ?_ (.cons (Ev.name rfl rfl) .nil)) rfl ?_))) (fun q hq _ => Ev.name rfl rfl) (size_le (by rw [List.length_range]; omega))
    · refine Ev.callD (gl_fn fun _ => rfl) (obj_at fun _ => rfl) rfl rfl (.cons (Ev.name rfl rfl) (.cons (Ev.list (.cons (Ev.name rfl rfl) .nil) (size_le (by simp))) (.cons ?_ .nil))) (fn_run (ownF m o) m hT [q] word.reverse (fun p hp => ?_) (by simp) (fun a ha => ok1.letters word hw a (List.mem_reverse.mp ha)))
      · refine Ev.cast (Ev.cut (xs := word.map eN) (lo := none) (hi := none) (sp := some (-1)) (Ev.name rfl rfl) EvP.none EvP.none (EvP.some Ev.neg1) (by decide) (size_le (by have := ok1.wl word hw; rw [List.length_map]; omega))) (by rw [cutL_rev, ← List.map_reverse]; rfl)
      · rw [List.mem_singleton.mp hp]; exact List.mem_range.mp hq
    · have := run_len hT hm3 word.reverse (st := [q]) (by simp); omega
  have hfl : fr.length ≤ 17 := by rw [← hfr, frontsF, List.length_map]; omega
  have hfs : ∀ x ∈ fr, x.length ≤ 17 := fun x hx => by
    rw [← hfr] at hx
    obtain ⟨y, _, rfl⟩ := List.mem_map.mp hx
    refine Nat.le_trans (List.length_filter_le _ _) ?_
    rw [List.length_range]; omega
  -- due
  refine seq_next ?_
  refine H₁.assignCompOwn hr hsc fr eL (fun _ => true) (fun x => eS (listF (meetF x (firstF m o)) (rtF x))) rfl (Itr.list (Ev.name rfl rfl)) (fun _ _ => Trs.nil) (fun x hx _ => ?_) (size_le (by omega)) rfl rfl fun D s₂ hD hXD H₂ => ⟨rfl, ?_⟩
  · exact Ev.callD (gl_fn fun _ => rfl) (obj_at fun _ => rfl) rfl rfl (.cons (ev_meet (es := []) (.cons (Ev.name rfl rfl) (.cons (Ev.name rfl rfl) .nil)) rfl (hfs x hx)) (.cons (Ev.callD (gl_fn fun _ => rfl) (obj_at fun _ => rfl) rfl rfl (.cons (Ev.name rfl rfl) .nil) (fn_rights x (by have := hfs x hx; omega))) .nil)) (fn_listing _ _)
  have hDp : D ≠ pl := fun q => hD (by simp [q])
  have e4 : Dt.list ((fr.filter fun _ => true).map fun x => eS (listF (meetF x (firstF m o)) (rtF x))) = .list ((fr.map fun x => listF (meetF x (firstF m o)) (rtF x)).map eS) := by rw [filter_true, List.map_map]; rfl
  rw [e4] at H₂
  refine h D s₂ hDp ?_ ((F.unhold (by simp) H₂ fun b hb => .tail _ hb).weak (wkc rfl (wkc rfl (wkc rfl (wkc rfl (wkc rfl (wkc rfl (wkc rfl (wkc rfl (wkc rfl (wkc rfl wk0))))))))))) (ht.hold H₂)
  have ht₂ := ht.hold H₂
  obtain ⟨vs, hl⟩ := H₂.alive D (by simp)
  obtain ⟨o', e, _, n, d⟩ := hl
  rintro ((rfl | rfl | rfl) | q)
  · obtain ⟨ps, e'⟩ := ht₂.t122.obj; rw [e] at e'; cases e'; cases d
  · obtain ⟨ps, e'⟩ := ht₂.t100; rw [e] at e'; cases e'; cases d
  · obtain ⟨ps, e'⟩ := ht₂.t149.obj; rw [e] at e'; cases e'; cases d
  · exact hDp q
end
end Mine
end
section
open PySem PySem.W PyProof.Rows PySem.Calls
set_option Elab.async false
set_option linter.unusedVariables false
set_option maxRecDepth 100000
namespace Mine
/-- the tables through the loops -/
structure Jt (env : Env) (N W : Addr → Prop) (h : Heap) : Prop where
  t149 : Tb (fun b => (N b ∨ ¬ Apart env b) ∨ W b) 149 lpos2 (lq 152) h
  t122 : ∃ ps, h.get? 122 = some (tabObj ps)
  t100 : ∃ ps, h.get? 100 = some (tabObj ps)
  n : ∀ b, N b → ¬ W b ∧ Apart env b ∧ ∃ o fs, h.get? b = some o ∧ o.data = .fields fs
  a122 : Apart env 122
  a149 : Apart env 149
  a100 : Apart env 100
theorem fun_get {h : Heap} {b : Addr} {o o' : Obj} (e : h.get? b = some o) (e' : h.get? b = some o') : o = o' := Option.some.inj (e.symm.trans e')
section
variable {prog : Program} {w : World} {mg mb : Str → Option Value} {k : Nat} {sc : Scope} {σ σ' : Sig} {own₀ lown lown' : List Addr} {X : Addr → Prop} {s₀ s s' : Shared} {env : Env} {A : Around} {E : Value → Shared → Prop} {N W : Addr → Prop}
theorem tab_not (ps : Array Value) : NotSeq (tabObj ps) := fun us n q => by cases q
theorem Jt.at {h h' : Heap} (t : Jt env N W h) (r : ∀ b o fs, ¬ W b → Apart env b → h.get? b = some o → o.data = .fields fs → h'.get? b = some o) (h122 : ¬ W 122) (h149 : ¬ W 149) (h100 : ¬ W 100) : Jt env N W h' where
  t149 := t.t149.at fun b o fs hb e d => by
    rcases hb with rfl | hb
    · exact r _ o _ h149 t.a149 e d
    · exact r b o fs (fun q => hb (.inr q)) (Classical.byContradiction fun q => hb (.inl (.inr q))) e d
  t122 := let ⟨ps, e⟩ := t.t122; ⟨ps, r _ _ _ h122 t.a122 e rfl⟩
  t100 := let ⟨ps, e⟩ := t.t100; ⟨ps, r _ _ _ h100 t.a100 e rfl⟩
  n := fun b hb => let ⟨h1, h2, o, fs, e, d⟩ := t.n b hb; ⟨h1, h2, o, fs, r b o fs h1 h2 e d, d⟩
  a122 := t.a122
  a149 := t.a149
  a100 := t.a100
theorem Jt.sm {h h' : Heap} (t : Jt env N W h) (sm : Sm env W h h') (h122 : ¬ W 122) (h149 : ¬ W 149) (h100 : ¬ W 100) : Jt env N W h' := t.at (fun b o fs hW hA e _ => sm.1 b o hW hA e) h122 h149 h100
theorem Jt.keeps {h h' : Heap} (t : Jt env N W h) (hk : ∀ b o, h.get? b = some o → h'.get? b = some o) : Jt env N W h' :=
  ⟨t.t149.keeps hk, let ⟨ps, e⟩ := t.t122; ⟨ps, hk _ _ e⟩, let ⟨ps, e⟩ := t.t100; ⟨ps, hk _ _ e⟩, fun b hb => let ⟨h1, h2, o, fs, e, d⟩ := t.n b hb; ⟨h1, h2, o, fs, hk _ _ e, d⟩, t.a122, t.a149, t.a100⟩
theorem Jt.hold {L : List Addr} {Z : Addr → Prop} (F' : Fs w mg mb own₀ lown' (fun b => Z b ∧ ¬ Hold env s L b) s env σ' s') (t : Jt env N W s.heap) : Jt env N W s'.heap where
  t149 := hold_tb F' t.t149 (fun b hb => .inl (.inr hb)) t.a149
  t122 := hold_tab F' t.a122 t.t122
  t100 := hold_tab F' t.a100 t.t100
  n := fun b hb => let ⟨h1, h2, o, fs, e, d⟩ := t.n b hb; ⟨h1, h2, o, fs, hold_not F' h2 e (fun us n q => by rw [d] at q; cases q), d⟩
  a122 := t.a122
  a149 := t.a149
  a100 := t.a100
theorem Jt.kb (t : Jt env N W s.heap) (kb : Kb (fun b => b = 149) s s') (T : Tb (fun b => (N b ∨ ¬ Apart env b) ∨ W b) 149 lpos2 (lq 152) s'.heap) : Jt env N W s'.heap where
  t149 := T
  t122 := let ⟨ps, e⟩ := t.t122; ⟨ps, kb.heap _ _ (by decide) e⟩
  t100 := let ⟨ps, e⟩ := t.t100; ⟨ps, kb.heap _ _ (by decide) e⟩
  n := fun b hb => by
    obtain ⟨h1, h2, o, fs, e, d⟩ := t.n b hb
    by_cases q : b = 149
    · subst q
      obtain ⟨ps, e⟩ := T.obj
      exact ⟨h1, h2, _, _, e, rfl⟩
    · exact ⟨h1, h2, o, fs, kb.heap b o q e, d⟩
  a122 := t.a122
  a149 := t.a149
  a100 := t.a100
/-- into a loop within -/
theorem Jt.into {W2 : Addr → Prop} (t : Jt env noN W s.heap) (hW : ∀ b, W b → Apart env b ∧ ∃ o fs, s.heap.get? b = some o ∧ o.data = .fields fs) (hW2 : ∀ b, W2 b → s.heap.get? b = none) : Jt env W W2 s.heap where
  t149 := (t.t149.less (N' := fun b => W b ∨ ¬ Apart env b) fun b hb => hb.elim .inr fun h => .inl (.inr h)).more hW2
  t122 := t.t122
  t100 := t.t100
  n := fun b hb => let ⟨h2, o, fs, e, d⟩ := hW b hb; ⟨fun q => (by rw [hW2 b q] at e; cases e), h2, o, fs, e, d⟩
  a122 := t.a122
  a149 := t.a149
  a100 := t.a100
theorem Jt.out {W2 : Addr → Prop} {h : Heap} (t : Jt env W W2 h) : Jt env noN W h where
  t149 := t.t149.less fun b hb => by
    rcases hb with (hb | hb) | hb
    · exact hb.elim
    · exact .inl (.inr hb)
    · exact .inl (.inl hb)
  t122 := t.t122
  t100 := t.t100
  n := fun b hb => hb.elim
  a122 := t.a122
  a149 := t.a149
  a100 := t.a100
end
end Mine
end
section
open PySem PySem.W PyProof.Rows PySem.Calls
set_option Elab.async false
set_option linter.unusedVariables false
set_option maxRecDepth 100000
namespace Mine
noncomputable def firstBody : List Stmt → List Stmt
  | (.For _ _ b _ _) :: _ => b
  | _ => []
noncomputable def lawT : { b : List Stmt // firstBody (lawBody.drop 17) = b } := ⟨_, rfl⟩
noncomputable abbrev lawTurn : List Stmt := lawT.1
noncomputable def lawT2 : { b : List Stmt // firstBody (lawTurn.drop 3) = b } := ⟨_, rfl⟩
noncomputable abbrev lawTurn2 : List Stmt := lawT2.1
theorem hop_lt {st : List (List Nat)} (hst : ∀ r ∈ st, r.length = 2 ∧ ∀ x ∈ r, x < st.length) : ∀ (word : List Nat) {j : Nat}, (∀ a ∈ word, a < 2) → j < st.length → word.foldl (hop st) j < st.length
  | [], j, _, h => h
  | a :: r, j, hw, h => by
    have hj := hst _ (getD_mem h)
    have ha := hw a (.head _)
    refine hop_lt hst r (fun b hb => hw b (.tail _ hb)) ?_
    unfold hop
    rw [getD_lt (l := st.getD j []) (by omega)]
    exact hj.2 _ (List.getElem_mem _)
section
variable {prog : Program} {w : World} {mg mb : Str → Option Value} {k : Nat} {sc : Scope} {σ σ' : Sig} {own₀ lown lown' : List Addr} {X : Addr → Prop} {s₀ s s' : Shared} {env : Env} {A : Around} {E : Value → Shared → Prop} {N W : Addr → Prop}
noncomputable abbrev sgTu (D : Addr) (m : Nat) (o : List Nat) (q1 q2 : q1T) (fr due : List (List Nat)) (i : Nat) (states : List Nat) : Sig := (Str.ofString "k", (none, eN i)) :: (Str.ofString "states", (none, eL states)) :: sgD D m o q1 q2 fr due
theorem rep_kb {P : Addr} {own : List Addr} {v : Value} {d : Dt} (hP : ∃ ps, s.heap.get? P = some (tabObj ps)) (r : Rep own s.heap v d) (kb : Kb (fun b => b = P) s s') : Rep own s'.heap v d :=
  r.mono fun b o us n hb e dd => ⟨kb.heap b o (fun q => by obtain ⟨ps, e2⟩ := hP; subst q; rw [e] at e2; cases e2; cases dd) e, hb⟩
set_option maxHeartbeats 8000000 in
theorem law_turn2 {m : Nat} {o : List Nat} {pl D : Addr} {i : Nat} {word states : List Nat} {due fr : List (List Nat)} (hm : m = 2 ∨ m = 3) (hol : o.length = 8) {q1 q2 : q1T} (ok2 : RFin q2) (hl2 : q2.2.2.length = q2.1.length) (hi : i < q2.1.length) (hw : ∀ a ∈ word, a < 2) (hst : ∀ p ∈ states, p < m) (hsl : states.length ≤ 3)
    (E2 : isDir (q2.1.getD (word.foldl (hop q2.2.2) i) 0) = meetF (runF (ownF m o) states word) (lastF m o)) {Q : Flow → Shared → Prop} (hr : Room (k + 5) A) (hsc : env.scope = lawSc) (hcode : env.code = .ref 151) (hq : env.qual ++ "<lambda>" = lq 152) (hX : X 149)
    (F : Fs w mg mb [pl] [D] X s₀ env ((Str.ofString "word", (none, eL word)) :: sgTu D m o q1 q2 fr due i states) s) (t : Jt env N W s.heap) (hW : ∀ b, W b → ∃ o, s.heap.get? b = some o)
    (h : ∀ s', Fs w mg mb [pl] [D] X s₀ env (sgTu D m o q1 q2 fr due i states) s' → Jt env N W s'.heap → Q .next s') : wpAny (model prog w) A (execs lawTurn2 env) Q E s := by
  have hT := own_ok hm hol
  have hm3 : m ≤ 3 := by omega
  have hs2 := ok2.small
  have hrows : ∀ r ∈ q2.2.2, r.length = 2 ∧ ∀ x ∈ r, x < q2.2.2.length := fun r hr => hl2 ▸ ok2.rows r hr
  refine seq_next ?_
  refine wpAny_Assign_Name (Subscript_ (EvT.name (sc := lawSc) (xs := q2.1.map eN) rfl rfl _ env A s _ _ hsc F.envOk F.gd' F.alive hr fun u s₁ k₁ r₁ => ?_)) rfl
  have F₁ := F.kp k₁
  have t₁ := t.keeps k₁.heap
  have hN : ∀ z, ((N z ∨ ¬ Apart env z) ∨ W z) → ∃ o, s₁.heap.get? z = some o := fun z hz => by
    rcases hz with (hz | hz) | hz
    · obtain ⟨_, _, o, fs, e, _⟩ := t₁.n z hz
      exact ⟨o, e⟩
    · exact F₁.nApart hz
    · obtain ⟨o, e⟩ := hW z hz
      exact ⟨o, k₁.heap _ _ e⟩
  refine F₁.reduce (k := k + 3) hr hsc (P := 149) (c := 151) (i0 := i) (l := word) (x := Str.ofString "at") (y := Str.ofString "letter") (τ := [(Str.ofString "steps", (none, eLL q2.2.2))]) (fN := hop q2.2.2) (Pp := fun a b => a < q2.2.2.length ∧ b < 2)
    (hcode.trans rfl) (codeHd_of_K F₁.gd'.K rfl) (hq.symm ▸ t₁.t149) hN (.inl hX) rfl (Ev.name rfl rfl) (Ev.name rfl rfl) rfl (fun c' ctv cl pm u v => rfl) (by decide) rfl rfl (by decide) ?_ ?_ ?_ ?_ ?_ rfl rfl rfl
  · intro n hn
    have : n = Str.ofString "steps" := by simpa using hn
    subst this
    unfold Env.kindOf; rw [hsc]; rfl
  · intro z e hz
    by_cases hzt : z = Str.ofString "steps"
    · subst hzt
      rw [List.lookup_cons] at hz; simp at hz; subst hz
      exact ⟨rfl, rfl, rfl⟩
    · rw [lookup_ne hzt] at hz; cases hz
  · intro a b hab
    have hr2 := (hrows _ (getD_mem hab.1)).1
    refine Ev.itemN (xs := (q2.2.2.getD a []).map eN) (Ev.top (Ev.itemN (xs := q2.2.2.map eL) (EvT.name rfl rfl) (Ev.name rfl rfl) (by omega) (getD_map q2.2.2 eL a [] hab.1))) (Ev.name rfl rfl) (by omega) (getD_map _ eN b 0 (by omega))
  · intro n x hx
    exact ⟨hop_lt hrows _ (fun a ha => hw a (List.mem_of_mem_take ha)) (by omega), hw x (List.mem_of_getElem? hx)⟩
  intro v s₂ F₂ kb T₂ rv
  have t₂ : Jt env N W s₂.heap := t₁.kb kb (hq ▸ T₂)
  have hend := hop_lt hrows word (j := i) hw (by omega)
  rw [hl2] at hend
  generalize word.foldl (hop q2.2.2) i = en at *
  obtain ⟨tk, rfl⟩ := rep_int rv
  obtain ⟨a, vs, xs, rfl, e, hl, hra⟩ := r₁
  cases e
  have hl₂ := plain_kb t₁.t149.obj hl kb
  have hra₂ := repAll_kb t₁.t149.obj hra kb
  obtain ⟨x, hx, rx⟩ := hra₂.get _ _ (getD_map q2.1 eN en 0 hend)
  refine tail_any (plainL_list hl₂).typeIs list_getitem_lookup (wpAny_getItem_list (plainL_list hl₂) (by omega) (by omega) (by simpa using hx) ?_) (by with_unfolding_all rfl)
  have H₂ := F₂.hold (L := [pl]) (by simp)
  refine H₂.store (e := (none, eN (q2.1.getD en 0))) rx (stores_spec (by rw [hsc]; rfl)) fun s₃ H₃ => ⟨rfl, ?_⟩
  refine seq_next ?_
  refine H₃.if_ hr hsc (b := false) (Tr.cmp ?cmp) (fun q => by cases q) (fun _ s₄ H₄ => wpAny_execs_nil ⟨rfl, wpAny_execs_nil ?_⟩)
  case cmp =>
    refine (show (!decide (isDir (q2.1.getD en 0) = meetF (runF (ownF m o) states word) (lastF m o))) = false by rw [E2]; simp) ▸ Cmp.neE enc_bool (a := isDir (q2.1.getD en 0)) (b := meetF (runF (ownF m o) states word) (lastF m o)) trivial trivial (Ev.callD (gl_fn fun _ => rfl) (obj_at fun _ => rfl) rfl rfl (.cons (Ev.name rfl rfl) .nil) (fnN_S_ISDIR (k := k + 3) _)) ?_
    refine ev_meet (es := []) (.cons ?_ (.cons (Ev.name rfl rfl) .nil)) rfl (Nat.le_trans (run_len hT hm3 word hsl) (by decide))
    exact Ev.callD (gl_fn fun _ => rfl) (obj_at fun _ => rfl) rfl rfl (.cons (Ev.name rfl rfl) (.cons (Ev.name rfl rfl) (.cons (Ev.name rfl rfl) .nil))) (fn_run (ownF m o) m hT states word hst (by omega) (fun a ha => hw a ha))
  exact h s₄ ((F₂.unhold (by simp) H₄ fun b hb => hb).weak (wkc rfl (wkc rfl (wkc rfl (wkc rfl (wkc rfl (wkc rfl (wkc rfl (wkc rfl (wkc rfl (wkc rfl (wkc rfl (wkc rfl wk0))))))))))))) (t₂.hold H₄)
end
end Mine
end
section
open PySem PySem.W PyProof.Rows PySem.Calls
set_option Elab.async false
set_option linter.unusedVariables false
set_option maxRecDepth 100000
namespace Mine
section
variable {prog : Program} {w : World} {mg mb : Str → Option Value} {k : Nat} {sc : Scope} {σ σ' : Sig} {own₀ lown lown' : List Addr} {X : Addr → Prop} {s₀ s s' : Shared} {env : Env} {A : Around} {E : Value → Shared → Prop} {N W : Addr → Prop}
theorem Jt.not (t : Jt env N W s.heap) {W2 : Addr → Prop} (h : ∀ b, W2 b → s.heap.get? b = none) : ¬ W2 122 ∧ ¬ W2 149 ∧ ¬ W2 100 :=
  ⟨fun q => (by obtain ⟨ps, e⟩ := t.t122; rw [h _ q] at e; cases e), fun q => (by obtain ⟨ps, e⟩ := t.t149.obj; rw [h _ q] at e; cases e), fun q => (by obtain ⟨ps, e⟩ := t.t100; rw [h _ q] at e; cases e)⟩
set_option maxHeartbeats 8000000 in
theorem law_turn {m : Nat} {o : List Nat} {pl D : Addr} {i : Nat} {st : List Nat} {due fr : List (List Nat)} (hm : m = 2 ∨ m = 3) (hol : o.length = 8) {q1 q2 : q1T} (ok1 : RFin q1) (ok2 : RFin q2) (hl2 : q2.2.2.length = q2.1.length) (hi : i < q2.1.length) (hfl : fr.length ≤ 17) (hdl : due.length ≤ 100) (hDp : D ≠ pl)
    (hs : runF (ownF m o) (firstF m o) (q2.2.1.getD i []) = st)
    (E2 : ∀ word ∈ q1.2.1, isDir (q2.1.getD (word.foldl (hop q2.2.2) i) 0) = meetF (runF (ownF m o) st word) (lastF m o)) {Q : Flow → Shared → Prop} (hr : Room (k + 5) A) (hsc : env.scope = lawSc) (hcode : env.code = .ref 151) (hq : env.qual ++ "<lambda>" = lq 152) (hX : X 149)
    (F : Fs w mg mb [pl] [D] X s₀ env ((Str.ofString "k", (none, eN i)) :: sgD D m o q1 q2 fr due) s) (t : Jt env noN W s.heap) (hW : ∀ b, W b → ∃ o fs, s.heap.get? b = some o ∧ o.data = .fields fs)
    (h : ∀ s', Fs w mg mb [pl] [D] X s₀ env (sgD D m o q1 q2 fr (due ++ [listF (meetF st (lastF m o)) (rtF (takenF fr st))])) s' → Jt env noN W s'.heap → Q .next s') : wpAny (model prog w) A (execs lawTurn env) Q E s := by
  have hT := own_ok hm hol
  have hm3 : m ≤ 3 := by omega
  have hs1 := ok1.small
  have hs2 := ok2.small
  have hw1 := ok1.len
  have hw2 := ok2.len
  have hlf : (firstF m o).length ≤ m := stF_len
  have hll : (lastF m o).length ≤ m := stF_len
  have hst : ∀ p ∈ st, p < m := hs ▸ run_lt hT hm3 _ stF_lt
  have hsl : st.length ≤ 3 := hs ▸ run_len hT hm3 _ (by omega)
  have hwi : q2.2.1.getD i [] ∈ q2.2.1 := getD_mem (by omega)
  have H := F.hold (L := [pl]) (by simp)
  refine seq_next (H.assign hr hsc (d := eL st) ?run rfl fun s₁ H₁ => ⟨rfl, ?_⟩)
  case run =>
    refine hs ▸ Ev.callD (gl_fn fun _ => rfl) (obj_at fun _ => rfl) rfl rfl (.cons (Ev.name rfl rfl) (.cons (Ev.name rfl rfl) (.cons ?_ .nil))) (fn_run (ownF m o) m hT (firstF m o) (q2.2.1.getD i []) stF_lt (by omega) (fun a ha => ok2.letters _ hwi a ha))
    exact Ev.itemN (xs := q2.2.1.map eL) (EvT.name rfl rfl) (Ev.name rfl rfl) (by omega) (getD_map q2.2.1 eL i [] (by omega))
  clear hs
  refine seq_next (H₁.assignComp hr hsc (List.range fr.length) eN (fun j => meetF st (fr.getD j [])) eN rfl (Itr.rangeN (Ev.lenN (xs := fr.map eL) (n := fr.length) (gl_none fun _ => rfl) rfl (EvT.name rfl rfl) (map_len _ _) (by omega)) rfl (gl_none fun _ => rfl) (by omega)) (fun j hj => Trs.one (Tr.val (ev_meet (es := []) (.cons (Ev.name rfl rfl) (.cons ?_ .nil)) rfl (by omega)))) (fun j hj _ => Ev.name rfl rfl) (size_le (by rw [List.length_range]; omega)) rfl rfl fun s₂ H₂ => ⟨rfl, ?_⟩)
  · exact Ev.itemN (xs := fr.map eL) (EvT.name rfl rfl) (Ev.name rfl rfl) (by have := List.mem_range.mp hj; omega) (getD_map fr eL j [] (List.mem_range.mp hj))
  have e3 : Dt.list (((List.range fr.length).filter fun j => meetF st (fr.getD j [])).map eN) = eL (takenF fr st) := rfl
  rw [e3] at H₂
  have htl : (takenF fr st).length ≤ 17 := by
    refine Nat.le_trans (List.length_filter_le _ _) ?_
    rw [List.length_range]; omega
  refine seq_next (H₂.append hr hsc (a := D) (ds := due.map eS) (d := eS (listF (meetF st (lastF m o)) (rtF (takenF fr st)))) rfl ?new rfl rfl (.head _) (by simp [Sep]) (by rw [List.length_map]; omega) fun s₃ H₃ => ⟨rfl, ?_⟩)
  case new =>
    exact Ev.callD (gl_fn fun _ => rfl) (obj_at fun _ => rfl) rfl rfl (.cons (ev_meet (es := []) (.cons (Ev.name rfl rfl) (.cons (Ev.name rfl rfl) .nil)) rfl (by omega)) (.cons (Ev.callD (gl_fn fun _ => rfl) (obj_at fun _ => rfl) rfl rfl (.cons (Ev.name rfl rfl) .nil) (fn_rights _ (by omega))) .nil)) (fn_listing _ _)
  generalize hnew : listF (meetF st (lastF m o)) (rtF (takenF fr st)) = nw at *
  have e4 : Dt.list (due.map eS ++ [eS nw]) = .list ((due ++ [nw]).map eS) := by rw [List.map_append]; rfl
  rw [e4] at H₃
  have F₃ := (F.unhold (by simp) H₃ fun b hb => hb).weak (σ' := sgTu D m o q1 q2 fr (due ++ [nw]) i st) (wkc rfl (wkc rfl (wkc rfl (wkc rfl (wkc rfl (wkc rfl (wkc rfl (wkc rfl (wkc rfl (wkc rfl (wkc rfl (wkc rfl wk0))))))))))))
  have t₃ := t.hold H₃
  have hW₃ : ∀ b, W b → Apart env b ∧ ∃ o fs, s₃.heap.get? b = some o ∧ o.data = .fields fs := fun b hb => by
    obtain ⟨o, fs, e, d⟩ := hW b hb
    have hA := F.apartOf e (fun es n q => by rw [d] at q; cases q) (fun c q => by rw [d] at q; cases q)
    exact ⟨hA, o, fs, hold_not H₃ hA e (fun us n q => by rw [d] at q; cases q), d⟩
  clear H H₁ H₂ H₃
  refine seq_next (F₃.forJ hr hsc (Tgt.name (x := Str.ofString "word") rfl) (fun _ _ => trivial) (Itr.toJ (Itr.list (xs := q1.2.1.map eL) (Ev.name rfl rfl)))
    (fun W2 j σ' h => σ' = sgTu D m o q1 q2 fr (due ++ [nw]) i st ∧ Jt env W W2 h)
    (fun W2 hW2 j σ h h' ⟨h1, t⟩ sm => ⟨h1, t.sm sm (t₃.not hW2).1 (t₃.not hW2).2.1 (t₃.not hW2).2.2⟩)
    (fun W2 s' hW2 k' => ⟨rfl, (t₃.into hW₃ hW2).keeps k'.heap⟩) ?_ ?_)
  · rintro W2 j d σ' s₄ E' hW2 hd ⟨rfl, t₄⟩ F₄
    obtain ⟨word, hwd, rfl⟩ : ∃ word, q1.2.1[j]? = some word ∧ eL word = d := by rwa [List.getElem?_map, Option.map_eq_some_iff] at hd
    have hmem := List.mem_of_getElem? hwd
    exact law_turn2 (k := k) hm hol ok2 hl2 hi (ok1.letters word hmem) hst hsl (E2 word hmem) hr hsc hcode hq (.inl hX) F₄ t₄ (fun b hb => let ⟨o, fs, e, d⟩ := hW2 b hb; ⟨o, e⟩) fun s' F' t' => ⟨_, ⟨rfl, t'⟩, F'⟩
  · rintro W2 σ' s₄ E' ⟨rfl, t₄⟩ F₄
    exact wpAny_execs_nil ⟨rfl, wpAny_execs_nil (h s₄ (F₄.weak (wkc rfl (wkc rfl (wkc rfl (wkc rfl (wkc rfl (wkc rfl (wkc rfl (wkc rfl (wkc rfl (wkc rfl wk0))))))))))) t₄.out)⟩
end
end Mine
end
section
open PySem PySem.W PyProof.Rows PySem.Calls
set_option Elab.async false
set_option linter.unusedVariables false
set_option maxRecDepth 100000
namespace Mine
theorem fmChar_lt (mode i : Nat) : ∀ t : List (Nat × Nat), (∀ q ∈ t, q.2 < 256) → fmChar mode i t < 256
  | [], _ => by unfold fmChar; split <;> decide
  | q :: r, h => by
    unfold fmChar
    split
    · exact h q (.head _)
    · exact fmChar_lt mode i r fun p hp => h p (.tail _ hp)
theorem fmF_lt (mode : Nat) : ∀ c ∈ fmF mode, c < 256 := by
  intro c hc
  obtain ⟨i, hi, rfl⟩ := List.mem_mapIdx.mp hc
  have hall : ∀ t ∈ fmTab, ∀ q ∈ t, q.2 < 256 := by decide
  exact fmChar_lt mode i _ (hall _ (List.getElem_mem _))
section
variable {prog : Program} {w : World} {mg mb : Str → Option Value} {k : Nat} {sc : Scope} {σ σ' : Sig} {own₀ lown lown' : List Addr} {X : Addr → Prop} {s₀ s s' : Shared} {env : Env} {A : Around} {E : Value → Shared → Prop} {N W : Addr → Prop}
theorem dueN_succ (T : List (List (List Nat))) (first last : List Nat) (fr wy : List (List Nat)) (i : Nat) : dueN T first last fr wy (i + 1) = dueN T first last fr wy i ++ [listF (meetF (runF T first (wy.getD i [])) last) (rtF (takenF fr (runF T first (wy.getD i []))))] := by
  rw [dueN, dueN, List.range_succ, List.map_append, ← List.append_assoc]; rfl
theorem dueN_len (T : List (List (List Nat))) (first last : List Nat) (fr wy : List (List Nat)) (i : Nat) : (dueN T first last fr wy i).length = fr.length + i := by
  rw [dueN, List.length_append, List.length_map, List.length_map, List.length_range]
set_option maxHeartbeats 8000000 in
theorem law_C3 {m : Nat} {o : List Nat} {pl D : Addr} {fr : List (List Nat)} (hm : m = 2 ∨ m = 3) (hol : o.length = 8) {q1 q2 : q1T} (ok1 : RFin q1) (ok2 : RFin q2) (hl2 : q2.2.2.length = q2.1.length) (hfl : fr.length ≤ 17) (hDp : D ≠ pl)
    (E2 : ∀ i, i < q2.1.length → ∀ word ∈ q1.2.1, isDir (q2.1.getD (word.foldl (hop q2.2.2) i) 0) = meetF (runF (ownF m o) (runF (ownF m o) (firstF m o) (q2.2.1.getD i [])) word) (lastF m o))
    (E3 : (q1.1 ++ q2.1).map fmF = dueN (ownF m o) (firstF m o) (lastF m o) fr q2.2.1 q2.1.length) {Q : Flow → Shared → Prop} (hr : Room (k + 5) A) (hsc : env.scope = lawSc) (hcode : env.code = .ref 151) (hq : env.qual ++ "<lambda>" = lq 152)
    (F : Fs w mg mb [pl] [D] (X1 pl) s₀ env (sgD D m o q1 q2 fr (dueN (ownF m o) (firstF m o) (lastF m o) fr q2.2.1 0)) s) (t : Tbs env s.heap)
    (h : ∀ v σ' s', Fs w mg mb [pl] [D] (X1 pl) s₀ env σ' s' → Jt env noN noN s'.heap → v = .bool true → Q (.ret v) s') : wpAny (model prog w) A (execs (lawBody.drop 17) env) Q E s := by
  have hs1 := ok1.small
  have hs2 := ok2.small
  have hw2 := ok2.len
  have t₁ : ∀ W : Addr → Prop, (∀ b, W b → s.heap.get? b = none) → Jt env noN W s.heap := fun W hW =>
    ⟨(t.t122.shape.elim fun _ _ => (t.t149.less (N' := fun b => noN b ∨ ¬ Apart env b) fun b hb => hb.elim False.elim id)).more hW, t.t122.obj, t.t100, fun b hb => hb.elim, t.a122, t.a149, t.a100⟩
  have tn := t₁ noN fun b hb => hb.elim
  refine seq_next (F.forJ hr hsc (Tgt.name (x := Str.ofString "k") rfl) (fun _ _ => trivial) (Itr.toJ (Itr.rangeN (n := q2.1.length) (Ev.lenN (xs := q2.2.1.map eL) (n := q2.1.length) (gl_none fun _ => rfl) rfl (EvT.name rfl rfl) (by rw [List.length_map]; exact hw2) (by omega)) rfl (gl_none fun _ => rfl) (by omega)))
    (fun W i σ' h => i ≤ q2.1.length ∧ σ' = sgD D m o q1 q2 fr (dueN (ownF m o) (firstF m o) (lastF m o) fr q2.2.1 i) ∧ Jt env noN W h)
    (fun W hW i σ h h' ⟨h1, h2, t⟩ sm => ⟨h1, h2, t.sm sm (tn.not hW).1 (tn.not hW).2.1 (tn.not hW).2.2⟩)
    (fun W s' hW k' => ⟨Nat.zero_le _, rfl, (t₁ W hW).keeps k'.heap⟩) ?_ ?_)
  · rintro W i d σ' s₁ E' hW hd ⟨hi, rfl, t₂⟩ F₁
    obtain ⟨j, hj, rfl⟩ : ∃ j, (List.range q2.1.length)[i]? = some j ∧ eN j = d := by rwa [List.getElem?_map, Option.map_eq_some_iff] at hd
    obtain ⟨hi1, hji⟩ := List.getElem?_eq_some_iff.mp hj
    rw [List.getElem_range] at hji
    subst hji
    have hi2 : i < q2.1.length := by simpa using hi1
    exact law_turn (k := k) hm hol ok1 ok2 hl2 hi2 hfl (by rw [dueN_len]; omega) hDp rfl (E2 i hi2) hr hsc hcode hq (.inl (.inl (.inr (.inr rfl)))) F₁ t₂ hW fun s' F' t' => ⟨_, ⟨hi2, rfl, t'⟩, by rw [dueN_succ]; exact F'⟩
  · rintro W σ' s₁ E' ⟨_, rfl, t₂⟩ F₁
    refine wpAny_execs_nil ⟨rfl, ?_⟩
    rw [List.length_map, List.length_range] at F₁
    have H := F₁.hold (L := [pl]) (by simp)
    refine wpAny_execs_cons (H.ret hr hsc (d := .bool true) ?ev fun v s' H' rv => h v _ s' (F₁.unhold (by simp) H' fun b hb => hb) ?_ ?_)
    case ev =>
      refine (show decide ((q1.1 ++ q2.1).map fmF = dueN (ownF m o) (firstF m o) (lastF m o) fr q2.2.1 q2.1.length) = true by rw [E3]; simp) ▸ Ev.cmp (Cmp.eqT enc_S (a := (q1.1 ++ q2.1).map fmF) (b := dueN (ownF m o) (firstF m o) (lastF m o) fr q2.2.1 q2.1.length) (fun x hx => ?_) (fun x hx => ?_) ?_ (EvT.name rfl rfl))
      · obtain ⟨y, _, rfl⟩ := List.mem_map.mp hx
        exact fmF_lt y
      · rw [← E3] at hx
        obtain ⟨y, _, rfl⟩ := List.mem_map.mp hx
        exact fmF_lt y
      · refine Ev.cast (Ev.comp (q1.1 ++ q2.1) eN (fun _ => true) (fun x => eS (fmF x)) rfl (Itr.list (Ev.cast (Ev.cat (xs := q1.1.map eN) (ys := q2.1.map eN) (Ev.name rfl rfl) (Ev.name rfl rfl) (size_le (by rw [List.length_map, List.length_map]; omega))) (by rw [List.map_append]))) (fun _ _ => Trs.nil) (fun x hx _ => ?_) (size_le (by rw [List.length_append]; omega))) (by rw [filter_true, List.map_map]; rfl)
        exact Ev.callD (gl_fn fun _ => rfl) (obj_at fun _ => rfl) rfl rfl (.cons (Ev.name rfl rfl) .nil) (fn_filemode _)
    · have := t₂.hold H'
      exact ⟨this.t149.less fun b hb => by rcases hb with (hb | hb) | hb
                                           · exact hb.elim
                                           · exact .inl (.inr hb)
                                           · exact hb.elim, this.t122, this.t100, fun b hb => hb.elim, this.a122, this.a149, this.a100⟩
    · exact rep_bool rv
end
end Mine
end
section
open PySem PySem.W PyProof.Rows PySem.Calls
set_option Elab.async false
set_option linter.unusedVariables false
set_option maxRecDepth 100000
namespace Mine
/-- what law asks, in plain words -/
structure LawOk (m : Nat) (o : List Nat) (q1 q2 : q1T) : Prop where
  e1 : reachF (turnF (ownF m o)) (lastF m o) (firstF m o) = q1
  e2 : reachF (turnF (freshF q1.2.2)) (dirsF q1.1) [0] = q2
  few : q2.1.length ≤ 8
  rows : rows2 q2.1 q2.2.2 = leastF (ownF m o) (firstF m o) (lastF m o)
  ends : ∀ i, i < q2.1.length → ∀ word ∈ q1.2.1, isDir (q2.1.getD (word.foldl (hop q2.2.2) i) 0) = meetF (runF (ownF m o) (runF (ownF m o) (firstF m o) (q2.2.1.getD i [])) word) (lastF m o)
  shown : (q1.1 ++ q2.1).map fmF = dueN (ownF m o) (firstF m o) (lastF m o) (frontsF (ownF m o) m (lastF m o) q1.2.1) q2.2.1 q2.1.length
section
variable {prog : Program} {w : World} {mg mb : Str → Option Value} {k : Nat} {s : Shared} {A : Around} {E : Value → Shared → Prop}
set_option maxHeartbeats 8000000 in
theorem call_law {ns : List Int} (hns : ns.length ≤ 63) {q1 q2 : q1T} (ok : LawOk (manyF ns) (octsF ns) q1 q2) {v : Value} {Q : Value → Shared → Prop} (hg : Gd w mg mb s.heap) (hr : Room (k + 6) A) (rv : Rep [] s.heap v (.list (ns.map .int)))
    (h122 : s.heap.get? 122 = some (tabObj #[])) (h149 : s.heap.get? 149 = some (tabObj #[])) (h100 : s.heap.get? 100 = some (tabObj #[]))
    (hQ : ∀ s', Kb (fun b => b = 122 ∨ b = 100 ∨ b = 149) s s' → (∃ ps, s'.heap.get? 122 = some (tabObj ps)) → (∃ ps, s'.heap.get? 149 = some (tabObj ps)) → (∃ ps, s'.heap.get? 100 = some (tabObj ps)) → Q (.bool true) s') : wpAny (model prog w) A (call (.ref 152) [v]) Q E s := by
  have a1 := hg.K 152 (fnObj 152) rfl
  have a2 : (fnObj 152).data = .func (fdOf 152) := rfl
  have a3 : s.heap.CodeRec (fdOf 152).code (fdOf 152).qualname := ⟨151, _, _, _, rfl, hg.K 151 _ rfl, rfl, rfl⟩
  have a4 : [v].length = [Str.ofString "script"].length := rfl
  have a5 : ∀ (Q : List (Str × Value) → Shared → Prop) (E : Value → Shared → Prop) (A : Around), Q ([Str.ofString "script"].zip [v]) s → wpAny (model prog w) A (bindArgs (fdOf 152) ⟨[v], []⟩) Q E s := (fun Q E A q => by rw [bind1 (fd := fdOf 152) (x := Str.ofString "script") (fun u => rfl) [v] rfl]; exact wpAny_pure q)
  have b1 : (fdOf 152).closure = [] := rfl
  have b2 : (fdOf 152).globals = mainGlobals := rfl
  have b3 : (fdOf 152).builtins = builtinsNs := rfl
  have b4 : ([Str.ofString "script"].all fun x => stores (fdOf 152).scope x) = true := rfl
  have b5 : [Str.ofString "script"].Nodup := by decide
  have b6 : ((fdOf 152).scope.names.all fun x => x.2 != .free) = true := rfl
  have b7 : (fdOf 152).scope.kind = .function := rfl
  have b8 : (fdOf 152).scope.isCoroutine = false := rfl
  have b9 : (fdOf 152).scope.isGenerator = false := rfl
  refine wpAny_call (enter_fsQ (k := k + 5) (own := []) (body := lawBody) (args := [.list (ns.map .int)]) (ps := [Str.ofString "script"]) hg (fun b hb => nomatch hb) hr (.cons rv .nil) a1 a2 a3 lawB.2 a4 a5 b1 b2 b3 b4 b5 b6 b7 b8 b9 fun s₁ env E' hsc hcode hqual hr' F => ?_)
  have hq : env.qual ++ "<lambda>" = lq 152 := by rw [hqual]
  refine @law_A prog w mg mb k s s₁ env (A.deeper env) E' ns hns _ hr' hsc [] F fun s₂ F₂ => ?_
  have hm := many_or ns
  have hol := octs_len ns
  have k₂ := F₂.kp0.heap
  have ap : ∀ P, s.heap.get? P = some (tabObj #[]) → Apart env P := fun P e => F₂.apartOf (k₂ _ _ e) (fun es n q => by cases q) (fun c q => by cases q)
  refine law_B (k := k) hm hol (octs_lt ns) hr' hsc hg ?tabs F₂ ⟨.inl (k₂ _ _ h122), .inl (k₂ _ _ h149), ⟨_, k₂ _ _ h100⟩, ap _ h122, ap _ h149, ap _ h100⟩ (k₂ _ _ h100) fun pl s₃ hpl F₃ t₃ => ?_
  case tabs =>
    rintro P (rfl | rfl | rfl)
    · exact ⟨_, h122⟩
    · exact ⟨_, h100⟩
    · exact ⟨_, h149⟩
  generalize manyF ns = m at *
  generalize octsF ns = o at *
  have ok1 : RFin q1 := ok.e1 ▸ reachF_fin _ _ _
  have ok2 : RFin q2 := ok.e2 ▸ reachF_fin _ _ _
  have hl2 : q2.2.2.length = q2.1.length := by have := ok2.mv; have := ok.few; omega
  have hl1 := ok1.len
  have hs1 := ok1.small
  refine law_C1 (k := k) hm hol ok.e1 ok.e2 ok.few ok.rows hr' hsc F₃ t₃ fun s₄ F₄ t₄ => ?_
  refine law_C2 (k := k) hm hol ok1 rfl hr' hsc F₄ t₄ fun D s₅ hD hDX F₅ t₅ => ?_
  refine law_C3 (k := k) hm hol ok1 ok2 hl2 (by rw [frontsF, List.length_map]; omega) hD ok.ends ok.shown hr' hsc (hcode.trans rfl) hq (by simpa [dueN] using F₅) t₅ fun v σ' s' F' t' hv => ?_
  subst hv
  refine hQ s' ⟨F'.same, fun b o' hb e => F'.keep b o' (fun q => ?_) e⟩ t'.t122 t'.t149.obj t'.t100
  rcases q with q | q
  · exact hb q
  · subst q; rw [hpl] at e; cases e
end
end Mine
end
section
set_option Elab.async false
set_option linter.unusedVariables false
namespace Mine
/-- sets of states, as lists -/
noncomputable def fs (c : Nat) (P : Nat → Bool) : List Nat := (List.range c).filter P
theorem mem_fs {c : Nat} {P : Nat → Bool} {x : Nat} : x ∈ fs c P ↔ x < c ∧ P x = true := by simp [fs]
theorem fs_congr {c : Nat} {P Q : Nat → Bool} (h : ∀ x, x < c → P x = Q x) : fs c P = fs c Q := List.filter_congr fun x hx => h x (List.mem_range.mp hx)
theorem fs_add (c d : Nat) (P : Nat → Bool) : fs c P = fs (c + d) fun p => decide (p < c) && P p := by
  unfold fs
  rw [List.range_add, List.filter_append]
  have h1 : (List.range c).filter (fun p => decide (p < c) && P p) = (List.range c).filter P := List.filter_congr fun x hx => by simp [List.mem_range.mp hx]
  have h2 : ((List.range d).map fun x => c + x).filter (fun p => decide (p < c) && P p) = [] := by
    rw [List.filter_eq_nil_iff]
    intro x hx
    obtain ⟨y, _, rfl⟩ := List.mem_map.mp hx
    have : ¬ c + y < c := by omega
    simp [this]
  rw [h1, h2, List.append_nil]
theorem fs_up {c : Nat} (hc : c ≤ 8) (P : Nat → Bool) : fs c P = fs 8 fun p => decide (p < c) && P p := by
  have := fs_add c (8 - c) P
  rwa [show c + (8 - c) = 8 by omega] at this
noncomputable abbrev f8 (b0 b1 b2 b3 b4 b5 b6 b7 : Bool) : List Nat := fs 8 fun p => [b0, b1, b2, b3, b4, b5, b6, b7].getD p false
theorem fs8 (P : Nat → Bool) : fs 8 P = f8 (P 0) (P 1) (P 2) (P 3) (P 4) (P 5) (P 6) (P 7) := fs_congr fun x hx => by
  rcases (by omega : x = 0 ∨ x = 1 ∨ x = 2 ∨ x = 3 ∨ x = 4 ∨ x = 5 ∨ x = 6 ∨ x = 7) with rfl | rfl | rfl | rfl | rfl | rfl | rfl | rfl <;> rfl
noncomputable def bitsOk (X : List Nat) : Bool := (fun r => r < 4096 && (List.range 12).all fun i => r.testBit i == X.any fun p => 5 * p % 12 == i) (rtF X)
noncomputable def shownOk (X : List Nat) : Bool := (fun r => isDir (16384 + r) && !isDir (32768 + r) && fmF (16384 + r) == listF true r && fmF (32768 + r) == listF false r) (rtF X)
theorem bits8 : ∀ b0 b1 b2 b3 b4 b5 b6 b7 : Bool, bitsOk (f8 b0 b1 b2 b3 b4 b5 b6 b7) = true := by decide +kernel
theorem shown8 : ∀ b0 b1 b2 b3 b4 b5 b6 b7 : Bool, shownOk (f8 b0 b1 b2 b3 b4 b5 b6 b7) = true := by decide +kernel
theorem bits_ok {c : Nat} (hc : c ≤ 8) (P : Nat → Bool) : bitsOk (fs c P) = true := by rw [fs_up hc, fs8]; exact bits8 ..
theorem shown_ok {c : Nat} (hc : c ≤ 8) (P : Nat → Bool) : shownOk (fs c P) = true := by rw [fs_up hc, fs8]; exact shown8 ..
theorem rt_lt {c : Nat} (hc : c ≤ 8) (P : Nat → Bool) : rtF (fs c P) < 4096 := by
  have := bits_ok hc P
  simp only [bitsOk, Bool.and_eq_true, decide_eq_true_eq] at this
  exact this.1
theorem rt_bit {c : Nat} (hc : c ≤ 8) (P : Nat → Bool) {i : Nat} (hi : i < 12) : (rtF (fs c P)).testBit i = (fs c P).any fun p => 5 * p % 12 == i := by
  have := bits_ok hc P
  simp only [bitsOk, Bool.and_eq_true, List.all_eq_true, List.mem_range, beq_iff_eq] at this
  exact this.2 i hi
theorem e_inj : ∀ p, p < 8 → ∀ q, q < 8 → 5 * p % 12 = 5 * q % 12 → p = q := by decide +kernel
theorem rt_at {c : Nat} (hc : c ≤ 8) (P : Nat → Bool) {p : Nat} (hp : p < c) : (rtF (fs c P)).testBit (5 * p % 12) = P p := by
  rw [rt_bit hc P (Nat.mod_lt _ (by decide)), Bool.eq_iff_iff, List.any_eq_true]
  constructor
  · rintro ⟨x, hx, e⟩
    have hx' := mem_fs.mp hx
    have := e_inj x (by omega) p (by omega) (by simpa using e)
    subst this; exact hx'.2
  · intro h
    exact ⟨p, mem_fs.mpr ⟨hp, h⟩, by simp⟩
theorem meet_iff {a b : List Nat} : meetF a b = true ↔ ∃ x, x ∈ a ∧ x ∈ b := by
  unfold meetF
  rw [Bool.not_eq_true', decide_eq_false_iff_not, List.filter_eq_nil_iff]
  simp
theorem meet_comm (a b : List Nat) : meetF a b = meetF b a := by
  rw [Bool.eq_iff_iff, meet_iff, meet_iff]
  exact ⟨fun ⟨x, h1, h2⟩ => ⟨x, h2, h1⟩, fun ⟨x, h1, h2⟩ => ⟨x, h2, h1⟩⟩
theorem rt_meet {c : Nat} (hc : c ≤ 8) (P Q : Nat → Bool) : decide (0 < rtF (fs c P) &&& rtF (fs c Q)) = meetF (fs c P) (fs c Q) := by
  rw [Bool.eq_iff_iff, decide_eq_true_eq, meet_iff]
  constructor
  · intro h
    obtain ⟨i, hi⟩ := Nat.exists_testBit_of_ne_zero (Nat.ne_of_gt h)
    rw [Nat.testBit_and, Bool.and_eq_true] at hi
    have h12 : i < 12 := by
      refine Classical.byContradiction fun q => ?_
      have : (rtF (fs c P)).testBit i = false := Nat.testBit_lt_two_pow (Nat.lt_of_lt_of_le (rt_lt hc P) (Nat.pow_le_pow_right (n := 2) (by decide) (by omega : 12 ≤ i)))
      rw [this] at hi; exact absurd hi.1 (by simp)
    rw [rt_bit hc P h12, rt_bit hc Q h12, List.any_eq_true, List.any_eq_true] at hi
    obtain ⟨⟨x, hx, ex⟩, y, hy, ey⟩ := hi
    have h1 := (mem_fs.mp hx).1
    have h2 := (mem_fs.mp hy).1
    have := e_inj x (by omega) y (by omega) ((by simpa using ex : 5 * x % 12 = i).trans (by simpa using ey : 5 * y % 12 = i).symm)
    subst this
    exact ⟨x, hx, hy⟩
  · rintro ⟨x, hx, hy⟩
    have h1 := mem_fs.mp hx
    have h2 := mem_fs.mp hy
    refine Nat.pos_of_ne_zero fun q => ?_
    have : (rtF (fs c P) &&& rtF (fs c Q)).testBit (5 * x % 12) = true := by rw [Nat.testBit_and, rt_at hc P h1.1, rt_at hc Q h1.1, h1.2, h2.2]; rfl
    rw [q] at this; simp at this
/-- a set as a mode -/
noncomputable def codeF (fin X : List Nat) : Nat := rMode (rtF fin) (rtF X)
theorem code_eq {c : Nat} (hc : c ≤ 8) (P Q : Nat → Bool) : codeF (fs c Q) (fs c P) = (if meetF (fs c P) (fs c Q) then 16384 else 32768) + rtF (fs c P) := by
  unfold codeF rMode
  rw [← rt_meet hc]
  simp
theorem code_dir {c : Nat} (hc : c ≤ 8) (P Q : Nat → Bool) : isDir (codeF (fs c Q) (fs c P)) = meetF (fs c P) (fs c Q) := by
  have := shown_ok hc P
  simp only [shownOk, Bool.and_eq_true] at this
  rw [code_eq hc]
  cases meetF (fs c P) (fs c Q)
  · simpa using this.1.1.2
  · simpa using this.1.1.1
theorem code_shown {c : Nat} (hc : c ≤ 8) (P Q : Nat → Bool) : fmF (codeF (fs c Q) (fs c P)) = listF (meetF (fs c P) (fs c Q)) (rtF (fs c P)) := by
  have := shown_ok hc P
  simp only [shownOk, Bool.and_eq_true, beq_iff_eq] at this
  rw [code_eq hc]
  cases meetF (fs c P) (fs c Q)
  · simpa using this.2
  · simpa using this.1.2
theorem code_bit {c : Nat} (hc : c ≤ 8) (P Q : Nat → Bool) {p : Nat} (hp : p < c) : (codeF (fs c Q) (fs c P) / 2 ^ (5 * p % 12) % 2 == 1) = P p := by
  have hi : 5 * p % 12 < 12 := Nat.mod_lt _ (by decide)
  rw [← rt_at hc P hp, code_eq hc]
  generalize rtF (fs c P) = r
  have h : ∀ n, (n / 2 ^ (5 * p % 12) % 2 == 1) = n.testBit (5 * p % 12) := fun n => by rw [Nat.testBit_eq_decide_div_mod_eq]; rfl
  rw [h]
  split
  · rw [show (16384 : Nat) = 2 ^ 14 by rfl, Nat.testBit_two_pow_add_gt (by omega)]
  · rw [show (32768 : Nat) = 2 ^ 15 by rfl, Nat.testBit_two_pow_add_gt (by omega)]
theorem there_eq {c : Nat} (hc : c ≤ 8) (P Q : Nat → Bool) {tb : List Nat} (ht : tb.length = c) : rThere tb (codeF (fs c Q) (fs c P)) = fs c P := by
  unfold rThere; rw [ht]
  exact fs_congr fun p hp => code_bit hc P Q hp
theorem code_inj {c : Nat} (hc : c ≤ 8) {P P' Q : Nat → Bool} (h : codeF (fs c Q) (fs c P) = codeF (fs c Q) (fs c P')) : fs c P = fs c P' := by
  have h1 := there_eq hc P Q (tb := List.replicate c 0) (by simp)
  have h2 := there_eq hc P' Q (tb := List.replicate c 0) (by simp)
  rw [← h1, h, h2]
theorem fold_bit (f : Nat → Nat) (i : Nat) : ∀ (X : List Nat) (z : Nat), (X.foldl (fun kept p => kept ||| f p) z).testBit i = (z.testBit i || X.any fun p => (f p).testBit i)
  | [], z => by simp
  | a :: r, z => by rw [List.foldl_cons, fold_bit f i r, Nat.testBit_or, List.any_cons, Bool.or_assoc]
/-- one letter back -/
noncomputable def rsF (T : List (List (List Nat))) (c a : Nat) (X : List Nat) : List Nat := fs c fun p => X.any fun q => decide (q ∈ (T.getD a []).getD p [])
theorem laid_eq {T : List (List (List Nat))} {c a : Nat} (hT : TabOk T c) (hc : c ≤ 8) (ha : a < T.length) (P Q : Nat → Bool) : rLaid ((turnF T).getD a []) (codeF (fs c Q) (fs c P)) = rtF (rsF T c a (fs c P)) := by
  have htb : (turnF T).getD a [] = (List.range c).map fun q => 32768 + rtF (fs c fun p => decide (q ∈ (T.getD a []).getD p [])) := by
    have h1 : T.getD a [] = T[a] := getD_lt ha
    rw [h1, List.getD_eq_getElem?_getD, turnF, List.getElem?_map, List.getElem?_eq_getElem ha, hT.head]
    rfl
  unfold rLaid
  rw [there_eq hc P Q (by rw [htb]; simp), htb]
  refine Nat.eq_of_testBit_eq fun i => ?_
  rw [Nat.testBit_and, fold_bit, show (4095 : Nat) = 2 ^ 12 - 1 by rfl, Nat.testBit_two_pow_sub_one]
  by_cases hi : i < 12
  · unfold rsF
    rw [rt_bit hc _ hi, Bool.eq_iff_iff]
    simp only [hi, decide_true, Bool.and_true, Nat.zero_testBit, Bool.false_or, List.any_eq_true]
    constructor
    · rintro ⟨q, hq, h⟩
      have hqc := (mem_fs.mp hq).1
      rw [getD_lt (by simpa using hqc)] at h
      simp only [List.getElem_map, List.getElem_range] at h
      rw [show (32768 : Nat) = 2 ^ 15 by rfl, Nat.testBit_two_pow_add_gt (by omega), rt_bit hc _ hi, List.any_eq_true] at h
      obtain ⟨p, hp, e⟩ := h
      have hp' := mem_fs.mp hp
      exact ⟨p, mem_fs.mpr ⟨hp'.1, List.any_eq_true.mpr ⟨q, hq, hp'.2⟩⟩, e⟩
    · rintro ⟨p, hp, e⟩
      obtain ⟨hpc, hp'⟩ := mem_fs.mp hp
      obtain ⟨q, hq, hqp⟩ := List.any_eq_true.mp hp'
      have hqc := (mem_fs.mp hq).1
      refine ⟨q, hq, ?_⟩
      rw [getD_lt (by simpa using hqc)]
      simp only [List.getElem_map, List.getElem_range]
      rw [show (32768 : Nat) = 2 ^ 15 by rfl, Nat.testBit_two_pow_add_gt (by omega), rt_bit hc _ hi, List.any_eq_true]
      exact ⟨p, mem_fs.mpr ⟨hpc, hqp⟩, e⟩
  · have : (rtF (rsF T c a (fs c P))).testBit i = false := Nat.testBit_lt_two_pow (Nat.lt_of_lt_of_le (rt_lt hc _) (Nat.pow_le_pow_right (n := 2) (by decide) (by omega : 12 ≤ i)))
    rw [this]; simp [hi]
/-- the search steps as the sets do -/
theorem step_eq {T : List (List (List Nat))} {c a : Nat} (hT : TabOk T c) (hc : c ≤ 8) (ha : a < T.length) (P Q : Nat → Bool) : rStep (turnF T) (rtF (fs c Q)) (codeF (fs c Q) (fs c P)) a = codeF (fs c Q) (rsF T c a (fs c P)) := by
  unfold rStep; rw [laid_eq hT hc ha]; rfl
end Mine
end
section
set_option Elab.async false
set_option linter.unusedVariables false
namespace Mine
section
variable {α : Type} [DecidableEq α] {δ : Nat → α → α} {x0 : α}
/-- a search letter by letter -/
noncomputable def runG (δ : Nat → α → α) (x : α) (w : List Nat) : α := w.foldl (fun x a => δ a x) x
omit [DecidableEq α] in
theorem runG_app (δ : Nat → α → α) (x : α) (u v : List Nat) : runG δ x (u ++ v) = runG δ (runG δ x u) v := List.foldl_append ..
noncomputable def addW (q : List α × List (List Nat)) (k a : Nat) (y : α) : List α × List (List Nat) := if y ∈ q.1 then q else (q.1 ++ [y], q.2 ++ [q.2.getD k [] ++ [a]])
noncomputable abbrev gT (α : Type) := List α × List (List Nat) × List (List Nat)
noncomputable def gTwo (δ : Nat → α → α) (q : List α × List (List Nat)) (k : Nat) (x : α) : List α × List (List Nat) := addW (addW q k 0 (δ 0 x)) k 1 (δ 1 x)
noncomputable def gOne (δ : Nat → α → α) (q : gT α) (k : Nat) : gT α :=
  match q.1[k]? with
  | some x => ((gTwo δ (q.1, q.2.1) k x).1, (gTwo δ (q.1, q.2.1) k x).2, q.2.2 ++ [[(gTwo δ (q.1, q.2.1) k x).1.idxOf (δ 0 x), (gTwo δ (q.1, q.2.1) k x).1.idxOf (δ 1 x)]])
  | none => q
noncomputable def gGo (δ : Nat → α → α) (x0 : α) : Nat → gT α
  | 0 => ([x0], [[]], [])
  | i + 1 => gOne δ (gGo δ x0 i) i
structure WOk (δ : Nat → α → α) (x0 : α) (q : List α × List (List Nat)) : Prop where
  nodup : q.1.Nodup
  z : q.1[0]? = some x0
  wlen : q.2.length = q.1.length
  word : ∀ j, j < q.1.length → q.1[j]? = some (runG δ x0 (q.2.getD j []))
  wl : ∀ j, (q.2.getD j []).length ≤ j
theorem getD_app_lt {β : Type} {l m : List β} {j : Nat} {d : β} (h : j < l.length) : (l ++ m).getD j d = l.getD j d := by
  rw [List.getD_eq_getElem?_getD, List.getElem?_append_left h, List.getD_eq_getElem?_getD]
theorem getD_app_eq {β : Type} {l : List β} {x : β} {d : β} : (l ++ [x]).getD l.length d = x := by
  rw [List.getD_eq_getElem?_getD, List.getElem?_append_right (Nat.le_refl _), Nat.sub_self]; rfl
theorem getD_ge {β : Type} {l : List β} {j : Nat} {d : β} (h : l.length ≤ j) : l.getD j d = d := by
  rw [List.getD_eq_getElem?_getD, List.getElem?_eq_none h]; rfl
theorem lt_of_get {β : Type} {l : List β} {j : Nat} {x : β} (h : l[j]? = some x) : j < l.length := (List.getElem?_eq_some_iff.mp h).1
theorem mem_of_get {β : Type} {l : List β} {j : Nat} {x : β} (h : l[j]? = some x) : x ∈ l := List.mem_of_getElem? h
theorem addW_ok {q : List α × List (List Nat)} {k a : Nat} {x : α} (hk : q.1[k]? = some x) (h : WOk δ x0 q) : WOk δ x0 (addW q k a (δ a x)) ∧ δ a x ∈ (addW q k a (δ a x)).1 ∧ ∃ t, (addW q k a (δ a x)).1 = q.1 ++ t := by
  unfold addW
  split
  · rename_i hin
    exact ⟨h, hin, [], by simp⟩
  · rename_i hin
    have hkl := lt_of_get hk
    refine ⟨⟨?_, ?_, ?_, ?_, ?_⟩, by simp, [δ a x], rfl⟩
    · rw [List.nodup_append]
      exact ⟨h.nodup, by simp, fun b hb c hc => by simp at hc; subst hc; exact fun q => hin (q ▸ hb)⟩
    · rw [List.getElem?_append_left (lt_of_get h.z)]; exact h.z
    · simp [h.wlen]
    · intro j hj
      by_cases hj' : j < q.1.length
      · rw [List.getElem?_append_left hj', getD_app_lt (by rw [h.wlen]; exact hj')]
        exact h.word j hj'
      · have : j = q.1.length := by simp at hj; omega
        subst this
        have e : (q.2 ++ [q.2.getD k [] ++ [a]]).getD q.1.length [] = q.2.getD k [] ++ [a] := by rw [← h.wlen]; exact getD_app_eq
        show (q.1 ++ [δ a x])[q.1.length]? = some (runG δ x0 ((q.2 ++ [q.2.getD k [] ++ [a]]).getD q.1.length []))
        rw [e, List.getElem?_append_right (Nat.le_refl _), Nat.sub_self, runG_app]
        have := h.word k hkl
        rw [hk] at this
        rw [← Option.some.inj this]
        rfl
    · intro j
      rcases Nat.lt_trichotomy j q.2.length with hj | hj | hj
      · rw [getD_app_lt hj]; exact h.wl j
      · subst hj
        rw [getD_app_eq, List.length_append, List.length_singleton]
        have := h.wl k
        have := h.wlen
        omega
      · rw [getD_ge (by simp; omega)]; simp
structure GOk (δ : Nat → α → α) (x0 : α) (i : Nat) (q : gT α) : Prop extends WOk δ x0 (q.1, q.2.1) where
  mlen : q.2.2.length = min i q.1.length
  move : ∀ j x, j < q.2.2.length → q.1[j]? = some x → q.2.2.getD j [] = [q.1.idxOf (δ 0 x), q.1.idxOf (δ 1 x)] ∧ δ 0 x ∈ q.1 ∧ δ 1 x ∈ q.1
theorem gTwo_ok {q : List α × List (List Nat)} {k : Nat} {x : α} (hk : q.1[k]? = some x) (h : WOk δ x0 q) : WOk δ x0 (gTwo δ q k x) ∧ δ 0 x ∈ (gTwo δ q k x).1 ∧ δ 1 x ∈ (gTwo δ q k x).1 ∧ ∃ t, (gTwo δ q k x).1 = q.1 ++ t := by
  obtain ⟨h1, m1, t1, e1⟩ := addW_ok (a := 0) hk h
  have hk1 : (addW q k 0 (δ 0 x)).1[k]? = some x := by rw [e1, List.getElem?_append_left (lt_of_get hk)]; exact hk
  obtain ⟨h2, m2, t2, e2⟩ := addW_ok (a := 1) hk1 h1
  refine ⟨h2, ?_, m2, t1 ++ t2, ?_⟩
  · unfold gTwo; rw [e2]; exact List.mem_append_left _ m1
  · unfold gTwo; rw [e2, e1, List.append_assoc]
theorem gGo_ok (δ : Nat → α → α) (x0 : α) : ∀ i, GOk δ x0 i (gGo δ x0 i)
  | 0 => { nodup := by simp [gGo], z := rfl, wlen := rfl, word := fun j hj => by
             have : j = 0 := by simpa [gGo] using hj
             subst this; rfl
           wl := fun j => by
             rcases j with _ | j
             · exact Nat.le_refl _
             · rw [getD_ge (by simp [gGo])]; simp
           mlen := by simp [gGo], move := fun j x hj => by simp [gGo] at hj }
  | i + 1 => by
    have ih := gGo_ok δ x0 i
    show GOk δ x0 (i + 1) (gOne δ (gGo δ x0 i) i)
    generalize gGo δ x0 i = q at *
    unfold gOne
    split
    · rename_i x hx
      obtain ⟨h, m0, m1, t, e⟩ := gTwo_ok (q := (q.1, q.2.1)) hx ih.toWOk
      generalize gTwo δ (q.1, q.2.1) i x = r at *
      have e : r.1 = q.1 ++ t := e
      have hi := lt_of_get hx
      refine { toWOk := h, mlen := ?_, move := ?_ }
      · have := ih.mlen
        show (q.2.2 ++ [_]).length = min (i + 1) r.1.length
        rw [e, List.length_append, List.length_append, List.length_singleton]; omega
      · intro j y hj hy
        have hj : j < (q.2.2 ++ [[r.1.idxOf (δ 0 x), r.1.idxOf (δ 1 x)]]).length := hj
        have hy : r.1[j]? = some y := hy
        show (q.2.2 ++ [[r.1.idxOf (δ 0 x), r.1.idxOf (δ 1 x)]]).getD j [] = [r.1.idxOf (δ 0 y), r.1.idxOf (δ 1 y)] ∧ δ 0 y ∈ r.1 ∧ δ 1 y ∈ r.1
        by_cases hj' : j < q.2.2.length
        · have hjl : j < q.1.length := by have := ih.mlen; omega
          have hy' : q.1[j]? = some y := by rw [e, List.getElem?_append_left hjl] at hy; exact hy
          obtain ⟨h1, h2, h3⟩ := ih.move j y hj' hy'
          rw [getD_app_lt hj', h1, e, List.idxOf_append, List.idxOf_append, if_pos h2, if_pos h3]
          exact ⟨rfl, List.mem_append_left _ h2, List.mem_append_left _ h3⟩
        · have hjm : j = q.2.2.length := by simp at hj; omega
          have hji : j = i := by have := ih.mlen; omega
          have : y = x := by
            rw [hji, e, List.getElem?_append_left hi, hx] at hy
            exact (Option.some.inj hy).symm
          subst this
          rw [hjm, getD_app_eq]
          exact ⟨rfl, m0, m1⟩
    · rename_i hx
      have hi : q.1.length ≤ i := List.getElem?_eq_none_iff.mp hx
      exact { ih with mlen := by rw [ih.mlen]; omega }
theorem gGo_closed {i : Nat} (h : (gGo δ x0 i).1.length ≤ i) {x : α} (hx : x ∈ (gGo δ x0 i).1) : δ 0 x ∈ (gGo δ x0 i).1 ∧ δ 1 x ∈ (gGo δ x0 i).1 := by
  have ok := gGo_ok δ x0 i
  obtain ⟨j, hj, e⟩ := List.getElem_of_mem hx
  exact (ok.move j x (by rw [ok.mlen]; omega) (by rw [List.getElem?_eq_getElem hj, e])).2
/-- more rounds find no more -/
theorem gGo_still {i : Nat} (h : (gGo δ x0 i).1.length ≤ i) : ∀ d, gGo δ x0 (i + d) = gGo δ x0 i
  | 0 => rfl
  | d + 1 => by
    show gOne δ (gGo δ x0 (i + d)) (i + d) = _
    rw [gGo_still h d]
    unfold gOne
    rw [List.getElem?_eq_none (by omega)]
theorem gGo_run {i : Nat} (h : (gGo δ x0 i).1.length ≤ i) : ∀ (w : List Nat) {x : α}, (∀ a ∈ w, a < 2) → x ∈ (gGo δ x0 i).1 → runG δ x w ∈ (gGo δ x0 i).1
  | [], x, _, hx => hx
  | a :: r, x, hw, hx => by
    have := gGo_closed h hx
    refine gGo_run h r (x := δ a x) (fun b hb => hw b (.tail _ hb)) ?_
    rcases (by have := hw a (.head _); omega : a = 0 ∨ a = 1) with rfl | rfl
    · exact this.1
    · exact this.2
end
end Mine
end
section
set_option Elab.async false
set_option linter.unusedVariables false
namespace Mine
section
variable {α β : Type} [DecidableEq α] [DecidableEq β]
/-- each once, as first met -/
noncomputable def addL (S : List α) (x : α) : List α := if x ∈ S then S else S ++ [x]
noncomputable def ddF (l : List α) : List α := l.foldl addL []
theorem addL_pre (S : List α) (x : α) : ∃ t, addL S x = S ++ t := by
  unfold addL; split
  · exact ⟨[], by simp⟩
  · exact ⟨[x], rfl⟩
theorem addL_mem {S : List α} {x y : α} : y ∈ addL S x ↔ y ∈ S ∨ y = x := by
  unfold addL; split
  · rename_i h
    exact ⟨.inl, fun q => q.elim id fun q => q ▸ h⟩
  · simp
theorem addL_no {S : List α} {x : α} (h : x ∈ S) : addL S x = S := if_pos h
theorem fold_pre : ∀ (l : List α) (z : List α), ∃ t, l.foldl addL z = z ++ t
  | [], z => ⟨[], by simp⟩
  | a :: r, z => by
    obtain ⟨t, e⟩ := addL_pre z a
    obtain ⟨t', e'⟩ := fold_pre r (addL z a)
    exact ⟨t ++ t', by rw [List.foldl_cons, e', e, List.append_assoc]⟩
theorem dd_app (l : List α) (x : α) : ddF (l ++ [x]) = addL (ddF l) x := by unfold ddF; rw [List.foldl_append]; rfl
theorem fold_mem : ∀ (l : List α) (z : List α) {y : α}, y ∈ l.foldl addL z ↔ y ∈ z ∨ y ∈ l
  | [], z, y => by simp
  | a :: r, z, y => by rw [List.foldl_cons, fold_mem r, addL_mem, List.mem_cons, or_assoc]
theorem dd_mem {l : List α} {y : α} : y ∈ ddF l ↔ y ∈ l := by unfold ddF; rw [fold_mem]; simp
theorem dd_len : ∀ (l : List α) (z : List α), (l.foldl addL z).length ≤ z.length + l.length
  | [], z => Nat.le_refl _
  | a :: r, z => by
    rw [List.foldl_cons]
    have := dd_len r (addL z a)
    have h : (addL z a).length ≤ z.length + 1 := by unfold addL; split <;> simp
    rw [List.length_cons]; omega
theorem dd_map_add (φ : α → β) (S : List α) (y : α) : ddF ((addL S y).map φ) = addL (ddF (S.map φ)) (φ y) := by
  unfold addL
  by_cases h : y ∈ S
  · rw [if_pos h, if_pos (dd_mem.mpr (List.mem_map_of_mem h))]
  · rw [if_neg h, List.map_append]
    exact dd_app _ _
variable {δ : Nat → α → α} {δ' : Nat → β → β} {x0 : α} {φ : α → β} {P : α → Prop}
theorem addW_fst (q : List α × List (List Nat)) (k a : Nat) (y : α) : (addW q k a y).1 = addL q.1 y := by
  unfold addW addL; split <;> rfl
theorem gOne_fst (q : gT α) (k : Nat) {x : α} (h : q.1[k]? = some x) : (gOne δ q k).1 = addL (addL q.1 (δ 0 x)) (δ 1 x) := by
  unfold gOne; rw [h]
  show (gTwo δ (q.1, q.2.1) k x).1 = _
  unfold gTwo; rw [addW_fst, addW_fst]
theorem gGo_all (h0 : P x0) (hs : ∀ a x, P x → P (δ a x)) : ∀ i, ∀ x ∈ (gGo δ x0 i).1, P x
  | 0, x, hx => by
    have : x = x0 := by simpa [gGo] using hx
    exact this ▸ h0
  | i + 1, x, hx => by
    have ih := gGo_all h0 hs i
    have hx : x ∈ (gOne δ (gGo δ x0 i) i).1 := hx
    cases e : (gGo δ x0 i).1[i]? with
    | none =>
      unfold gOne at hx; rw [e] at hx; exact ih x hx
    | some y =>
      rw [gOne_fst _ _ e, addL_mem, addL_mem] at hx
      have hy := ih y (mem_of_get e)
      rcases hx with (hx | rfl) | rfl
      · exact ih x hx
      · exact hs 0 y hy
      · exact hs 1 y hy
theorem hom_go (h0 : P x0) (hs : ∀ a x, P x → P (δ a x)) (hφ : ∀ a x, a < 2 → P x → φ (δ a x) = δ' a (φ x)) : ∀ k, ddF ((gGo δ x0 k).1.map φ) = (gGo δ' (φ x0) (ddF (((gGo δ x0 k).1.take k).map φ)).length).1
  | 0 => rfl
  | k + 1 => by
    have ih := hom_go h0 hs hφ k
    have ok := gGo_ok δ x0 k
    have hall := gGo_all h0 hs k
    have e1 : (gGo δ x0 (k + 1)).1 = (gOne δ (gGo δ x0 k) k).1 := rfl
    rw [e1]
    generalize gGo δ x0 k = q at *
    cases e : q.1[k]? with
    | none =>
      have hl := List.getElem?_eq_none_iff.mp e
      have e2 : gOne δ q k = q := by unfold gOne; rw [e]
      rw [e2, List.take_of_length_le (by omega)]
      rw [List.take_of_length_le hl] at ih
      exact ih
    | some x =>
      have hkl := lt_of_get e
      rw [gOne_fst _ _ e]
      have e3 : (addL (addL q.1 (δ 0 x)) (δ 1 x)).take (k + 1) = q.1.take k ++ [x] := by
        obtain ⟨t1, q1⟩ := addL_pre q.1 (δ 0 x)
        obtain ⟨t2, q2⟩ := addL_pre (addL q.1 (δ 0 x)) (δ 1 x)
        rw [q2, q1, List.append_assoc, List.take_append_of_le_length (by omega), List.take_add_one, e]
        rfl
      rw [e3, dd_map_add, dd_map_add, List.map_append]
      have e4 : ddF ((q.1.take k).map φ ++ [x].map φ) = addL (ddF ((q.1.take k).map φ)) (φ x) := dd_app _ _
      rw [e4]
      have hPx := hall x (mem_of_get e)
      by_cases hin : φ x ∈ ddF ((q.1.take k).map φ)
      · rw [addL_no hin, ← ih]
        obtain ⟨x', hx', ex⟩ := List.mem_map.mp (dd_mem.mp hin)
        obtain ⟨j, hj, ej⟩ := List.getElem_of_mem hx'
        have hjk : j < k := by rw [List.length_take] at hj; omega
        have hj' : q.1[j]? = some x' := by
          rw [List.getElem_take] at ej
          rw [List.getElem?_eq_getElem (by omega), ej]
        obtain ⟨_, m0, m1⟩ := ok.move j x' (by rw [ok.mlen]; omega) hj'
        have hPx' := hall x' (mem_of_get hj')
        have m : ∀ a, a < 2 → δ a x' ∈ q.1 → φ (δ a x) ∈ ddF (q.1.map φ) := fun a ha h => by
          rw [hφ a x ha hPx, ← ex, ← hφ a x' ha hPx']
          exact dd_mem.mpr (List.mem_map_of_mem h)
        rw [addL_no (m 0 (by decide) m0), addL_no (m 1 (by decide) m1)]
      · have e5 : (addL (ddF ((q.1.take k).map φ)) (φ x)).length = (ddF ((q.1.take k).map φ)).length + 1 := by
          unfold addL; rw [if_neg hin]; simp
        rw [e5]
        have e6 : (gGo δ' (φ x0) (ddF ((q.1.take k).map φ)).length).1[(ddF ((q.1.take k).map φ)).length]? = some (φ x) := by
          rw [← ih]
          have : q.1 = (q.1.take k ++ [x]) ++ q.1.drop (k + 1) := by
            have h := List.take_append_drop (k + 1) q.1
            rw [List.take_add_one, e] at h
            exact h.symm
          conv => lhs; arg 1; rw [this]
          rw [List.map_append, List.map_append]
          unfold ddF
          rw [List.foldl_append]
          obtain ⟨t, et⟩ := fold_pre ((q.1.drop (k + 1)).map φ) (((q.1.take k).map φ ++ [x].map φ).foldl addL [])
          have e7 : ((q.1.take k).map φ ++ [x].map φ).foldl addL [] = ddF ((q.1.take k).map φ) ++ [φ x] := by
            have := e4; unfold ddF at this; rw [this]; unfold addL; exact if_neg hin
          rw [et, e7, List.append_assoc]
          show (ddF ((q.1.take k).map φ) ++ ([φ x] ++ t))[(ddF ((q.1.take k).map φ)).length]? = _
          rw [List.getElem?_append_right (Nat.le_refl _), Nat.sub_self]; rfl
        show _ = (gOne δ' (gGo δ' (φ x0) _) _).1
        rw [gOne_fst _ _ e6, ← ih, hφ 0 x (by decide) hPx, hφ 1 x (by decide) hPx]
/-- the image of a search is the search of the image -/
theorem hom_all {n : Nat} (h0 : P x0) (hs : ∀ a x, P x → P (δ a x)) (hφ : ∀ a x, a < 2 → P x → φ (δ a x) = δ' a (φ x)) (hn : (gGo δ x0 n).1.length ≤ n) : (gGo δ' (φ x0) n).1 = ddF ((gGo δ x0 n).1.map φ) := by
  have h := hom_go (δ' := δ') h0 hs hφ n
  rw [List.take_of_length_le hn] at h
  have hr : (ddF ((gGo δ x0 n).1.map φ)).length ≤ n := by
    have := dd_len ((gGo δ x0 n).1.map φ) []
    rw [List.length_map] at this
    unfold ddF; simp only [List.length_nil] at this; omega
  obtain ⟨d, hd⟩ : ∃ d, n = (ddF ((gGo δ x0 n).1.map φ)).length + d := ⟨_, (Nat.add_sub_cancel' hr).symm⟩
  have hst := gGo_still (δ := δ') (x0 := φ x0) (i := (ddF ((gGo δ x0 n).1.map φ)).length) (by rw [← h]; exact Nat.le_refl _) d
  rw [← hd] at hst
  rw [hst, ← h]
end
end Mine
end
section
set_option Elab.async false
set_option linter.unusedVariables false
namespace Mine
theorem beq_one {α : Type} (i1 i2 : BEq α) (h1 : @LawfulBEq α i1) (h2 : @LawfulBEq α i2) : i1 = i2 := by
  obtain ⟨f⟩ := i1
  obtain ⟨g⟩ := i2
  congr 1
  funext a b
  have e1 : f a b = true ↔ a = b := ⟨fun h => @LawfulBEq.eq_of_beq α ⟨f⟩ h1 a b h, fun h => h ▸ @ReflBEq.rfl α ⟨f⟩ h1.toReflBEq a⟩
  have e2 : g a b = true ↔ a = b := ⟨fun h => @LawfulBEq.eq_of_beq α ⟨g⟩ h2 a b h, fun h => h ▸ @ReflBEq.rfl α ⟨g⟩ h2.toReflBEq a⟩
  exact Bool.eq_iff_iff.mpr (e1.trans e2.symm)
theorem idx_one {α : Type} (i1 i2 : BEq α) (h1 : @LawfulBEq α i1) (h2 : @LawfulBEq α i2) (a : α) (l : List α) : @List.idxOf α i1 a l = @List.idxOf α i2 a l := by
  rw [beq_one i1 i2 h1 h2]
theorem idx_map {α β : Type} [BEq α] [LawfulBEq α] [BEq β] [LawfulBEq β] (f : α → β) (y : α) : ∀ l : List α, (∀ z ∈ l, f z = f y → z = y) → (l.map f).idxOf (f y) = l.idxOf y
  | [], _ => rfl
  | a :: r, h => by
    rw [List.map_cons, List.idxOf_cons, List.idxOf_cons, idx_map f y r fun z hz => h z (.tail _ hz)]
    by_cases q : a = y
    · subst q; simp
    · have : ¬ f a = f y := fun e => q (h a (.head _) e)
      rw [beq_false_of_ne q, beq_false_of_ne this]
theorem idx_nat (a : List Nat) (l : List (List Nat)) : @List.idxOf _ List.instBEq a l = @List.idxOf _ instBEqOfDecidableEq a l := idx_one _ _ inferInstance inferInstance a l
noncomputable def isSet (c : Nat) (X : List Nat) : Prop := ∃ P, X = fs c P
theorem rs_set {T : List (List (List Nat))} {c a : Nat} {X : List Nat} : isSet c (rsF T c a X) := ⟨_, rfl⟩
theorem code_inj' {c : Nat} (hc : c ≤ 8) {X Y fin : List Nat} (hf : isSet c fin) (hX : isSet c X) (hY : isSet c Y) (h : codeF fin X = codeF fin Y) : X = Y := by
  obtain ⟨Q, rfl⟩ := hf
  obtain ⟨P, rfl⟩ := hX
  obtain ⟨P', rfl⟩ := hY
  exact code_inj hc h
theorem rLet_g {T : List (List (List Nat))} {c a k : Nat} {fin x : List Nat} {S W : List (List Nat)} {row : List Nat} (hT : TabOk T c) (hc : c ≤ 8) (ha : a < T.length) (hf : isSet c fin) (hS : ∀ z ∈ S, isSet c z) (hk : S[k]? = some x) :
    rLet (turnF T) (rtF fin) k (S.map (codeF fin), W, row) a = ((addW (S, W) k a (rsF T c a x)).1.map (codeF fin), (addW (S, W) k a (rsF T c a x)).2, row ++ [(addW (S, W) k a (rsF T c a x)).1.idxOf (rsF T c a x)]) := by
  have hst : rStep (turnF T) (rtF fin) ((S.map (codeF fin)).getD k 0) a = codeF fin (rsF T c a x) := by
    have : (S.map (codeF fin)).getD k 0 = codeF fin x := by rw [List.getD_eq_getElem?_getD, List.getElem?_map, hk]; rfl
    rw [this]
    obtain ⟨Q, rfl⟩ := hf
    obtain ⟨P, rfl⟩ := hS x (mem_of_get hk)
    exact step_eq hT hc ha P Q
  have hinj : ∀ z ∈ S, codeF fin z = codeF fin (rsF T c a x) → z = rsF T c a x := fun z hz h => code_inj' hc hf (hS z hz) rs_set h
  unfold rLet addW
  simp only [hst]
  by_cases hin : rsF T c a x ∈ S
  · rw [if_pos (List.mem_map_of_mem hin), if_pos hin]
    simp only
    rw [idx_map (codeF fin) _ S hinj]
  · have hno : ¬ codeF fin (rsF T c a x) ∈ S.map (codeF fin) := fun h => by
      obtain ⟨z, hz, e⟩ := List.mem_map.mp h
      exact hin (hinj z hz e ▸ hz)
    rw [if_neg hno, if_neg hin]
    simp only
    have : S.map (codeF fin) ++ [codeF fin (rsF T c a x)] = (S ++ [rsF T c a x]).map (codeF fin) := by simp
    rw [this, idx_map (codeF fin) _ _ fun z hz h => by
      rcases List.mem_append.mp hz with hz | hz
      · exact hinj z hz h
      · exact List.mem_singleton.mp hz]
/-- the search over modes is the search over sets -/
theorem rGo_g {T : List (List (List Nat))} {c : Nat} {fin x0 : List Nat} (hT : TabOk T c) (hc : c ≤ 8) (hT2 : T.length = 2) (hf : isSet c fin) (h0 : isSet c x0) : ∀ i, rGo (turnF T) (rtF fin) (codeF fin x0) i = ((gGo (rsF T c) x0 i).1.map (codeF fin), (gGo (rsF T c) x0 i).2.1, (gGo (rsF T c) x0 i).2.2)
  | 0 => rfl
  | i + 1 => by
    rw [rGo_succ, rGo_g hT hc hT2 hf h0 i]
    have hall := gGo_all (δ := rsF T c) (P := isSet c) h0 (fun a x _ => rs_set) i
    have ok := gGo_ok (rsF T c) x0 i
    show _ = ((gOne (rsF T c) (gGo (rsF T c) x0 i) i).1.map (codeF fin), (gOne (rsF T c) (gGo (rsF T c) x0 i) i).2.1, (gOne (rsF T c) (gGo (rsF T c) x0 i) i).2.2)
    generalize gGo (rsF T c) x0 i = q at *
    obtain ⟨S, W, M⟩ := q
    unfold rOne
    simp only [List.length_map]
    cases e : S[i]? with
    | none =>
      rw [if_neg (by have := List.getElem?_eq_none_iff.mp e; omega)]
      unfold gOne; simp only [e]
    | some x =>
      have hi := lt_of_get e
      rw [if_pos hi]
      have e1 : rLets (turnF T) (rtF fin) i (S.map (codeF fin)) W 2 = rLet (turnF T) (rtF fin) i (rLet (turnF T) (rtF fin) i (S.map (codeF fin), W, []) 0) 1 := by rw [rLets_succ, rLets_succ]; rfl
      rw [e1, rLet_g hT hc (by omega) hf hall e]
      obtain ⟨w1, m1, t1, p1⟩ := addW_ok (δ := rsF T c) (a := 0) (q := (S, W)) e ok.toWOk
      have e2 : (addW (S, W) i 0 (rsF T c 0 x)).1[i]? = some x := by rw [p1, List.getElem?_append_left hi]; exact e
      have hall1 : ∀ z ∈ (addW (S, W) i 0 (rsF T c 0 x)).1, isSet c z := fun z hz => by
        rw [addW_fst, addL_mem] at hz
        rcases hz with hz | rfl
        · exact hall z hz
        · exact rs_set
      obtain ⟨w2, m2, t2, p2⟩ := addW_ok (δ := rsF T c) (a := 1) e2 w1
      rw [rLet_g (W := (addW (S, W) i 0 (rsF T c 0 x)).2) hT hc (by omega) hf hall1 e2]
      unfold gOne
      simp only [e]
      have e3 : (gTwo (rsF T c) (S, W) i x).1.idxOf (rsF T c 0 x) = (addW (S, W) i 0 (rsF T c 0 x)).1.idxOf (rsF T c 0 x) := by
        unfold gTwo
        rw [p2, List.idxOf_append, if_pos m1]
      simp only [idx_nat] at e3 ⊢
      rw [e3]
      rfl
theorem exGo_g (T : List (List (List Nat))) (first : List Nat) : ∀ i, exGo T first i = ((gGo (fun a x => stepF T x a) first i).1, (gGo (fun a x => stepF T x a) first i).2.2)
  | 0 => rfl
  | i + 1 => by
    rw [exGo_succ, exGo_g T first i]
    show _ = ((gOne (fun a x => stepF T x a) (gGo (fun a x => stepF T x a) first i) i).1, (gOne (fun a x => stepF T x a) (gGo (fun a x => stepF T x a) first i) i).2.2)
    generalize gGo (fun a x => stepF T x a) first i = q
    obtain ⟨S, W, M⟩ := q
    unfold exStep
    simp only
    cases e : S[i]? with
    | none =>
      rw [if_neg (by have := List.getElem?_eq_none_iff.mp e; omega)]
      unfold gOne; simp only [e]
    | some x =>
      have hi := lt_of_get e
      rw [if_pos hi]
      have hx : S.getD i [] = x := by rw [List.getD_eq_getElem?_getD, e]; rfl
      have hins : ∀ (S : List (List Nat)) y, insF S y = addL S y := fun S y => by unfold insF addL; split <;> simp [*]
      have e1 : insAll S (aheadF T S i) = (gTwo (fun a x => stepF T x a) (S, W) i x).1 := by
        unfold gTwo insAll aheadF
        rw [addW_fst, addW_fst, hx]
        simp only [List.foldl_cons, List.foldl_nil, hins]
      unfold gOne
      simp only [e]
      rw [e1]
      refine Prod.ext rfl ?_
      show M ++ [_] = M ++ [_]
      unfold aheadF
      rw [hx]
      simp only [List.map_cons, List.map_nil]
      simp only [idx_nat]
end Mine
end
section
set_option Elab.async false
set_option linter.unusedVariables false
namespace Mine
section
variable {T : List (List (List Nat))} {c : Nat} {first last : List Nat}
theorem set_lt {X : List Nat} (h : isSet c X) : ∀ p ∈ X, p < c := by
  obtain ⟨P, rfl⟩ := h
  exact fun p hp => (mem_fs.mp hp).1
theorem set_fs {X : List Nat} (h : isSet c X) : X = fs c fun q => decide (q ∈ X) := by
  obtain ⟨P, rfl⟩ := h
  refine fs_congr fun x hx => ?_
  rw [Bool.eq_iff_iff, decide_eq_true_eq, mem_fs]
  exact ⟨fun h => ⟨hx, h⟩, fun h => h.2⟩
theorem fs_eq {P Q : Nat → Bool} (h : ∀ x, x < c → (P x = true ↔ Q x = true)) : fs c P = fs c Q := fs_congr fun x hx => Bool.eq_iff_iff.mpr (h x hx)
theorem set_subs (hc : c ≤ 3) {X : List Nat} (h : isSet c X) : X ∈ subsF c := by
  obtain ⟨P, rfl⟩ := h
  exact filter_subs hc P
theorem mem_step (hT : TabOk T c) {S : List Nat} {a q : Nat} : q ∈ stepF T S a ↔ q < c ∧ ∃ p ∈ S, q ∈ (T.getD a []).getD p [] := by
  unfold stepF
  rw [hT.head, List.mem_filter, List.mem_range, Bool.not_eq_true', decide_eq_false_iff_not, List.filter_eq_nil_iff]
  simp
theorem mem_rs {S : List Nat} {a p : Nat} : p ∈ rsF T c a S ↔ p < c ∧ ∃ q ∈ S, q ∈ (T.getD a []).getD p [] := by
  unfold rsF
  rw [mem_fs, List.any_eq_true]
  simp
/-- a letter on, or back -/
theorem step_meet (hT : TabOk T c) {S X : List Nat} (hS : ∀ p ∈ S, p < c) (hX : ∀ q ∈ X, q < c) (a : Nat) : meetF (stepF T S a) X = meetF S (rsF T c a X) := by
  rw [Bool.eq_iff_iff, meet_iff, meet_iff]
  constructor
  · rintro ⟨q, h1, h2⟩
    obtain ⟨_, p, hp, h3⟩ := (mem_step hT).mp h1
    exact ⟨p, hp, mem_rs.mpr ⟨hS p hp, q, h2, h3⟩⟩
  · rintro ⟨p, h1, h2⟩
    obtain ⟨_, q, hq, h3⟩ := mem_rs.mp h2
    exact ⟨q, (mem_step hT).mpr ⟨hX q hq, p, h1, h3⟩, hq⟩
theorem step_lt (hT : TabOk T c) {S : List Nat} {a : Nat} : ∀ q ∈ stepF T S a, q < c := fun q h => ((mem_step hT).mp h).1
theorem run_lt' (hT : TabOk T c) : ∀ (w : List Nat) {S : List Nat}, (∀ p ∈ S, p < c) → ∀ p ∈ runF T S w, p < c
  | [], S, h => h
  | a :: r, S, h => run_lt' hT r (step_lt hT)
theorem runF_app (S : List Nat) (u v : List Nat) : runF T S (u ++ v) = runF T (runF T S u) v := List.foldl_append ..
/-- a word on, or back -/
theorem run_meet (hT : TabOk T c) : ∀ (w : List Nat) {S X : List Nat}, (∀ p ∈ S, p < c) → isSet c X → meetF S (runG (rsF T c) X w) = meetF (runF T S w.reverse) X
  | [], S, X, hS, hX => rfl
  | a :: r, S, X, hS, hX => by
    show meetF S (runG (rsF T c) (rsF T c a X) r) = _
    rw [run_meet hT r hS rs_set, List.reverse_cons, runF_app]
    exact (step_meet hT (run_lt' hT _ hS) (set_lt hX) a).symm
theorem runG_set {X : List Nat} : ∀ (w : List Nat) {X : List Nat}, isSet c X → isSet c (runG (rsF T c) X w)
  | [], X, h => h
  | a :: r, X, h => runG_set (X := X) r rs_set
theorem run_fs (hT : TabOk T c) (w : List Nat) (hl : isSet c last) : runG (rsF T c) last w = fs c fun q => meetF (runF T [q] w.reverse) last := by
  rw [set_fs (runG_set (X := last) w hl)]
  refine fs_eq fun q hq => ?_
  rw [decide_eq_true_eq, ← run_meet hT w (S := [q]) (by simpa using hq) hl, meet_iff]
  simp
theorem g_small (hc : c ≤ 3) {δ : Nat → List Nat → List Nat} {x0 : List Nat} (h0 : isSet c x0) (hs : ∀ a x, isSet c x → isSet c (δ a x)) (i : Nat) : (gGo δ x0 i).1.length ≤ 8 := by
  have := nodup_len (gGo_ok δ x0 i).nodup fun x hx => set_subs hc (gGo_all (P := isSet c) h0 hs i x hx)
  rwa [subs_len] at this
theorem step_set (hT : TabOk T c) {S : List Nat} {a : Nat} : isSet c (stepF T S a) := ⟨_, by unfold stepF; rw [hT.head]; rfl⟩
theorem runG_hom {α β : Type} {δ : Nat → α → α} {δ' : Nat → β → β} {φ : α → β} {P : α → Prop} (hs : ∀ a x, P x → P (δ a x)) (hφ : ∀ a x, a < 2 → P x → φ (δ a x) = δ' a (φ x)) : ∀ (w : List Nat) {x : α}, (∀ a ∈ w, a < 2) → P x → φ (runG δ x w) = runG δ' (φ x) w
  | [], x, _, _ => rfl
  | a :: r, x, hw, hx => by
    show φ (runG δ (δ a x) r) = runG δ' (δ' a (φ x)) r
    rw [runG_hom hs hφ r (fun b hb => hw b (.tail _ hb)) (hs a x hx), hφ a x (hw a (.head _)) hx]
theorem get_getD {l : List (List Nat)} {j : Nat} (h : j < l.length) : l[j]? = some (l.getD j []) := by
  rw [getD_lt h, List.getElem?_eq_getElem h]
theorem idx_get {α : Type} [BEq α] [LawfulBEq α] {l : List α} {x : α} (h : x ∈ l) : l[l.idxOf x]? = some x := by
  have := List.idxOf_lt_length_iff.mpr h
  rw [List.getElem?_eq_getElem this, List.getElem_idxOf this]
theorem idx_le {α : Type} [BEq α] [LawfulBEq α] : ∀ (l : List α) (j : Nat) {x : α}, l[j]? = some x → l.idxOf x ≤ j
  | [], j, x, h => by simp at h
  | a :: r, 0, x, h => by
    have : a = x := by simpa using h
    subst this; simp
  | a :: r, j + 1, x, h => by
    have := idx_le r j (x := x) (by simpa using h)
    rw [List.idxOf_cons]
    cases a == x
    · simp; omega
    · simp
/-- the steps of the rows are the steps of the search -/
theorem hop_run {δ : Nat → List Nat → List Nat} {x0 : List Nat} {n : Nat} {q : gT (List Nat)} (ok : GOk δ x0 n q) (hn : q.1.length ≤ n) : ∀ (w : List Nat) {i : Nat} {x : List Nat}, (∀ a ∈ w, a < 2) → q.1[i]? = some x → q.1[w.foldl (hop q.2.2) i]? = some (runG δ x w)
  | [], i, x, _, hx => hx
  | a :: r, i, x, hw, hx => by
    have hi := lt_of_get hx
    obtain ⟨e, m0, m1⟩ := ok.move i x (by rw [ok.mlen]; omega) hx
    refine hop_run ok hn r (i := hop q.2.2 i a) (x := δ a x) (fun b hb => hw b (.tail _ hb)) ?_
    unfold hop
    rw [e]
    rcases (by have := hw a (.head _); omega : a = 0 ∨ a = 1) with rfl | rfl
    · exact @idx_get _ instBEqOfDecidableEq inferInstance _ _ m0
    · exact @idx_get _ instBEqOfDecidableEq inferInstance _ _ m1
end
end Mine
end
section
set_option Elab.async false
set_option linter.unusedVariables false
namespace Mine
/-- which of the sets are met -/
noncomputable def phiF (X : List (List Nat)) (S : List Nat) : List Nat := fs X.length fun k => meetF S (X.getD k [])
structure Ctx (T : List (List (List Nat))) (c : Nat) (first last : List Nat) (g1 g0 g2 : gT (List Nat)) : Prop where
  hT : TabOk T c
  hc : c ≤ 3
  hT2 : T.length = 2
  hf : isSet c first
  hl : isSet c last
  e1 : gGo (rsF T c) last 8 = g1
  e0 : gGo (fun a x => stepF T x a) first 8 = g0
  e2 : gGo (rsF (freshF g1.2.2) g1.1.length) (phiF g1.1 first) 8 = g2
section
variable {T : List (List (List Nat))} {c : Nat} {first last : List Nat} {g1 g0 g2 : gT (List Nat)}
theorem Ctx.ok1 (x : Ctx T c first last g1 g0 g2) : GOk (rsF T c) last 8 g1 := x.e1 ▸ gGo_ok _ _ _
theorem Ctx.ok0 (x : Ctx T c first last g1 g0 g2) : GOk (fun a x => stepF T x a) first 8 g0 := x.e0 ▸ gGo_ok _ _ _
theorem Ctx.ok2 (x : Ctx T c first last g1 g0 g2) : GOk (rsF (freshF g1.2.2) g1.1.length) (phiF g1.1 first) 8 g2 := x.e2 ▸ gGo_ok _ _ _
theorem Ctx.n1 (x : Ctx T c first last g1 g0 g2) : g1.1.length ≤ 8 := x.e1 ▸ g_small x.hc x.hl (fun _ _ _ => rs_set) 8
theorem Ctx.n0 (x : Ctx T c first last g1 g0 g2) : g0.1.length ≤ 8 := x.e0 ▸ g_small x.hc x.hf (fun _ _ _ => step_set x.hT) 8
theorem Ctx.set1 (x : Ctx T c first last g1 g0 g2) : ∀ X ∈ g1.1, isSet c X := x.e1 ▸ gGo_all (P := isSet c) x.hl (fun _ _ _ => rs_set) 8
theorem Ctx.lt0 (x : Ctx T c first last g1 g0 g2) : ∀ S ∈ g0.1, ∀ p ∈ S, p < c := x.e0 ▸ gGo_all (P := fun S => ∀ p ∈ S, p < c) (set_lt x.hf) (fun _ _ _ => step_lt x.hT) 8
theorem Ctx.pos1 (x : Ctx T c first last g1 g0 g2) : 0 < g1.1.length := lt_of_get x.ok1.z
theorem Ctx.zero (x : Ctx T c first last g1 g0 g2) : g1.1.getD 0 [] = last := by
  have := x.ok1.z
  rw [List.getD_eq_getElem?_getD, this]; rfl
theorem Ctx.mv (x : Ctx T c first last g1 g0 g2) : g1.2.2.length = g1.1.length := by have := x.ok1.mlen; have := x.n1; omega
theorem Ctx.okf (x : Ctx T c first last g1 g0 g2) : TabOk (freshF g1.2.2) g1.1.length := x.mv ▸ fresh_ok (by have := x.n1; have := x.mv; omega)
theorem mem_phi {X : List (List Nat)} {S : List Nat} {k : Nat} : k ∈ phiF X S ↔ k < X.length ∧ meetF S (X.getD k []) = true := mem_fs
theorem fresh_at {mv : List (List Nat)} {a k : Nat} (ha : a < 2) (hk : k < mv.length) : ((freshF mv).getD a []).getD k [] = [(mv.getD k []).getD a 0] := by
  have h1 : (freshF mv).getD a [] = mv.map fun r => [r.getD a 0] := by
    rw [getD_lt (by simp [freshF]; exact ha)]
    simp [freshF]
  rw [h1, getD_lt (by simpa using hk), List.getElem_map, getD_lt hk]
theorem Ctx.hom (x : Ctx T c first last g1 g0 g2) : ∀ a S, a < 2 → (∀ p ∈ S, p < c) → phiF g1.1 (stepF T S a) = rsF (freshF g1.2.2) g1.1.length a (phiF g1.1 S) := fun a S ha hS => by
  have hmv := x.mv
  have hn := x.n1
  unfold rsF
  refine fs_eq fun k hk => ?_
  have hX := x.set1 _ (mem_of_get (get_getD hk))
  rw [step_meet x.hT hS (set_lt hX), List.any_eq_true]
  obtain ⟨e, m0, m1⟩ := x.ok1.move k _ (by omega) (get_getD hk)
  rw [fresh_at ha (by omega), e]
  simp only [List.mem_singleton, decide_eq_true_eq]
  have key : ∀ y, y ∈ g1.1 → (meetF S y = true ↔ ∃ j, j ∈ phiF g1.1 S ∧ j = @List.idxOf _ instBEqOfDecidableEq y g1.1) := fun y hy => by
    have hg := @idx_get _ instBEqOfDecidableEq inferInstance _ _ hy
    have hl := lt_of_get hg
    have hd : g1.1.getD (@List.idxOf _ instBEqOfDecidableEq y g1.1) [] = y := by rw [List.getD_eq_getElem?_getD, hg]; rfl
    constructor
    · intro h
      exact ⟨_, mem_phi.mpr ⟨hl, by rw [hd]; exact h⟩, rfl⟩
    · rintro ⟨j, hj, rfl⟩
      have := (mem_phi.mp hj).2
      rwa [hd] at this
  rcases (by omega : a = 0 ∨ a = 1) with rfl | rfl
  · exact key _ m0
  · exact key _ m1
theorem Ctx.all2 (x : Ctx T c first last g1 g0 g2) : g2.1 = ddF (g0.1.map (phiF g1.1)) := by
  have h := hom_all (δ := fun a x => stepF T x a) (δ' := rsF (freshF g1.2.2) g1.1.length) (x0 := first) (φ := phiF g1.1) (P := fun S => ∀ p ∈ S, p < c) (n := 8) (set_lt x.hf) (fun _ _ _ => step_lt x.hT) x.hom (by rw [x.e0]; exact x.n0)
  rw [x.e0, x.e2] at h
  exact h
theorem Ctx.n2 (x : Ctx T c first last g1 g0 g2) : g2.1.length ≤ 8 := by
  rw [x.all2]
  have := dd_len (g0.1.map (phiF g1.1)) []
  rw [List.length_map] at this
  have h3 := x.n0
  unfold ddF; simp only [List.length_nil] at this; omega
/-- a set found again, by its word -/
theorem Ctx.at2 (x : Ctx T c first last g1 g0 g2) {j : Nat} (hj : j < g2.1.length) (hw : ∀ a ∈ g2.2.1.getD j [], a < 2) : g2.1.getD j [] = phiF g1.1 (runF T first (g2.2.1.getD j [])) := by
  have h := x.ok2.word j hj
  rw [← runG_hom (δ := fun a x => stepF T x a) (P := fun S => ∀ p ∈ S, p < c) (fun _ _ _ => step_lt x.hT) x.hom _ hw (set_lt x.hf)] at h
  rw [List.getD_eq_getElem?_getD, h]; rfl
theorem Ctx.phi0 (x : Ctx T c first last g1 g0 g2) (S : List Nat) : meetF (phiF g1.1 S) [0] = meetF S last := by
  rw [Bool.eq_iff_iff, meet_iff]
  constructor
  · rintro ⟨k, h1, h2⟩
    have : k = 0 := by simpa using h2
    subst this
    have := (mem_phi.mp h1).2
    rwa [x.zero] at this
  · intro h
    exact ⟨0, mem_phi.mpr ⟨x.pos1, by rw [x.zero]; exact h⟩, by simp⟩
theorem Ctx.zset (x : Ctx T c first last g1 g0 g2) : isSet g1.1.length [0] := ⟨fun k => k == 0, by
  obtain ⟨d, hd⟩ : ∃ d, g1.1.length = d + 1 := ⟨g1.1.length - 1, by have := x.pos1; omega⟩
  rw [hd]
  unfold fs
  rw [List.range_succ_eq_map, List.filter_cons]
  simp only [beq_self_eq_true, if_true]
  have : ((List.range d).map Nat.succ).filter (fun k => k == 0) = [] := by
    rw [List.filter_eq_nil_iff]
    intro y hy
    obtain ⟨z, _, rfl⟩ := List.mem_map.mp hy
    simp
  rw [this]⟩
theorem isDir_code {n : Nat} (hn : n ≤ 8) {fin X : List Nat} (hf : isSet n fin) (hX : isSet n X) : isDir (codeF fin X) = meetF X fin := by
  obtain ⟨Q, rfl⟩ := hf
  obtain ⟨P, rfl⟩ := hX
  exact code_dir hn P Q
theorem shown_code {n : Nat} (hn : n ≤ 8) {fin X : List Nat} (hf : isSet n fin) (hX : isSet n X) : fmF (codeF fin X) = listF (meetF X fin) (rtF X) := by
  obtain ⟨Q, rfl⟩ := hf
  obtain ⟨P, rfl⟩ := hX
  exact code_shown hn P Q
theorem phi_set {X : List (List Nat)} {S : List Nat} : isSet X.length (phiF X S) := ⟨_, rfl⟩
theorem Ctx.set2 (x : Ctx T c first last g1 g0 g2) : ∀ Y ∈ g2.1, isSet g1.1.length Y := x.e2 ▸ gGo_all (P := isSet g1.1.length) phi_set (fun _ _ _ => rs_set) 8
/-- the second asking: where the words lead -/
theorem Ctx.ends (x : Ctx T c first last g1 g0 g2) (hw2 : ∀ w ∈ g2.2.1, ∀ a ∈ w, a < 2) {i : Nat} (hi : i < g2.1.length) {word : List Nat} (hw : ∀ a ∈ word, a < 2) :
    isDir ((g2.1.map (codeF [0])).getD (word.foldl (hop g2.2.2) i) 0) = meetF (runF T (runF T first (g2.2.1.getD i [])) word) last := by
  have hwi : ∀ a ∈ g2.2.1.getD i [], a < 2 := hw2 _ (mem_of_get (get_getD (by have := x.ok2.wlen; exact this ▸ hi)))
  have h := hop_run x.ok2 x.n2 word hw (get_getD hi)
  rw [x.at2 hi hwi, ← runG_hom (δ := fun a x => stepF T x a) (P := fun S => ∀ p ∈ S, p < c) (fun _ _ _ => step_lt x.hT) x.hom word hw (run_lt' x.hT _ (set_lt x.hf))] at h
  rw [List.getD_eq_getElem?_getD, List.getElem?_map, h]
  show isDir (codeF [0] (phiF g1.1 (runF T (runF T first (g2.2.1.getD i [])) word))) = _
  rw [isDir_code x.n1 x.zset phi_set, x.phi0]
theorem Ctx.fronts (x : Ctx T c first last g1 g0 g2) : frontsF T c last g1.2.1 = g1.1 := by
  unfold frontsF
  refine List.ext_getElem (by rw [List.length_map]; exact x.ok1.wlen) fun k h1 h2 => ?_
  have h := x.ok1.word k h2
  rw [run_fs x.hT _ x.hl] at h
  rw [List.getElem_map]
  have hk : k < g1.2.1.length := by simpa using h1
  rw [← getD_lt (d := []) hk]
  have h3 : g1.1[k]? = some g1.1[k] := List.getElem?_eq_getElem h2
  exact Option.some.inj (h.symm.trans h3)
/-- the third asking: what is shown -/
theorem Ctx.shown (x : Ctx T c first last g1 g0 g2) (hw2 : ∀ w ∈ g2.2.1, ∀ a ∈ w, a < 2) : (g1.1.map (codeF first) ++ g2.1.map (codeF [0])).map fmF = dueN T first last (frontsF T c last g1.2.1) g2.2.1 g2.1.length := by
  rw [x.fronts, dueN, List.map_append, List.map_map, List.map_map]
  congr 1
  · exact List.map_congr_left fun X hX => shown_code (by have := x.hc; omega) x.hf (x.set1 X hX)
  · refine List.ext_getElem (by simp) fun k h1 h2 => ?_
    have hk : k < g2.1.length := by simpa using h1
    have hwk : ∀ a ∈ g2.2.1.getD k [], a < 2 := hw2 _ (mem_of_get (get_getD (by have := x.ok2.wlen; exact this ▸ hk)))
    simp only [List.getElem_map, List.getElem_range, Function.comp]
    have h3 := x.at2 hk hwk
    rw [getD_lt hk] at h3
    rw [h3, shown_code x.n1 x.zset phi_set, x.phi0]
    rfl
end
end Mine
end
section
set_option Elab.async false
set_option linter.unusedVariables false
namespace Mine
theorem rev_ind {β : Type} {P : List β → Prop} (h0 : P []) (h1 : ∀ l x, P l → P (l ++ [x])) (l : List β) : P l := by
  have h : ∀ m : List β, P m.reverse := fun m => by
    induction m with
    | nil => exact h0
    | cons a r ih => rw [List.reverse_cons]; exact h1 _ _ ih
  have := h l.reverse
  rwa [List.reverse_reverse] at this
/-- each once: the places of the first ones -/
theorem dd_first {β : Type} [DecidableEq β] [Inhabited β] (l : List β) : ddF l = ((List.range l.length).filter fun k => l.idxOf (l.getD k default) == k).map fun k => l.getD k default := by
  refine rev_ind (P := fun l => ddF l = ((List.range l.length).filter fun k => l.idxOf (l.getD k default) == k).map fun k => l.getD k default) rfl (fun l x ih => ?_) l
  · rw [dd_app, List.length_append, List.length_singleton, List.range_succ, List.filter_append, List.map_append]
    have e1 : ((List.range l.length).filter fun k => (l ++ [x]).idxOf ((l ++ [x]).getD k default) == k) = (List.range l.length).filter fun k => l.idxOf (l.getD k default) == k := List.filter_congr fun k hk => by
      have hk := List.mem_range.mp hk
      rw [getD_app_lt hk, List.idxOf_append, if_pos (by rw [getD_lt hk]; exact List.getElem_mem _)]
    have e2 : (((List.range l.length).filter fun k => l.idxOf (l.getD k default) == k).map fun k => (l ++ [x]).getD k default) = ((List.range l.length).filter fun k => l.idxOf (l.getD k default) == k).map fun k => l.getD k default := List.map_congr_left fun k hk => getD_app_lt (List.mem_range.mp (List.mem_filter.mp hk).1)
    rw [e1, e2, ← ih]
    have e3 : (l ++ [x]).getD l.length default = x := getD_app_eq
    unfold addL
    by_cases h : x ∈ l
    · rw [if_pos (dd_mem.mpr h)]
      have : ((l ++ [x]).idxOf x == l.length) = false := by
        rw [List.idxOf_append, if_pos h]
        have := List.idxOf_lt_length_iff.mpr h
        exact beq_false_of_ne (by omega)
      rw [List.filter_cons, e3, this]
      simp
    · rw [if_neg (fun q => h (dd_mem.mp q))]
      have : ((l ++ [x]).idxOf x == l.length) = true := by
        rw [List.idxOf_append, if_neg h]
        simp
      rw [List.filter_cons, e3, this]
      simp only [if_true, List.filter_nil, List.map_cons, List.map_nil, e3]
/-- two lists alike in what is alike -/
theorem idx_alike {α β : Type} [BEq α] [LawfulBEq α] [BEq β] [LawfulBEq β] {r : List α} {f : List β} (hl : r.length = f.length) (h : ∀ i j (hi : i < r.length) (hj : j < r.length), r[i] = r[j] ↔ f[i]'(hl ▸ hi) = f[j]'(hl ▸ hj)) {i : Nat} (hi : i < r.length) : r.idxOf r[i] = f.idxOf (f[i]'(hl ▸ hi)) := by
  have h1 := idx_get (List.getElem_mem hi)
  have h2 := idx_get (List.getElem_mem (hl ▸ hi : i < f.length))
  have l1 := lt_of_get h1
  have l2 := lt_of_get h2
  refine Nat.le_antisymm ?_ ?_
  · have l2' : f.idxOf (f[i]'(hl ▸ hi)) < r.length := by omega
    refine idx_le r _ ?_
    rw [List.getElem?_eq_getElem l2', (h _ _ l2' hi).mpr ?_]
    rw [List.getElem?_eq_getElem l2] at h2
    exact Option.some.inj h2
  · refine idx_le f _ ?_
    rw [List.getElem?_eq_getElem (by omega), ← (h _ _ l1 hi).mp ?_]
    rw [List.getElem?_eq_getElem l1] at h1
    exact Option.some.inj h1
section
variable {T : List (List (List Nat))} {c : Nat} {first last : List Nat} {g1 g0 g2 : gT (List Nat)}
/-- no word of at most t letters tells them apart -/
noncomputable def alike (T : List (List (List Nat))) (last : List Nat) (t : Nat) (S S' : List Nat) : Prop := ∀ w : List Nat, (∀ a ∈ w, a < 2) → w.length ≤ t → meetF (runF T S w) last = meetF (runF T S' w) last
theorem alike_succ {t : Nat} {S S' : List Nat} : alike T last (t + 1) S S' ↔ alike T last t S S' ∧ alike T last t (stepF T S 0) (stepF T S' 0) ∧ alike T last t (stepF T S 1) (stepF T S' 1) := by
  constructor
  · intro h
    exact ⟨fun w hw hl => h w hw (by omega), fun w hw hl => h (0 :: w) (by simpa using hw) (by simp; omega), fun w hw hl => h (1 :: w) (by simpa using hw) (by simp; omega)⟩
  · rintro ⟨h, h0, h1⟩ w hw hl
    cases w with
    | nil => exact h [] (by simp) (by simp)
    | cons a r =>
      have hr : ∀ b ∈ r, b < 2 := fun b hb => hw b (.tail _ hb)
      have hrl : r.length ≤ t := by simpa using hl
      rcases (by have := hw a (.head _); omega : a = 0 ∨ a = 1) with rfl | rfl
      · exact h0 r hr hrl
      · exact h1 r hr hrl
theorem alike_zero {S S' : List Nat} : alike T last 0 S S' ↔ meetF S last = meetF S' last := by
  constructor
  · intro h; exact h [] (by simp) (by simp)
  · intro h w hw hl
    have : w = [] := List.eq_nil_of_length_eq_zero (by omega)
    subst this; exact h
theorem rows_at {n : Nat} {M : List (List Nat)} {m : List Nat} {i : Nat} (h : i < n) : (rowsF n M m)[i]'(by rw [rows_len]; exact h) = [m.getD i 0, m.getD ((M.getD i []).getD 0 0) 0, m.getD ((M.getD i []).getD 1 0) 0] := by
  simp [rowsF]
/-- where a row of moves leads -/
theorem Ctx.move0 (x : Ctx T c first last g1 g0 g2) {i : Nat} (hi : i < g0.1.length) : ∀ a, a < 2 → (g0.2.2.getD i []).getD a 0 < g0.1.length ∧ g0.1.getD ((g0.2.2.getD i []).getD a 0) [] = stepF T (g0.1.getD i []) a := fun a ha => by
  have hn := x.n0
  obtain ⟨e, m0, m1⟩ := x.ok0.move i _ (by rw [x.ok0.mlen]; omega) (get_getD hi)
  rw [e]
  have key : ∀ y, y ∈ g0.1 → @List.idxOf _ instBEqOfDecidableEq y g0.1 < g0.1.length ∧ g0.1.getD (@List.idxOf _ instBEqOfDecidableEq y g0.1) [] = y := fun y hy => by
    have hg := @idx_get _ instBEqOfDecidableEq inferInstance _ _ hy
    exact ⟨lt_of_get hg, by rw [List.getD_eq_getElem?_getD, hg]; rfl⟩
  rcases (by omega : a = 0 ∨ a = 1) with rfl | rfl
  · exact key _ m0
  · exact key _ m1
theorem Ctx.marks (x : Ctx T c first last g1 g0 g2) : ∀ t i j, i < g0.1.length → j < g0.1.length → ((mooreGo g0.1.length g0.2.2 (marks0 g0.1 last) t).getD i 0 = (mooreGo g0.1.length g0.2.2 (marks0 g0.1 last) t).getD j 0 ↔ alike T last t (g0.1.getD i []) (g0.1.getD j []))
  | 0, i, j, hi, hj => by
    rw [alike_zero]
    show (marks0 g0.1 last).getD i 0 = (marks0 g0.1 last).getD j 0 ↔ _
    rw [getD_lt (by simpa [marks0] using hi), getD_lt (by simpa [marks0] using hj)]
    simp only [marks0, List.getElem_map]
    rw [getD_lt hi, getD_lt hj]
    cases meetF g0.1[i] last <;> cases meetF g0.1[j] last <;> simp
  | t + 1, i, j, hi, hj => by
    have ih := x.marks t
    rw [alike_succ]
    show (moore g0.1.length g0.2.2 (mooreGo g0.1.length g0.2.2 (marks0 g0.1 last) t)).getD i 0 = (moore g0.1.length g0.2.2 (mooreGo g0.1.length g0.2.2 (marks0 g0.1 last) t)).getD j 0 ↔ _
    rw [moore_eq hi hj, rows_at hi, rows_at hj]
    generalize mooreGo g0.1.length g0.2.2 (marks0 g0.1 last) t = mk at *
    obtain ⟨i0, j0⟩ := x.move0 hi 0 (by decide)
    obtain ⟨i1, j1⟩ := x.move0 hi 1 (by decide)
    obtain ⟨i0', j0'⟩ := x.move0 hj 0 (by decide)
    obtain ⟨i1', j1'⟩ := x.move0 hj 1 (by decide)
    rw [← j0, ← j1, ← j0', ← j1', ← ih i j hi hj, ← ih _ _ i0 i0', ← ih _ _ i1 i1']
    simp
/-- what the sets tell is what the words tell -/
theorem Ctx.phi_alike (x : Ctx T c first last g1 g0 g2) {t : Nat} (ht : 7 ≤ t) (hw1 : ∀ w ∈ g1.2.1, ∀ a ∈ w, a < 2) {S S' : List Nat} (hS : ∀ p ∈ S, p < c) (hS' : ∀ p ∈ S', p < c) : alike T last t S S' ↔ phiF g1.1 S = phiF g1.1 S' := by
  have hn := x.n1
  constructor
  · intro h
    refine fs_congr fun k hk => ?_
    have hw := x.ok1.word k hk
    rw [get_getD hk] at hw
    have hw := Option.some.inj hw
    have hkw : k < g1.2.1.length := by have := x.ok1.wlen; exact this ▸ hk
    have hl := x.ok1.wl k
    have hl : (g1.2.1.getD k []).length ≤ k := hl
    rw [hw, run_meet x.hT _ hS x.hl, run_meet x.hT _ hS' x.hl]
    exact h _ (fun a ha => hw1 _ (mem_of_get (get_getD hkw)) a (List.mem_reverse.mp ha)) (by rw [List.length_reverse]; omega)
  · intro h w hw _
    have h1 := run_meet x.hT w.reverse hS x.hl
    have h2 := run_meet x.hT w.reverse hS' x.hl
    rw [List.reverse_reverse] at h1 h2
    rw [← h1, ← h2]
    have hin : runG (rsF T c) last w.reverse ∈ g1.1 := by
      have := gGo_run (δ := rsF T c) (x0 := last) (i := 8) (by rw [x.e1]; exact hn) w.reverse (x := last) (fun a ha => hw a (List.mem_reverse.mp ha)) (by rw [x.e1]; exact mem_of_get x.ok1.z)
      rwa [x.e1] at this
    obtain ⟨k, hk, e⟩ := List.getElem_of_mem hin
    have e : g1.1.getD k [] = runG (rsF T c) last w.reverse := by rw [getD_lt hk]; exact e
    rw [← e, Bool.eq_iff_iff]
    have q : k ∈ phiF g1.1 S ↔ k ∈ phiF g1.1 S' := by rw [h]
    rw [mem_phi, mem_phi] at q
    exact ⟨fun z => (q.mp ⟨hk, z⟩).2, fun z => (q.mpr ⟨hk, z⟩).2⟩
end
end Mine
end
section
set_option Elab.async false
set_option linter.unusedVariables false
namespace Mine
section
variable {T : List (List (List Nat))} {c : Nat} {first last : List Nat} {g1 g0 g2 : gT (List Nat)}
/-- Moore's marks at the end -/
structure Mk (g0 : gT (List Nat)) (φ : List Nat → List Nat) (mk : List Nat) : Prop where
  lt : ∀ i, i < g0.1.length → mk.getD i 0 < g0.1.length
  idem : ∀ i, i < g0.1.length → mk.getD (mk.getD i 0) 0 = mk.getD i 0
  kind : ∀ i, i < g0.1.length → mk.getD i 0 ∈ kindsF g0.1.length mk
  same : ∀ i j, i < g0.1.length → j < g0.1.length → (mk.getD i 0 = mk.getD j 0 ↔ φ (g0.1.getD i []) = φ (g0.1.getD j []))
  idx : ∀ i, i < g0.1.length → mk.getD i 0 = (g0.1.map φ).idxOf (φ (g0.1.getD i []))
theorem Ctx.mks (x : Ctx T c first last g1 g0 g2) (hw1 : ∀ w ∈ g1.2.1, ∀ a ∈ w, a < 2) : Mk g0 (phiF g1.1) (mooreGo g0.1.length g0.2.2 (marks0 g0.1 last) 8) := by
  have hs : ∀ i j, i < g0.1.length → j < g0.1.length → ((mooreGo g0.1.length g0.2.2 (marks0 g0.1 last) 8).getD i 0 = (mooreGo g0.1.length g0.2.2 (marks0 g0.1 last) 8).getD j 0 ↔ phiF g1.1 (g0.1.getD i []) = phiF g1.1 (g0.1.getD j [])) := fun i j hi hj => by
    rw [x.marks 8 i j hi hj]
    exact x.phi_alike (by decide) hw1 (x.lt0 _ (mem_of_get (get_getD hi))) (x.lt0 _ (mem_of_get (get_getD hj)))
  have e : mooreGo g0.1.length g0.2.2 (marks0 g0.1 last) 8 = moore g0.1.length g0.2.2 (mooreGo g0.1.length g0.2.2 (marks0 g0.1 last) 7) := rfl
  rw [e] at hs ⊢
  generalize mooreGo g0.1.length g0.2.2 (marks0 g0.1 last) 7 = m7 at *
  refine ⟨fun i hi => moore_lt hi, fun i hi => moore_idem hi, fun i hi => kinds_mem hi, hs, fun i hi => ?_⟩
  rw [moore_at hi]
  have hl : (rowsF g0.1.length g0.2.2 m7).length = (g0.1.map (phiF g1.1)).length := by rw [rows_len, List.length_map]
  rw [idx_alike hl (fun i j hi hj => ?_) (by rw [rows_len]; exact hi)]
  · rw [List.getElem_map, getD_lt hi]
  · rw [rows_len] at hi hj
    rw [List.getElem_map, List.getElem_map, ← getD_lt (d := []) hi, ← getD_lt (d := []) hj, ← hs i j hi hj]
    exact (moore_eq hi hj).symm
theorem Mk.dd {φ : List Nat → List Nat} {mk : List Nat} (m : Mk g0 φ mk) : ddF (g0.1.map φ) = (kindsF g0.1.length mk).map fun k => φ (g0.1.getD k []) := by
  have hg : ∀ k, k < g0.1.length → (g0.1.map φ).getD k default = φ (g0.1.getD k []) := fun k hk => by
    rw [getD_lt (by simpa using hk), List.getElem_map, getD_lt hk]
  rw [dd_first]
  have e1 : ((List.range (g0.1.map φ).length).filter fun k => @List.idxOf _ instBEqOfDecidableEq ((g0.1.map φ).getD k default) (g0.1.map φ) == k) = kindsF g0.1.length mk := by
    unfold kindsF
    rw [List.length_map]
    refine List.filter_congr fun k hk => ?_
    have hk := List.mem_range.mp hk
    rw [hg k hk, m.idx k hk, idx_nat]
  rw [e1]
  refine List.map_congr_left fun k hk => hg k ?_
  unfold kindsF at hk
  exact List.mem_range.mp (List.mem_filter.mp hk).1
/-- the first asking: the rows -/
theorem Ctx.rows (x : Ctx T c first last g1 g0 g2) (hw1 : ∀ w ∈ g1.2.1, ∀ a ∈ w, a < 2) : rows2 (g2.1.map (codeF [0])) g2.2.2 = leastF T first last := by
  have m := x.mks hw1
  have hex : exGo T first 8 = (g0.1, g0.2.2) := by rw [exGo_g, x.e0]
  unfold leastF
  rw [hex]
  simp only
  generalize mooreGo g0.1.length g0.2.2 (marks0 g0.1 last) 8 = mk at *
  have hg2 : g2.1 = (kindsF g0.1.length mk).map fun k => phiF g1.1 (g0.1.getD k []) := by rw [x.all2]; exact m.dd
  have hkl : ∀ k ∈ kindsF g0.1.length mk, k < g0.1.length ∧ mk.getD k 0 = k := fun k hk => by
    unfold kindsF at hk
    have h := List.mem_filter.mp hk
    exact ⟨List.mem_range.mp h.1, by simpa using h.2⟩
  have hlen : g2.2.2.length = (kindsF g0.1.length mk).length := by
    have h1 := x.ok2.mlen
    have h2 := x.n2
    have h3 : g2.1.length = (kindsF g0.1.length mk).length := by rw [hg2, List.length_map]
    omega
  -- where a kind is found
  have hidx : ∀ i, i < g0.1.length → @List.idxOf _ instBEqOfDecidableEq (phiF g1.1 (g0.1.getD i [])) g2.1 = (kindsF g0.1.length mk).idxOf (mk.getD i 0) := fun i hi => by
    have e : phiF g1.1 (g0.1.getD i []) = (fun k => phiF g1.1 (g0.1.getD k [])) (mk.getD i 0) := (m.same i _ hi (m.lt i hi)).mp (m.idem i hi).symm
    rw [e, hg2, @idx_map _ _ _ _ instBEqOfDecidableEq inferInstance (fun k => phiF g1.1 (g0.1.getD k [])) (mk.getD i 0) _ fun z hz h => ?_]
    obtain ⟨hz1, hz2⟩ := hkl z hz
    have := (m.same z _ hz1 (m.lt i hi)).mpr h
    rw [hz2, m.idem i hi] at this
    exact this
  unfold rows2 leastRows
  refine List.ext_getElem (by rw [List.length_map, List.length_map, List.length_range]; exact hlen) fun j h1 h2 => ?_
  have hj : j < (kindsF g0.1.length mk).length := by simpa using h2
  simp only [List.getElem_map, List.getElem_range]
  have hk := hkl _ (List.getElem_mem hj)
  have hY : g2.1[j]? = some (phiF g1.1 (g0.1.getD (kindsF g0.1.length mk)[j] [])) := by
    rw [hg2, List.getElem?_map, List.getElem?_eq_getElem hj]; rfl
  generalize (kindsF g0.1.length mk)[j] = k at *
  obtain ⟨e, _, _⟩ := x.ok2.move j _ (by omega) hY
  have hS := x.lt0 _ (mem_of_get (get_getD hk.1))
  have hstep : ∀ a, a < 2 → @List.idxOf _ instBEqOfDecidableEq (rsF (freshF g1.2.2) g1.1.length a (phiF g1.1 (g0.1.getD k []))) g2.1 = (kindsF g0.1.length mk).idxOf (mk.getD ((g0.2.2.getD k []).getD a 0) 0) := fun a ha => by
    obtain ⟨q1, q2⟩ := x.move0 hk.1 a ha
    rw [← x.hom a _ ha hS, ← q2]
    exact hidx _ q1
  rw [e]
  refine Prod.ext (hstep 0 (by decide)) (Prod.ext (hstep 1 (by decide)) ?_)
  show isDir ((g2.1.map (codeF [0])).getD j 0) = _
  rw [List.getD_eq_getElem?_getD, List.getElem?_map, hY]
  show isDir (codeF [0] (phiF g1.1 (g0.1.getD k []))) = _
  rw [isDir_code x.n1 x.zset phi_set, x.phi0]
end
end Mine
end
section
set_option Elab.async false
set_option linter.unusedVariables false
namespace Mine
theorem reach_g {T : List (List (List Nat))} {c : Nat} {start fin : List Nat} {g : gT (List Nat)} (hT : TabOk T c) (hc : c ≤ 8) (hT2 : T.length = 2) (hf : isSet c fin) (h0 : isSet c start) (e : gGo (rsF T c) start 8 = g) : reachF (turnF T) start fin = (g.1.map (codeF fin), g.2.1, g.2.2) := by
  have h := rGo_g hT hc hT2 hf h0 8
  rw [e] at h
  exact h
theorem dirs_g {T : List (List (List Nat))} {c : Nat} {first last : List Nat} {g1 g0 g2 : gT (List Nat)} (x : Ctx T c first last g1 g0 g2) : dirsF (g1.1.map (codeF first)) = phiF g1.1 first := by
  unfold dirsF phiF
  rw [List.length_map]
  refine fs_congr fun k hk => ?_
  have e : (g1.1.map (codeF first)).getD k 0 = codeF first (g1.1.getD k []) := by
    rw [getD_lt (by simpa using hk), List.getElem_map, getD_lt hk]
  rw [e, isDir_code (by have := x.hc; omega) x.hf (x.set1 _ (mem_of_get (get_getD hk))), meet_comm]
theorem law_ok {m : Nat} {o : List Nat} (hm : m = 2 ∨ m = 3) (hol : o.length = 8) : ∃ q1 q2, LawOk m o q1 q2 := by
  have hT := own_ok hm hol
  have hm3 : m ≤ 3 := by omega
  have hT2 : (ownF m o).length = 2 := rfl
  have hf : isSet m (firstF m o) := ⟨_, rfl⟩
  have hl : isSet m (lastF m o) := ⟨_, rfl⟩
  obtain ⟨g1, hg1⟩ : ∃ g, gGo (rsF (ownF m o) m) (lastF m o) 8 = g := ⟨_, rfl⟩
  obtain ⟨g0, hg0⟩ : ∃ g, gGo (fun a x => stepF (ownF m o) x a) (firstF m o) 8 = g := ⟨_, rfl⟩
  obtain ⟨g2, hg2⟩ : ∃ g, gGo (rsF (freshF g1.2.2) g1.1.length) (phiF g1.1 (firstF m o)) 8 = g := ⟨_, rfl⟩
  have x : Ctx (ownF m o) m (firstF m o) (lastF m o) g1 g0 g2 := ⟨hT, hm3, hT2, hf, hl, hg1, hg0, hg2⟩
  have e1 := reach_g hT (by omega) hT2 hf hl hg1
  have e2 := reach_g x.okf x.n1 rfl x.zset phi_set hg2
  have hw1 : ∀ w ∈ g1.2.1, ∀ a ∈ w, a < 2 := by
    have := (reachF_fin (turnF (ownF m o)) (lastF m o) (firstF m o)).letters
    rwa [e1] at this
  have hw2 : ∀ w ∈ g2.2.1, ∀ a ∈ w, a < 2 := by
    have := (reachF_fin (turnF (freshF g1.2.2)) (phiF g1.1 (firstF m o)) [0]).letters
    rwa [e2] at this
  refine ⟨(g1.1.map (codeF (firstF m o)), g1.2.1, g1.2.2), (g2.1.map (codeF [0]), g2.2.1, g2.2.2), ⟨e1, ?_, ?_, x.rows hw1, fun i hi word hw => ?_, ?_⟩⟩
  · show reachF (turnF (freshF g1.2.2)) (dirsF (g1.1.map (codeF (firstF m o)))) [0] = _
    rw [dirs_g x]; exact e2
  · rw [List.length_map]; exact x.n2
  · have hi : i < g2.1.length := by simpa using hi
    exact x.ends hw2 hi (hw1 word hw)
  · rw [List.length_map]; exact x.shown hw2
end Mine
end
section
open PySem PySem.W PyProof.Rows PySem.Calls
set_option Elab.async false
set_option linter.unusedVariables false
set_option maxRecDepth 100000
namespace Mine
theorem wellAll_ints {P : Params} {h : Heap} : ∀ (ns : List Int) {vs : List Value}, WellAll P h vs (ns.map .int) → RepAll [] h vs (ns.map .int)
  | [], vs, r => by cases r; exact .nil
  | n :: ns, vs, r => by
    cases r with
    | cons r1 r2 =>
      cases r1
      exact .cons (.int _ _) (wellAll_ints ns r2)
theorem well_ints {P : Params} {h : Heap} {ns : List Int} {v : Value} (r : Well P h v (.list (ns.map .int))) : Rep [] h v (.list (ns.map .int)) := by
  cases r with
  | list e r => exact .list (by simp) e ⟨rfl, rfl⟩ rfl (wellAll_ints ns r)
theorem post_good {w : World} {s₁ s' : Shared} {cw : ClaimW} {cl : Str → Option Addr} {mean : ExcName → Option Value} {args : List WData} (hr : ∀ cls, cw.raises args cls = false) (hpost : cw.post args (.bool true) args = true)
    (KX : (hd0.heap_1 w.params).In s₁.heap) (h122 : s₁.heap.get? 122 = some (tabObj #[])) (h149 : s₁.heap.get? 149 = some (tabObj #[])) (h100 : s₁.heap.get? 100 = some (tabObj #[])) (hg : s₁.gens = #[])
    (kb : Kb (fun b => b = 122 ∨ b = 100 ∨ b = 149) s₁ s') (e122 : ∃ ps, s'.heap.get? 122 = some (tabObj ps)) (e149 : ∃ ps, s'.heap.get? 149 = some (tabObj ps)) (e100 : ∃ ps, s'.heap.get? 100 = some (tabObj ps)) : GoodWG cw cl mean args s₁ (.ok (.ret (.bool true))) s' := by
  obtain ⟨⟨h', tk, rfl⟩, hk⟩ := kb
  have tab : ∀ c P, CodeHd s₁.heap c P → s₁.heap.get? P = some (tabObj #[]) → isCodeTable s₁.heap P := fun c P C e => (C.tab e).isCodeTable
  have t122 := tab 124 122 (codeHd_of_K KX rfl) h122
  have t149 := tab 151 149 (codeHd_of_K KX rfl) h149
  have t100 := tab 104 100 (codeHd_of_K KX rfl) h100
  have grown : ∀ b o, (b = 122 ∨ b = 100 ∨ b = 149) → s₁.heap.get? b = some o → isCodeTable s₁.heap b ∧ o = tabObj #[] ∧ ∃ ps, h'.get? b = some (tabObj ps) := fun b o hb e => by
    rcases hb with rfl | rfl | rfl
    · exact ⟨t122, Option.some.inj (e.symm.trans h122), e122⟩
    · exact ⟨t100, Option.some.inj (e.symm.trans h100), e100⟩
    · exact ⟨t149, Option.some.inj (e.symm.trans h149), e149⟩
  refine ⟨.inl ⟨_, .bool true, [], rfl, hr, .bool true, hpost, fun _ => ⟨List.nodup_nil, fun a ha => nomatch ha⟩⟩, ⟨fun b o e => ?_, fun b o e => ?_⟩, rfl, .of_eq hg⟩
  · by_cases hb : b = 122 ∨ b = 100 ∨ b = 149
    · obtain ⟨ht, rfl, ps, hP⟩ := grown b o hb e
      exact .inr (.inl ⟨ht, rfl, #[], ps, rfl, by rw [Array.empty_append]; exact hP⟩)
    · exact .inl (hk b o hb e)
  · by_cases hb : b = 122 ∨ b = 100 ∨ b = 149
    · obtain ⟨_, _, ps, hP⟩ := grown b o hb e
      exact ⟨_, hP⟩
    · exact ⟨o, hk b o hb e⟩
theorem room0 : Room 6 callerA := ⟨rfl, by decide, by decide⟩
end Mine
end
section
open PySem PySem.W PyProof.Rows PySem.Calls Mine
set_option maxRecDepth 100000
theorem PySem.Challenge.cw_oy0107_01_holds : PySem.Challenge.rw_oy0107_01.Holds := by
  refine hd0 ?_
  intro w s₀ s₁ mg mb G Y fa o pm cd doc dV kV ho hd hcd hD hmg hg args vals as hpre hlay hrd hwl hlo
  have KX := km_in_of Y
  have hT := km_tabs_of Y
  refine Ground.open G ?_
  intro T B D TE TW
  have gd : Gd w mg mb s₁.heap := ⟨T.g, T.b, T.builtins, T.nolimit, KX, T.bmain⟩
  clear ho hd hcd hD
  have hfa := gl_fn (x := Str.ofString "law") (a := 152) (fun _ => rfl) _ gd
  have hfa : fa = 152 := by
    have := hfa.symm.trans hmg
    cases this; rfl
  subst hfa
  clear hmg D TE TW B
  wrow_args hpre hlay hrd hwl hlo
  rename_i ns _ _ _ _ _ _ _ a vs _ _ _ hw _ _ _ hlen _
  have hw2 : Well w.params s₁.heap (.ref a) (.list (ns.map .int)) := ofPys_ints ns ▸ (show Well w.params s₁.heap (.ref a) (.list (ofPys (ns.map .int))) from hw)
  obtain ⟨q1, q2, ok⟩ := law_ok (many_or ns) (octs_len ns)
  refine call_law (k := 0) (by omega) ok gd room0 (well_ints hw2) (hT _ (by simp)) (hT _ (by simp)) (hT _ (by simp)) fun s' kb e1 e2 e3 => post_good (fun _ => rfl) ?post KX (hT _ (by simp)) (hT _ (by simp)) (hT _ (by simp)) hg kb e1 e2 e3
  case post =>
    first | kernel_rfl | with_unfolding_all rfl
end
