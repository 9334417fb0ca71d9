import PyProof.Rows.All
import Wide.All
import OpenK.AllK
import Wide.FinOn
import Flt.Mod
import PySem.Sre
import Lean
import PySem.Challenge.RW_tp0026_01

set_option Elab.async false
set_option genInjectivity false
set_option genSizeOf false
set_option compiler.extract_closed false
section
set_option Elab.async false
set_option maxRecDepth 100000
set_option autoImplicit false
set_option linter.unusedVariables false
namespace Mine
open PySem PySem.Calls PyProof.Rows

/-- plain data -/
inductive D where
  | none
  | bool (b : Bool)
  | int (i : Int)
  | flt (b : UInt64)
  | str (x : Str)
  | byt (b : Array UInt8)
  | tup (l : List D)
  | lst (l : List D)
  | ref (a : Nat)
  | fltT (b : UInt64) (t : Nat)
  | obj (T : String) (l : List D)
  deriving Inhabited

/-- a value bears a datum in a heap, by objects that do not stand in `mu` -/
inductive At (h : Heap) (mu : List Addr) : Value → D → Prop
  | none : At h mu .none .none
  | bool (b : Bool) : At h mu (.bool b) (.bool b)
  | int (i : Int) (t : Tok) : At h mu (.int i t) (.int i)
  | flt (b : UInt64) (t : Tok) : At h mu (.float b t) (.flt b)
  | str (x : Str) (t : Tok) : At h mu (.str x t) (.str x)
  | byt (b : Array UInt8) (t : Tok) : At h mu (.bytes b t) (.byt b)
  | tup {a : Addr} {vs : List Value} {ds : List D} (hm : a ∉ mu) (ht : h.IsTuple a vs.toArray) (hl : vs.length = ds.length)
      (hd : ∀ (i : Nat) v d, vs[i]? = some v → ds[i]? = some d → At h mu v d) : At h mu (.ref a) (.tup ds)
  | lst {a : Addr} {vs : List Value} {ds : List D} (hm : a ∉ mu) (ht : h.IsList a vs.toArray) (hl : vs.length = ds.length)
      (hd : ∀ (i : Nat) v d, vs[i]? = some v → ds[i]? = some d → At h mu v d) : At h mu (.ref a) (.lst ds)
  | ref (a : Addr) : At h mu (.ref a) (.ref a)
  | fltT (b : UInt64) (t : Tok) : At h mu (.float b t) (.fltT b t)
  | obj {a : Addr} {T : String} {o : Obj} {vs : List Value} {ds : List D} (hm : a ∉ mu) (ho : h.get? a = some o) (hc : o.cls = .type T) (hn : o.dict = Option.none) (hf : o.data = .fields vs.toArray)
      (hl : vs.length = ds.length) (hd : ∀ (i : Nat) v d, vs[i]? = some v → ds[i]? = some d → At h mu v d) : At h mu (.ref a) (.obj T ds)

/-- item by item -/
noncomputable def AtL (h : Heap) (mu : List Addr) (vs : List Value) (ds : List D) : Prop :=
  vs.length = ds.length ∧ ∀ (i : Nat) v d, vs[i]? = some v → ds[i]? = some d → At h mu v d

theorem IsTuple_at {h h' : Heap} {a : Addr} {vs : Array Value} (x : h.IsTuple a vs) (k : ∀ o, h.get? a = some o → h'.get? a = some o) : h'.IsTuple a vs :=
  let ⟨o, ho, r⟩ := x; ⟨o, k o ho, r⟩
theorem IsList_at {h h' : Heap} {a : Addr} {vs : Array Value} (x : h.IsList a vs) (k : ∀ o, h.get? a = some o → h'.get? a = some o) : h'.IsList a vs :=
  let ⟨o, ho, r⟩ := x; ⟨o, k o ho, r⟩

theorem At.mono {h h' : Heap} {mu mu' : List Addr} {v : Value} {d : D} (x : At h mu v d)
    (k : ∀ b o, b ∉ mu → h.get? b = some o → h'.get? b = some o) (km : ∀ b o, b ∉ mu → h.get? b = some o → b ∉ mu') : At h' mu' v d := by
  induction x with
  | none => exact .none
  | bool b => exact .bool b
  | int i t => exact .int i t
  | flt b t => exact .flt b t
  | str x t => exact .str x t
  | byt b t => exact .byt b t
  | tup hm ht hl _ ih =>
    have ⟨o, ho, _⟩ := ht
    exact .tup (km _ o hm ho) (IsTuple_at ht fun o => k _ o hm) hl ih
  | lst hm ht hl _ ih =>
    have ⟨o, ho, _⟩ := ht
    exact .lst (km _ o hm ho) (IsList_at ht fun o => k _ o hm) hl ih
  | ref a => exact .ref a
  | fltT b t => exact .fltT b t
  | obj hm ho hc hn hf hl _ ih => exact .obj (km _ _ hm ho) (k _ _ hm ho) hc hn hf hl ih
theorem At.keep {h h' : Heap} {mu : List Addr} {v : Value} {d : D} (x : At h mu v d) (k : ∀ b o, h.get? b = some o → h'.get? b = some o) : At h' mu v d :=
  x.mono (fun b o _ => k b o) (fun _ _ hb _ => hb)
theorem At.sub {h : Heap} {mu mu' : List Addr} {v : Value} {d : D} (x : At h mu v d) (km : ∀ b, b ∈ mu' → b ∈ mu) : At h mu' v d :=
  x.mono (fun _ _ _ e => e) (fun b _ hb _ => fun hb' => hb (km b hb'))
theorem AtL.mono {h h' : Heap} {mu mu' : List Addr} {vs : List Value} {ds : List D} (x : AtL h mu vs ds)
    (k : ∀ b o, b ∉ mu → h.get? b = some o → h'.get? b = some o) (km : ∀ b o, b ∉ mu → h.get? b = some o → b ∉ mu') : AtL h' mu' vs ds :=
  ⟨x.1, fun i v d hv hd => (x.2 i v d hv hd).mono k km⟩
theorem AtL.keep {h h' : Heap} {mu : List Addr} {vs : List Value} {ds : List D} (x : AtL h mu vs ds) (k : ∀ b o, h.get? b = some o → h'.get? b = some o) : AtL h' mu vs ds :=
  ⟨x.1, fun i v d hv hd => (x.2 i v d hv hd).keep k⟩
theorem AtL.nil {h : Heap} {mu : List Addr} : AtL h mu [] [] := ⟨rfl, fun i v d hv => by simp at hv⟩
theorem AtL.cons {h : Heap} {mu : List Addr} {v : Value} {d : D} {vs : List Value} {ds : List D} (x : At h mu v d) (y : AtL h mu vs ds) : AtL h mu (v :: vs) (d :: ds) :=
  ⟨by simp [y.1], fun i w e hw he => by
    cases i with
    | zero => simp at hw he; subst hw; subst he; exact x
    | succ i => simp at hw he; exact y.2 i w e hw he⟩
theorem AtL.inv {h : Heap} {mu : List Addr} {vs : List Value} {d : D} {ds : List D} (x : AtL h mu vs (d :: ds)) : ∃ v vs', vs = v :: vs' ∧ At h mu v d ∧ AtL h mu vs' ds := by
  obtain ⟨hl, hx⟩ := x
  cases vs with
  | nil => simp at hl
  | cons v vs' =>
    exact ⟨v, vs', rfl, hx 0 v d rfl rfl, by simpa using hl, fun i w e hw he => hx (i + 1) w e (by simpa using hw) (by simpa using he)⟩
theorem AtL.inv_nil {h : Heap} {mu : List Addr} {vs : List Value} (x : AtL h mu vs []) : vs = [] := by simpa using x.1
theorem AtL.snoc {h : Heap} {mu : List Addr} {v : Value} {d : D} {vs : List Value} {ds : List D} (y : AtL h mu vs ds) (x : At h mu v d) : AtL h mu (vs ++ [v]) (ds ++ [d]) := by
  refine ⟨by simp [y.1], fun i w e hw he => ?_⟩
  rcases Nat.lt_trichotomy i vs.length with h1 | h1 | h1
  · rw [List.getElem?_append_left h1] at hw
    rw [List.getElem?_append_left (y.1 ▸ h1)] at he
    exact y.2 i w e hw he
  · subst h1
    rw [List.getElem?_append_right (Nat.le_refl _)] at hw
    rw [List.getElem?_append_right (Nat.le_of_eq y.1.symm), y.1] at he
    simp at hw he
    subst hw; subst he; exact x
  · have : (vs ++ [v])[i]? = Option.none := List.getElem?_eq_none (by rw [List.length_append, List.length_singleton]; lia)
    rw [this] at hw; cases hw

/-- what the whole call leans on: the heap ahead of it -/
structure Cx where
  prog : Program
  w : World
  root : Heap
  mg : Str → Option Value
  mb : Str → Option Value
  g : root.Ns mainGlobals mg
  b : root.Ns builtinsNs mb
  blt : ∀ x : Str, x ≠ "__name__" → mb x = bootBuiltins x
  lim : root.NoLimit

/-- a frame: who runs, in which environment, over which heap of elders -/
structure Fx where
  c : Cx
  A : Around
  env : Env
  B : Heap

/-- where a name of the frame stands -/
noncomputable def look (env : Env) (m cm : Str → Option Value) (x : Str) : Option Value :=
  match env.kindOf x with
  | some .local => m x
  | some .cell | some .free => if (env.cells.lookup x).isSome then cm x else Option.none
  | _ => Option.none

noncomputable abbrev Vars := List (Str × D)
noncomputable abbrev Owned := List (Str × Addr × List D)

/-- no name twice among the cells -/
noncomputable def OneEach (env : Env) : Prop := ∀ x a, (x, a) ∈ env.cells → env.cells.lookup x = some a
/-- what the frame may write to -/
noncomputable def wrt (F : Fx) (own : Owned) : List Addr :=
  F.env.locals :: ((F.env.cells.filter fun p => (F.B.get? p.2).isNone).map (·.2) ++ own.map (·.2.1))

structure FxOk (F : Fx) (mu : List Addr) (own : Owned) : Prop where
  hh : F.A.handled = Option.none
  un : F.A.units + 100 < cLine
  kind : F.env.scope.kind = .function
  gl : F.env.globals = mainGlobals
  bl : F.env.builtins = builtinsNs
  root : ∀ b o, F.c.root.get? b = some o → F.B.get? b = some o
  lm : F.env.locals ∈ mu
  ln : F.B.get? F.env.locals = Option.none
  cell : ∀ x a, F.env.cells.lookup x = some a → a ≠ F.env.locals ∧ a ∈ mu
  one : OneEach F.env
  apart : ∀ x y a, F.env.cells.lookup x = some a → F.env.cells.lookup y = some a → x = y
  od : ∀ p ∈ own, p.2.1 ∈ mu ∧ F.B.get? p.2.1 = Option.none ∧ p.2.1 ≠ F.env.locals ∧ ∀ x a, F.env.cells.lookup x = some a → a ≠ p.2.1
  oap : own.Pairwise fun p q => p.2.1 ≠ q.2.1
  onm : own.Pairwise fun p q => p.1 ≠ q.1

theorem wrt_sub {F : Fx} {own : Owned} {b : Addr} (hb : b ∈ wrt F []) : b ∈ wrt F own := by
  unfold wrt at hb ⊢
  rcases List.mem_cons.mp hb with rfl | hb
  · exact List.mem_cons_self
  · refine List.mem_cons_of_mem _ ?_
    rcases List.mem_append.mp hb with hb | hb
    · exact List.mem_append_left _ hb
    · cases hb
theorem wrt_none {F : Fx} {mu : List Addr} {own : Owned} (ok : FxOk F mu own) {b : Addr} (hb : b ∈ wrt F own) : F.B.get? b = Option.none ∧ b ∈ mu := by
  unfold wrt at hb
  rcases List.mem_cons.mp hb with rfl | hb
  · exact ⟨ok.ln, ok.lm⟩
  · rcases List.mem_append.mp hb with hb | hb
    · obtain ⟨p, hp, rfl⟩ := List.mem_map.mp hb
      obtain ⟨hp, hk⟩ := List.mem_filter.mp hp
      have := ok.cell p.1 p.2 (ok.one _ _ hp)
      exact ⟨by simpa using hk, this.2⟩
    · obtain ⟨p, hp, rfl⟩ := List.mem_map.mp hb
      exact ⟨(ok.od p hp).2.1, (ok.od p hp).1⟩

/-- what is written to stands -/
noncomputable def Live (mu : List Addr) (h : Heap) : Prop := ∀ b ∈ mu, ∃ o, h.get? b = some o
theorem Live.keeps {mu : List Addr} {h h' : Heap} (x : Live mu h) (k : ∀ b o, h.get? b = some o → h'.get? b = some o) : Live mu h' :=
  fun b hb => let ⟨o, e⟩ := x b hb; ⟨o, k b o e⟩
theorem Live.fresh {mu : List Addr} {h : Heap} (x : Live mu h) : h.objs.size ∉ mu := fun hm => by
  obtain ⟨o, e⟩ := x _ hm
  exact absurd (Heap.lt_size e) (Nat.lt_irrefl _)

/-- the frame's state -/
structure Sta (F : Fx) (mu : List Addr) (ρ : Vars) (own : Owned) (h : Heap) : Prop where
  ok : FxOk F mu own
  live : Live mu h
  keep : ∀ b o, F.B.get? b = some o → h.get? b = some o
  ex : ∃ m cm, h.Ns F.env.locals m ∧ (∀ x a, F.env.cells.lookup x = some a → h.IsCell a (cm x)) ∧
    (∀ x d, ρ.lookup x = some d → ∃ v, look F.env m cm x = some v ∧ At h mu v d) ∧
    ∀ p ∈ own, look F.env m cm p.1 = some (.ref p.2.1) ∧ ∃ vs : List Value, h.PlainList p.2.1 vs.toArray ∧ AtL h mu vs p.2.2

theorem Sta.keeps {F : Fx} {mu : List Addr} {ρ : Vars} {own : Owned} {h h' : Heap} (x : Sta F mu ρ own h) (k : ∀ b o, h.get? b = some o → h'.get? b = some o) : Sta F mu ρ own h' := by
  obtain ⟨m, cm, h1, h2, h3, h4⟩ := x.ex
  exact ⟨x.ok, x.live.keeps k, fun b o e => k b o (x.keep b o e), m, cm, h1.keeps k, fun n a e => (h2 n a e).keeps k,
    fun y d e => let ⟨v, e1, e2⟩ := h3 y d e; ⟨v, e1, e2.keep k⟩, fun p hp => let ⟨e1, vs, e2, e3⟩ := h4 p hp; ⟨e1, vs, e2.at fun o => k _ o, e3.keep k⟩⟩
theorem Sta.rootK {F : Fx} {mu : List Addr} {ρ : Vars} {own : Owned} {h : Heap} (x : Sta F mu ρ own h) : ∀ b o, F.c.root.get? b = some o → h.get? b = some o :=
  fun b o e => x.keep b o (x.ok.root b o e)
/-- names may be forgotten -/
theorem Sta.less {F : Fx} {mu : List Addr} {ρ ρ' : Vars} {own : Owned} {h : Heap} (x : Sta F mu ρ own h) (k : ∀ y d, ρ'.lookup y = some d → ρ.lookup y = some d) : Sta F mu ρ' own h := by
  obtain ⟨m, cm, h1, h2, h3, h4⟩ := x.ex
  exact ⟨x.ok, x.live, x.keep, m, cm, h1, h2, fun y d e => h3 y d (k y d e), h4⟩

noncomputable abbrev Fx.W {α : Type} (F : Fx) (t : Sem α) (Q : α → Shared → Prop) (E : Value → Shared → Prop) (s : Shared) : Prop := wpAny (model F.c.prog F.c.w) F.A t Q E s

theorem krefl (s : Shared) : Keeps s s := ⟨s.heap, s.toks, rfl, fun _ _ e => e⟩
theorem ktrans {s s' s'' : Shared} (x : Keeps s s') (y : Keeps s' s'') : Keeps s s'' := by
  obtain ⟨h, t, rfl, k⟩ := x
  obtain ⟨h', t', rfl, k'⟩ := y
  exact ⟨h', t', rfl, fun b o e => k' b o (k b o e)⟩
theorem khp {s s' : Shared} (x : Keeps s s') : ∀ b o, s.heap.get? b = some o → s'.heap.get? b = some o := by
  obtain ⟨h, t, rfl, k⟩ := x; exact k
theorem ktoks (s : Shared) (t : Nat) : Keeps s { s with toks := t } := ⟨s.heap, t, rfl, fun _ _ e => e⟩

/-- an expression's worth: the heap only grows -/
noncomputable def PE (F : Fx) (mu : List Addr) (ρ : Vars) (own : Owned) (e : Expr) (d : D) : Prop :=
  ∀ (s : Shared) (Q : Value → Shared → Prop) (E : Value → Shared → Prop), Sta F mu ρ own s.heap →
    (∀ v s', Keeps s s' → At s'.heap mu v d → Q v s') → F.W (eval e F.env) Q E s

/-- a test's worth -/
noncomputable def PT (F : Fx) (mu : List Addr) (ρ : Vars) (own : Owned) (e : Expr) (b : Bool) : Prop :=
  ∀ (s : Shared) (Q : Bool → Shared → Prop) (E : Value → Shared → Prop), Sta F mu ρ own s.heap →
    (∀ s', Keeps s s' → Q b s') → F.W (isTrue e F.env (eval e F.env)) Q E s

section
variable {F : Fx} {mu : List Addr} {ρ : Vars} {own : Owned}

theorem pe_int {i : Int} {k : Nat} {pos : Pos} : PE F mu ρ own (.Constant (.int i) k pos) (.int i) := fun s Q E _ h =>
  wpAny_Constant_int (h _ _ (ktoks s _) (.int _ _))
theorem pe_bool {b : Bool} {k : Nat} {pos : Pos} : PE F mu ρ own (.Constant (.bool b) k pos) (.bool b) := fun s Q E _ h => by
  show F.W (eval _ _) Q E s
  rw [eval_Constant]
  exact wpAny_pure (h _ _ (krefl s) (.bool _))
theorem pe_none {k : Nat} {pos : Pos} : PE F mu ρ own (.Constant .none k pos) .none := fun s Q E _ h => by
  show F.W (eval _ _) Q E s
  rw [eval_Constant]
  exact wpAny_pure (h _ _ (krefl s) .none)
theorem pe_str {x : Str} {k : Nat} {pos : Pos} : PE F mu ρ own (.Constant (.str x) k pos) (.str x) := fun s Q E _ h =>
  Constant_str (h _ _ (ktoks s _) (.str _ _))
theorem pe_byt {x : List UInt8} {k : Nat} {pos : Pos} : PE F mu ρ own (.Constant (.bytes x) k pos) (.byt x.toArray) := fun s Q E _ h =>
  fun _ _ _ => h _ _ (ktoks s _) (.byt _ _)
theorem pe_flt {x : UInt64} {k : Nat} {pos : Pos} : PE F mu ρ own (.Constant (.float x) k pos) (.flt x) := fun s Q E _ h =>
  fun _ _ _ => h _ _ (ktoks s _) (.flt _ _)

theorem look_some {env : Env} {m cm : Str → Option Value} {x : Str} {v : Value} (e : look env m cm x = some v) :
    (env.kindOf x = some .local ∧ m x = some v) ∨ ((env.kindOf x = some .cell ∨ env.kindOf x = some .free) ∧ ∃ a, env.cells.lookup x = some a ∧ cm x = some v) := by
  unfold look at e
  split at e
  · rename_i hk; exact .inl ⟨hk, e⟩
  · rename_i hk
    split at e
    · rename_i hs
      obtain ⟨a, ha⟩ := Option.isSome_iff_exists.mp hs
      exact .inr ⟨.inl hk, a, ha, e⟩
    · cases e
  · rename_i hk
    split at e
    · rename_i hs
      obtain ⟨a, ha⟩ := Option.isSome_iff_exists.mp hs
      exact .inr ⟨.inr hk, a, ha, e⟩
    · cases e
  · cases e

theorem load_look {m cm : Str → Option Value} {x : Str} {v : Value} {s : Shared} {Q : Value → Shared → Prop} {E : Value → Shared → Prop} (hk : F.env.scope.kind = .function)
    (hn : s.heap.Ns F.env.locals m) (hc : ∀ y a, F.env.cells.lookup y = some a → s.heap.IsCell a (cm y)) (e : look F.env m cm x = some v)
    (hx : (x == ("__classdict__" : Str)) = false) (h : Q v s) : F.W (loadName F.env x) Q E s := by
  rcases look_some e with ⟨k1, e1⟩ | ⟨k1 | k1, a, e1, e2⟩
  · exact wpAny_loadName_local hk k1 hn e1 h
  · exact wpAny_loadName_cell hk k1 e1 (e2 ▸ hc x a e1) h
  · exact wpAny_loadName_free hk k1 e1 (e2 ▸ hc x a e1) h hx

/-- a name of the frame -/
theorem pe_var {x : Str} {d : D} {pos : Pos} (e : ρ.lookup x = some d) (hd : (x == ("__debug__" : Str)) = false := by decide) (hx : (x == ("__classdict__" : Str)) = false := by decide) :
    PE F mu ρ own (.Name x pos) d := fun s Q E st h => by
  obtain ⟨m, cm, h1, h2, h3, _⟩ := st.ex
  obtain ⟨v, e1, e2⟩ := h3 x d e
  exact wpAny_Name (load_look st.ok.kind h1 h2 e1 hx (h v s (krefl s) e2)) hd

/-- two at once -/
theorem pe_two {α : Type} {l r : Expr} {a b : D} (x : PE F mu ρ own l a) (y : PE F mu ρ own r b) {s : Shared} {E : Value → Shared → Prop} (st : Sta F mu ρ own s.heap)
    {t : Value → Value → Sem α} {Q : α → Shared → Prop}
    (h : ∀ v w s', Keeps s s' → At s'.heap mu v a → At s'.heap mu w b → Sta F mu ρ own s'.heap → F.W (t v w) Q E s') :
    F.W (eval l F.env) (fun v s₁ => F.W (eval r F.env) (fun w s₂ => F.W (t v w) Q E s₂) E s₁) E s :=
  x s _ _ st fun v s₁ k₁ a₁ => y s₁ _ _ (st.keeps (khp k₁)) fun w s₂ k₂ a₂ => h v w s₂ (ktrans k₁ k₂) (a₁.keep (khp k₂)) a₂ (st.keeps (khp (ktrans k₁ k₂)))

theorem At.int_inv {h : Heap} {v : Value} {i : Int} (x : At h mu v (.int i)) : ∃ t, v = .int i t := by cases x; exact ⟨_, rfl⟩
theorem At.flt_inv {h : Heap} {v : Value} {i : UInt64} (x : At h mu v (.flt i)) : ∃ t, v = .float i t := by cases x; exact ⟨_, rfl⟩
theorem At.str_inv {h : Heap} {v : Value} {i : Str} (x : At h mu v (.str i)) : ∃ t, v = .str i t := by cases x; exact ⟨_, rfl⟩
theorem At.byt_inv {h : Heap} {v : Value} {i : Array UInt8} (x : At h mu v (.byt i)) : ∃ t, v = .bytes i t := by cases x; exact ⟨_, rfl⟩
theorem At.bool_inv {h : Heap} {v : Value} {i : Bool} (x : At h mu v (.bool i)) : v = .bool i := by cases x; rfl
theorem At.none_inv {h : Heap} {v : Value} (x : At h mu v .none) : v = .none := by cases x; rfl
theorem At.tup_inv {h : Heap} {v : Value} {ds : List D} (x : At h mu v (.tup ds)) : ∃ a vs, v = .ref a ∧ a ∉ mu ∧ h.IsTuple a (List.toArray vs) ∧ AtL h mu vs ds := by
  cases x with
  | tup hm ht hl hd => exact ⟨_, _, rfl, hm, ht, hl, hd⟩
theorem At.lst_inv {h : Heap} {v : Value} {ds : List D} (x : At h mu v (.lst ds)) : ∃ a vs, v = .ref a ∧ a ∉ mu ∧ h.IsList a (List.toArray vs) ∧ AtL h mu vs ds := by
  cases x with
  | lst hm ht hl hd => exact ⟨_, _, rfl, hm, ht, hl, hd⟩
theorem At.fltT_inv {h : Heap} {v : Value} {b : UInt64} {t : Nat} (x : At h mu v (.fltT b t)) : v = .float b t := by cases x; rfl
theorem At.ref_inv {h : Heap} {v : Value} {a : Nat} (x : At h mu v (.ref a)) : v = .ref a := by cases x; rfl
theorem At.obj_inv {h : Heap} {v : Value} {T : String} {ds : List D} (x : At h mu v (.obj T ds)) :
    ∃ a o vs, v = .ref a ∧ a ∉ mu ∧ h.get? a = some o ∧ o.cls = .type T ∧ o.dict = Option.none ∧ o.data = .fields (List.toArray vs) ∧ AtL h mu vs ds := by
  cases x with
  | obj hm ho hc hn hf hl hd => exact ⟨_, _, _, rfl, hm, ho, hc, hn, hf, hl, hd⟩
end
end Mine
end

section
set_option Elab.async false
set_option maxRecDepth 100000
set_option autoImplicit false
set_option linter.unusedVariables false
namespace Mine
open PySem PySem.Calls PyProof.Rows PySem.W

section
variable {F : Fx} {mu : List Addr} {ρ : Vars} {own : Owned}

/-- an operator's worth -/
noncomputable def Op2 (F : Fx) (mu : List Addr) (op : Operator) (a b d : D) : Prop :=
  ∀ (s : Shared) (v w : Value) (Q : Value → Shared → Prop) (E : Value → Shared → Prop), Live mu s.heap → At s.heap mu v a → At s.heap mu w b →
    (∀ u s', Keeps s s' → At s'.heap mu u d → Q u s') → F.W (binaryOp op v w) Q E s
noncomputable def Cmp (F : Fx) (mu : List Addr) (op : CmpOp) (a b : D) (r : Bool) : Prop :=
  ∀ (s : Shared) (v w : Value) (Q : Value → Shared → Prop) (E : Value → Shared → Prop), At s.heap mu v a → At s.heap mu w b →
    (∀ s', Keeps s s' → Q (.bool r) s') → F.W (compareOp op v w) Q E s

theorem pe_bin {op : Operator} {l r : Expr} {a b d : D} {pos : Pos} (x : PE F mu ρ own l a) (y : PE F mu ρ own r b) (o : Op2 F mu op a b d) : PE F mu ρ own (.BinOp l op r pos) d :=
  fun s Q E st h => wpAny_BinOp (pe_two x y st fun v w s' k a1 a2 st' => o s' v w Q E st'.live a1 a2 fun u s'' k' a' => h u s'' (ktrans k k') a')
theorem pe_cmp {op : CmpOp} {l r : Expr} {a b : D} {c : Bool} {pos : Pos} (x : PE F mu ρ own l a) (y : PE F mu ρ own r b) (o : Cmp F mu op a b c)
    (hm : behindInMarks op r = false := by with_unfolding_all rfl) : PE F mu ρ own (.Compare l [op] [r] pos) (.bool c) :=
  fun s Q E st h => wpAny_Compare1 (pe_two x y st fun v w s' k a1 a2 _ => o s' v w Q E a1 a2 fun s'' k' => h _ s'' (ktrans k k') (.bool c)) hm
theorem pt_cmp {op : CmpOp} {l r : Expr} {a b : D} {c : Bool} {pos : Pos} (x : PE F mu ρ own l a) (y : PE F mu ρ own r b) (o : Cmp F mu op a b c)
    (hm : behindInMarks op r = false := by with_unfolding_all rfl) : PT F mu ρ own (.Compare l [op] [r] pos) c :=
  fun s Q E st h => wpAny_isTrue_Compare1 (pe_two x y st (t := fun v w => compareOp op v w) (Q := fun u s₂ => F.W (truthy u) Q E s₂) fun v w s' k a1 a2 _ => o s' v w _ E a1 a2 fun s'' k' => wpAny_truthy_bool (h s'' (ktrans k k'))) hm

theorem op_add_int {a b : Int} : Op2 F mu .Add (.int a) (.int b) (.int (a + b)) := fun s v w Q E _ x y h => by
  obtain ⟨t, rfl⟩ := x.int_inv; obtain ⟨u, rfl⟩ := y.int_inv
  exact add_int (h _ _ (ktoks s _) (.int _ _))
theorem op_sub_int {a b : Int} : Op2 F mu .Sub (.int a) (.int b) (.int (a - b)) := fun s v w Q E _ x y h => by
  obtain ⟨t, rfl⟩ := x.int_inv; obtain ⟨u, rfl⟩ := y.int_inv
  exact sub_int (h _ _ (ktoks s _) (.int _ _))
theorem op_mul_int {a b : Int} (ok : IntMulOk a b) : Op2 F mu .Mult (.int a) (.int b) (.int (a * b)) := fun s v w Q E _ x y h => by
  obtain ⟨t, rfl⟩ := x.int_inv; obtain ⟨u, rfl⟩ := y.int_inv
  exact mul_int (h _ _ (ktoks s _) (.int _ _)) ok
theorem op_fdiv_int {a b : Int} (hb : b ≠ 0) (hd : Builtin.divisionGoesByPylong a b = false) : Op2 F mu .FloorDiv (.int a) (.int b) (.int (a.fdiv b)) := fun s v w Q E _ x y h => by
  obtain ⟨t, rfl⟩ := x.int_inv; obtain ⟨u, rfl⟩ := y.int_inv
  exact floordiv_int hb (h _ _ (ktoks s _) (.int _ _)) (.inl hd)
theorem op_mod_int {a b : Int} (hb : b ≠ 0) : Op2 F mu .Mod (.int a) (.int b) (.int (a.fmod b)) := fun s v w Q E _ x y h => by
  obtain ⟨t, rfl⟩ := x.int_inv; obtain ⟨u, rfl⟩ := y.int_inv
  exact mod_int' hb (h _ _ (ktoks s _) (.int _ _))
theorem op_add_str {a b : Str} (ok : a.length + b.length ≤ sizeLine) : Op2 F mu .Add (.str a) (.str b) (.str (a ++ b)) := fun s v w Q E _ x y h => by
  obtain ⟨t, rfl⟩ := x.str_inv; obtain ⟨u, rfl⟩ := y.str_inv
  exact add_str (fun t' tk => h _ _ (ktoks s _) (.str _ _)) ok
theorem op_add_flt {a b : UInt64} : Op2 F mu .Add (.flt a) (.flt b) (.flt (Float64.add a b)) := fun s v w Q E _ x y h => by
  obtain ⟨t, rfl⟩ := x.flt_inv; obtain ⟨u, rfl⟩ := y.flt_inv
  exact add_float (h _ _ (ktoks s _) (.flt _ _))

theorem cmp_eq_int {a b : Int} : Cmp F mu .Eq (.int a) (.int b) (a == b) := fun s v w Q E x y h => by
  obtain ⟨t, rfl⟩ := x.int_inv; obtain ⟨u, rfl⟩ := y.int_inv
  exact eq_int (h s (krefl s))
theorem cmp_ne_int {a b : Int} : Cmp F mu .NotEq (.int a) (.int b) (a != b) := fun s v w Q E x y h => by
  obtain ⟨t, rfl⟩ := x.int_inv; obtain ⟨u, rfl⟩ := y.int_inv
  exact ne_int (h s (krefl s))
theorem cmp_lt_int {a b : Int} : Cmp F mu .Lt (.int a) (.int b) (decide (a < b)) := fun s v w Q E x y h => by
  obtain ⟨t, rfl⟩ := x.int_inv; obtain ⟨u, rfl⟩ := y.int_inv
  exact lt_int (h s (krefl s))
theorem cmp_le_int {a b : Int} : Cmp F mu .LtE (.int a) (.int b) (decide (a ≤ b)) := fun s v w Q E x y h => by
  obtain ⟨t, rfl⟩ := x.int_inv; obtain ⟨u, rfl⟩ := y.int_inv
  exact le_int (h s (krefl s))
theorem cmp_gt_int {a b : Int} : Cmp F mu .Gt (.int a) (.int b) (decide (b < a)) := fun s v w Q E x y h => by
  obtain ⟨t, rfl⟩ := x.int_inv; obtain ⟨u, rfl⟩ := y.int_inv
  exact gt_int (h s (krefl s))
/-- global names -/
theorem pe_glob {x : Str} {pos : Pos} {v : Value} {s : Shared} {Q : Value → Shared → Prop} {E : Value → Shared → Prop} (st : Sta F mu ρ own s.heap)
    (hk : F.env.kindOf x = some .globalImplicit) (hv : F.c.mg x = some v) (h : Q v s) (hd : (x == ("__debug__" : Str)) = false := by decide) :
    F.W (eval (.Name x pos) F.env) Q E s :=
  Name_function_global st.ok.kind hk (loadGlobal_global (by rw [st.ok.gl]; exact F.c.g.keeps st.rootK) hv h) hd
theorem pe_builtin {x : Str} {pos : Pos} {v : Value} {s : Shared} {Q : Value → Shared → Prop} {E : Value → Shared → Prop} (st : Sta F mu ρ own s.heap)
    (hk : F.env.kindOf x = some .globalImplicit) (hg : F.c.mg x = none) (hv : bootBuiltins x = some v) (hn : x ≠ "__name__") (h : Q v s) (hd : (x == ("__debug__" : Str)) = false := by decide) :
    F.W (eval (.Name x pos) F.env) Q E s :=
  Name_function_global st.ok.kind hk (loadGlobal_builtin (by rw [st.ok.gl]; exact F.c.g.keeps st.rootK) hg (by rw [st.ok.bl]; exact F.c.b.keeps st.rootK) ((F.c.blt x hn).trans hv) h) hd

/-- truth -/
noncomputable def Truth (F : Fx) (mu : List Addr) (d : D) (r : Bool) : Prop :=
  ∀ (s : Shared) (v : Value) (Q : Bool → Shared → Prop) (E : Value → Shared → Prop), At s.heap mu v d → (∀ s', Keeps s s' → Q r s') → F.W (truthy v) Q E s
theorem truth_bool {b : Bool} : Truth F mu (.bool b) b := fun s v Q E x h => by
  rw [x.bool_inv]; exact wpAny_truthy_bool (h s (krefl s))
theorem truth_int {i : Int} : Truth F mu (.int i) (i != 0) := fun s v Q E x h => by
  obtain ⟨t, rfl⟩ := x.int_inv
  exact truthy_int (h s (krefl s))
theorem pt_plain {e : Expr} {d : D} {r : Bool} (x : PE F mu ρ own e d) (t : Truth F mu d r)
    (he : isTrue e F.env (eval e F.env) = (do let v ← eval e F.env; standAt e.pos; holding [v] (truthy v)) := by rfl) : PT F mu ρ own e r := fun s Q E st h =>
  isTrue_plain (x s _ _ st fun v s' k a => t s' v Q E a fun s'' k' => h s'' (ktrans k k')) he
theorem pt_not {e : Expr} {r : Bool} {pos : Pos} (x : PT F mu ρ own e r) : PT F mu ρ own (.UnaryOp .Not e pos) (!r) := fun s Q E st h =>
  isTrue_not (x s _ _ st h)
theorem pe_ife {t b o : Expr} {r : Bool} {d : D} {pos : Pos} (x : PT F mu ρ own t r) (y : r = true → PE F mu ρ own b d) (z : r = false → PE F mu ρ own o d) : PE F mu ρ own (.IfExp t b o pos) d := fun s Q E st h =>
  wpAny_IfExp (x s _ _ st fun s' k => by
    cases r with
    | true => exact y rfl s' Q E (st.keeps (khp k)) fun v s'' k' a => h v s'' (ktrans k k') a
    | false => exact z rfl s' Q E (st.keeps (khp k)) fun v s'' k' a => h v s'' (ktrans k k') a)
end
end Mine
end

section
set_option Elab.async false
set_option maxRecDepth 100000
set_option autoImplicit false
set_option linter.unusedVariables false
namespace Mine
open PySem PySem.Calls PyProof.Rows PySem.W

section
variable {F : Fx} {mu : List Addr} {ρ : Vars} {own : Owned}

/-- several expressions -/
inductive PEL (F : Fx) (mu : List Addr) (ρ : Vars) (own : Owned) : List Expr → List D → Prop
  | nil : PEL F mu ρ own [] []
  | cons {e : Expr} {d : D} {es : List Expr} {ds : List D} (x : PE F mu ρ own e d) (y : PEL F mu ρ own es ds) : PEL F mu ρ own (e :: es) (d :: ds)
theorem PEL.len {es : List Expr} {ds : List D} (x : PEL F mu ρ own es ds) : es.length = ds.length := by
  induction x with
  | nil => rfl
  | cons _ _ ih => simp [ih]
theorem PEL.go {pos : Pos} {es : List Expr} {ds : List D} (x : PEL F mu ρ own es ds) : ∀ (s : Shared) (Q : List Value → Shared → Prop) (E : Value → Shared → Prop), Sta F mu ρ own s.heap →
    (∀ vs s', Keeps s s' → AtL s'.heap mu vs ds → Q vs s') → F.W (spliced (backTo pos (es.map fun e => (false, eval e F.env)))) Q E s := by
  induction x with
  | nil => intro s Q E st h; exact spliced_nil (h _ _ (krefl s) AtL.nil)
  | cons x y ih =>
    intro s Q E st h
    refine spliced_cons (x s _ _ st fun v s' k a => ih s' _ _ (st.keeps (khp k)) fun vs s'' k' a' => h _ _ (ktrans k k') (AtL.cons (a.keep (khp k')) a'))

theorem new_tup {h : Heap} {vs : List Value} {ds : List D} (hl : Live mu h) (x : AtL h mu vs ds) :
    At (h.push { cls := .type "tuple", dict := none, data := .seq vs.toArray }) mu (.ref h.objs.size) (.tup ds) := by
  have y := x.keep (h' := h.push { cls := .type "tuple", dict := none, data := .seq vs.toArray }) fun b o e => Heap.get?_push_of_some _ e
  exact .tup hl.fresh ⟨_, Heap.get?_push_size _ rfl, rfl, _, rfl⟩ y.1 y.2
theorem new_lst {h : Heap} {vs : List Value} {ds : List D} (hl : Live mu h) (x : AtL h mu vs ds) :
    At (h.push { cls := .type "list", dict := none, data := .seq vs.toArray }) mu (.ref h.objs.size) (.lst ds) := by
  have y := x.keep (h' := h.push { cls := .type "list", dict := none, data := .seq vs.toArray }) fun b o e => Heap.get?_push_of_some _ e
  exact .lst hl.fresh ⟨_, Heap.get?_push_size _ rfl, rfl, _, rfl⟩ y.1 y.2
theorem kpush (s : Shared) (o : Obj) (t : Nat) : Keeps s { s with heap := s.heap.push o, toks := t } := ⟨_, _, rfl, fun _ _ e => Heap.get?_push_of_some _ e⟩

theorem pe_tuple {es : List Expr} {ds : List D} {k : Nat} {pos : Pos} (x : PEL F mu ρ own es ds) (hn : es.length ≤ 100 := by decide)
    (hs : starEach es F.env = es.map (fun e => (false, eval e F.env)) := by rfl) : PE F mu ρ own (.Tuple es k pos) (.tup ds) := fun s Q E st h => by
  refine Tuple_ ?_
  rw [hs]
  refine x.go s _ _ st fun vs s' kk a => ?_
  refine wpAny_newObj_type (h _ _ (ktrans kk (kpush s' _ _)) (new_tup (st.live.keeps (khp kk)) a)) ?_
  have := a.1
  have := x.len
  show vs.toArray.size ≤ sizeLine
  rw [sizeLine_eq, List.size_toArray]; lia
theorem pe_list {es : List Expr} {ds : List D} {pos : Pos} (x : PEL F mu ρ own es ds) (hn : es.length ≤ 100 := by decide)
    (hs : starEach es F.env = es.map (fun e => (false, eval e F.env)) := by rfl) : PE F mu ρ own (.List es pos) (.lst ds) := fun s Q E st h => by
  refine List_ ?_
  rw [hs]
  refine x.go s _ _ st fun vs s' kk a => ?_
  refine wpAny_newObj_type (h _ _ (ktrans kk (kpush s' _ _)) (new_lst (st.live.keeps (khp kk)) a)) ?_
  have := a.1
  have := x.len
  show vs.toArray.size ≤ sizeLine
  rw [sizeLine_eq, List.size_toArray]; lia

/-- room for calls -/
noncomputable def Room (A : Around) (n : Nat) : Prop := A.depth + n ≤ recursionLimit ∧ A.units + 3 * n + 100 < cLine
theorem Room.le {A : Around} {n k : Nat} (h : Room A n) (hk : k ≤ n) : Room A k := ⟨by have := h.1; lia, by have := h.2; lia⟩

/-- what a def does: for data that bear `args`, it ends and hands back `r`; the heap grows -/
noncomputable def Fn (c : Cx) (lim : Nat) (f : Addr) (args : List D) (r : D) : Prop :=
  ∀ (A : Around) (s : Shared) (mu : List Addr) (vs : List Value) (R : Result → Shared → Prop), A.handled = none → Room A lim →
    (∀ b o, c.root.get? b = some o → s.heap.get? b = some o) → Live mu s.heap → AtL s.heap mu vs args →
    (∀ v s', Keeps s s' → At s'.heap mu v r → R (.ok (.ret v)) s') → codeAny (model c.prog c.w) A (.call (.ref f) ⟨vs, []⟩) R s

theorem pe_call {f : Addr} {lim : Nat} {x : Str} {p pos : Pos} {es : List Expr} {ds : List D} {r : D} {o : Obj} {fd : FuncData} (C : Fn F.c lim f ds r) (xs : PEL F mu ρ own es ds)
    (hd : Room F.A lim)
    (hg : F.c.mg x = some (.ref f)) (hf : F.c.root.get? f = some o) (hfd : o.data = .func fd)
    (hk : F.env.kindOf x = some .globalImplicit := by rfl) (hs : starEach es F.env = es.map (fun e => (false, eval e F.env)) := by rfl) (hne : es ≠ [] := by simp)
    (hb : (x == ("__debug__" : Str)) = false := by decide) :
    PE F mu ρ own (.Call (.Name x p) es [] pos) r := fun s Q E st h => by
  refine Call_Name rfl ?_
  rw [hs]
  refine pe_glob st hk hg ?_ hb
  refine callWith_function (o := o) (fd := fd) ?_
  cases es with
  | nil => exact absurd rfl hne
  | cons e es =>
    show F.W (evalArgs _ true ((false, eval e F.env) :: backTo pos (es.map fun e => (false, eval e F.env))) []) _ E s
    refine evalArgs_plain ?_
    refine xs.go (pos := pos) s _ _ st fun vs s' kk a => ⟨⟨khp kk _ _ (st.rootK _ _ hf), hfd⟩, ?_⟩
    refine wpAny_call ?_
    exact C F.A s' mu vs _ st.ok.hh hd (fun b o e => khp kk _ _ (st.rootK b o e)) (st.live.keeps (khp kk)) a fun v s'' k' a' => h v s'' (ktrans kk k') a'

/-- a built-in function's worth -/
noncomputable def Blt (F : Fx) (mu : List Addr) (id : String) (ds : List D) (r : D) : Prop :=
  ∀ (s : Shared) (vs : List Value) (Q : Value → Shared → Prop) (E : Value → Shared → Prop), F.A.handled = none → F.A.units + 100 < cLine → Live mu s.heap → AtL s.heap mu vs ds →
    (∀ v s', Keeps s s' → At s'.heap mu v r → Q v s') → F.W (call (.builtin id) vs) Q E s
theorem pe_blt {id : String} {x : Str} {p pos : Pos} {es : List Expr} {ds : List D} {r : D} (C : Blt F mu id ds r) (xs : PEL F mu ρ own es ds)
    (hg : F.c.mg x = none) (hv : bootBuiltins x = some (.builtin id)) (hn : x ≠ "__name__" := by decide)
    (hk : F.env.kindOf x = some .globalImplicit := by rfl) (hs : starEach es F.env = es.map (fun e => (false, eval e F.env)) := by rfl) (hne : es ≠ [] := by simp)
    (hb : (x == ("__debug__" : Str)) = false := by decide) :
    PE F mu ρ own (.Call (.Name x p) es [] pos) r := fun s Q E st h => by
  refine Call_Name rfl ?_
  rw [hs]
  refine pe_builtin st hk hg hv hn ?_ hb
  cases es with
  | nil => exact absurd rfl hne
  | cons e es =>
    refine callWith_builtin ?_ ?_
    · show (false || (backTo pos (es.map fun e => (false, eval e F.env))).any (·.1)) = false
      rw [Bool.false_or, List.any_eq_false]
      intro x hx
      unfold backTo at hx
      obtain ⟨y, hy, rfl⟩ := List.mem_map.mp hx
      obtain ⟨z, _, rfl⟩ := List.mem_map.mp hy
      simp
    · show F.W (evalArgs _ true ((false, eval e F.env) :: backTo pos (es.map fun e => (false, eval e F.env))) []) _ E s
      refine evalArgs_plain ?_
      exact xs.go (pos := pos) s _ _ st fun vs s' kk a => C s' vs Q E st.ok.hh st.ok.un (st.live.keeps (khp kk)) a fun v s'' k' a' => h v s'' (ktrans kk k') a'

/-! ## statements -/
/-- a block's worth -/
noncomputable def ST (F : Fx) (P : Heap → Prop) (ss : List Stmt) (Q : Flow → Heap → Prop) : Prop :=
  ∀ (s : Shared) (Φ : Flow → Shared → Prop) (E : Value → Shared → Prop), P s.heap → (∀ f h' tk, Q f h' → Φ f { s with heap := h', toks := tk }) → F.W (execs ss F.env) Φ E s

theorem st_nil {P : Heap → Prop} {Q : Flow → Heap → Prop} (h : ∀ g, P g → Q .next g) : ST F P [] Q := fun s Φ E p k => wpAny_execs_nil (by have := k .next s.heap s.toks (h _ p); exact this)
theorem ST.pre {P P' : Heap → Prop} {ss : List Stmt} {Q : Flow → Heap → Prop} (h : ST F P ss Q) (k : ∀ g, P' g → P g) : ST F P' ss Q := fun s Φ E p kk => h s Φ E (k _ p) kk
theorem ST.post {P : Heap → Prop} {ss : List Stmt} {Q Q' : Flow → Heap → Prop} (h : ST F P ss Q) (k : ∀ f g, Q f g → Q' f g) : ST F P ss Q' := fun s Φ E p kk => h s Φ E p fun f h' tk q => kk f h' tk (k f h' q)
/-- one statement, then the rest -/
theorem st_seq {P R : Heap → Prop} {st : Stmt} {ss : List Stmt} {Q : Flow → Heap → Prop} (h : ST F P [st] fun f g => f = .next ∧ R g) (k : ST F R ss Q) : ST F P (st :: ss) Q := fun s Φ E p kk => by
  have one := h s (fun f s' => ∃ h' tk, s' = { s with heap := h', toks := tk } ∧ f = .next ∧ R h') E p fun f h' tk q => ⟨h', tk, rfl, q⟩
  refine wpAny_execs_cons ?_
  have e1 : execs [st] F.env = (do match ← exec st F.env with | .next => pure .next | f => pure f) := rfl
  have two : F.W (exec st F.env) (fun f s' => ∃ h' tk, s' = { s with heap := h', toks := tk } ∧ f = .next ∧ R h') E s := by
    intro Γ pp hΓ
    have := one Γ pp hΓ
    rw [e1, Sem.wp_bind'] at this
    refine Sem.wp_mono _ Γ _ (fun f p' s' h' => ?_) (fun _ _ _ h' => h') _ _ this
    cases f <;> exact h'
  refine wpAny_mono two (fun f s' q => ?_) fun _ _ e => e
  obtain ⟨h', tk, rfl, rfl, r⟩ := q
  exact k _ Φ E r fun f h'' tk' q => kk f h'' tk' q
theorem st_last {P : Heap → Prop} {st : Stmt} {Q : Flow → Heap → Prop}
    (h : ∀ (s : Shared) (Φ : Flow → Shared → Prop) (E : Value → Shared → Prop), P s.heap → (∀ f h' tk, Q f h' → Φ f { s with heap := h', toks := tk }) → F.W (exec st F.env) Φ E s) : ST F P [st] Q := fun s Φ E p k => by
  refine wpAny_execs_cons (wpAny_mono (h s (fun f s' => Φ f s') E p k) (fun f s' q => ?_) fun _ _ e => e)
  cases f with
  | next => exact wpAny_execs_nil q
  | _ => exact q
end

theorem look_setL {env : Env} {m cm : Str → Option Value} {x y : Str} {v : Value} (hne : ¬ y = x) : look env (fun z => if z = x then some v else m z) cm y = look env m cm y := by
  unfold look
  split <;> simp [hne]
theorem look_setC {env : Env} {m cm : Str → Option Value} {x y : Str} {v : Value} (hne : ¬ y = x) : look env m (fun z => if z = x then some v else cm z) y = look env m cm y := by
  unfold look
  split <;> simp [hne]
theorem ns_set {env : Env} {h h' : Heap} (hs : Heap.SameBut env.locals h h') {b : Addr} {o : Obj} (hb : b ≠ env.locals) (e : h.get? b = some o) : h'.get? b = some o := hs.extBut b o hb e

section
variable {F : Fx} {mu : List Addr} {ρ : Vars} {own : Owned}
/-- a name is bound (local or cell) -/
theorem store {x : Str} {v : Value} {d : D} {s : Shared} {Q : Unit → Shared → Prop} {E : Value → Shared → Prop} (st : Sta F mu ρ own s.heap) (a : At s.heap mu v d)
    (hx : F.env.kindOf x = some .local ∨ (F.env.kindOf x = some .cell ∧ ∃ a, F.env.cells.lookup x = some a ∧ F.B.get? a = none)) (hno : ∀ p ∈ own, p.1 ≠ x)
    (h : ∀ h' tk, Sta F mu ((x, d) :: ρ) own h' → (∀ b o, b ∉ wrt F [] → s.heap.get? b = some o → h'.get? b = some o) → Q () { s with heap := h', toks := tk }) : F.W (storeName F.env x v) Q E s := by
  obtain ⟨m, cm, h1, h2, h3, h4⟩ := st.ex
  rcases hx with hx | ⟨hx, hc⟩
  · refine wpAny_storeName_local hx h1 (fun h' hn hs => h h' _ ?_ ?_) (by rw [st.ok.kind]; rfl)
    · have up : ∀ b o, b ∉ mu → s.heap.get? b = some o → h'.get? b = some o := fun b o hb e => ns_set hs (fun q => hb (q ▸ st.ok.lm)) e
      refine ⟨st.ok, fun b hb => ?_, fun b o e => ns_set hs (fun q => by rw [q, st.ok.ln] at e; cases e) (st.keep b o e), _, cm, hn, fun y c e => ?_, fun y e' he => ?_, fun p hp => ?_⟩
      · by_cases hbL : b = F.env.locals
        · subst hbL; obtain ⟨o, _, _, ho, _⟩ := hn; exact ⟨o, ho⟩
        · obtain ⟨o, ho⟩ := st.live b hb; exact ⟨o, ns_set hs hbL ho⟩
      · obtain ⟨o, ho, hd⟩ := h2 y c e
        exact ⟨o, ns_set hs (st.ok.cell y c e).1 ho, hd⟩
      · rw [List.lookup_cons] at he
        cases hy : y == x with
        | true =>
          rw [hy] at he; cases he
          have := beq_iff_eq.mp hy; subst this
          exact ⟨v, by unfold look; rw [hx]; simp, a.mono up fun _ _ hb _ => hb⟩
        | false =>
          rw [hy] at he
          obtain ⟨w, e1, e2⟩ := h3 y e' he
          refine ⟨w, ?_, e2.mono up fun _ _ hb _ => hb⟩
          have hne : ¬ y = x := by simpa using hy
          exact (look_setL hne).trans e1
      · obtain ⟨e1, vs, e2, e3⟩ := h4 p hp
        have hne := hno p hp
        refine ⟨?_, vs, e2.at fun o q => ns_set hs (st.ok.od p hp).2.2.1 q, e3.mono up fun _ _ hb _ => hb⟩
        exact (look_setL hne).trans e1
    · exact fun b o hb e => ns_set hs (fun q => hb (q ▸ List.mem_cons_self)) e
  · obtain ⟨c, hc, hcB⟩ := hc
    have cc := st.ok.cell x c hc
    refine wpAny_storeName_cell st.ok.kind hx hc (h2 x c hc) fun h' hn hs => ?_
    have up : ∀ b o, b ∉ mu → s.heap.get? b = some o → h'.get? b = some o := fun b o hb e => hs.extBut b o (fun q => hb (q ▸ cc.2)) e
    have inw : c ∈ wrt F [] := List.mem_cons_of_mem _ (List.mem_append_left _ (List.mem_map.mpr ⟨(x, c), List.mem_filter.mpr ⟨mem_of_lookup hc, by show (F.B.get? c).isNone = true; rw [hcB]; rfl⟩, rfl⟩))
    have hQ := h h' s.toks ?_ fun b o hb e => hs.extBut b o (fun q => hb (q ▸ inw)) e
    · exact hQ
    refine ⟨st.ok, fun b hb => ?_, fun b o e => hs.extBut b o (fun q => by rw [q, hcB] at e; cases e) (st.keep b o e), m, (fun y => if y = x then some v else cm y), h1.sameBut hs (Ne.symm cc.1), fun y c' e => ?_, fun y e' he => ?_, fun p hp => ?_⟩
    · by_cases hbL : b = c
      · subst hbL; obtain ⟨o, ho, _⟩ := hn; exact ⟨o, ho⟩
      · obtain ⟨o, ho⟩ := st.live b hb; exact ⟨o, hs.extBut b o hbL ho⟩
    · by_cases hy : y = x
      · subst hy
        rw [hc] at e; cases e
        simpa using hn
      · show h'.IsCell c' (if y = x then some v else cm y)
        rw [if_neg hy]
        exact (h2 y c' e).sameBut hs fun q => hy (st.ok.apart y x c' e (q ▸ hc))
    · rw [List.lookup_cons] at he
      cases hy : y == x with
      | true =>
        rw [hy] at he; cases he
        have := beq_iff_eq.mp hy; subst this
        exact ⟨v, by unfold look; rw [hx]; simp [hc], a.mono up fun _ _ hb _ => hb⟩
      | false =>
        rw [hy] at he
        obtain ⟨w, e1, e2⟩ := h3 y e' he
        refine ⟨w, ?_, e2.mono up fun _ _ hb _ => hb⟩
        have hne : ¬ y = x := by simpa using hy
        exact (look_setC hne).trans e1
    · obtain ⟨e1, vs, e2, e3⟩ := h4 p hp
      have hne := hno p hp
      refine ⟨?_, vs, e2.at fun o q => hs.extBut _ o (fun q' => (st.ok.od p hp).2.2.2 x c hc q'.symm) q, e3.mono up fun _ _ hb _ => hb⟩
      exact (look_setC hne).trans e1

theorem st_assign {x : Str} {px pos : Pos} {e : Expr} {d : D} (y : PE F mu ρ own e d)
    (hx : F.env.kindOf x = some .local ∨ (F.env.kindOf x = some .cell ∧ ∃ a, F.env.cells.lookup x = some a ∧ F.B.get? a = none)) (hno : ∀ p ∈ own, p.1 ≠ x)
    (hs : swapsWith e (some (.Name x px)) pos.line F.env = pure false := by rfl) :
    ST F (Sta F mu ρ own) [.Assign [.Name x px] e pos] fun f g => f = .next ∧ Sta F mu ((x, d) :: ρ) own g := st_last fun s Φ E st k =>
  wpAny_Assign_Name (y s _ _ st fun v s' kk a => store (st.keeps (khp kk)) a hx hno fun h' tk st' _ => by
    obtain ⟨h1, t1, rfl, _⟩ := kk
    exact k .next h' tk ⟨rfl, st'⟩) hs

theorem st_ret {e : Expr} {d : D} {pos : Pos} (y : PE F mu ρ own e d) :
    ST F (Sta F mu ρ own) [.Return (some e) pos] fun f g => ∃ v, f = .ret v ∧ Sta F mu ρ own g ∧ At g mu v d := st_last fun s Φ E st k =>
  wpAny_Return_some (y s _ _ st fun v s' kk a => by
    have st' := st.keeps (khp kk)
    obtain ⟨h1, t1, rfl, _⟩ := kk
    exact k (.ret v) h1 t1 ⟨v, rfl, st', a⟩)

theorem st_if {t : Expr} {b o : List Stmt} {r : Bool} {pos : Pos} {Q : Flow → Heap → Prop} (x : PT F mu ρ own t r) (y : r = true → ST F (Sta F mu ρ own) b Q) (z : r = false → ST F (Sta F mu ρ own) o Q) :
    ST F (Sta F mu ρ own) [.If t b o pos] Q := st_last fun s Φ E st k => wpAny_If (x s _ _ st fun s' kk => by
    have st' := st.keeps (khp kk)
    obtain ⟨h1, t1, rfl, _⟩ := kk
    cases r with
    | true => exact y rfl _ Φ E st' fun f h' tk q => k f h' tk q
    | false => exact z rfl _ Φ E st' fun f h' tk q => k f h' tk q)
end
end Mine
end

section
set_option Elab.async false
set_option maxRecDepth 100000
set_option autoImplicit false
set_option linter.unusedVariables false
namespace Mine
open PySem PySem.Calls PyProof.Rows PySem.W

theorem zip_at {h : Heap} {mu : List Addr} {x : Str} {d : D} : ∀ {ns : List Str} {vs : List Value} {ds : List D}, AtL h mu vs ds → (ns.zip ds).lookup x = some d →
    ∃ v, (ns.zip vs).lookup x = some v ∧ At h mu v d
  | [], vs, ds, _, e => by simp at e
  | n :: ns, vs, [], _, e => by simp at e
  | n :: ns, vs, d' :: ds, a, e => by
    obtain ⟨v, vs', rfl, a1, a2⟩ := a.inv
    rw [List.zip_cons_cons, List.lookup_cons] at e ⊢
    cases hx : x == n with
    | true => rw [hx] at e; cases e; exact ⟨v, rfl, a1⟩
    | false => rw [hx] at e; exact zip_at a2 e
theorem lookup_none {α : Type} {x : Str} : ∀ {l : List (Str × α)}, x ∉ l.map (·.1) → l.lookup x = none
  | [], _ => rfl
  | (y, a) :: l, h => by
    rw [List.lookup_cons]
    have h1 : (x == y) = false := by
      cases hb : x == y with
      | false => rfl
      | true => exact absurd (by rw [beq_iff_eq.mp hb]; simp) h
    rw [h1]
    exact lookup_none fun q => h (by simp only [List.map_cons, List.mem_cons]; exact .inr q)
theorem lookup_append {α : Type} {x : Str} : ∀ {l r : List (Str × α)}, (l ++ r).lookup x = (l.lookup x).or (r.lookup x)
  | [], r => by simp
  | (y, a) :: l, r => by
    rw [List.cons_append, List.lookup_cons, List.lookup_cons]
    cases x == y with
    | true => rfl
    | false => exact lookup_append
theorem lookup_rev {α : Type} {x : Str} : ∀ {l : List (Str × α)}, (l.map (·.1)).Nodup → l.reverse.lookup x = l.lookup x
  | [], _ => rfl
  | (y, a) :: l, h => by
    rw [List.map_cons, List.nodup_cons] at h
    rw [List.reverse_cons, lookup_append, lookup_rev h.2, List.lookup_cons, List.lookup_cons]
    cases hx : x == y with
    | true =>
      rw [beq_iff_eq.mp hx, lookup_none h.1]; rfl
    | false => simp
theorem zip_keys {α : Type} : ∀ (ns : List Str) (vs : List α), ns.length = vs.length → (ns.zip vs).map (·.1) = ns
  | [], [], _ => rfl
  | [], _ :: _, h => by simp at h
  | _ :: _, [], h => by simp at h
  | n :: ns, v :: vs, h => by rw [List.zip_cons_cons, List.map_cons, zip_keys ns vs (by simpa using h)]

/-- the environment of a plain def's call -/
noncomputable def envF (scope : Scope) (qual : Str) (L f : Addr) (cd : Value) : Env :=
  { scope := scope, locals := L, globals := mainGlobals, cells := [], qual := qual, func := some f, code := cd, frame := some L, builtins := builtinsNs }

structure FdOk (fd : FuncData) (ns : List Str) (body : List Stmt) (scope : Scope) : Prop where
  sc : fd.scope = scope
  body : fd.body = .stmts body
  gl : fd.globals = mainGlobals
  cl : fd.closure = []
  bl : fd.builtins = builtinsNs
  kind : scope.kind = .function
  co : scope.isCoroutine = false
  gen : scope.isGenerator = false
  nd : ns.Nodup
  loc : ∀ x ∈ ns, scope.names.lookup x = some .local
  cell : ∀ x ∈ scope.names, x.2 ≠ .cell

theorem fn_of {c : Cx} {f : Addr} {o : Obj} {fd : FuncData} {ns : List Str} {body : List Stmt} {scope : Scope} {args : List D} {r : D} {lim : Nat}
    (hf : c.root.get? f = some o) (hd : o.data = .func fd) (ok : FdOk fd ns body scope) (hcd : c.root.CodeRec fd.code fd.qualname) (hn : ns.length = args.length)
    (hb : ∀ vs : List Value, vs.length = args.length → bindArgs fd ⟨vs, []⟩ = pure (ns.zip vs))
    (h : ∀ (F : Fx) (mu : List Addr) (L : Addr), F.c = c → Room F.A lim → F.env = envF scope (fd.qualname ++ Str.ofString ".<locals>.") L f fd.code →
      ST F (Sta F mu (ns.zip args) []) body fun fl g => ∃ v, fl = .ret v ∧ Sta F mu [] [] g ∧ At g mu v r) : Fn c (lim + 1) f args r := by
  intro A s mu vs R hh hdep hroot hlive hat hR
  have hlv : vs.length = args.length := hat.1
  have hnv : ns.length = vs.length := hn.trans hlv.symm
  refine codeAny_call_function (by have := hdep.1; lia) (hroot _ _ hf) hd (by rw [ok.sc]; exact ok.co) (by rw [ok.sc]; exact ok.gen) ok.body (hcd.keeps hroot) ?_
  rw [hb vs hlv]
  refine wpAny_pure ?_
  rw [ok.sc, ok.cl, ok.gl, ok.bl]
  have hnd : ((ns.zip vs).map (·.1)).Nodup := by rw [zip_keys ns vs hnv]; exact ok.nd
  refine wpAny_newFunctionEnv ok.cell (fun x hx => ok.loc _ (by rw [← zip_keys ns vs hnv]; exact List.mem_map_of_mem (f := (·.1)) hx)) (fun h₁ hns hsb => ?_) ok.kind
  have hL : s.heap.get? s.heap.objs.size = none := Heap.get?_none_of_le (Nat.le_refl _)
  have up : ∀ b o, s.heap.get? b = some o → h₁.get? b = some o := fun b o e => hsb.extBut b o (Nat.ne_of_lt (Heap.lt_size e)) (Heap.get?_push_of_some _ e)
  refine ⟨(c.lim.keeps hroot).keeps up, ?_⟩
  show codeAny _ _ (.func body (envF scope (fd.qualname ++ Str.ofString ".<locals>.") s.heap.objs.size f fd.code)) _ _
  refine codeAny_func ?_
  have st : Sta ⟨c, A.deeper (envF scope (fd.qualname ++ Str.ofString ".<locals>.") s.heap.objs.size f fd.code), envF scope (fd.qualname ++ Str.ofString ".<locals>.") s.heap.objs.size f fd.code, s.heap⟩
      (s.heap.objs.size :: mu) (ns.zip args) [] h₁ := by
    refine ⟨⟨hh, by show A.units + 3 + 100 < cLine; have := hdep.2; lia, ok.kind, rfl, rfl, hroot, List.mem_cons_self, hL, (fun x a e => nomatch e), (fun x a e => nomatch e), (fun x y a e => nomatch e), (fun p hp => nomatch hp), List.Pairwise.nil, List.Pairwise.nil⟩, ?_, up, _, (fun _ => none), hns, (fun x a e => nomatch e), (fun x d e => ?_), (fun p hp => nomatch hp)⟩
    · intro b hb
      rcases List.mem_cons.mp hb with rfl | hb
      · obtain ⟨o, _, _, ho, _⟩ := hns; exact ⟨o, ho⟩
      · obtain ⟨o, ho⟩ := hlive b hb; exact ⟨o, up b o ho⟩
    · obtain ⟨v, e1, e2⟩ := zip_at hat e
      refine ⟨v, ?_, e2.mono (fun b o _ e => up b o e) fun b o hb ho hb' => ?_⟩
      · unfold look
        have hx : x ∈ ns := by
          rw [← zip_keys ns vs hnv]
          exact Decidable.byContradiction fun q => by rw [lookup_none q] at e1; cases e1
        rw [show (envF scope (fd.qualname ++ Str.ofString ".<locals>.") s.heap.objs.size f fd.code).kindOf x = some .local from ok.loc x hx]
        show (ns.zip vs).reverse.lookup x = some v
        rw [lookup_rev hnd]; exact e1
      · rcases List.mem_cons.mp hb' with rfl | hb'
        · rw [hL] at ho; cases ho
        · exact hb hb'
  have go := h ⟨c, A.deeper (envF scope (fd.qualname ++ Str.ofString ".<locals>.") s.heap.objs.size f fd.code), envF scope (fd.qualname ++ Str.ofString ".<locals>.") s.heap.objs.size f fd.code, s.heap⟩ (s.heap.objs.size :: mu) s.heap.objs.size rfl ⟨by show A.depth + 1 + lim ≤ _; have := hdep.1; lia, by show A.units + 3 + 3 * lim + 100 < cLine; have := hdep.2; lia⟩ rfl
  refine go _ _ _ st fun fl h' tk ⟨v, e, st', a⟩ => ?_
  subst e
  refine hR v _ ⟨h', tk, rfl, st'.keep⟩ (a.sub fun b hb => List.mem_cons_of_mem _ hb)
end Mine
end

section
set_option Elab.async false
set_option maxRecDepth 100000
set_option autoImplicit false
set_option linter.unusedVariables false
namespace Mine
open PySem PySem.Calls PyProof.Rows PySem.W

/-- a heap without some of its places -/
noncomputable def hide (l : List Addr) (h : Heap) : Heap := { h with objs := h.objs.mapIdx fun i o => if l.contains i then { o with data := .freed } else o }
theorem get_hide (l : List Addr) (h : Heap) (b : Addr) : (hide l h).get? b = if b ∈ l then none else h.get? b := by
  unfold Heap.get? hide
  simp only [Array.getElem?_mapIdx]
  cases e : h.objs[b]? with
  | none => simp
  | some o =>
    by_cases hb : b ∈ l
    · simp [hb]
    · simp [hb]

noncomputable abbrev Fx.on (F : Fx) (B : Heap) : Fx := ⟨F.c, F.A, F.env, B⟩

section
variable {F : Fx} {mu : List Addr} {ρ : Vars} {own : Owned}

/-- the same frame over a later heap of elders -/
theorem Sta.rebase {h : Heap} (st : Sta F mu ρ own h) :
    Sta (F.on (hide (wrt F own) h)) mu ρ own h ∧ (∀ b o, F.B.get? b = some o → (hide (wrt F own) h).get? b = some o) ∧
      (∀ b o, b ∉ mu → h.get? b = some o → (hide (wrt F own) h).get? b = some o) := by
  have k1 : ∀ b o, F.B.get? b = some o → (hide (wrt F own) h).get? b = some o := fun b o e => by
    rw [get_hide, if_neg (fun hb => by rw [(wrt_none st.ok hb).1] at e; cases e)]
    exact st.keep b o e
  have k2 : ∀ b, b ∈ wrt F own → (hide (wrt F own) h).get? b = none := fun b hb => by rw [get_hide, if_pos hb]
  refine ⟨⟨⟨st.ok.hh, st.ok.un, st.ok.kind, st.ok.gl, st.ok.bl, fun b o e => k1 b o (st.ok.root b o e), st.ok.lm, k2 _ List.mem_cons_self, st.ok.cell, st.ok.one, st.ok.apart,
    fun p hp => ⟨(st.ok.od p hp).1, k2 _ ?_, (st.ok.od p hp).2.2⟩, st.ok.oap, st.ok.onm⟩, st.live, fun b o e => ?_, st.ex⟩, k1, fun b o hb e => ?_⟩
  · exact List.mem_cons_of_mem _ (List.mem_append_right _ (List.mem_map.mpr ⟨p, hp, rfl⟩))
  · have e' : (hide (wrt F own) h).get? b = some o := e
    rw [get_hide] at e'
    split at e'
    · cases e'
    · exact e'
  · rw [get_hide, if_neg fun hw => hb (wrt_none st.ok hw).2]; exact e

/-- a walk over data: I the iterator, `wr` its own places, `h₀` the heap it was made in -/
structure Wk (T : Expr → Prop) (F : Fx) (mu : List Addr) (I : Addr) (fp wr : List Addr) (ds : List D) (h₀ : Heap) (St : Nat → Heap → Prop) (Mid : Nat → Value → Heap → Prop) : Prop where
  sub : ∀ b ∈ wr, b ∈ fp
  frame : ∀ i h h', St i h → (∀ b ∈ fp, ∀ o, h.get? b = some o → h'.get? b = some o) → St i h'
  live : ∀ i h, St i h → ∀ b ∈ wr, ∃ o, h.get? b = some o
  mid : ∀ i v h, Mid i v h → ∀ b ∈ wr, ∃ o, h.get? b = some o
  item : ∀ i (s : Shared) (Q : Option Value → Shared → Prop) (E : Value → Shared → Prop), i < ds.length → St i s.heap →
    (∀ b o, b ∉ wr ++ mu → h₀.get? b = some o → s.heap.get? b = some o) →
    (∀ v h' tk, Mid i v h' → (∀ d mx, ds[i]? = some d → (∀ b ∈ mx, (b ∈ wr ++ mu ∨ h₀.get? b = none) ∧ ∃ o, s.heap.get? b = some o) → At h' mx v d) → (∀ b o, b ∉ wr → s.heap.get? b = some o → h'.get? b = some o) → Q (some v) { s with heap := h', toks := tk }) → F.W (pyNext (.ref I)) Q E s
  go : ∀ i v (tgt : Expr) (s : Shared) (Q : Unit → Shared → Prop) (E : Value → Shared → Prop), T tgt → Mid i v s.heap →
    (∀ h', St (i + 1) h' → (∀ b o, b ∉ wr → s.heap.get? b = some o → h'.get? b = some o) → (∀ d mx, (∀ b ∈ wr, b ∈ mx) → At s.heap mx v d → At h' mx v d) → Q () { s with heap := h' }) → F.W (letOwnedTupleGo tgt (.ref I) v) Q E s
  done : ∀ (s : Shared) (Q : Option Value → Shared → Prop) (E : Value → Shared → Prop), St ds.length s.heap →
    (∀ h' tk, (∀ b o, b ∉ wr → s.heap.get? b = some o → h'.get? b = some o) → Q none { s with heap := h', toks := tk }) → F.W (pyNext (.ref I)) Q E s
  self : ∀ i (s : Shared) (Q : Value → Shared → Prop) (E : Value → Shared → Prop), St i s.heap → Q (.ref I) s → F.W (pyIter (.ref I)) Q E s

/-- what an `iter` of a loop gives -/
noncomputable def ITT (T : Expr → Prop) (F : Fx) (mu : List Addr) (ρ : Vars) (own : Owned) (e : Expr) (ds : List D) : Prop :=
  ∀ (s : Shared) (Q : Value → Shared → Prop) (E : Value → Shared → Prop), Sta F mu ρ own s.heap →
    (∀ s' I fp wr St Mid, Keeps s s' → Wk T F mu I fp wr ds s'.heap St Mid → St 0 s'.heap → (∀ b ∈ fp, b ∉ mu ∧ ∃ o, s'.heap.get? b = some o) → (∀ b ∈ wr, s.heap.get? b = none) → Q (.ref I) s') →
    F.W (eval e F.env) (fun x s₁ => F.W (pyIter x) Q E s₁) E s

noncomputable abbrev IT (F : Fx) (mu : List Addr) (ρ : Vars) (own : Owned) (e : Expr) (ds : List D) : Prop := ITT (fun _ => True) F mu ρ own e ds
/-- the same, of a list that may be one's own -/
noncomputable def ITW (F : Fx) (mu : List Addr) (ρ : Vars) (own : Owned) (e : Expr) (ds : List D) : Prop :=
  ∀ (s : Shared) (Q : Value → Shared → Prop) (E : Value → Shared → Prop), Sta F mu ρ own s.heap →
    (∀ s' I fp wr St Mid, Keeps s s' → Wk (fun _ => True) F mu I fp wr ds s'.heap St Mid → St 0 s'.heap → (∀ b ∈ fp, ∃ o, s'.heap.get? b = some o) → (∀ b ∈ wr, s.heap.get? b = none) → Q (.ref I) s') →
    F.W (eval e F.env) (fun x s₁ => F.W (pyIter x) Q E s₁) E s
theorem IT.w {e : Expr} {ds : List D} (x : IT F mu ρ own e ds) : ITW F mu ρ own e ds := fun s Q E st h => x s Q E st fun s' I fp wr St Mid kk W h0 hf hn => h s' I fp wr St Mid kk W h0 (fun b hb => (hf b hb).2) hn

theorem letgo_plain {I : Addr} {o : Obj} {T : String} {tgt : Expr} {v : Value} {s : Shared} {Q : Unit → Shared → Prop} {E : Value → Shared → Prop} (ho : s.heap.get? I = some o) (hc : o.cls = .type T)
    (hT : (["enumerate", "zip", "dict_itemiterator", "dict_reverseitemiterator", "odict_iterator", "itertools.zip_longest", "itertools.pairwise"].contains T) = false) (h : Q () s) :
    F.W (letOwnedTupleGo tgt (.ref I) v) Q E s := by
  have main : ∀ v, F.W (do
    let (.ref r, .ref a) := ((Value.ref I, v) : Value × Value) | return
    let o ← load r
    match o.cls, o.data with
    | .type n, .fields vs =>
      if ["enumerate", "zip", "dict_itemiterator", "dict_reverseitemiterator", "odict_iterator", "itertools.zip_longest", "itertools.pairwise"].contains n && vs[0]? == some (rawInt a) then
        rule "for.unpacks-the-owned-tuple"
        updateField r 0 .none
    | _, _ => pure ()) Q E s := by
    intro v
    cases v with
    | ref a =>
      refine wpAny_bind (wpAny_load ho ?_)
      rw [hc]
      cases o.data with
      | fields vs =>
        show F.W (if (_ && _) = true then _ else _) Q E s
        rw [hT, Bool.false_and]
        exact wpAny_pure h
      | _ => exact wpAny_pure h
    | _ => exact wpAny_pure h
  unfold letOwnedTupleGo
  split
  · exact main v
  · exact main v
  · exact wpAny_pure h

/-- the library's walks -/
theorem Wk.of {I : Addr} {fp wr : List Addr} {ds : List D} {h₀ : Heap} {P : Nat → Value → Prop} {St : Nat → Heap → Prop} {T : String} (W : Walks F.c.prog F.c.w F.A I fp wr ds.length P St)
    (hI : I ∈ wr) (hlv : ∀ i h, St i h → ∀ b ∈ wr, ∃ o, h.get? b = some o) (hcl : ∀ i h o, St i h → h.get? I = some o → o.cls = .type T)
    (hT : (["enumerate", "zip", "dict_itemiterator", "dict_reverseitemiterator", "odict_iterator", "itertools.zip_longest", "itertools.pairwise"].contains T) = false)
    (hat : ∀ i v d, P i v → ds[i]? = some d → At h₀ (wr ++ mu) v d) : Wk (fun _ => True) F mu I fp wr ds h₀ St (fun i v h => St (i + 1) h ∧ P i v) where
  sub := W.sub
  frame := W.frame
  live := hlv
  mid := fun i v h x => hlv _ _ x.1
  item := fun i s Q E hi st up hQ => W.item i s Q E hi st fun v h' tk hP st' kw => hQ v h' tk ⟨st', hP⟩
    (fun d mx hd hmx => (hat i v d hP hd).mono (fun b o hb e => kw b o (fun q => hb (List.mem_append_left _ q)) (up b o hb e)) fun b o hb e hb' => (hmx b hb').1.elim hb fun q => by rw [q] at e; cases e) kw
  go := fun i v tgt s Q E _ x h => by
    obtain ⟨o, ho⟩ := hlv _ _ x.1 I hI
    have := h s.heap x.1 (fun _ _ _ e => e) fun _ _ _ a => a
    exact letgo_plain ho (hcl _ _ _ x.1 ho) hT this
  done := W.done
  self := W.self

/-- a target's binding -/
noncomputable def TG (F : Fx) (tgt : Expr) (d : D) (bs : Vars) : Prop :=
  ∀ (mu : List Addr) (ρ : Vars) (own : Owned) (s : Shared) (v : Value) (Q : Unit → Shared → Prop) (E : Value → Shared → Prop), Sta F mu ρ own s.heap → (∀ p ∈ own, ∀ b ∈ bs, p.1 ≠ b.1) → At s.heap mu v d →
    (∀ h' tk, Sta F mu (bs ++ ρ) own h' → (∀ b o, b ∉ wrt F [] → s.heap.get? b = some o → h'.get? b = some o) → Q () { s with heap := h', toks := tk }) → F.W (assign tgt F.env v) Q E s
theorem tg_name {x : Str} {px : Pos} {d : D} (hx : F.env.kindOf x = some .local ∨ (F.env.kindOf x = some .cell ∧ ∃ a, F.env.cells.lookup x = some a ∧ F.B.get? a = none)) : TG F (.Name x px) d [(x, d)] :=
  fun mu ρ own s v Q E st hno a h => wpAny_assign_Name (store st a hx (fun p hp => hno p hp (x, d) (by simp)) h)

/-- the walk's own places turn -/
theorem Sta.walked {h h' : Heap} {wr : List Addr} (st : Sta F (wr ++ mu) ρ own h) (hB : ∀ b ∈ wr, F.B.get? b = none) (hmu : ∀ b ∈ wr, b ∉ mu) (ok : FxOk F mu own) (hw : ∀ b ∈ wr, ∃ o, h'.get? b = some o)
    (k : ∀ b o, b ∉ wr → h.get? b = some o → h'.get? b = some o) : Sta F (wr ++ mu) ρ own h' := by
  obtain ⟨m, cm, h1, h2, h3, h4⟩ := st.ex
  have nin : ∀ b, b ∉ wr ++ mu → b ∉ wr := fun b hb hb' => hb (List.mem_append_left _ hb')
  have off : ∀ b, b ∈ mu → b ∉ wr := fun b hb hb' => hmu b hb' hb
  refine ⟨st.ok, fun b hb => ?_, fun b o e => k b o (fun hb => by rw [hB b hb] at e; cases e) (st.keep b o e), m, cm, h1.at' fun o e => k _ o (off _ ok.lm) e, fun x a e => ?_, fun x d e => ?_, fun p hp => ?_⟩
  · by_cases hbw : b ∈ wr
    · exact hw b hbw
    · obtain ⟨o, ho⟩ := st.live b hb; exact ⟨o, k b o hbw ho⟩
  · obtain ⟨o, ho, hd⟩ := h2 x a e
    exact ⟨o, k _ o (off _ (ok.cell x a e).2) ho, hd⟩
  · obtain ⟨v, e1, e2⟩ := h3 x d e
    exact ⟨v, e1, e2.mono (fun b o hb e => k b o (nin b hb) e) fun _ _ hb _ => hb⟩
  · obtain ⟨e1, vs, e2, e3⟩ := h4 p hp
    exact ⟨e1, vs, e2.at fun o e => k _ o (off _ (ok.od p hp).1) e, e3.mono (fun b o hb e => k b o (nin b hb) e) fun _ _ hb _ => hb⟩
theorem Sta.out {h h' : Heap} {wr : List Addr} (st : Sta F (wr ++ mu) ρ own h) (hB : ∀ b ∈ wr, F.B.get? b = none) (hmu : ∀ b ∈ wr, b ∉ mu) (ok : FxOk F mu own)
    (k : ∀ b o, b ∉ wr → h.get? b = some o → h'.get? b = some o) : Sta F mu ρ own h' := by
  obtain ⟨m, cm, h1, h2, h3, h4⟩ := st.ex
  have nin : ∀ b, b ∉ wr ++ mu → b ∉ wr := fun b hb hb' => hb (List.mem_append_left _ hb')
  have off : ∀ b, b ∈ mu → b ∉ wr := fun b hb hb' => hmu b hb' hb
  have sub : ∀ b, b ∈ mu → b ∈ wr ++ mu := fun b hb => List.mem_append_right _ hb
  refine ⟨ok, fun b hb => ?_, fun b o e => k b o (fun hb => by rw [hB b hb] at e; cases e) (st.keep b o e), m, cm, h1.at' fun o e => k _ o (off _ ok.lm) e, fun x a e => ?_, fun x d e => ?_, fun p hp => ?_⟩
  · obtain ⟨o, ho⟩ := st.live b (sub b hb); exact ⟨o, k b o (off b hb) ho⟩
  · obtain ⟨o, ho, hd⟩ := h2 x a e
    exact ⟨o, k _ o (off _ (ok.cell x a e).2) ho, hd⟩
  · obtain ⟨v, e1, e2⟩ := h3 x d e
    exact ⟨v, e1, e2.mono (fun b o hb e => k b o (nin b hb) e) fun b _ hb _ hb' => hb (sub b hb')⟩
  · obtain ⟨e1, vs, e2, e3⟩ := h4 p hp
    exact ⟨e1, vs, e2.at fun o e => k _ o (off _ (ok.od p hp).1) e, e3.mono (fun b o hb e => k b o (nin b hb) e) fun b _ hb _ hb' => hb (sub b hb')⟩
theorem FxOk.owns {own' : Owned} (ok : FxOk F mu own) (e : own'.map (fun p => (p.1, p.2.1)) = own.map (fun p => (p.1, p.2.1))) : FxOk F mu own' := by
  have mem : ∀ p ∈ own', ∃ q ∈ own, q.1 = p.1 ∧ q.2.1 = p.2.1 := fun p hp => by
    have : (p.1, p.2.1) ∈ own.map (fun p => (p.1, p.2.1)) := e ▸ List.mem_map.mpr ⟨p, hp, rfl⟩
    obtain ⟨q, hq, eq⟩ := List.mem_map.mp this
    exact ⟨q, hq, (Prod.mk.inj eq).1, (Prod.mk.inj eq).2⟩
  refine ⟨ok.hh, ok.un, ok.kind, ok.gl, ok.bl, ok.root, ok.lm, ok.ln, ok.cell, ok.one, ok.apart, fun p hp => ?_, ?_, ?_⟩
  · obtain ⟨q, hq, e1, e2⟩ := mem p hp
    rw [← e2]; exact ok.od q hq
  · have := ok.oap
    have h1 : (own.map (fun p => (p.1, p.2.1))).Pairwise fun a b => a.2 ≠ b.2 := List.pairwise_map.mpr this
    rw [← e] at h1
    exact (List.pairwise_map (f := fun p : Str × Addr × List D => (p.1, p.2.1)) (R := fun a b : Str × Addr => a.2 ≠ b.2)).mp h1
  · have := ok.onm
    have h1 : (own.map (fun p => (p.1, p.2.1))).Pairwise fun a b => a.1 ≠ b.1 := List.pairwise_map.mpr this
    rw [← e] at h1
    exact (List.pairwise_map (f := fun p : Str × Addr × List D => (p.1, p.2.1)) (R := fun a b : Str × Addr => a.1 ≠ b.1)).mp h1

theorem st_for {T : Expr → Prop} {tgt : Expr} {pos : Pos} {iter : Expr} {body : List Stmt} {ds : List D} (it : ITT T F mu ρ own iter ds) (bs : Nat → D → Vars) (hno : ∀ i d, ∀ p ∈ own, ∀ b ∈ bs i d, p.1 ≠ b.1)
    (ρi : Nat → Vars) (owni : Nat → Owned) (h0 : ∀ y d, (ρi 0).lookup y = some d → ρ.lookup y = some d) (o0 : owni 0 = own)
    (oadr : ∀ i, (owni i).map (fun p => (p.1, p.2.1)) = own.map (fun p => (p.1, p.2.1)))
    (tg : ∀ (i : Nat) (d : D), ds[i]? = some d → TG F tgt d (bs i d))
    (turn : ∀ (B' : Heap) (mu' : List Addr) (i : Nat) (d : D), ds[i]? = some d →
      ST (F.on B') (Sta (F.on B') mu' (bs i d ++ ρi i) (owni i)) body fun f g => (f = .next ∨ f = .cont) ∧ Sta (F.on B') mu' (ρi (i + 1)) (owni (i + 1)) g)
    (hs : ∀ v, foldedSetIterable iter F.env v = pure v := by intro _; rfl) (hT : T tgt := by trivial) :
    ST F (Sta F mu ρ own) [.For tgt iter body [] pos] fun f g => f = .next ∧ Sta F mu (ρi ds.length) (owni ds.length) g := st_last fun s Φ E st k => by
  refine wpAny_For ?_ hs
  refine it s _ _ st fun s' I fp wr Si Mi kk W hst hfp hnew => ?_
  obtain ⟨h₂, t₂, rfl, up⟩ := kk
  have st₂ : Sta F mu ρ own h₂ := st.keeps up
  have hmu : ∀ b ∈ wr, b ∉ mu := fun b hb => (hfp b (W.sub b hb)).1
  have hB : ∀ b ∈ wr, F.B.get? b = none := fun b hb => by
    cases e : F.B.get? b with
    | none => rfl
    | some o => have e' := st.keep b o e; rw [hnew b hb] at e'; cases e'
  have hfr : ∀ v d, At s.heap mu v d → At h₂ (wr ++ mu) v d := fun v d a => a.mono (fun b o _ e => up b o e) fun b o hb e hb' => (List.mem_append.mp hb').elim (fun q => by rw [hnew b q] at e; cases e) hb
  have st₃ : Sta F (wr ++ mu) (ρi 0) (owni 0) h₂ := by
    rw [o0]
    have s1 : Sta F (wr ++ mu) ρ own h₂ := by
      obtain ⟨m, cm, h1, h2, h3, h4⟩ := st.ex
      have sub : ∀ b, b ∈ mu → b ∈ wr ++ mu := fun b hb => List.mem_append_right _ hb
      exact ⟨⟨st.ok.hh, st.ok.un, st.ok.kind, st.ok.gl, st.ok.bl, st.ok.root, sub _ st.ok.lm, st.ok.ln, fun x a e => ⟨(st.ok.cell x a e).1, sub _ (st.ok.cell x a e).2⟩, st.ok.one, st.ok.apart,
        fun p hp => ⟨sub _ (st.ok.od p hp).1, (st.ok.od p hp).2⟩, st.ok.oap, st.ok.onm⟩, fun b hb => (List.mem_append.mp hb).elim (W.live 0 h₂ hst b) (st₂.live b), st₂.keep, m, cm, h1.keeps up, fun x a e => (h2 x a e).keeps up,
        fun x d e => let ⟨v, e1, e2⟩ := h3 x d e; ⟨v, e1, hfr v d e2⟩, fun p hp => let ⟨e1, vs, e2, e3⟩ := h4 p hp; ⟨e1, vs, e2.at fun o e => up _ o e, e3.1, fun i v d a b => hfr v d (e3.2 i v d a b)⟩⟩
    exact s1.less h0
  have okm : FxOk F mu own := st.ok
  refine codeAny_forLoop_any (fun n s₄ => ∃ i h tk, s₄ = { s with heap := h, toks := tk } ∧ Si i h ∧ Sta F (wr ++ mu) (ρi i) (owni i) h ∧ i ≤ ds.length ∧ n = ds.length + 1 - i ∧
    (∀ b o, b ∉ wr ++ mu → h₂.get? b = some o → h.get? b = some o) ∧ (∀ b ∈ fp, ∃ o, h.get? b = some o)) ?_ (ds.length + 1)
    ⟨0, h₂, t₂, rfl, hst, st₃, Nat.zero_le _, rfl, fun _ _ _ e => e, fun b hb => (hfp b hb).2⟩
  rintro n s₄ ⟨i, h, tk, rfl, hsi, sti, hi, rfl, hup, hfa⟩
  have oki : FxOk F mu (owni i) := okm.owns (oadr i)
  by_cases hlt : i < ds.length
  · refine W.item i _ _ _ hlt hsi hup fun v h' tk' hMi hat kw => ?_
    have st₅ : Sta F (wr ++ mu) (ρi i) (owni i) h' := sti.walked hB hmu oki (W.mid _ _ _ hMi) kw
    refine W.go i v tgt _ _ _ hT hMi fun h'' hsi'' kw' kat => ?_
    have st₅' : Sta F (wr ++ mu) (ρi i) (owni i) h'' := st₅.walked hB hmu oki (W.live _ _ hsi'') kw'
    obtain ⟨d, hd⟩ : ∃ d, ds[i]? = some d := ⟨ds[i], by simp [hlt]⟩
    have av : At h'' (wr ++ mu) v d := kat d _ (fun b q => List.mem_append_left _ q) (hat d _ hd fun b q => ⟨.inl q, sti.live b q⟩)
    have hno' : ∀ p ∈ owni i, ∀ b ∈ bs i d, p.1 ≠ b.1 := fun p hp => by
      have : (p.1, p.2.1) ∈ own.map (fun p => (p.1, p.2.1)) := oadr i ▸ List.mem_map.mpr ⟨p, hp, rfl⟩
      obtain ⟨q, hq, eq⟩ := List.mem_map.mp this
      rw [← (Prod.mk.inj eq).1]; exact hno i d q hq
    refine tg i d hd _ _ _ { s with heap := h'', toks := tk' } v _ _ st₅' hno' av fun h6 tk6 st₆ up6' => ?_
    have up6 : ∀ b o, b ∉ wrt F (owni i) → h''.get? b = some o → h6.get? b = some o := fun b o hb e => up6' b o (fun q => hb (wrt_sub q)) e
    obtain ⟨st₇, k1, k2⟩ := st₆.rebase
    refine turn (hide (wrt F (owni i)) h6) (wr ++ mu) i d hd { s with heap := h6, toks := tk6 } _ _ st₇ fun f h8 tk8 q => ?_
    obtain ⟨hf, st₈⟩ := q
    have st₉ : Sta F (wr ++ mu) (ρi (i + 1)) (owni (i + 1)) h8 :=
      ⟨(st₆.ok.owns ((oadr (i + 1)).trans (oadr i).symm)), st₈.live, fun b o e => st₈.keep b o (k1 b o e), st₈.ex⟩
    have hfp' : ∀ b ∈ fp, ∀ o, h''.get? b = some o → h8.get? b = some o := fun b hb o e => by
      have nw : b ∉ wrt F (owni i) := fun q => (hfp b hb).1 (wrt_none oki q).2
      refine st₈.keep b o ?_
      show (hide _ _).get? b = _
      rw [get_hide, if_neg nw]; exact up6 b o nw e
    have fin : ∃ m, m < ds.length + 1 - i ∧ ∃ i h tk, ({ s with heap := h8, toks := tk8 } : Shared) = { s with heap := h, toks := tk } ∧ Si i h ∧ Sta F (wr ++ mu) (ρi i) (owni i) h ∧ i ≤ ds.length ∧ m = ds.length + 1 - i ∧
      (∀ b o, b ∉ wr ++ mu → h₂.get? b = some o → h.get? b = some o) ∧ (∀ b ∈ fp, ∃ o, h.get? b = some o) := by
      refine ⟨ds.length + 1 - (i + 1), by lia, i + 1, h8, tk8, rfl, W.frame _ _ _ hsi'' hfp', st₉, hlt, rfl, fun b o hb e => ?_, fun b hb => ?_⟩
      · have nb : b ∉ wr := fun q => hb (List.mem_append_left _ q)
        refine st₈.keep b o (k2 b o hb (up6 b o (fun q => hb (wrt_none st₅.ok q).2) (kw' b o nb (kw b o nb (hup b o hb e)))))
      · by_cases hbw : b ∈ wr
        · exact W.live _ _ (W.frame _ _ _ hsi'' hfp') b hbw
        · obtain ⟨o, ho⟩ := hfa b hb
          exact ⟨o, hfp' b hb o (kw' b o hbw (kw b o hbw ho))⟩
    rcases hf with rfl | rfl <;> exact fin
  · have hin : i = ds.length := by lia
    subst hin
    refine W.done _ _ _ hsi fun h' tk' kw => wpAny_execs_nil ?_
    refine k .next h' tk' ⟨rfl, ?_⟩
    exact sti.out hB hmu oki kw
end
end Mine
end

section
set_option Elab.async false
set_option maxRecDepth 100000
set_option autoImplicit false
set_option linter.unusedVariables false
namespace Mine
open PySem PySem.Calls PyProof.Rows PySem.W

section
variable {F : Fx} {mu : List Addr} {ρ : Vars} {own : Owned}

theorem fresh_none (h : Heap) : h.get? h.objs.size = none := Heap.get?_none_of_le (Nat.le_refl _)

/-- the items of a list -/
theorem it_list {e : Expr} {ds : List D} (x : PE F mu ρ own e (.lst ds)) : IT F mu ρ own e ds := fun s Q E st h => by
  refine x s _ _ st fun v s₁ kk a => ?_
  obtain ⟨l, vs, rfl, hm, hl, hv⟩ := a.lst_inv
  obtain ⟨h₁, t₁, rfl, up⟩ := kk
  have st₁ : Sta F mu ρ own h₁ := st.keeps up
  refine wpAny_pyIter_list hl ?_
  have hI := fresh_none h₁
  have up2 : ∀ b o, h₁.get? b = some o → (h₁.push { cls := .type "list_iterator", data := .fields #[.ref l, .int 0 0] }).get? b = some o := fun b o e => Heap.get?_push_of_some _ e
  obtain ⟨ol, hol, _⟩ := id hl
  have hne : l ≠ h₁.objs.size := Nat.ne_of_lt (Heap.lt_size hol)
  have W := Walks.list (prog := F.c.prog) (w := F.c.w) st.ok.hh h₁.objs.size l hne vs.toArray
  have hsz : vs.toArray.size = ds.length := by rw [List.size_toArray]; exact hv.1
  rw [hsz] at W
  refine h { s with heap := h₁.push { cls := .type "list_iterator", data := .fields #[.ref l, .int 0 0] }, toks := t₁ } _ _ _ _ _ ⟨_, _, rfl, fun b o e => up2 b o (up b o e)⟩
    (Wk.of (T := "list_iterator") W List.mem_cons_self ?_ (fun i g o ⟨⟨o', ho', hc', _⟩, _⟩ e => by rw [ho'] at e; cases e; exact hc') (by decide) ?_)
    ⟨⟨_, Heap.get?_push_size _ rfl, rfl, rfl⟩, IsList_at hl fun o => up2 _ o⟩ ?_ ?_
  · rintro i g ⟨⟨o, ho, _⟩, _⟩ b hb
    rw [List.mem_singleton.mp hb]; exact ⟨o, ho⟩
  · intro i v d hP hd
    have hP' : vs[i]? = some v := by simpa using hP
    refine (hv.2 i v d hP' hd).mono (fun b o _ e => up2 b o e) fun b o hb e hb' => ?_
    rcases List.mem_append.mp hb' with hb' | hb'
    · rw [List.mem_singleton.mp hb', hI] at e; cases e
    · exact hb hb'
  · intro b hb
    rcases List.mem_cons.mp hb with rfl | hb
    · exact ⟨st₁.live.fresh, _, Heap.get?_push_size _ rfl⟩
    · rw [List.mem_singleton.mp hb]; exact ⟨hm, ol, up2 _ _ hol⟩
  · intro b hb
    rw [List.mem_singleton.mp hb]
    cases e : s.heap.get? h₁.objs.size with
    | none => rfl
    | some o => rw [up _ _ e] at hI; cases hI

theorem it_str_go {x : Str} {T : String} {t : Tok} {s : Shared} {h₁ : Heap} {t₁ : Nat} {o : Obj} {Q : Value → Shared → Prop} (hT : (["enumerate", "zip", "dict_itemiterator", "dict_reverseitemiterator", "odict_iterator", "itertools.zip_longest", "itertools.pairwise"].contains T) = false) (st : Sta F mu ρ own s.heap) (up : ∀ b o, s.heap.get? b = some o → h₁.get? b = some o)
    (W : Walks F.c.prog F.c.w F.A h₁.objs.size [h₁.objs.size] [h₁.objs.size] x.cps.size (SignAt x) (fun i h => h.IsStrIter h₁.objs.size T x t i)) (hst : (h₁.push o).IsStrIter h₁.objs.size T x t 0)
    (h : ∀ s' I fp wr St Mid, Keeps s s' → Wk (fun _ => True) F mu I fp wr (x.cps.toList.map fun c => D.str ⟨#[c]⟩) s'.heap St Mid → St 0 s'.heap → (∀ b ∈ fp, b ∉ mu ∧ ∃ o, s'.heap.get? b = some o) → (∀ b ∈ wr, s.heap.get? b = none) → Q (.ref I) s') : Q (.ref h₁.objs.size) { s with heap := h₁.push o, toks := t₁ } := by
  have st₁ : Sta F mu ρ own h₁ := st.keeps up
  have hI := fresh_none h₁
  have up2 : ∀ b o', h₁.get? b = some o' → (h₁.push o).get? b = some o' := fun b o' e => Heap.get?_push_of_some _ e
  have hsz : x.cps.size = (x.cps.toList.map fun c => D.str ⟨#[c]⟩).length := by simp
  rw [hsz] at W
  have hlv : ∀ i (h : Heap), h.IsStrIter h₁.objs.size T x t i → ∀ b ∈ [h₁.objs.size], ∃ o, h.get? b = some o := fun i h ⟨o, ho, _⟩ b hb => by
    rw [List.mem_singleton.mp hb]; exact ⟨o, ho⟩
  refine h { s with heap := h₁.push o, toks := t₁ } _ _ _ _ _ ⟨_, _, rfl, fun b o' e => up2 b o' (up b o' e)⟩
    (Wk.of (T := T) W List.mem_cons_self hlv (fun i g o ⟨o', ho', hc', _⟩ e => by rw [ho'] at e; cases e; exact hc') hT ?hat) hst ?_ ?_
  case hat =>
    rintro i v d ⟨c, u, hc, rfl⟩ hd
    rw [List.getElem?_map] at hd
    have : x.cps.toList[i]? = some c := by simpa using hc
    rw [this] at hd; cases hd
    exact .str _ _
  · intro b hb
    rw [List.mem_singleton.mp hb]
    exact ⟨st₁.live.fresh, hlv 0 _ hst _ (by simp)⟩
  · intro b hb
    rw [List.mem_singleton.mp hb]
    cases e : s.heap.get? h₁.objs.size with
    | none => rfl
    | some o => rw [up _ _ e] at hI; cases hI
/-- the signs of a text -/
theorem it_str {e : Expr} {x : Str} (y : PE F mu ρ own e (.str x)) : IT F mu ρ own e (x.cps.toList.map fun c => .str ⟨#[c]⟩) := fun s Q E st h => by
  refine y s _ _ st fun v s₁ kk a => ?_
  obtain ⟨t, rfl⟩ := a.str_inv
  obtain ⟨h₁, t₁, rfl, up⟩ := kk
  cases ha : x.cps.all (· < 128)
  · exact wpAny_pyIter_wide ha (it_str_go (by decide) (s := s) (h₁ := h₁) st up (Walks.strWide st.ok.hh _ x t) ⟨_, Heap.get?_push_size _ rfl, rfl, rfl⟩ h)
  · exact wpAny_pyIter_ascii ha (it_str_go (by decide) (s := s) (h₁ := h₁) st up (Walks.strAscii st.ok.hh _ x t) ⟨_, Heap.get?_push_size _ rfl, rfl, rfl⟩ h)

/-- the octets of bytes -/
theorem it_byt {e : Expr} {x : Array UInt8} (y : PE F mu ρ own e (.byt x)) : IT F mu ρ own e (x.toList.map fun c => .int c.toNat) := fun s Q E st h => by
  refine y s _ _ st fun v s₁ kk a => ?_
  obtain ⟨t, rfl⟩ := a.byt_inv
  obtain ⟨h₁, t₁, rfl, up⟩ := kk
  have st₁ : Sta F mu ρ own h₁ := st.keeps up
  refine KBw.pyIter_bytes ?_
  have hI := fresh_none h₁
  have W := KBw.walks (prog := F.c.prog) (w := F.c.w) st.ok.hh h₁.objs.size x t
  have hsz : x.size = (x.toList.map fun c => D.int c.toNat).length := by simp
  rw [hsz] at W
  have up2 : ∀ b o', h₁.get? b = some o' → (h₁.push { cls := .type "bytes_iterator", data := .fields #[.bytes x t, .int 0 0] }).get? b = some o' := fun b o' e => Heap.get?_push_of_some _ e
  refine h { s with heap := h₁.push { cls := .type "bytes_iterator", data := .fields #[.bytes x t, .int 0 0] }, toks := t₁ } _ _ _ _ _ ⟨_, _, rfl, fun b o' e => up2 b o' (up b o' e)⟩
    (Wk.of (T := "bytes_iterator") W List.mem_cons_self (fun i g ⟨o, ho, _⟩ b hb => by rw [List.mem_singleton.mp hb]; exact ⟨o, ho⟩) (fun i g o ⟨o', ho', hc', _⟩ e => by rw [ho'] at e; cases e; exact hc') (by decide) ?hat)
    ⟨_, Heap.get?_push_size _ rfl, rfl, rfl⟩ ?_ ?_
  case hat =>
    rintro i v d ⟨c, u, hc, rfl⟩ hd
    rw [List.getElem?_map] at hd
    have : x.toList[i]? = some c := by simpa using hc
    rw [this] at hd; cases hd
    exact .int _ _
  · intro b hb
    rw [List.mem_singleton.mp hb]
    exact ⟨st₁.live.fresh, _, Heap.get?_push_size _ rfl⟩
  · intro b hb
    rw [List.mem_singleton.mp hb]
    cases e : s.heap.get? h₁.objs.size with
    | none => rfl
    | some o => rw [up _ _ e] at hI; cases hI

/-- a, a + 1, .. : n of them -/
noncomputable def ups (a : Int) (n : Nat) : List D := (List.range n).map fun i => .int (a + (i : Nat))
theorem ups_length (a : Int) (n : Nat) : (ups a n).length = n := by simp [ups]
theorem ups_get {a : Int} {n i : Nat} {d : D} (h : (ups a n)[i]? = some d) : i < n ∧ d = .int (a + (i : Nat)) := by
  unfold ups at h
  rw [List.getElem?_map] at h
  by_cases hi : i < n
  · rw [List.getElem?_range hi] at h; cases h; exact ⟨hi, rfl⟩
  · rw [List.getElem?_eq_none (by simpa using hi)] at h; cases h

theorem small_range {a b : Int} (ha : -100000 ≤ a ∧ a ≤ 100000) (hb : -100000 ≤ b ∧ b ≤ 100000) : Builtin.Range.small a b 1 = true := by
  have e : Builtin.Range.rangeSize a b 1 = if a < b then b - a else 0 := rangeSize_one a b
  unfold Builtin.Range.small
  rw [e]
  have f : ∀ i : Int, -300000 ≤ i → i ≤ 300000 → Builtin.Range.rangeFitsLong i = true := fun i h1 h2 => by
    unfold Builtin.Range.rangeFitsLong
    simp only [Bool.and_eq_true, decide_eq_true_eq]
    constructor
    · exact Int.le_trans (by decide) h1
    · exact Int.lt_of_le_of_lt h2 (by decide)
  rw [f a (by lia) (by lia), f b (by lia) (by lia), f 1 (by lia) (by lia), f _ (by split <;> lia) (by split <;> lia)]
  simp only [Bool.true_and]
  rw [if_pos (show (1 : Int) > 0 by decide), f _ (by lia) (by lia)]
  simp

theorem range_go {a b : Int} {t u v : Tok} {r : Addr} {s s₁ : Shared} {Q : Value → Shared → Prop} {E : Value → Shared → Prop} (st : Sta F mu ρ own s.heap) (kk : Keeps s s₁) (hr : IsRange s₁.heap r a b 1 t u v)
    (ha : -100000 ≤ a ∧ a ≤ 100000) (hb : -100000 ≤ b ∧ b ≤ 100000)
    (h : ∀ s' I fp wr St Mid, Keeps s s' → Wk (fun _ => True) F mu I fp wr (ups a (b - a).toNat) s'.heap St Mid → St 0 s'.heap → (∀ b ∈ fp, b ∉ mu ∧ ∃ o, s'.heap.get? b = some o) → (∀ b ∈ wr, s.heap.get? b = none) → Q (.ref I) s') : F.W (pyIter (.ref r)) Q E s₁ := by
  obtain ⟨h₁, t₁, rfl, up⟩ := kk
  have st₁ : Sta F mu ρ own h₁ := st.keeps up
  refine wpAny_pyIter_range hr (small_range ha hb) ?_
  have hI := fresh_none h₁
  have W := Walks.range (prog := F.c.prog) (w := F.c.w) st.ok.hh h₁.objs.size a 1 (b - a).toNat
  rw [← ups_length a (b - a).toNat] at W
  have hz : Builtin.Range.rangeSize a b 1 = ((b - a).toNat : Int) := by rw [rangeSize_one]; split <;> lia
  have up2 : ∀ b' o', h₁.get? b' = some o' → (h₁.push { cls := .type "range_iterator", data := .fields #[rawInt a, rawInt (Builtin.Range.rangeSize a b 1), rawInt 1] }).get? b' = some o' := fun b o' e => Heap.get?_push_of_some _ e
  refine h { s with heap := h₁.push { cls := .type "range_iterator", data := .fields #[rawInt a, rawInt (Builtin.Range.rangeSize a b 1), rawInt 1] }, toks := t₁ } _ _ _ _ _ ⟨_, _, rfl, fun b o' e => up2 b o' (up b o' e)⟩
    (Wk.of (T := "range_iterator") W List.mem_cons_self (fun i g hg b hb => by rw [List.mem_singleton.mp hb]; exact ⟨_, hg⟩) (fun i g o ho' e => by unfold IsRangeIter at ho'; rw [ho'] at e; cases e; rfl) (by decide) ?hat) ?_ ?_ ?_
  case hat =>
    rintro i v d ⟨u, rfl⟩ hd
    obtain ⟨_, rfl⟩ := ups_get hd
    rw [Int.mul_one]
    exact .int _ _
  · show IsRangeIter _ _ _ _ _
    rw [hz, ups_length]
    simp only [Int.natCast_zero, Int.zero_mul, Int.add_zero, Int.sub_zero]
    exact Heap.get?_push_size _ rfl
  · intro b hb
    rw [List.mem_singleton.mp hb]
    exact ⟨st₁.live.fresh, _, Heap.get?_push_size _ rfl⟩
  · intro b hb
    rw [List.mem_singleton.mp hb]
    cases e : s.heap.get? h₁.objs.size with
    | none => rfl
    | some o => rw [up _ _ e] at hI; cases hI

theorem range_name {x : Str} (hx : x = Str.ofString "range") : bootBuiltins x = some (.type "range") := by subst hx; decide +kernel

theorem it_range1 {p pos : Pos} {e : Expr} {b : Int} (x : PE F mu ρ own e (.int b)) (hb : -100000 ≤ b ∧ b ≤ 100000) (hg : F.c.mg (Str.ofString "range") = none)
    (hk : F.env.kindOf (Str.ofString "range") = some .globalImplicit := by rfl) (hs : starEach [e] F.env = [(false, eval e F.env)] := by rfl) :
    IT F mu ρ own (.Call (.Name (Str.ofString "range") p) [e] [] pos) (ups 0 b.toNat) := fun s Q E st h => by
  refine Call_Name rfl ?_
  rw [hs]
  refine pe_builtin st hk hg (range_name rfl) (by decide) ?_ (by decide)
  refine PyProof.Rows.callWith_type rfl (evalArgs_plain (spliced_cons (x s _ _ st fun v s₁ kk a => spliced_nil ?_)))
  obtain ⟨t, rfl⟩ := a.int_inv
  refine call_range_1 ?_
  have := range_go (F := F) (mu := mu) (ρ := ρ) (own := own) (a := 0) (b := b) (s := s) (Q := Q) (E := E) st (ktrans kk (kpush s₁ { cls := .type "range", data := .fields #[.int 0 s₁.toks, .int b t, .int 1 (s₁.toks + 1)] } (s₁.toks + 1 + 1)))
    (IsRange.new s₁.heap 0 b 1 s₁.toks t (s₁.toks + 1)) ⟨by lia, by lia⟩ hb (by rw [Int.sub_zero]; exact h)
  exact this
theorem it_range2 {p pos : Pos} {e e' : Expr} {a b : Int} (x : PE F mu ρ own e (.int a)) (y : PE F mu ρ own e' (.int b)) (ha : -100000 ≤ a ∧ a ≤ 100000) (hb : -100000 ≤ b ∧ b ≤ 100000) (hg : F.c.mg (Str.ofString "range") = none)
    (hk : F.env.kindOf (Str.ofString "range") = some .globalImplicit := by rfl) (hs : starEach [e, e'] F.env = [(false, eval e F.env), (false, eval e' F.env)] := by rfl) :
    IT F mu ρ own (.Call (.Name (Str.ofString "range") p) [e, e'] [] pos) (ups a (b - a).toNat) := fun s Q E st h => by
  refine Call_Name rfl ?_
  rw [hs]
  refine pe_builtin st hk hg (range_name rfl) (by decide) ?_ (by decide)
  refine PyProof.Rows.callWith_type rfl (evalArgs_plain (spliced_cons (x s _ _ st fun v s₁ kk a1 => spliced_cons (y s₁ _ _ (st.keeps (khp kk)) fun w s₂ kk2 a2 => spliced_nil ?_))))
  obtain ⟨t, rfl⟩ := a1.int_inv
  obtain ⟨u, rfl⟩ := a2.int_inv
  refine call_range_2 ?_
  exact range_go (F := F) (mu := mu) (ρ := ρ) (own := own) (a := a) (b := b) (s := s) (Q := Q) (E := E) st (ktrans (ktrans kk kk2) (kpush s₂ { cls := .type "range", data := .fields #[.int a t, .int b u, .int 1 s₂.toks] } (s₂.toks + 1)))
    (IsRange.new s₂.heap a b 1 t u s₂.toks) ha hb h
end
end Mine
end

section
set_option Elab.async false
set_option maxRecDepth 100000
set_option autoImplicit false
set_option linter.unusedVariables false
namespace Mine
open PySem PySem.Calls PyProof.Rows PySem.W

section
variable {F : Fx} {mu : List Addr} {ρ : Vars} {own : Owned}

/-! ## subscripts -/
theorem AtL.get {h : Heap} {vs : List Value} {ds : List D} (x : AtL h mu vs ds) {k : Nat} {d : D} (hd : ds[k]? = some d) : ∃ v, vs[k]? = some v ∧ At h mu v d := by
  have hk : k < ds.length := by
    rcases Nat.lt_or_ge k ds.length with h | h
    · exact h
    · rw [List.getElem?_eq_none h] at hd; cases hd
  have hk' : k < vs.length := x.1 ▸ hk
  exact ⟨vs[k], by simp [hk'], x.2 k _ d (by simp [hk']) hd⟩

theorem getItem_lst {l : Addr} {vs : List Value} {ds : List D} {i : Int} {t : Tok} {k : Nat} {d : D} {s : Shared} {Q : Value → Shared → Prop} {E : Value → Shared → Prop} (hl : s.heap.IsList l vs.toArray) (a : AtL s.heap mu vs ds)
    (hi : seqIndex? i ds.length = some k) (hd : ds[k]? = some d) (hb : -100000 ≤ i ∧ i ≤ 100000) (h : ∀ v, At s.heap mu v d → Q v s) : F.W (getItem (.ref l) (.int i t)) Q E s := by
  obtain ⟨v, hv, av⟩ := a.get hd
  have hlen := a.1
  unfold seqIndex? at hi
  by_cases hneg : i < 0
  · simp only [hneg, if_true] at hi
    split at hi
    · rename_i hc
      cases hi
      simp only [Bool.and_eq_true, decide_eq_true_eq] at hc
      refine wpAny_getItem_list_neg hl hneg (by rw [List.size_toArray]; lia) (by lia) (x := v) ?_ (h v av)
      rw [List.size_toArray, hlen]; simpa using hv
    · cases hi
  · simp only [hneg, if_false] at hi
    split at hi
    · rename_i hc
      cases hi
      simp only [Bool.and_eq_true, decide_eq_true_eq] at hc
      refine wpAny_getItem_list hl (by lia) (by lia) (x := v) ?_ (h v av)
      simpa using hv
    · cases hi
theorem pe_sub_lst {value slice : Expr} {ds : List D} {i : Int} {k : Nat} {d : D} {pos : Pos} (x : PE F mu ρ own value (.lst ds)) (y : PE F mu ρ own slice (.int i)) (hi : seqIndex? i ds.length = some k) (hd : ds[k]? = some d)
    (hb : -100000 ≤ i ∧ i ≤ 100000) (hs : ∀ o i, subscripted slice false o i = operate [o, i] (getItem o i) := by intro _ _; with_unfolding_all rfl) : PE F mu ρ own (.Subscript value slice pos) d := fun s Q E st h => by
  refine Subscript_ (pe_two x y st fun v w s' kk a b st' => ?_)
  obtain ⟨l, vs, rfl, hm, hl, hv⟩ := a.lst_inv
  obtain ⟨t, rfl⟩ := b.int_inv
  exact tail_any hl.typeIs list_getitem_lookup (getItem_lst hl hv hi hd hb fun v av => h v s' kk av) (hs _ _)
theorem pe_sub_tup {value slice : Expr} {ds : List D} {i : Int} {k : Nat} {d : D} {pos : Pos} (x : PE F mu ρ own value (.tup ds)) (y : PE F mu ρ own slice (.int i)) (hi : seqIndex? i ds.length = some k) (hd : ds[k]? = some d)
    (hb : -100000 ≤ i ∧ i ≤ 100000) (hs : ∀ o i, subscripted slice false o i = operate [o, i] (getItem o i) := by intro _ _; with_unfolding_all rfl) : PE F mu ρ own (.Subscript value slice pos) d := fun s Q E st h => by
  refine Subscript_ (pe_two x y st fun v w s' kk a b st' => ?_)
  obtain ⟨l, vs, rfl, hm, hl, hv⟩ := a.tup_inv
  obtain ⟨t, rfl⟩ := b.int_inv
  obtain ⟨v, hv', av⟩ := hv.get hd
  refine tail_any hl.typeIs PySem.F.slot_tuple_getitem.lookup (getItem_tuple hl (by lia) (by lia) (j := k) (by rw [List.size_toArray, hv.1]; exact hi) (x := v) (by simpa using hv') (h v s' kk av)) (hs _ _)

/-! ## slices -/
/-- a bound -/
noncomputable def PB (F : Fx) (mu : List Addr) (ρ : Vars) (own : Owned) : Option Expr → Option Int → Prop
  | none, none => True
  | some e, some i => PE F mu ρ own e (.int i)
  | _, _ => False
theorem PB.go {lo : Option Expr} {i : Option Int} (x : PB F mu ρ own lo i) {s : Shared} {Q : Value → Shared → Prop} {E : Value → Shared → Prop} (st : Sta F mu ρ own s.heap) (h : ∀ v s', Keeps s s' → IsPart v i → Q v s') : F.W (evalPart lo F.env) Q E s := by
  match lo, i, x with
  | none, none, _ => exact evalPart_none_step (h _ _ (krefl s) .none)
  | some e, some i, x => exact evalPart_some_step (x s Q E st fun v s' kk a => by obtain ⟨t, rfl⟩ := a.int_inv; exact h _ _ kk (.int _ _))
/-- an end that a slice has -/
noncomputable def clip (n : Nat) (i : Int) : Nat := if i < 0 then (i + n).toNat else min i.toNat n
theorem AtL.slice {h : Heap} {vs : List Value} {ds : List D} (x : AtL h mu vs ds) (a b : Nat) : AtL h mu ((vs.drop a).take b) ((ds.drop a).take b) := by
  refine ⟨by simp [x.1], fun i v d hv hd => ?_⟩
  rw [List.getElem?_take] at hv hd
  split at hv
  · rename_i hlt
    rw [if_pos hlt] at hd
    rw [List.getElem?_drop] at hv hd
    exact x.2 _ v d hv hd
  · cases hv
theorem pe_slice_lst {value : Expr} {lo hi : Option Expr} {i j : Option Int} {ds : List D} {p pos : Pos} (x : PE F mu ρ own value (.lst ds)) (y : PB F mu ρ own lo i) (z : PB F mu ρ own hi j) (hn : ds.length ≤ 100) :
    PE F mu ρ own (.Subscript value (.Slice lo hi none p) pos) (.lst ((ds.drop (i.elim 0 (clipAt ds.length))).take (j.elim ds.length (clipAt ds.length) - i.elim 0 (clipAt ds.length)))) := fun s Q E st h => by
  refine Subscript_ (x s _ _ st fun v s₁ k₁ a => wpAny_Slice (y.go (st.keeps (khp k₁)) fun vl s₂ k₂ pl => z.go (st.keeps (khp (ktrans k₁ k₂))) fun vu s₃ k₃ pu => ?_))
  rw [evalPart_none]
  refine wpAny_pure ?_
  have kk := ktrans (ktrans k₁ k₂) k₃
  have a' := a.keep (khp (ktrans k₂ k₃))
  obtain ⟨l, vs, rfl, hm, hl, hv⟩ := a'.lst_inv
  have hsz : vs.toArray.size ≤ sizeLine := by rw [sizeLine_eq, List.size_toArray, hv.1]; lia
  refine tail_any (hl.push _).typeIs list_getitem_lookup (ops := [_, _]) (wpAny_getItem_list_slice (hl.push _) (Heap.IsSliceOf.new ..) pl pu .none (by simp) ?_ hsz) rfl
  have e : slicePick vs.toArray i j none = ((vs.drop (i.elim 0 (clipAt vs.length))).take (j.elim vs.length (clipAt vs.length) - i.elim 0 (clipAt vs.length))).toArray := by
    unfold slicePick
    rw [List.size_toArray, sliceBounds_plain]
    simp only [sliceRange_one, pick_run]
  rw [e]
  have st₃ := st.keeps (khp kk)
  have hv' := hv.keep (h' := s₃.heap.push { cls := .type "slice", data := .fields #[vl, vu, .none] }) fun b o e => Heap.get?_push_of_some _ e
  have hlv := st₃.live.keeps (h' := s₃.heap.push { cls := .type "slice", data := .fields #[vl, vu, .none] }) fun b o e => Heap.get?_push_of_some _ e
  refine h _ _ (ktrans kk (ktrans (kpush s₃ _ s₃.toks) (kpush { s₃ with heap := s₃.heap.push _ } _ s₃.toks))) ?_
  have := new_lst hlv (hv'.slice (i.elim 0 (clipAt vs.length)) (j.elim vs.length (clipAt vs.length) - i.elim 0 (clipAt vs.length)))
  rw [hv.1] at this ⊢
  exact this
theorem pe_slice_byt {value : Expr} {lo hi : Option Expr} {i j : Option Int} {b : Array UInt8} {p pos : Pos} (x : PE F mu ρ own value (.byt b)) (y : PB F mu ρ own lo i) (z : PB F mu ρ own hi j) (hn : b.size ≤ 1000) :
    PE F mu ρ own (.Subscript value (.Slice lo hi none p) pos) (.byt (((b.toList.drop (i.elim 0 (clipAt b.size))).take (j.elim b.size (clipAt b.size) - i.elim 0 (clipAt b.size))).toArray)) := fun s Q E st h => by
  refine Subscript_ (x s _ _ st fun v s₁ k₁ a => wpAny_Slice (y.go (st.keeps (khp k₁)) fun vl s₂ k₂ pl => z.go (st.keeps (khp (ktrans k₁ k₂))) fun vu s₃ k₃ pu => ?_))
  rw [evalPart_none]
  refine wpAny_pure ?_
  have kk := ktrans (ktrans k₁ k₂) k₃
  obtain ⟨t, rfl⟩ := a.byt_inv
  rw [← KBc.picked_eq] at h
  refine tail_any (typeIs_bytes _ _ _) FB.slot_bytes_getitem.lookup (ops := [_, _]) (getItem_meets (typeIs_bytes _ _ _) (by decide) FB.slot_bytes_getitem FB.entry_bytes_getitem (FB.args_bytes_getitem_2 _ _) (KBc.meets_slice2 b t _ pl pu)
    ⟨Heap.IsSliceOf.new _ _ _ _, Nat.le_trans (KBc.size_picked_le b i j) (by rw [sizeLine_eq]; lia), fun t' k => ?_⟩) rfl
  exact h _ _ (ktrans kk (kpush s₃ _ k)) (.byt _ _)
end
end Mine
end

section
set_option Elab.async false
set_option maxRecDepth 100000
set_option autoImplicit false
set_option linter.unusedVariables false
namespace Mine
open PySem PySem.Calls PyProof.Rows PySem.W

section
variable {F : Fx} {mu : List Addr} {ρ : Vars} {own : Owned}

theorem AtL.app {h : Heap} {vs ws : List Value} {ds es : List D} (x : AtL h mu vs ds) (y : AtL h mu ws es) : AtL h mu (vs ++ ws) (ds ++ es) := by
  induction vs generalizing ds with
  | nil =>
    have : ds = [] := by simpa using x.1.symm
    subst this; exact y
  | cons v vs ih =>
    cases ds with
    | nil => simpa using x.1
    | cons d ds => obtain ⟨w, ws', e, a, b⟩ := x.inv; cases e; exact AtL.cons a (ih b)

theorem op_add_lst {ds es : List D} (hn : ds.length + es.length ≤ 1000) : Op2 F mu .Add (.lst ds) (.lst es) (.lst (ds ++ es)) := fun s v w Q E hl x y h => by
  obtain ⟨l, vs, rfl, hm, ⟨⟨cls, dd, data, sl⟩, ho, hc, n, hd⟩, hv⟩ := x.lst_inv
  obtain ⟨b, ws, rfl, hm2, ⟨⟨cls2, dd2, data2, sl2⟩, ho2, hc2, n2, hd2⟩, hw⟩ := y.lst_inv
  simp only at hc hd hc2 hd2
  subst hc hd hc2 hd2
  have e : vs.toArray ++ ws.toArray = (vs ++ ws).toArray := by simp
  have hsz : vs.toArray.size + ws.toArray.size ≤ sizeLine := by rw [sizeLine_eq, List.size_toArray, List.size_toArray, hv.1, hw.1]; lia
  refine concat_meets ⟨_, ho, rfl⟩ ⟨_, ho2, rfl⟩ noFill_list_add seq_list_add PySem.F.slot_list_add PySem.F.entry_list_add (PySem.F.args_list_add_2 _ _) (list_addW l b vs.toArray ws.toArray n n2 dd dd2 sl sl2 hsz) ⟨ho, ho2, ?_⟩
  rw [e]
  exact h _ _ (kpush s _ s.toks) (new_lst hl (hv.app hw))

theorem AtL.rep {h : Heap} {vs : List Value} {ds : List D} (x : AtL h mu vs ds) : ∀ n : Nat, AtL h mu (List.replicate n vs).flatten (List.replicate n ds).flatten
  | 0 => AtL.nil
  | n + 1 => by rw [List.replicate_succ, List.replicate_succ, List.flatten_cons, List.flatten_cons]; exact x.app (AtL.rep x n)
theorem op_mul_lst {ds : List D} {x : Int} (hx : 0 ≤ x ∧ x ≤ 100) (hn : ds.length ≤ 100) : Op2 F mu .Mult (.lst ds) (.int x) (.lst (List.replicate x.toNat ds).flatten) := fun s v w Q E hl a b h => by
  obtain ⟨l, vs, rfl, hm, ⟨⟨cls, d, data, sl⟩, ho, hcl, k, hd⟩, hv⟩ := a.lst_inv
  obtain ⟨u, rfl⟩ := b.int_inv
  simp only at hcl hd
  subst hcl hd
  have h1 : vs.toArray.size * x.toNat ≤ 10000 := by
    rw [List.size_toArray, hv.1]
    exact Nat.le_trans (Nat.mul_le_mul hn (show x.toNat ≤ 100 by lia)) (by decide)
  refine wpAny_binaryOp_repeat_ref (T := "list") (U := "int") (by decide) ⟨_, ho, rfl⟩ (fun s' => typeIs_int s' x u) noFill_list_mul PySem.F.fills_int_mul PySem.F.slot_int_rmul repeat_list PySem.F.slot_int_index.lookup
    (call_meets PySem.F.slot_int_rmul (typeIs_int s x u) PySem.F.entry_int_rmul (PySem.F.args_int_rmul_2 _ _) (lm_int_rmul_list_any x u l vs.toArray k d sl)
      ⟨ho, rfl, ⟨_, ho, rfl⟩, call_meets PySem.F.slot_list_mul ⟨_, ho, rfl⟩ PySem.F.entry_list_mul (PySem.F.args_list_mul_2 _ _)
        (lm_list_mul_any l vs.toArray k d sl x u (by simp [Builtin.List.listFitsIndex]; lia) (by lia) (by unfold Builtin.List.listTooLong; rw [decide_eq_true_eq, sizeLine_eq]; lia))
        ⟨ho, ?_⟩⟩)
  rw [listMul_foldl_if]
  exact h _ _ (kpush s _ s.toks) (new_lst hl (hv.rep x.toNat))

/-! ## equality of rows -/
/-- what items compare as -/
inductive EqD : D → D → Bool → Prop
  | int (a b : Int) : EqD (.int a) (.int b) (a == b)
  | byt (a b : Array UInt8) : EqD (.byt a) (.byt b) (a == b)
theorem byt_beq (b c : Array UInt8) : (b.toList == c.toList) = (b == c) := by
  rw [Bool.eq_iff_iff, beq_iff_eq, beq_iff_eq]; exact Array.toList_inj
theorem EqD.at {a b : D} {r : Bool} (e : EqD a b r) {A : Around} {s : Shared} {v w : Value} (x : At s.heap mu v a) (y : At s.heap mu w b) : SeqAt.EqAt A s v w r := by
  cases e with
  | int a b =>
    obtain ⟨t, rfl⟩ := x.int_inv; obtain ⟨u, rfl⟩ := y.int_inv
    exact SeqAt.EqAt.int_int a t b u
  | byt a b =>
    obtain ⟨t, rfl⟩ := x.byt_inv; obtain ⟨u, rfl⟩ := y.byt_inv
    intro prog w E Q h
    unfold eqBool
    refine wpAny_holding ?_
    refine wpAny_ite_split (fun hab => ?_) (fun _ => ?_)
    · have e : a = b := by have := eq_of_beq hab; injection this
      subst e
      exact wpAny_bind (wpAny_rule (wpAny_pure (by simpa using h)))
    · refine wpAny_bind (eq_bytes (wpAny_truthy_bool ?_))
      rw [byt_beq]; exact h

theorem cmp_ne_lst {ds es : List D} {e : Nat → Bool} (hu : F.A.units < cLine) (he : ∀ j a b, ds[j]? = some a → es[j]? = some b → EqD a b (e j)) :
    Cmp F mu .NotEq (.lst ds) (.lst es) (!(ds.length == es.length && (List.range ds.length).all e)) := fun s v w Q E x y h => by
  obtain ⟨l, vs, rfl, hm, hl, hv⟩ := x.lst_inv
  obtain ⟨b, ws, rfl, hm2, hb, hw⟩ := y.lst_inv
  by_cases hlen : ds.length = es.length
  · have := SeqAt.RcNeAt.lists (A := F.A) (s := s) (e := e) hl hb (by simp [hv.1, hw.1, hlen]) hu (fun j h1 h2 => by
      have h1' : j < ds.length := by rw [List.size_toArray, hv.1] at h1; exact h1
      have h2' : j < es.length := by rw [List.size_toArray, hw.1] at h2; exact h2
      have ea : ds[j]? = some ds[j] := by simp [h1']
      have eb : es[j]? = some es[j] := by simp [h2']
      exact (he j _ _ ea eb).at (hv.2 j _ _ (by simp [hv.1, h1']) ea) (hw.2 j _ _ (by simp [hw.1, h2']) eb))
    refine this F.c.prog F.c.w E Q ?_
    have := h s (krefl s)
    rw [List.size_toArray, hv.1]
    simpa [hlen] using this
  · have := SeqAt.RcNeAt.lists_lengths (A := F.A) (s := s) hl hb (by simp [hv.1, hw.1, hlen]) hu
    refine this F.c.prog F.c.w E Q ?_
    have := h s (krefl s)
    have e : (ds.length == es.length) = false := by simpa using hlen
    rw [e] at this
    exact this
theorem cmp_ne_tup {ds es : List D} {e : Nat → Bool} (hu : F.A.units < cLine) (he : ∀ j a b, ds[j]? = some a → es[j]? = some b → EqD a b (e j)) :
    Cmp F mu .NotEq (.tup ds) (.tup es) (!((List.range (min ds.length es.length)).all e && ds.length == es.length)) := fun s v w Q E x y h => by
  obtain ⟨l, vs, rfl, hm, hl, hv⟩ := x.tup_inv
  obtain ⟨b, ws, rfl, hm2, hb, hw⟩ := y.tup_inv
  have := SeqAt.RcNeAt.tuples (A := F.A) (s := s) (e := e) hl hb hu (fun j h1 h2 => by
      have h1' : j < ds.length := by rw [List.size_toArray, hv.1] at h1; exact h1
      have h2' : j < es.length := by rw [List.size_toArray, hw.1] at h2; exact h2
      have ea : ds[j]? = some ds[j] := by simp [h1']
      have eb : es[j]? = some es[j] := by simp [h2']
      exact (he j _ _ ea eb).at (hv.2 j _ _ (by simp [hv.1, h1']) ea) (hw.2 j _ _ (by simp [hw.1, h2']) eb))
  refine this F.c.prog F.c.w E Q ?_
  have := h s (krefl s)
  rw [List.size_toArray, List.size_toArray, hv.1, hw.1]
  exact this

theorem all_zip {α : Type} [BEq α] [LawfulBEq α] : ∀ (a b : List α), (a.length == b.length && (List.range a.length).all fun j => a[j]? == b[j]?) = (a == b) := by
  intro a b
  rw [Bool.eq_iff_iff]
  simp only [Bool.and_eq_true, beq_iff_eq, List.all_eq_true, List.mem_range]
  constructor
  · rintro ⟨h1, h2⟩
    refine List.ext_getElem? fun i => ?_
    by_cases hi : i < a.length
    · exact h2 i hi
    · rw [List.getElem?_eq_none (by lia), List.getElem?_eq_none (by lia)]
  · rintro rfl; exact ⟨rfl, fun _ _ => rfl⟩
theorem cmp_ne_ints {a b : List Int} (hu : F.A.units < cLine) : Cmp F mu .NotEq (.lst (a.map .int)) (.lst (b.map .int)) (a != b) := by
  have := cmp_ne_lst (F := F) (mu := mu) (ds := a.map .int) (es := b.map .int) (e := fun j => a[j]? == b[j]?) hu fun j x y hx hy => by
    rw [List.getElem?_map] at hx hy
    obtain ⟨i, hi, rfl⟩ := Option.map_eq_some_iff.mp hx
    obtain ⟨k, hk, rfl⟩ := Option.map_eq_some_iff.mp hy
    rw [hi, hk]; exact .int i k
  rw [List.length_map, List.length_map, all_zip] at this
  exact this
theorem cmp_ne_byts {a b : List (Array UInt8)} (hu : F.A.units < cLine) : Cmp F mu .NotEq (.tup (a.map .byt)) (.tup (b.map .byt)) (a != b) := by
  have := cmp_ne_tup (F := F) (mu := mu) (ds := a.map .byt) (es := b.map .byt) (e := fun j => a[j]? == b[j]?) hu fun j x y hx hy => by
    rw [List.getElem?_map] at hx hy
    obtain ⟨i, hi, rfl⟩ := Option.map_eq_some_iff.mp hx
    obtain ⟨k, hk, rfl⟩ := Option.map_eq_some_iff.mp hy
    rw [hi, hk]; exact .byt i k
  rw [List.length_map, List.length_map] at this
  have e : ((List.range (min a.length b.length)).all (fun j => a[j]? == b[j]?) && a.length == b.length) = (a == b) := by
    rw [← all_zip a b, Bool.and_comm]
    cases h : a.length == b.length with
    | false => rfl
    | true => rw [beq_iff_eq.mp h, Nat.min_self]
  rw [e] at this
  exact this
end
end Mine
end

section
set_option Elab.async false
set_option maxRecDepth 100000
set_option autoImplicit false
set_option linter.unusedVariables false
namespace Mine
open PySem PySem.Calls PyProof.Rows PySem.W

section
variable {F : Fx} {mu : List Addr} {ρ : Vars} {own : Owned}

theorem kup (s : Shared) {h' : Heap} (t : Nat) (k : ∀ b o, s.heap.get? b = some o → h'.get? b = some o) : Keeps s { s with heap := h', toks := t } := ⟨h', t, rfl, k⟩

theorem AtL.one {h : Heap} {vs : List Value} {d : D} (x : AtL h mu vs [d]) : ∃ v, vs = [v] ∧ At h mu v d := by
  obtain ⟨v, vs', rfl, a, b⟩ := x.inv; rw [b.inv_nil]; exact ⟨v, rfl, a⟩
theorem AtL.two {h : Heap} {vs : List Value} {d e : D} (x : AtL h mu vs [d, e]) : ∃ v w, vs = [v, w] ∧ At h mu v d ∧ At h mu w e := by
  obtain ⟨v, vs', rfl, a, b⟩ := x.inv; obtain ⟨w, rfl, c⟩ := b.one; exact ⟨v, w, rfl, a, c⟩
theorem AtL.three {h : Heap} {vs : List Value} {d e f : D} (x : AtL h mu vs [d, e, f]) : ∃ v w u, vs = [v, w, u] ∧ At h mu v d ∧ At h mu w e ∧ At h mu u f := by
  obtain ⟨v, vs', rfl, a, b⟩ := x.inv; obtain ⟨w, u, rfl, c, d⟩ := b.two; exact ⟨v, w, u, rfl, a, c, d⟩

theorem blt_len_lst {ds : List D} (hn : ds.length ≤ 100000) : Blt F mu "len" [.lst ds] (.int ds.length) := fun s vs Q E hh hu hl x0 h => by
  obtain ⟨v, rfl, a⟩ := x0.one
  obtain ⟨l, ws, rfl, hm, hl, hv⟩ := a.lst_inv
  refine call_len_list hl (by rw [List.size_toArray, hv.1]; lia) (h _ _ (ktoks s _) ?_)
  rw [List.size_toArray, hv.1]; exact .int _ _
theorem blt_len_tup {ds : List D} (hn : ds.length ≤ 100000) : Blt F mu "len" [.tup ds] (.int ds.length) := fun s vs Q E hh hu hl x0 h => by
  obtain ⟨v, rfl, a⟩ := x0.one
  obtain ⟨l, ws, rfl, hm, hl, hv⟩ := a.tup_inv
  refine len_tuple hl (by rw [List.size_toArray, hv.1]; lia) ?_
  have := h (.int ws.toArray.size (s.toks + 1)) _ (ktoks s (s.toks + 1 + 1)) (by rw [List.size_toArray, hv.1]; exact .int _ _)
  exact this

/-- numbers as the library writes them -/
theorem ints_of {h : Heap} : ∀ {vs : List Value} {ns : List Int}, AtL h mu vs (ns.map .int) → ∃ xs : Array (Int × Tok), vs.toArray = intItems xs ∧ xs.toList.map (·.1) = ns
  | vs, [], x => by
    have := x.inv_nil; subst this; exact ⟨#[], by simp [intItems], rfl⟩
  | vs, n :: ns, x => by
    obtain ⟨v, ws, rfl, a, b⟩ := x.inv
    obtain ⟨t, rfl⟩ := a.int_inv
    obtain ⟨xs, e1, e2⟩ := ints_of b
    refine ⟨#[(n, t)] ++ xs, ?_, by simp [e2]⟩
    have : (Value.int n t :: ws).toArray = #[.int n t] ++ ws.toArray := by simp
    rw [this, e1]
    simp [intItems]
theorem numAt_eq {xs : Array (Int × Tok)} {ns : List Int} (e : xs.toList.map (·.1) = ns) (i : Nat) : numAt xs i = (ns[i]?).getD 0 := by
  subst e; simp [numAt]

theorem blt_sum {ns : List Int} : Blt F mu "sum" [.lst (ns.map .int)] (.int ns.sum) := fun s vs Q E hh hu hl x0 h => by
  obtain ⟨v, rfl, a⟩ := x0.one
  obtain ⟨l, ws, rfl, hm, hl, hv⟩ := a.lst_inv
  obtain ⟨xs, e1, e2⟩ := ints_of hv
  rw [e1] at hl
  refine sum_intListG hh hl fun h' tk t' k => ?_
  have := h (.int ns.sum t') _ (kup s tk k) (.int _ _)
  rw [preSum_eq, e2, List.take_of_length_le (by rw [← e2]; simp)]
  exact this
theorem blt_max {ns : List Int} {r : Int} (hr : r ∈ ns) (hm : ∀ x ∈ ns, x ≤ r) : Blt F mu "max" [.lst (ns.map .int)] (.int r) := fun s vs Q E hh hu hl x0 h => by
  obtain ⟨v, rfl, a⟩ := x0.one
  obtain ⟨l, ws, rfl, _, hl, hv⟩ := a.lst_inv
  obtain ⟨xs, e1, e2⟩ := ints_of hv
  rw [e1] at hl
  have hsz : xs.size = ns.length := by rw [← e2]; simp
  have hpos : 0 < ns.length := List.length_pos_of_mem hr
  refine max_intList hh hl (by lia) fun v h' tk hi k => ?_
  have := argBest_gt (numAt xs) (xs.size - 1)
  obtain ⟨t, rfl⟩ := intItems_at hi
  obtain ⟨j, hj, e⟩ := List.getElem_of_mem hr
  have h1 := this.2 j (by lia)
  rw [numAt_eq e2 j] at h1
  have hlt : argBest (fun i j => decide (numAt xs i > numAt xs j)) (xs.size - 1) < ns.length := by have := this.1; lia
  have h2 := hm (numAt xs (argBest (fun i j => decide (numAt xs i > numAt xs j)) (xs.size - 1))) (by rw [numAt_eq e2]; simp [hlt])
  have h3 : (ns[j]?).getD 0 = r := by simp [hj, e]
  have e4 : numAt xs (argBest (fun i j => decide (numAt xs i > numAt xs j)) (xs.size - 1)) = r := by lia
  rw [e4]
  exact h _ _ (kup s tk k) (.int _ _)
theorem blt_min {ns : List Int} {r : Int} (hr : r ∈ ns) (hm : ∀ x ∈ ns, r ≤ x) : Blt F mu "min" [.lst (ns.map .int)] (.int r) := fun s vs Q E hh hu hl x0 h => by
  obtain ⟨v, rfl, a⟩ := x0.one
  obtain ⟨l, ws, rfl, _, hl, hv⟩ := a.lst_inv
  obtain ⟨xs, e1, e2⟩ := ints_of hv
  rw [e1] at hl
  have hsz : xs.size = ns.length := by rw [← e2]; simp
  have hpos : 0 < ns.length := List.length_pos_of_mem hr
  refine min_intList hh hl (by lia) fun v h' tk hi k => ?_
  have := argBest_lt (numAt xs) (xs.size - 1)
  obtain ⟨t, rfl⟩ := intItems_at hi
  obtain ⟨j, hj, e⟩ := List.getElem_of_mem hr
  have h1 := this.2 j (by lia)
  rw [numAt_eq e2 j] at h1
  have hlt : argBest (fun i j => decide (numAt xs i < numAt xs j)) (xs.size - 1) < ns.length := by have := this.1; lia
  have h2 := hm (numAt xs (argBest (fun i j => decide (numAt xs i < numAt xs j)) (xs.size - 1))) (by rw [numAt_eq e2]; simp [hlt])
  have h3 : (ns[j]?).getD 0 = r := by simp [hj, e]
  have e4 : numAt xs (argBest (fun i j => decide (numAt xs i < numAt xs j)) (xs.size - 1)) = r := by lia
  rw [e4]
  exact h _ _ (kup s tk k) (.int _ _)
theorem blt_max2 {a b : Int} : Blt F mu "max" [.int a, .int b] (.int (max a b)) := fun s vs Q E hh hu hl x0 h => by
  obtain ⟨v, w, rfl, x, y⟩ := x0.two
  obtain ⟨t, rfl⟩ := x.int_inv; obtain ⟨u, rfl⟩ := y.int_inv
  refine max_two_ints hh fun h' tk k => ?_
  have q := fun tok => h (.int (max a b) tok) _ (kup s tk k) (.int _ _)
  by_cases c : b > a
  · rw [if_pos c]; have e : max a b = b := by lia
    rw [e] at q; exact q _
  · rw [if_neg c]; have e : max a b = a := by lia
    rw [e] at q; exact q _
theorem blt_min2 {a b : Int} : Blt F mu "min" [.int a, .int b] (.int (min a b)) := fun s vs Q E hh hu hl x0 h => by
  obtain ⟨v, w, rfl, x, y⟩ := x0.two
  obtain ⟨t, rfl⟩ := x.int_inv; obtain ⟨u, rfl⟩ := y.int_inv
  refine min_two_ints hh fun h' tk k => ?_
  have q := fun tok => h (.int (min a b) tok) _ (kup s tk k) (.int _ _)
  by_cases c : b < a
  · rw [if_pos c]; have e : min a b = b := by lia
    rw [e] at q; exact q _
  · rw [if_neg c]; have e : min a b = a := by lia
    rw [e] at q; exact q _
theorem blt_abs {a : Int} : Blt F mu "abs" [.int a] (.int (if a < 0 then -a else a)) := fun s vs Q E hh hu hl x0 h => by
  obtain ⟨v, rfl, x⟩ := x0.one
  obtain ⟨t, rfl⟩ := x.int_inv
  exact call_abs_int fun u tk => h _ _ (ktoks s tk) (.int _ _)
theorem blt_chr {a : Int} (h0 : 0 ≤ a) (h1 : a ≤ 1114111) : Blt F mu "chr" [.int a] (.str ⟨#[a.toNat]⟩) := fun s vs Q E hh hu hl x0 h => by
  obtain ⟨v, rfl, x⟩ := x0.one
  obtain ⟨t, rfl⟩ := x.int_inv
  exact chr_of_range h0 h1 (h _ _ (ktoks s _) (.str _ _))
theorem blt_ord {c : Nat} : Blt F mu "ord" [.str ⟨#[c]⟩] (.int c) := fun s vs Q E hh hu hl x0 h => by
  obtain ⟨v, rfl, x⟩ := x0.one
  obtain ⟨t, rfl⟩ := x.str_inv
  refine ord_of_one rfl (h _ _ (ktoks s _) ?_)
  exact .int _ _
theorem blt_divmod {a b : Int} (hb : b ≠ 0) (hd : Builtin.divisionGoesByPylong a b = false) : Blt F mu "divmod" [.int a, .int b] (.tup [.int (a.fdiv b), .int (a.fmod b)]) := fun s vs Q E hh hu hl x0 h => by
  obtain ⟨v, w, rfl, x, y⟩ := x0.two
  obtain ⟨t, rfl⟩ := x.int_inv; obtain ⟨u, rfl⟩ := y.int_inv
  refine divmod_int hb ?_ (.inl hd)
  refine h _ _ (kpush s _ _) ?_
  exact new_tup hl (AtL.cons (.int _ _) (AtL.cons (.int _ _) AtL.nil))

/-! ## three floats -/
noncomputable def ltF (a b : UInt64) : Bool := Float64.cmp a b == some .lt
noncomputable def maxF (a b c : UInt64) : UInt64 := let x := if ltF a b then b else a; if ltF x c then c else x
noncomputable def minF (a b c : UInt64) : UInt64 := let x := if ltF b a then b else a; if ltF c x then c else x
theorem arg3 (g : Nat → Nat → Bool) : argBest g (3 - 1) = (if g 2 (if g 1 0 = true then 1 else 0) = true then 2 else (if g 1 0 = true then 1 else 0)) := rfl
theorem pick3 {a b c : UInt64} {t u r : Tok} {v : Value} {g : Nat → Nat → Bool} {k10 k21 k20 : Bool} (e10 : g 1 0 = k10) (e21 : g 2 1 = k21) (e20 : g 2 0 = k20)
    (hP : (#[Value.float a t, .float b u, .float c r] : Array Value)[argBest g (3 - 1)]? = some v) : ∃ tok, v = .float (if (if k10 = true then k21 else k20) = true then c else (if k10 = true then b else a)) tok := by
  rw [arg3, e10] at hP
  cases k10 with
  | true =>
    have hP : (#[Value.float a t, .float b u, .float c r] : Array Value)[if g 2 1 = true then 2 else 1]? = some v := hP
    rw [e21] at hP
    cases k21 <;> exact ⟨_, (Option.some.inj hP).symm⟩
  | false =>
    have hP : (#[Value.float a t, .float b u, .float c r] : Array Value)[if g 2 0 = true then 2 else 0]? = some v := hP
    rw [e20] at hP
    cases k20 <;> exact ⟨_, (Option.some.inj hP).symm⟩
theorem pick_max {a b c : UInt64} {t u r : Tok} {v : Value}
    (hP : (#[Value.float a t, .float b u, .float c r] : Array Value)[argBest (fun i j => Flt.ltV ((#[Value.float a t, .float b u, .float c r] : Array Value).getD j .none) ((#[Value.float a t, .float b u, .float c r] : Array Value).getD i .none)) (3 - 1)]? = some v) :
    ∃ tok, v = .float (maxF a b c) tok := by
  obtain ⟨tok, e⟩ := pick3 (k10 := ltF a b) (k21 := ltF b c) (k20 := ltF a c) rfl rfl rfl hP
  refine ⟨tok, e.trans ?_⟩
  unfold maxF
  cases ltF a b <;> rfl
theorem pick_min {a b c : UInt64} {t u r : Tok} {v : Value}
    (hP : (#[Value.float a t, .float b u, .float c r] : Array Value)[argBest (fun i j => Flt.ltV ((#[Value.float a t, .float b u, .float c r] : Array Value).getD i .none) ((#[Value.float a t, .float b u, .float c r] : Array Value).getD j .none)) (3 - 1)]? = some v) :
    ∃ tok, v = .float (minF a b c) tok := by
  obtain ⟨tok, e⟩ := pick3 (k10 := ltF b a) (k21 := ltF c b) (k20 := ltF c a) rfl rfl rfl hP
  refine ⟨tok, e.trans ?_⟩
  unfold minF
  cases ltF b a <;> rfl
theorem blt_maxF {a b c : UInt64} : Blt F mu "max" [.flt a, .flt b, .flt c] (.flt (maxF a b c)) := fun s vs Q E hh hu hl x0 h => by
  obtain ⟨v, w, z, rfl, x, y, z⟩ := x0.three
  obtain ⟨t, rfl⟩ := x.flt_inv; obtain ⟨u, rfl⟩ := y.flt_inv; obtain ⟨r, rfl⟩ := z.flt_inv
  have hT : (s.heap.push { cls := .type "tuple", data := .seq #[.float a t, .float b u, .float c r] }).IsTuple s.heap.objs.size #[.float a t, .float b u, .float c r] := ⟨_, Heap.get?_push_size _ rfl, rfl, 0, rfl⟩
  refine call_max_three (wpAny_pyIter_tuple hT ?_)
  have hsz : (s.heap.push { cls := .type "tuple", data := .seq #[.float a t, .float b u, .float c r] }).objs.size = s.heap.objs.size + 1 := Heap.size_push ..
  refine ⟨_, [_, s.heap.objs.size], [_], _, _, _, _, rfl, Walks.tuple (A := F.A.in1) hh _ s.heap.objs.size (by rw [hsz]; exact Nat.ne_of_lt (Nat.lt_succ_self _)) #[.float a t, .float b u, .float c r],
    ⟨⟨_, Heap.get?_push_size _ rfl, rfl, rfl⟩, hT.push _⟩, fun c hc => ?_, by simp, Flt.cmpOf_gt _ (fun v hv => by simp at hv; rcases hv with rfl | rfl | rfl <;> exact .float _ _), fun v h' tk hP hk => ?_⟩
  · show c < ((s.heap.push _).push _).objs.size
    rw [Heap.size_push, hsz]
    rcases List.mem_cons.mp hc with rfl | hc
    · rw [hsz]; exact Nat.lt_succ_self _
    · rcases List.mem_cons.mp hc with rfl | hc
      · exact Nat.lt_succ_of_lt (Nat.lt_succ_self _)
      · cases hc
  · have hold : ∀ c o, s.heap.get? c = some o → h'.get? c = some o := fun c o e => by
      refine hk c o (fun hm => ?_) (Heap.get?_push_of_some _ (Heap.get?_push_of_some _ e))
      rcases List.mem_cons.mp hm with e1 | hm
      · have := Heap.lt_size e; rw [e1, hsz] at this; exact Nat.lt_irrefl _ (Nat.lt_of_succ_lt this)
      · cases hm
    have hv := pick_max hP
    obtain ⟨tok, rfl⟩ := hv
    exact h _ _ (kup s tk hold) (.flt _ _)
theorem blt_minF {a b c : UInt64} : Blt F mu "min" [.flt a, .flt b, .flt c] (.flt (minF a b c)) := fun s vs Q E hh hu hl x0 h => by
  obtain ⟨v, w, z, rfl, x, y, z⟩ := x0.three
  obtain ⟨t, rfl⟩ := x.flt_inv; obtain ⟨u, rfl⟩ := y.flt_inv; obtain ⟨r, rfl⟩ := z.flt_inv
  have hT : (s.heap.push { cls := .type "tuple", data := .seq #[.float a t, .float b u, .float c r] }).IsTuple s.heap.objs.size #[.float a t, .float b u, .float c r] := ⟨_, Heap.get?_push_size _ rfl, rfl, 0, rfl⟩
  refine call_min_three (wpAny_pyIter_tuple hT ?_)
  have hsz : (s.heap.push { cls := .type "tuple", data := .seq #[.float a t, .float b u, .float c r] }).objs.size = s.heap.objs.size + 1 := Heap.size_push ..
  refine ⟨_, [_, s.heap.objs.size], [_], _, _, _, _, rfl, Walks.tuple (A := F.A.in1) hh _ s.heap.objs.size (by rw [hsz]; exact Nat.ne_of_lt (Nat.lt_succ_self _)) #[.float a t, .float b u, .float c r],
    ⟨⟨_, Heap.get?_push_size _ rfl, rfl, rfl⟩, hT.push _⟩, fun c hc => ?_, by simp, Flt.cmpOf_lt _ (fun v hv => by simp at hv; rcases hv with rfl | rfl | rfl <;> exact .float _ _), fun v h' tk hP hk => ?_⟩
  · show c < ((s.heap.push _).push _).objs.size
    rw [Heap.size_push, hsz]
    rcases List.mem_cons.mp hc with rfl | hc
    · rw [hsz]; exact Nat.lt_succ_self _
    · rcases List.mem_cons.mp hc with rfl | hc
      · exact Nat.lt_succ_of_lt (Nat.lt_succ_self _)
      · cases hc
  · have hold : ∀ c o, s.heap.get? c = some o → h'.get? c = some o := fun c o e => by
      refine hk c o (fun hm => ?_) (Heap.get?_push_of_some _ (Heap.get?_push_of_some _ e))
      rcases List.mem_cons.mp hm with e1 | hm
      · have := Heap.lt_size e; rw [e1, hsz] at this; exact Nat.lt_irrefl _ (Nat.lt_of_succ_lt this)
      · cases hm
    have hv := pick_min hP
    obtain ⟨tok, rfl⟩ := hv
    exact h _ _ (kup s tk hold) (.flt _ _)

/-! ## types called -/
noncomputable def Typ (F : Fx) (mu : List Addr) (T : String) (ds : List D) (r : D) : Prop :=
  ∀ (s : Shared) (vs : List Value) (Q : Value → Shared → Prop) (E : Value → Shared → Prop), F.A.handled = none → F.A.units + 100 < cLine → Live mu s.heap → AtL s.heap mu vs ds →
    (∀ v s', Keeps s s' → At s'.heap mu v r → Q v s') → F.W (call (.type T) vs) Q E s
theorem pe_typ {T : String} {x : Str} {p pos : Pos} {es : List Expr} {ds : List D} {r : D} (C : Typ F mu T ds r) (xs : PEL F mu ρ own es ds)
    (hg : F.c.mg x = none) (hv : bootBuiltins x = some (.type T)) (hn : x ≠ "__name__" := by decide)
    (hk : F.env.kindOf x = some .globalImplicit := by rfl) (hs : starEach es F.env = es.map (fun e => (false, eval e F.env)) := by rfl) (hne : es ≠ [] := by simp)
    (hb : (x == ("__debug__" : Str)) = false := by decide) :
    PE F mu ρ own (.Call (.Name x p) es [] pos) r := fun s Q E st h => by
  refine Call_Name rfl ?_
  rw [hs]
  refine pe_builtin st hk hg hv hn ?_ hb
  cases es with
  | nil => exact absurd rfl hne
  | cons e es =>
    refine PyProof.Rows.callWith_type ?_ ?_
    · show (false || (backTo pos (es.map fun e => (false, eval e F.env))).any (·.1)) = false
      rw [Bool.false_or, List.any_eq_false]
      intro x hx
      unfold backTo at hx
      obtain ⟨y, hy, rfl⟩ := List.mem_map.mp hx
      obtain ⟨z, _, rfl⟩ := List.mem_map.mp hy
      simp
    · show F.W (evalArgs _ true ((false, eval e F.env) :: backTo pos (es.map fun e => (false, eval e F.env))) []) _ E s
      refine evalArgs_plain ?_
      exact xs.go (pos := pos) s _ _ st fun vs s' kk a => C s' vs Q E st.ok.hh st.ok.un (st.live.keeps (khp kk)) a fun v s'' k' a' => h v s'' (ktrans kk k') a'
theorem typ_int {a : Int} : Typ F mu "int" [.int a] (.int a) := fun s vs Q E hh hu hl x0 h => by
  obtain ⟨v, rfl, x⟩ := x0.one
  obtain ⟨t, rfl⟩ := x.int_inv
  exact call_int_int (h _ s (krefl s) (.int _ _))
theorem typ_tuple {ds : List D} (hn : ds.length ≤ 1000) : Typ F mu "tuple" [.lst ds] (.tup ds) := fun s vs Q E hh hu hl x0 h => by
  obtain ⟨v, rfl, x⟩ := x0.one
  obtain ⟨l, ws, rfl, hm, hls, hv⟩ := x.lst_inv
  refine call_tuple_list hls (fun h' k => ?_) (by rw [sizeLine_eq, List.size_toArray, hv.1]; lia)
  exact h _ _ (kup s s.toks fun b o e => Heap.get?_push_of_some _ (k b o e)) (new_tup (hl.keeps k) (hv.keep k))
end
end Mine
end

section
set_option Elab.async false
set_option maxRecDepth 100000
set_option autoImplicit false
set_option linter.unusedVariables false
namespace Mine
open PySem PySem.Calls PyProof.Rows PySem.W

section
variable {F : Fx} {mu : List Addr} {ρ : Vars} {own : Owned}

/-- places of one's own turn -/
theorem Sta.turned {h h' : Heap} {wr : List Addr} (st : Sta F mu ρ own h) (hB : ∀ b ∈ wr, F.B.get? b = none ∧ b ∈ mu ∧ b ≠ F.env.locals ∧ (∀ x a, F.env.cells.lookup x = some a → a ≠ b) ∧ ∀ p ∈ own, p.2.1 ≠ b)
    (hw : ∀ b ∈ wr, ∃ o, h'.get? b = some o) (k : ∀ b o, b ∉ wr → h.get? b = some o → h'.get? b = some o) : Sta F mu ρ own h' := by
  obtain ⟨m, cm, h1, h2, h3, h4⟩ := st.ex
  have up : ∀ b o, b ∉ mu → h.get? b = some o → h'.get? b = some o := fun b o hb e => k b o (fun q => hb (hB b q).2.1) e
  refine ⟨st.ok, fun b hb => ?_, fun b o e => k b o (fun q => by rw [(hB b q).1] at e; cases e) (st.keep b o e), m, cm, h1.at' fun o e => k _ o (fun q => (hB _ q).2.2.1 rfl) e, fun x a e => ?_, fun x d e => ?_, fun p hp => ?_⟩
  · by_cases hbw : b ∈ wr
    · exact hw b hbw
    · obtain ⟨o, ho⟩ := st.live b hb; exact ⟨o, k b o hbw ho⟩
  · obtain ⟨o, ho, hd⟩ := h2 x a e
    exact ⟨o, k _ o (fun q => (hB _ q).2.2.2.1 x a e rfl) ho, hd⟩
  · obtain ⟨v, e1, e2⟩ := h3 x d e
    exact ⟨v, e1, e2.mono up fun _ _ hb _ => hb⟩
  · obtain ⟨e1, vs, e2, e3⟩ := h4 p hp
    exact ⟨e1, vs, e2.at fun o e => k _ o (fun q => (hB _ q).2.2.2.2 p hp rfl) e, e3.mono up fun _ _ hb _ => hb⟩

/-- a comprehension's tests -/
noncomputable def PIF (F : Fx) (mu : List Addr) (ρ : Vars) (own : Owned) (ifs : List Expr) (b : Bool) : Prop :=
  ∀ (s : Shared) (Q : Bool → Shared → Prop) (E : Value → Shared → Prop), Sta F mu ρ own s.heap → (∀ s', Keeps s s' → Q b s') →
    F.W (forIn ifs true fun c r => if r = true then do let ok ← isTrue c F.env (eval c F.env); pure (ForInStep.yield ok) else pure (ForInStep.yield r)) Q E s
theorem pif_nil : PIF F mu ρ own [] true := fun s Q E st h => wpAny_tests_nil (h s (krefl s))
theorem pif_one {c : Expr} {b : Bool} (x : PT F mu ρ own c b) : PIF F mu ρ own [c] b := fun s Q E st h => wpAny_tests_one (x s _ _ st h)

theorem comp_loop {prog : Program} {w : World} {A : Around} {s : Shared} {elt target iter : Expr} {ifs : List Expr} {scope : Scope} {pos : Pos} {it acc : Value} {env : Env} {R : Result → Shared → Prop} (I : Nat → Shared → Prop)
    (turn : ∀ n s, I n s → wpAny (model prog w) A (pyNext it) (fun r s₁ => match r with
      | none => R (.ok .next) s₁
      | some v => wpAny (model prog w) A (letOwnedTupleGo target it v) (fun _ s₀ => wpAny (model prog w) A (assign target env v) (fun _ s₂ =>
          wpAny (model prog w) A (forIn ifs true fun c r => if r = true then do let ok ← isTrue c env (eval c env); pure (ForInStep.yield ok) else pure (ForInStep.yield r)) (fun ok s₃ => if ok = true then wpAny (model prog w) A (eval elt env) (fun x s₄ =>
            wpAny (model prog w) A (call (.builtin "list.append") [acc, x]) (fun _ s₅ => ∃ m, m < n ∧ I m s₅) (notedBy (model prog w) A env fun e s' => R (.error e) s') s₄) (notedBy (model prog w) A env fun e s' => R (.error e) s') s₃
            else ∃ m, m < n ∧ I m s₃) (notedBy (model prog w) A env fun e s' => R (.error e) s') s₂)
          (notedBy (model prog w) A env fun e s' => R (.error e) s') s₀) (notedBy (model prog w) A env fun e s' => R (.error e) s') s₁) (notedBy (model prog w) A env fun e s' => R (.error e) s') s)
    (n : Nat) (h : I n s) : codeAny (model prog w) A (.compLoop (.ListComp elt [⟨target, iter, ifs, 0⟩] scope pos) 0 it acc env) R s := by
  refine codeAny_loop rfl I (fun n s hI => ?_) n h
  show wpAny _ A ((compTurn (.ListComp elt [⟨target, iter, ifs, 0⟩] scope pos) 0 it acc env).onRaise (fun x => do noteFrame x env; theTreesLotGoes x)) _ _ s
  refine wpAny_noted ?_
  rw [compTurn_list]
  refine wpAny_bind (wpAny_standAt (wpAny_bind (wpAny_mono (turn n s hI) (fun r s₁ h₁ => ?_) fun _ _ h' => h')))
  cases r with
  | none => exact wpAny_pure h₁
  | some v =>
    refine wpAny_bind (wpAny_mono h₁ (fun _ s₀ h₀' => ?_) fun _ _ h' => h')
    refine wpAny_bind (wpAny_mono h₀' (fun _ s₂ h₂ => ?_) fun _ _ h' => h')
    refine wpAny_bind (wpAny_mono h₂ (fun okb s₃ h₃ => ?_) fun _ _ h' => h')
    cases okb with
    | false => exact wpAny_pure ⟨rfl, h₃⟩
    | true => exact wpAny_bind (wpAny_bind (wpAny_mono h₃ (fun x s₄ h₄ => wpAny_bind (wpAny_mono h₄ (fun _ s₅ h₅ => wpAny_pure (wpAny_pure ⟨rfl, h₅⟩)) fun _ _ h' => h')) fun _ _ h' => h'))

/-- the cells that a comprehension lays itself: none or one -/
noncomputable def newC (jc : Option Str) (n : Addr) : List (Str × Addr) := (jc.map fun j => (j, n)).toList
noncomputable def newA (jc : Option Str) (n : Addr) : List Addr := (jc.map fun _ => n).toList

noncomputable def newH (jc : Option Str) (h : Heap) : Heap := match jc with | none => h | some _ => h.push { cls := .type "cell", data := .cell none }

structure CompOk (F : Fx) (scope : Scope) (cl : List (Str × Addr)) (jc : Option Str) : Prop where
  clos : closureFor scope F.env = pure cl
  kind : scope.kind = .function
  names : ∀ x ∈ scope.names, x.2 = .local → scope.names.lookup x.1 = some .local
  cf : ∀ n, cellsFrom n scope.names cl = newC jc n ++ cl
  pc : ∀ h, pushCells h scope.names = newH jc h
  sub : ∀ x a, cl.lookup x = some a → F.env.cells.lookup x = some a
  one : ∀ x a, (x, a) ∈ cl → cl.lookup x = some a
  jn : ∀ j, jc = some j → cl.lookup j = none

noncomputable abbrev cEnv (F : Fx) (scope : Scope) (cl : List (Str × Addr)) (jc : Option Str) (C : Addr) : Env := compEnvC scope (newC jc (C + 1) ++ cl) C F.env

/-- names seen from within -/
noncomputable def Vis (F : Fx) (scope : Scope) (cl : List (Str × Addr)) (x : Str) : Prop :=
  (cl.lookup x).isSome = true ∧ (F.env.kindOf x = some .cell ∨ F.env.kindOf x = some .free) ∧ ((relabel scope F.env).names.lookup x = some .cell ∨ (relabel scope F.env).names.lookup x = some .free)

theorem cs_look {cl : List (Str × Addr)} {jc : Option Str} {n : Addr} {x : Str} {a : Addr} (h : (newC jc n ++ cl).lookup x = some a) : (jc = some x ∧ a = n) ∨ cl.lookup x = some a := by
  cases jc with
  | none => exact .inr h
  | some j =>
    have h' : ((j, n) :: cl).lookup x = some a := h
    rw [List.lookup_cons] at h'
    cases hx : x == j with
    | true => rw [hx] at h'; cases h'; rw [beq_iff_eq.mp hx]; exact .inl ⟨rfl, rfl⟩
    | false => rw [hx] at h'; exact .inr h'
theorem cs_mem {cl : List (Str × Addr)} {jc : Option Str} {n : Addr} (one : ∀ x a, (x, a) ∈ cl → cl.lookup x = some a) (jn : ∀ j, jc = some j → cl.lookup j = none) {x : Str} {a : Addr} (h : (x, a) ∈ newC jc n ++ cl) : (newC jc n ++ cl).lookup x = some a := by
  cases jc with
  | none => exact one x a h
  | some j =>
    show ((j, n) :: cl).lookup x = some a
    have h' : (x, a) ∈ (j, n) :: cl := h
    rw [List.lookup_cons]
    rcases List.mem_cons.mp h' with e | h'
    · cases e; simp
    · cases hx : x == j with
      | true => have := one x a h'; rw [beq_iff_eq.mp hx, jn j rfl] at this; cases this
      | false => exact one x a h'

theorem seen_comp {scope : Scope} {cl : List (Str × Addr)} {jc : Option Str} (ok : CompOk F scope cl jc) {C : Addr} {m cm : Str → Option Value} {x : Str} {v : Value} (vis : Vis F scope cl x) (e : look F.env m cm x = some v) :
    look (cEnv F scope cl jc C) (fun _ => none) (fun y => if jc = some y then none else cm y) x = some v := by
  obtain ⟨v1, v2, v3⟩ := vis
  obtain ⟨a, ha⟩ := Option.isSome_iff_exists.mp v1
  have hcm : cm x = some v := by
    rcases look_some e with ⟨k1, _⟩ | ⟨_, _, _, e2⟩
    · rcases v2 with v2 | v2 <;> rw [v2] at k1 <;> cases k1
    · exact e2
  have hj : ¬ jc = some x := fun q => by rw [ok.jn x q] at ha; cases ha
  have hl : (newC jc (C + 1) ++ cl).lookup x = some a := by
    cases jc with
    | none => exact ha
    | some j =>
      show ((j, C + 1) :: cl).lookup x = some a
      rw [List.lookup_cons]
      have : (x == j) = false := by
        cases hx : x == j with
        | false => rfl
        | true => exact absurd (by rw [beq_iff_eq.mp hx]) hj
      rw [this]; exact ha
  unfold look
  have kd : Env.kindOf (cEnv F scope cl jc C) x = (relabel scope F.env).names.lookup x := rfl
  have hs : ((cEnv F scope cl jc C).cells.lookup x).isSome = true := by
    show ((newC jc (C + 1) ++ cl).lookup x).isSome = true
    rw [hl]; rfl
  rcases v3 with v3 | v3
  · simp only [kd, v3, hs, if_true, if_neg hj]; exact hcm
  · simp only [kd, v3, hs, if_true, if_neg hj]; exact hcm
theorem newH_facts (jc : Option Str) {h₂ : Heap} {D : Nat} (hD : h₂.objs.size = D) : ∃ h₅, newH jc ((h₂.push { cls := .type "list", dict := none, data := .seq ([] : List Value).toArray }).push { cls := .type "dict", data := .dict #[] }) = h₅ ∧
    (∀ b o, h₂.get? b = some o → h₅.get? b = some o) ∧ h₅.PlainList D ([] : List Value).toArray ∧ h₅.Ns (D + 1) (fun _ => none) ∧ ∀ a ∈ newA jc (D + 1 + 1), h₅.IsCell a none ∧ @Eq Nat a (D + 1 + 1) := by
  have hC : (h₂.push { cls := .type "list", dict := none, data := .seq ([] : List Value).toArray }).objs.size = D + 1 := by rw [Heap.size_push, hD]
  have hC2 : ((h₂.push { cls := .type "list", dict := none, data := .seq ([] : List Value).toArray }).push { cls := .type "dict", data := .dict #[] }).objs.size = D + 1 + 1 := by rw [Heap.size_push, hC]
  obtain ⟨h₅, hh5⟩ : ∃ h₅, newH jc ((h₂.push { cls := .type "list", dict := none, data := .seq ([] : List Value).toArray }).push { cls := .type "dict", data := .dict #[] }) = h₅ := ⟨_, rfl⟩
  have old : ∀ b o, h₂.get? b = some o → h₅.get? b = some o := fun b o e => by
    rw [← hh5]
    cases jc with
    | none => exact Heap.get?_push_of_some _ (Heap.get?_push_of_some _ e)
    | some j => exact Heap.get?_push_of_some _ (Heap.get?_push_of_some _ (Heap.get?_push_of_some _ e))
  have pD : h₅.PlainList D ([] : List Value).toArray := by
    have e1 : (h₂.push { cls := .type "list", dict := none, data := .seq ([] : List Value).toArray }).get? D = some { cls := .type "list", dict := none, data := .seq ([] : List Value).toArray } := hD ▸ Heap.get?_push_size _ rfl
    rw [← hh5]
    cases jc with
    | none => exact ⟨_, Heap.get?_push_of_some _ e1⟩
    | some j => exact ⟨_, Heap.get?_push_of_some _ (Heap.get?_push_of_some _ e1)⟩
  have nC : h₅.Ns (D + 1) (fun _ => none) := by
    have e1 := Heap.Ns.new (h₂.push { cls := .type "list", dict := none, data := .seq ([] : List Value).toArray }) (.type "dict")
    rw [hC] at e1
    rw [← hh5]
    cases jc with
    | none => exact e1
    | some j => exact e1.keeps fun b o e => Heap.get?_push_of_some _ e
  have cC : ∀ a ∈ newA jc (D + 1 + 1), h₅.IsCell a none ∧ @Eq Nat a (D + 1 + 1) := fun a ha => by
    cases jc with
    | none => cases ha
    | some j =>
      have e : a = D + 1 + 1 := List.mem_singleton.mp ha
      subst e
      refine ⟨?_, rfl⟩
      rw [← hh5]
      exact ⟨_, by have := Heap.get?_push_size ((h₂.push { cls := .type "list", dict := none, data := .seq ([] : List Value).toArray }).push { cls := .type "dict", data := .dict #[] }) (o := { cls := .type "cell", data := .cell none }) rfl; rw [hC2] at this; exact this, rfl⟩
  exact ⟨h₅, hh5, old, pD, nC, cC⟩
theorem comp_core {elt iter tgt : Expr} {ifs : List Expr} {scope : Scope} {pos : Pos} {cl : List (Str × Addr)} {jc : Option Str} {ds : List D} {f : D → Option D} {bs : D → Vars} {ρ' : Vars} {own' : Owned}
    (it : ITW F mu ρ own iter ds) (ok : CompOk F scope cl jc) (hn : ds.length ≤ 100000)
    (hρ : ∀ x d, ρ'.lookup x = some d → ρ.lookup x = some d ∧ Vis F scope cl x) (hown : own'.Sublist own) (hvo : ∀ p ∈ own', Vis F scope cl p.1)
    (hbs : ∀ d y e, ρ'.lookup y = some e → (bs d ++ ρ').lookup y = some e) (hbo : ∀ d, ∀ p ∈ own', ∀ b ∈ bs d, p.1 ≠ b.1)
    (tg : ∀ (C : Addr) (B' : Heap) (d : D), d ∈ ds → (∀ a ∈ newA jc (C + 1), B'.get? a = none) → TG ⟨F.c, F.A, cEnv F scope cl jc C, B'⟩ tgt d (bs d))
    (body : ∀ (C : Addr) (B' : Heap) (mu' : List Addr) (d : D), d ∈ ds → PIF ⟨F.c, F.A, cEnv F scope cl jc C, B'⟩ mu' (bs d ++ ρ') own' ifs (f d).isSome ∧
      ∀ r, f d = some r → PE ⟨F.c, F.A, cEnv F scope cl jc C, B'⟩ mu' (bs d ++ ρ') own' elt r)
    {s : Shared} {E : Value → Shared → Prop} (st : Sta F mu ρ own s.heap) (RR : Value → Addr → Result → Shared → Prop)
    (hRR : ∀ D C h tk vs m, (∀ b o, s.heap.get? b = some o → h.get? b = some o) → s.heap.get? D = none → s.heap.get? C = none → C ≠ D → h.PlainList D (List.toArray vs) → AtL h (C :: D :: mu) vs (ds.filterMap f) → h.Ns C m →
      RR (.ref D) C (.ok .next) { s with heap := h, toks := tk }) :
    F.W (eval iter F.env) (fun x s₁ => F.W (pyIter x) (fun I s₂ => F.W (newList []) (fun acc s₃ => F.W (newFunctionEnv scope F.env.globals cl [] F.env.qual none .none (some F.env)) (fun cenv s₄ =>
      codeAny (model F.c.prog F.c.w) F.A (.compStart (.ListComp elt [⟨tgt, iter, ifs, 0⟩] scope pos) 0 I acc { cenv with scope := relabel scope F.env }) (RR acc cenv.locals) s₄) E s₃) E s₂) E s₁) E s := by
  refine it s _ _ st fun s₂ I fp wr Si Mi kk W hst hfp hnew => ?_
  obtain ⟨h₂, t₂, rfl, up⟩ := kk
  have stv : Live mu h₂ := st.live.keeps up
  refine wpAny_newObj_type ?_
  unfold newFunctionEnv
  rw [if_pos (show (some F.env).isSome = true from rfl)]
  refine wpAny_bind (wpAny_alloc ?_)
  refine wpAny_bind (wpAny_layCells _ (fun name kind cells => by cases hkc : kind == NameKind.cell <;> simp [hkc]) _ _ _ _ ?_)
  dsimp only
  generalize hD : h₂.objs.size = D
  have hC : (h₂.push { cls := .type "list", dict := none, data := .seq ([] : List Value).toArray }).objs.size = D + 1 := by rw [Heap.size_push, hD]
  have hC2 : ((h₂.push { cls := .type "list", dict := none, data := .seq ([] : List Value).toArray }).push { cls := .type "dict", data := .dict #[] }).objs.size = D + 1 + 1 := by rw [Heap.size_push, hC]
  rw [hC, hC2, ok.cf, ok.pc]
  -- the heap in which the loop begins
  obtain ⟨h₅, hh5, old, pD, nC, cC⟩ := newH_facts jc hD
  rw [hh5]
  have fresh : ∀ b, @LE.le Nat _ D b → h₂.get? b = none := fun b hb => Heap.get?_none_of_le (hD ▸ hb)
  have lt : ∀ b o, h₂.get? b = some o → @LT.lt Nat _ b D := fun b o e => hD ▸ Heap.lt_size e
  -- the places
  have hwn : ∀ b ∈ wr, s.heap.get? b = none := hnew
  have hwl : ∀ b ∈ wr, @LT.lt Nat _ b D := fun b hb => by obtain ⟨o, e⟩ := W.live 0 h₂ hst b hb; exact lt b o e
  have hml : ∀ b ∈ mu, @LT.lt Nat _ b D := fun b hb => by obtain ⟨o, e⟩ := stv b hb; exact lt b o e
  have hwm : ∀ b ∈ wr, b ∉ mu := fun b hb hb' => by obtain ⟨o, e⟩ := st.live b hb'; rw [hwn b hb] at e; cases e
  obtain ⟨B', hB'⟩ : ∃ B', B' = hide (wr ++ own.map (·.2.1)) h₂ := ⟨_, rfl⟩
  have gB : ∀ b, B'.get? b = if b ∈ wr ++ own.map (·.2.1) then none else h₂.get? b := fun b => by rw [hB', get_hide]
  obtain ⟨F', hF'⟩ : ∃ F' : Fx, F' = ⟨F.c, F.A, cEnv F scope cl jc (D + 1), B'⟩ := ⟨_, rfl⟩
  obtain ⟨mu₁, hmu₁⟩ : ∃ mu₁, mu₁ = D :: (D + 1) :: newA jc (D + 1 + 1) ++ mu := ⟨_, rfl⟩
  have hnA : ∀ a ∈ newA jc (D + 1 + 1), @Eq Nat a (D + 1 + 1) := fun a ha => (cC a ha).2
  have mem₁ : ∀ b, b ∈ mu₁ → b ∈ mu ∨ @LE.le Nat _ D b := fun b hb => by
    rw [hmu₁] at hb
    simp only [List.cons_append, List.mem_cons, List.mem_append] at hb
    rcases hb with rfl | rfl | hb | hb
    · exact .inr (Nat.le_refl _)
    · exact .inr (Nat.le_succ _)
    · have := hnA b hb; exact .inr (by lia)
    · exact .inl hb
  have sub₁ : ∀ b, b ∈ mu → b ∈ mu₁ := fun b hb => by rw [hmu₁]; simp [hb]
  have hwm₁ : ∀ b ∈ wr, b ∉ mu₁ := fun b hb hb' => (mem₁ b hb').elim (hwm b hb) fun q => by have := hwl b hb; lia
  have cellsOld : ∀ x a, cl.lookup x = some a → a ∈ mu ∧ @LT.lt Nat _ a D ∧ a ∉ wr ∧ ∀ p ∈ own, a ≠ p.2.1 := fun x a e => by
    have e' := ok.sub x a e
    have cc := st.ok.cell x a e'
    exact ⟨cc.2, hml a cc.2, fun hw => hwm a hw cc.2, fun p hp => (st.ok.od p hp).2.2.2 x a e'⟩
  have okF : FxOk F' mu₁ own' := by
    subst hF'
    refine ⟨st.ok.hh, st.ok.un, ok.kind, st.ok.gl, st.ok.bl, fun b o e => ?_, ?_, ?_, fun x a e => ?_, fun x a e => cs_mem ok.one ok.jn e, fun x y a e1 e2 => ?_, fun p hp => ?_, st.ok.oap.sublist hown, st.ok.onm.sublist hown⟩
    · have eB := st.ok.root b o e
      have es := st.keep b o eB
      show B'.get? b = some o
      rw [gB, if_neg fun q => ?_]
      · exact up b o es
      · rcases List.mem_append.mp q with q | q
        · rw [hwn b q] at es; cases es
        · obtain ⟨p, hp, rfl⟩ := List.mem_map.mp q
          rw [(st.ok.od p hp).2.1] at eB; cases eB
    · show D + 1 ∈ mu₁
      rw [hmu₁]; simp
    · show B'.get? (D + 1) = none
      rw [gB]; split
      · rfl
      · exact fresh _ (Nat.le_succ _)
    · rcases cs_look e with ⟨hj, rfl⟩ | e
      · refine ⟨show @Ne Nat (D + 1 + 1) (D + 1) by lia, ?_⟩
        rw [hmu₁, hj]; simp [newA]
      · have c := cellsOld x a e
        refine ⟨show @Ne Nat a (D + 1) by have := c.2.1; lia, sub₁ _ c.1⟩
    · rcases cs_look e1 with ⟨hj, rfl⟩ | e1 <;> rcases cs_look e2 with ⟨hj2, e2⟩ | e2
      · rw [hj] at hj2; exact Option.some.inj hj2
      · have := (cellsOld y _ e2).2.1; lia
      · subst e2; have := (cellsOld x _ e1).2.1; lia
      · exact st.ok.apart x y a (ok.sub x a e1) (ok.sub y a e2)
    · have hpo := hown.subset hp
      have od := st.ok.od p hpo
      refine ⟨sub₁ _ od.1, ?_, show @Ne Nat p.2.1 (D + 1) by have := hml _ od.1; lia, fun x a e => ?_⟩
      · show B'.get? p.2.1 = none
        rw [gB, if_pos (List.mem_append_right _ (List.mem_map.mpr ⟨p, hpo, rfl⟩))]
      · rcases cs_look e with ⟨hj, rfl⟩ | e
        · have := hml _ od.1; show @Ne Nat (D + 1 + 1) p.2.1; lia
        · exact (cellsOld x a e).2.2.2 p hpo
  have wB : ∀ b ∈ wr, F'.B.get? b = none := fun b hb => by subst hF'; show B'.get? b = none; rw [gB, if_pos (List.mem_append_left _ hb)]
  have wrtNew : ∀ b ∈ wrt F' [], h₂.get? b = none ∧ b ≠ D := fun b hb => by
    subst hF'
    unfold wrt at hb
    rcases List.mem_cons.mp hb with e | hb
    · have e' : b = D + 1 := e
      subst e'
      exact ⟨fresh _ (Nat.le_succ _), show @Ne Nat (D + 1) D by lia⟩
    · rcases List.mem_append.mp hb with hb | hb
      · obtain ⟨p, hp, rfl⟩ := List.mem_map.mp hb
        obtain ⟨hp, hk⟩ := List.mem_filter.mp hp
        rcases cs_look (cs_mem ok.one ok.jn hp) with ⟨hj, e⟩ | e
        · rw [e]; exact ⟨fresh _ (show @LE.le Nat _ D (D + 1 + 1) by lia), show @Ne Nat (D + 1 + 1) D by lia⟩
        · have c := cellsOld p.1 p.2 e
          obtain ⟨o, ho⟩ := stv _ c.1
          have hk' : (B'.get? p.2).isNone = true := hk
          rw [gB, if_neg (fun q => ?_), ho] at hk'
          · cases hk'
          · rcases List.mem_append.mp q with q | q
            · exact c.2.2.1 q
            · obtain ⟨p', hp', e'⟩ := List.mem_map.mp q
              exact c.2.2.2 p' hp' e'.symm
      · cases hb
  have frOld : ∀ v d, At s.heap mu v d → At h₅ (wr ++ mu₁) v d := fun v d a => a.mono (fun b o _ e => old b o (up b o e)) fun b o hb e hb' => by
    rcases List.mem_append.mp hb' with q | q
    · rw [hwn b q] at e; cases e
    · exact (mem₁ b q).elim hb fun q => by have := lt b o (up b o e); lia
  have liv₅ : Live (wr ++ mu₁) h₅ := fun b hb => by
    rcases List.mem_append.mp hb with q | q
    · obtain ⟨o, e⟩ := W.live 0 h₂ hst b q; exact ⟨o, old b o e⟩
    · rw [hmu₁] at q
      simp only [List.cons_append, List.mem_cons, List.mem_append] at q
      rcases q with rfl | rfl | q | q
      · obtain ⟨n, e⟩ := pD; exact ⟨_, e⟩
      · obtain ⟨o, _, _, ho, _⟩ := nC; exact ⟨o, ho⟩
      · obtain ⟨o, ho, _⟩ := (cC b q).1; exact ⟨o, ho⟩
      · obtain ⟨o, e⟩ := stv b q; exact ⟨o, old b o e⟩
  have subw : ∀ b, b ∈ mu₁ → b ∈ wr ++ mu₁ := fun b hb => List.mem_append_right _ hb
  have okW : FxOk F' (wr ++ mu₁) own' :=
    ⟨okF.hh, okF.un, okF.kind, okF.gl, okF.bl, okF.root, subw _ okF.lm, okF.ln, fun x a e => ⟨(okF.cell x a e).1, subw _ (okF.cell x a e).2⟩, okF.one, okF.apart, fun p hp => ⟨subw _ (okF.od p hp).1, (okF.od p hp).2⟩, okF.oap, okF.onm⟩
  have keepB : ∀ b o, F'.B.get? b = some o → h₂.get? b = some o := fun b o e => by
    subst hF'
    have e' : B'.get? b = some o := e
    rw [gB] at e'
    split at e'
    · cases e'
    · exact e'
  have st₅ : Sta F' (wr ++ mu₁) ρ' own' h₅ := by
    obtain ⟨m, cm, h1, h2, h3, h4⟩ := st.ex
    have seen : ∀ x v, Vis F scope cl x → look F.env m cm x = some v → look F'.env (fun _ => none) (fun y => if jc = some y then none else cm y) x = some v := by
      subst hF'
      exact fun x v vis e => seen_comp ok vis e
    refine ⟨okW, liv₅, fun b o e => old b o (keepB b o e), fun _ => none, fun y => if jc = some y then none else cm y, ?_, fun x a e => ?_, fun x d e => ?_, fun p hp => ?_⟩
    · subst hF'; exact nC
    · subst hF'
      rcases cs_look e with ⟨hj, rfl⟩ | e
      · show h₅.IsCell (D + 1 + 1) (if jc = some x then none else cm x)
        rw [if_pos hj]
        exact (cC _ (by rw [hj]; exact List.mem_cons_self)).1
      · show h₅.IsCell a (if jc = some x then none else cm x)
        rw [if_neg fun q => by rw [ok.jn x q] at e; cases e]
        exact ((h2 x a (ok.sub x a e)).keeps up).keeps old
    · obtain ⟨e1, vis⟩ := hρ x d e
      obtain ⟨v, e2, e3⟩ := h3 x d e1
      exact ⟨v, seen x v vis e2, frOld v d e3⟩
    · obtain ⟨e1, vs, e2, e3⟩ := h4 p (hown.subset hp)
      exact ⟨seen _ _ (hvo p hp) e1, vs, e2.at fun o e => old _ o (up _ o e), e3.1, fun i v d a b => frOld v d (e3.2 i v d a b)⟩
  have hDm : D ∈ mu₁ := by rw [hmu₁]; simp
  have hCm : D + 1 ∈ mu₁ := by rw [hmu₁]; simp
  have hfpD : ∀ b ∈ fp, @LT.lt Nat _ b D := fun b hb => by obtain ⟨o, e⟩ := hfp b hb; exact lt b o e
  have envE : F'.env = cEnv F scope cl jc (D + 1) := by rw [hF']
  have dSafe : F'.B.get? D = none ∧ D ∈ wr ++ mu₁ ∧ D ≠ F'.env.locals ∧ (∀ x a, F'.env.cells.lookup x = some a → a ≠ D) ∧ ∀ p ∈ own', p.2.1 ≠ D := by
    subst hF'
    refine ⟨?_, subw _ hDm, show @Ne Nat D (D + 1) by lia, fun x a e => ?_, fun p hp => ?_⟩
    · show B'.get? D = none
      rw [gB]; split
      · rfl
      · exact fresh _ (Nat.le_refl _)
    · rcases cs_look e with ⟨hj, rfl⟩ | e
      · show @Ne Nat (D + 1 + 1) D; lia
      · have := (cellsOld x a e).2.1; show @Ne Nat a D; lia
    · have := hml _ (st.ok.od p (hown.subset hp)).1; show @Ne Nat p.2.1 D; lia
  have loop : ∀ tk, codeAny (model F.c.prog F.c.w) F.A (.compLoop (.ListComp elt [⟨tgt, iter, ifs, 0⟩] scope pos) 0 (.ref I) (.ref D) (cEnv F scope cl jc (D + 1))) (RR (.ref D) (D + 1)) { s with heap := h₅, toks := tk } := by
    intro tk₀
    refine comp_loop (fun n s' => ∃ i h tk vs, s' = { s with heap := h, toks := tk } ∧ i ≤ ds.length ∧ n = ds.length + 1 - i ∧ Si i h ∧ Sta F' (wr ++ mu₁) ρ' own' h ∧ h.PlainList D (List.toArray vs) ∧ AtL h (wr ++ mu₁) vs ((ds.take i).filterMap f) ∧
      (∀ b o, b ∉ wr → h₂.get? b = some o → h.get? b = some o)) ?_ (ds.length + 1)
      ⟨0, h₅, tk₀, [], rfl, Nat.zero_le _, rfl, W.frame 0 h₂ h₅ hst fun b _ o e => old b o e, st₅, pD, AtL.nil, fun b o _ e => old b o e⟩
    rintro n s' ⟨i, h, tk, vs, rfl, hi, rfl, hsi, sti, hpl, hat, hup⟩
    by_cases hlt : i < ds.length
    · obtain ⟨d, hd⟩ : ∃ d, ds[i]? = some d := ⟨ds[i], by simp [hlt]⟩
      have hdm : d ∈ ds := List.mem_of_getElem? hd
      refine W.item i _ _ _ hlt hsi (fun b o hb e => hup b o (fun q => hb (List.mem_append_left _ q)) e) fun v h' tk' hMi hav kw => ?_
      have av := hav d (wr ++ mu₁) hd fun b hb => by
        refine ⟨?_, sti.live b hb⟩
        rcases List.mem_append.mp hb with q | q
        · exact .inl (List.mem_append_left _ q)
        · rcases mem₁ b q with q' | q'
          · exact .inl (List.mem_append_right _ q')
          · exact .inr (fresh b q')
      have s1 : Sta F' (wr ++ mu₁) ρ' own' h' := sti.walked wB hwm₁ okF (W.mid _ _ _ hMi) kw
      refine W.go i v tgt { s with heap := h', toks := tk' } _ _ trivial hMi fun h'' hsi' kw' kat => ?_
      have s2 : Sta F' (wr ++ mu₁) ρ' own' h'' := s1.walked wB hwm₁ okF (W.live _ _ hsi') kw'
      have kD : D ∉ wr := fun q => by have := hwl D q; lia
      have hpl2 : h''.PlainList D vs.toArray := (hpl.at fun o e => kw D o kD e).at fun o e => kw' D o kD e
      have tgd := tg (D + 1) B' d hdm fun a ha => by
        have e := hnA a ha; subst e
        rw [gB]; split
        · rfl
        · exact fresh _ (by lia)
      rw [← envE]
      have eF : (⟨F.c, F.A, cEnv F scope cl jc (D + 1), B'⟩ : Fx) = F' := hF'.symm
      rw [eF] at tgd
      have tg' := tgd (wr ++ mu₁) ρ' own' { s with heap := h'', toks := tk' } v
      subst hF'
      refine tg' _ _ s2 (hbo d) (kat d _ (fun b q => List.mem_append_left _ q) av) fun h6 tk6 s3 up6 => ?_
      have bo := body (D + 1) B' (wr ++ mu₁) d hdm
      refine bo.1 _ _ _ s3 fun s7 k7 => ?_
      obtain ⟨h7, t7, rfl, up7⟩ := k7
      have s4 := s3.keeps up7
      have off6 : ∀ b o, b ∉ wr → h₂.get? b = some o → h7.get? b = some o := fun b o hb e => up7 b o (up6 b o (fun q => by rw [(wrtNew b q).1] at e; cases e) (kw' b o hb (kw b o hb (hup b o hb e))))
      have hpl3 : h7.PlainList D vs.toArray := (hpl2.at fun o e => up6 D o (fun q => (wrtNew D q).2 rfl) e).at fun o e => up7 D o e
      have hsi7 : Si (i + 1) h7 := W.frame _ _ _ hsi' fun b hb o e => by
        refine up7 b o (up6 b o (fun q => ?_) e)
        have := hfpD b hb
        have q' := wrtNew b q
        obtain ⟨o', e'⟩ := hfp b hb
        have e'' : h₂.get? b = some o' := e'
        rw [q'.1] at e''; cases e''
      have up07 : ∀ b o, b ∉ wr ++ mu₁ → h.get? b = some o → h7.get? b = some o := fun b o hb e => by
        have nb : b ∉ wr := fun q => hb (List.mem_append_left _ q)
        exact up7 b o (up6 b o (fun q => hb (wrt_none s2.ok (wrt_sub q)).2) (kw' b o nb (kw b o nb e)))
      have take : (ds.take (i + 1)).filterMap f = (ds.take i).filterMap f ++ (f d).toList := by
        rw [List.take_add_one, hd, List.filterMap_append]
        cases hfd : f d <;> simp [hfd]
      cases hfd : f d with
      | none =>
        simp only [Option.isSome_none, Bool.false_eq_true, if_false]
        refine ⟨ds.length + 1 - (i + 1), by lia, i + 1, h7, t7, vs, rfl, hlt, rfl, hsi7, s4.less (hbs d), hpl3, ?_, off6⟩
        rw [take, hfd]; simp only [Option.toList_none, List.append_nil]
        exact hat.mono up07 fun _ _ hb _ => hb
      | some r =>
        simp only [Option.isSome_some, if_true]
        refine bo.2 r hfd _ _ _ s4 fun u s8 k8 au => ?_
        obtain ⟨h8, t8, rfl, up8⟩ := k8
        have hpl4 : h8.PlainList D vs.toArray := hpl3.at fun o e => up8 D o e
        have hvl : vs.length ≤ ds.length := by
          have := hat.1
          have h2 : ((ds.take i).filterMap f).length ≤ (ds.take i).length := List.length_filterMap_le _ _
          have h3 : (ds.take i).length ≤ ds.length := by rw [List.length_take]; lia
          lia
        refine wpAny_list_append_plain hpl4 (fun h9 hpl5 sb => ?_) (by rw [sizeLine_eq, List.size_toArray]; lia)
        have kb : ∀ b o, b ∉ [D] → h8.get? b = some o → h9.get? b = some o := fun b o hb e => sb.extBut b o (fun q => hb (by rw [q]; exact List.mem_singleton.mpr rfl)) e
        have s5 := (s4.keeps up8).turned (wr := [D]) (h' := h9) (fun b hb => by rw [List.mem_singleton.mp hb]; exact dSafe) (fun b hb => by rw [List.mem_singleton.mp hb]; obtain ⟨n, e⟩ := hpl5; exact ⟨_, e⟩) kb
        have up09 : ∀ b o, b ∉ wr ++ mu₁ → h8.get? b = some o → h9.get? b = some o := fun b o hb e => kb b o (fun q => by rw [List.mem_singleton.mp q] at hb; exact hb (subw _ hDm)) e
        refine ⟨ds.length + 1 - (i + 1), by lia, i + 1, h9, t8, vs ++ [u], rfl, hlt, rfl, W.frame _ _ _ (W.frame _ _ _ hsi7 fun b _ o e => up8 b o e) fun b hb o e => kb b o (fun q => by rw [List.mem_singleton.mp q] at hb; have := hfpD D hb; lia) e,
          s5.less (hbs d), by simpa using hpl5, ?_, fun b o hb e => kb b o (fun q => by rw [List.mem_singleton.mp q] at e; have := lt D o e; lia) (up8 b o (off6 b o hb e))⟩
        rw [take, hfd]
        exact AtL.snoc ((hat.mono up07 fun _ _ hb _ => hb).mono (fun b o hb e => up09 b o hb (up8 b o e)) fun _ _ hb _ => hb) (au.mono up09 fun _ _ hb _ => hb)
    · have hin : i = ds.length := by lia
      subst hin
      refine W.done _ _ _ hsi fun h' tk' kw => ?_
      have kD : D ∉ wr := fun q => by have := hwl D q; lia
      obtain ⟨m, cm, n1, n2⟩ := sti.ex
      have n1' : h.Ns (D + 1) m := by subst hF'; exact n1
      have hpl' : h'.PlainList D vs.toArray := hpl.at fun o e => kw D o kD e
      refine hRR D (D + 1) h' tk' vs m (fun b o e => kw b o (fun q => by rw [hwn b q] at e; cases e) (hup b o (fun q => by rw [hwn b q] at e; cases e) (up b o e))) ?_ ?_ (show @Ne Nat (D + 1) D by lia) hpl' ?_ (n1'.at' fun o e => kw _ o (fun q => by have := hwl _ q; lia) e)
      · cases e : s.heap.get? D with
        | none => rfl
        | some o => have := lt D o (up D o e); lia
      · cases e : s.heap.get? (D + 1) with
        | none => rfl
        | some o => have := lt (D + 1) o (up (D + 1) o e); lia
      · rw [List.take_length] at hat
        refine hat.mono (fun b o hb e => kw b o (fun q => hb (List.mem_append_left _ q)) e) fun b o hb _ hb' => hb ?_
        rcases List.mem_cons.mp hb' with rfl | hb'
        · exact subw _ hCm
        · rcases List.mem_cons.mp hb' with rfl | hb'
          · exact subw _ hDm
          · exact subw _ (sub₁ _ hb')
  refine wpAny_bind (wpAny_pure ?_)
  refine wpAny_pure ?_
  exact codeAny_compStart_list (loop _) (W.self 0 _ _ _ (W.frame 0 h₂ h₅ hst fun b _ o e => old b o e) (loop _))
end
end Mine
end

section
set_option Elab.async false
set_option maxRecDepth 100000
set_option autoImplicit false
set_option linter.unusedVariables false
namespace Mine
open PySem PySem.Calls PyProof.Rows PySem.W

section
variable {F : Fx} {mu : List Addr} {ρ : Vars} {own : Owned}

/-- an expression that makes a list of its own -/
noncomputable def PN (F : Fx) (mu : List Addr) (ρ : Vars) (own : Owned) (e : Expr) (ds : List D) : Prop :=
  ∀ (s : Shared) (Q : Value → Shared → Prop) (E : Value → Shared → Prop), Sta F mu ρ own s.heap →
    (∀ a s' vs, Keeps s s' → s.heap.get? a = none → s'.heap.PlainList a (List.toArray vs) → AtL s'.heap (a :: mu) vs ds → Q (.ref a) s') → F.W (eval e F.env) Q E s
theorem PN.pe {e : Expr} {ds : List D} (x : PN F mu ρ own e ds) : PE F mu ρ own e (.lst ds) := fun s Q E st h => x s Q E st fun a s' vs kk ha pl at' =>
  h _ s' kk (by
    have sub := at'.mono (mu' := mu) (fun _ _ _ e => e) fun b o hb _ hb' => hb (List.mem_cons_of_mem _ hb')
    refine .lst (fun hm => ?_) pl.isList sub.1 sub.2
    obtain ⟨o, e⟩ := st.live a hm
    rw [ha] at e; cases e)

theorem pn_list {es : List Expr} {ds : List D} {pos : Pos} (x : PEL F mu ρ own es ds) (hn : es.length ≤ 100 := by decide)
    (hs : starEach es F.env = es.map (fun e => (false, eval e F.env)) := by rfl) : PN F mu ρ own (.List es pos) ds := fun s Q E st h => by
  refine List_ ?_
  rw [hs]
  refine x.go s _ _ st fun vs s' kk a => ?_
  have fr : s'.heap.get? s'.heap.objs.size = none := Heap.get?_none_of_le (Nat.le_refl _)
  refine wpAny_newObj_type (h _ _ vs (ktrans kk (kpush s' _ _)) ?_ ⟨_, Heap.get?_push_size _ rfl⟩ ?_) ?_
  · cases e : s.heap.get? s'.heap.objs.size with
    | none => rfl
    | some o => have := khp kk _ _ e; rw [fr] at this; cases this
  · refine a.mono (fun b o _ e => Heap.get?_push_of_some _ e) fun b o hb e hb' => ?_
    rcases List.mem_cons.mp hb' with rfl | hb'
    · rw [fr] at e; cases e
    · exact hb hb'
  · have := a.1
    have := x.len
    show vs.toArray.size ≤ sizeLine
    rw [sizeLine_eq, List.size_toArray]; lia

section
variable {elt iter tgt : Expr} {ifs : List Expr} {scope : Scope} {pos : Pos} {cl : List (Str × Addr)} {jc : Option Str} {ds : List D} {f : D → Option D} {bs : D → Vars} {ρ' : Vars} {own' : Owned}

theorem pn_comp (it : ITW F mu ρ own iter ds) (ok : CompOk F scope cl jc) (hn : ds.length ≤ 100000)
    (hρ : ∀ x d, ρ'.lookup x = some d → ρ.lookup x = some d ∧ Vis F scope cl x) (hown : own'.Sublist own) (hvo : ∀ p ∈ own', Vis F scope cl p.1)
    (hbs : ∀ d y e, ρ'.lookup y = some e → (bs d ++ ρ').lookup y = some e) (hbo : ∀ d, ∀ p ∈ own', ∀ b ∈ bs d, p.1 ≠ b.1)
    (tg : ∀ (C : Addr) (B' : Heap) (d : D), d ∈ ds → (∀ a ∈ newA jc (C + 1), B'.get? a = none) → TG ⟨F.c, F.A, cEnv F scope cl jc C, B'⟩ tgt d (bs d))
    (body : ∀ (C : Addr) (B' : Heap) (mu' : List Addr) (d : D), d ∈ ds → PIF ⟨F.c, F.A, cEnv F scope cl jc C, B'⟩ mu' (bs d ++ ρ') own' ifs (f d).isSome ∧
      ∀ r, f d = some r → PE ⟨F.c, F.A, cEnv F scope cl jc C, B'⟩ mu' (bs d ++ ρ') own' elt r)
    (hs : ∀ x, foldedSetIterable iter F.env x = pure x := by intro _; rfl) :
    PN F mu ρ own (.ListComp elt [⟨tgt, iter, ifs, 0⟩] scope pos) (ds.filterMap f) := fun s Q E st h => by
  show F.W (eval _ _) Q E s
  rw [eval_ListComp]
  refine wpAny_comprehension_free (use := none) rfl hs ok.clos ok.kind ok.names ?_
  refine comp_core it ok hn hρ hown hvo hbs hbo tg body st _ ?_
  intro D C hp tk vs m k hD hC hne pl at' nC
  refine ⟨m, nC, fun h' sb => ?_⟩
  refine h D { s with heap := h', toks := tk } vs ⟨h', tk, rfl, fun b o e => sb.extBut b o (fun q => by rw [q, hC] at e; cases e) (k b o e)⟩ hD (pl.at fun o e => sb.extBut D o (Ne.symm hne) e) ?_
  refine at'.mono (fun b o hb e => sb.extBut b o (fun q => hb (by rw [q]; exact List.mem_cons_self)) e) fun b o hb _ hb' => hb (List.mem_cons_of_mem _ hb')

/-- more places, made since -/
theorem Sta.widen {h h' : Heap} {wr : List Addr} (st : Sta F mu ρ own h) (k : ∀ b o, h.get? b = some o → h'.get? b = some o) (hn : ∀ b ∈ wr, h.get? b = none) (hl : ∀ b ∈ wr, ∃ o, h'.get? b = some o) : Sta F (wr ++ mu) ρ own h' := by
  obtain ⟨m, cm, h1, h2, h3, h4⟩ := st.ex
  have sub : ∀ b, b ∈ mu → b ∈ wr ++ mu := fun b hb => List.mem_append_right _ hb
  have hfr : ∀ v d, At h mu v d → At h' (wr ++ mu) v d := fun v d a => a.mono (fun b o _ e => k b o e) fun b o hb e hb' => (List.mem_append.mp hb').elim (fun q => by rw [hn b q] at e; cases e) hb
  exact ⟨⟨st.ok.hh, st.ok.un, st.ok.kind, st.ok.gl, st.ok.bl, st.ok.root, sub _ st.ok.lm, st.ok.ln, fun x a e => ⟨(st.ok.cell x a e).1, sub _ (st.ok.cell x a e).2⟩, st.ok.one, st.ok.apart,
    fun p hp => ⟨sub _ (st.ok.od p hp).1, (st.ok.od p hp).2⟩, st.ok.oap, st.ok.onm⟩, fun b hb => (List.mem_append.mp hb).elim (hl b) (st.live.keeps k b), fun b o e => k b o (st.keep b o e), m, cm, h1.keeps k, fun x a e => (h2 x a e).keeps k,
    fun x d e => let ⟨v, e1, e2⟩ := h3 x d e; ⟨v, e1, hfr v d e2⟩, fun p hp => let ⟨e1, vs, e2, e3⟩ := h4 p hp; ⟨e1, vs, e2.at fun o e => k _ o e, e3.1, fun i v d a b => hfr v d (e3.2 i v d a b)⟩⟩

theorem st_assign_comp {y : Str} {py spos : Pos} (it : ITW F mu ρ own iter ds) (ok : CompOk F scope cl jc) (hn : ds.length ≤ 100000)
    (hy : F.env.kindOf y = some .local) (hyo : ∀ p ∈ own, p.1 ≠ y)
    (hsw : swapsWith (.ListComp elt [⟨tgt, iter, ifs, 0⟩] scope pos) (some (.Name y py)) spos.line F.env = pure true)
    (hρ : ∀ x d, ρ'.lookup x = some d → ρ.lookup x = some d ∧ Vis F scope cl x) (hown : own'.Sublist own) (hvo : ∀ p ∈ own', Vis F scope cl p.1)
    (hbs : ∀ d y e, ρ'.lookup y = some e → (bs d ++ ρ').lookup y = some e) (hbo : ∀ d, ∀ p ∈ own', ∀ b ∈ bs d, p.1 ≠ b.1)
    (tg : ∀ (C : Addr) (B' : Heap) (d : D), d ∈ ds → (∀ a ∈ newA jc (C + 1), B'.get? a = none) → TG ⟨F.c, F.A, cEnv F scope cl jc C, B'⟩ tgt d (bs d))
    (body : ∀ (C : Addr) (B' : Heap) (mu' : List Addr) (d : D), d ∈ ds → PIF ⟨F.c, F.A, cEnv F scope cl jc C, B'⟩ mu' (bs d ++ ρ') own' ifs (f d).isSome ∧
      ∀ r, f d = some r → PE ⟨F.c, F.A, cEnv F scope cl jc C, B'⟩ mu' (bs d ++ ρ') own' elt r)
    (hs : ∀ x, foldedSetIterable iter F.env x = pure x := by intro _; rfl) :
    ST F (Sta F mu ρ own) [.Assign [.Name y py] (.ListComp elt [⟨tgt, iter, ifs, 0⟩] scope pos) spos] fun fl g => fl = .next ∧ Sta F mu ((y, .lst (ds.filterMap f)) :: ρ) own g := st_last fun s Φ E st kq => by
  show F.W (exec _ _) Φ E s
  rw [exec_Assign_Name_used _ _ _ _ hsw]
  refine wpAny_bind (wpAny_standAt (wpAny_bind ?_))
  show wpAny _ F.A (do let _ ← comprehension (.ListComp elt [⟨tgt, iter, ifs, 0⟩] scope pos) scope F.env _ (newList []) false (eval iter F.env) (some (assign (.Name y py) F.env))) _ _ s
  refine wpAny_bind (wpAny_mono (wpAny_comprehension_free (use := some (assign (.Name y py) F.env)) (Q := fun _ s' => Φ .next s') rfl hs ok.clos ok.kind ok.names
    ?_) (fun _ s' hq => wpAny_pure (wpAny_pure hq)) fun _ _ e => e)
  refine comp_core it ok hn hρ hown hvo hbs hbo tg body st _ ?_
  intro D C hp tk vs m k hD hC hne pl at' nC
  show F.W (assign (.Name y py) F.env (.ref D)) _ _ _
  obtain ⟨oC, _, _, hoC, _⟩ := id nC
  have hCm : C ∉ mu := fun hm => by obtain ⟨o, e⟩ := st.live C hm; rw [hC] at e; cases e
  have st1 : Sta F ([C] ++ mu) ρ own hp := st.widen k (fun b hb => by rw [List.mem_singleton.mp hb]; exact hC) fun b hb => by rw [List.mem_singleton.mp hb]; exact ⟨oC, hoC⟩
  have aD : At hp ([C] ++ mu) (.ref D) (.lst (ds.filterMap f)) := by
    have sub := at'.mono (mu' := [C] ++ mu) (fun _ _ _ e => e) fun b o hb _ hb' => hb (by rcases List.mem_cons.mp hb' with rfl | hb' <;> simp_all)
    refine .lst (fun hm => ?_) pl.isList sub.1 sub.2
    rcases List.mem_cons.mp hm with e | hm
    · exact hne e.symm
    · obtain ⟨o, e⟩ := st.live D hm
      rw [hD] at e; cases e
  refine wpAny_assign_Name (store (s := { s with heap := hp, toks := tk }) st1 aD (.inl hy) hyo fun h2 tk2 st2 up2 => ?_)
  have nCw : C ∉ wrt F [] := fun q => by
    have q' := wrt_none st.ok (wrt_sub (own := own) q)
    exact hCm q'.2
  refine ⟨m, nC.at' fun o e => up2 C o nCw e, fun h'' sb => ?_⟩
  refine kq .next h'' tk2 ⟨rfl, ?_⟩
  refine st2.out (wr := [C]) (fun b hb => ?_) (fun b hb => by rw [List.mem_singleton.mp hb]; exact hCm) st.ok fun b o hb e => sb.extBut b o (fun q => hb (by rw [q]; exact List.mem_singleton.mpr rfl)) e
  rw [List.mem_singleton.mp hb]
  cases e : F.B.get? C with
  | none => rfl
  | some o => have := st.keep C o e; rw [hC] at this; cases this
end

/-! ## lists of one's own -/
theorem store_raw {x : Str} {v : Value} {s : Shared} {Q : Unit → Shared → Prop} {E : Value → Shared → Prop} {m cm : Str → Option Value} (ok : FxOk F mu own)
    (h1 : s.heap.Ns F.env.locals m) (h2 : ∀ y a, F.env.cells.lookup y = some a → s.heap.IsCell a (cm y))
    (hx : F.env.kindOf x = some .local ∨ (F.env.kindOf x = some .cell ∧ ∃ a, F.env.cells.lookup x = some a ∧ F.B.get? a = none))
    (h : ∀ h' tk m' cm', h'.Ns F.env.locals m' → (∀ y a, F.env.cells.lookup y = some a → h'.IsCell a (cm' y)) → look F.env m' cm' x = some v → (∀ y, ¬ y = x → look F.env m' cm' y = look F.env m cm y) →
      (∀ b o, b ∉ wrt F [] → s.heap.get? b = some o → h'.get? b = some o) → (∀ b o, s.heap.get? b = some o → ∃ o', h'.get? b = some o') → Q () { s with heap := h', toks := tk }) : F.W (storeName F.env x v) Q E s := by
  rcases hx with hx | ⟨hx, c, hc, hcB⟩
  · refine wpAny_storeName_local hx h1 (fun h' hn hs => h h' _ _ cm hn (fun y a e => ?_) ?_ (fun y hy => look_setL hy) (fun b o hb e => ns_set hs (fun q => hb (q ▸ List.mem_cons_self)) e) fun b o e => ?_) (by rw [ok.kind]; rfl)
    · obtain ⟨o, ho, hd⟩ := h2 y a e
      exact ⟨o, ns_set hs (ok.cell y a e).1 ho, hd⟩
    · unfold look; rw [hx]; simp
    · by_cases hb : b = F.env.locals
      · subst hb; obtain ⟨o', _, _, ho', _⟩ := hn; exact ⟨o', ho'⟩
      · exact ⟨o, ns_set hs hb e⟩
  · have cc := ok.cell x c hc
    refine wpAny_storeName_cell ok.kind hx hc (h2 x c hc) fun h' hn hs => ?_
    have inw : c ∈ wrt F [] := List.mem_cons_of_mem _ (List.mem_append_left _ (List.mem_map.mpr ⟨(x, c), List.mem_filter.mpr ⟨mem_of_lookup hc, by show (F.B.get? c).isNone = true; rw [hcB]; rfl⟩, rfl⟩))
    refine h h' s.toks m (fun y => if y = x then some v else cm y) (h1.sameBut hs (Ne.symm cc.1)) (fun y a e => ?_) ?_ (fun y hy => look_setC hy) (fun b o hb e => hs.extBut b o (fun q => hb (q ▸ inw)) e) fun b o e => ?_
    · by_cases hy : y = x
      · subst hy
        rw [hc] at e; cases e
        simpa using hn
      · show h'.IsCell a (if y = x then some v else cm y)
        rw [if_neg hy]
        exact (h2 y a e).sameBut hs fun q => hy (ok.apart y x a e (q ▸ hc))
    · unfold look; rw [hx]; simp [hc]
    · by_cases hb : b = c
      · subst hb; obtain ⟨o', ho', _⟩ := hn; exact ⟨o', ho'⟩
      · exact ⟨o, hs.extBut b o hb e⟩

theorem st_own {x : Str} {px pos : Pos} {e : Expr} {ds : List D} (y : PN F mu ρ own e ds)
    (hx : F.env.kindOf x = some .local ∨ (F.env.kindOf x = some .cell ∧ ∃ a, F.env.cells.lookup x = some a ∧ F.B.get? a = none)) (hno : ∀ p ∈ own, p.1 ≠ x) (hnx : ρ.lookup x = none)
    (hs : swapsWith e (some (.Name x px)) pos.line F.env = pure false := by rfl) :
    ST F (Sta F mu ρ own) [.Assign [.Name x px] e pos] fun f g => f = .next ∧ ∃ a, a ∉ mu ∧ FxOk F mu own ∧ Sta F (a :: mu) ρ ((x, a, ds) :: own) g := st_last fun s Φ E st kq =>
  wpAny_Assign_Name (y s _ _ st fun a s' vs kk ha pl at' => by
    obtain ⟨h1, t1, rfl, up⟩ := kk
    have ham : a ∉ mu := fun hm => by obtain ⟨o, e⟩ := st.live a hm; rw [ha] at e; cases e
    obtain ⟨nn, hpl⟩ := id pl
    have st1 : Sta F ([a] ++ mu) ρ own h1 := st.widen up (fun b hb => by rw [List.mem_singleton.mp hb]; exact ha) fun b hb => by rw [List.mem_singleton.mp hb]; exact ⟨_, hpl⟩
    have hBa : F.B.get? a = none := by
      cases e : F.B.get? a with
      | none => rfl
      | some o => have := st.keep a o e; rw [ha] at this; cases this
    obtain ⟨m, cm, e1, e2, e3, e4⟩ := st1.ex
    have naw : a ∉ wrt F [] := fun q => ham (wrt_none st.ok (wrt_sub (own := own) q)).2
    refine store_raw (s := { s with heap := h1, toks := t1 }) st1.ok e1 e2 hx fun h' tk m' cm' n1 n2 n3 n4 up2 lv => ?_
    refine kq .next h' tk ⟨rfl, a, ham, st.ok, ?_⟩
    have nl : a ≠ F.env.locals := fun q => ham (q ▸ st.ok.lm)
    have nc : ∀ x c, F.env.cells.lookup x = some c → c ≠ a := fun x c e q => ham (q ▸ (st.ok.cell x c e).2)
    have upm : ∀ b o, b ∉ a :: mu → h1.get? b = some o → h'.get? b = some o := fun b o hb e => up2 b o (fun q => hb (List.mem_cons_of_mem _ (wrt_none st.ok (wrt_sub (own := own) q)).2)) e
    refine ⟨⟨st1.ok.hh, st1.ok.un, st1.ok.kind, st1.ok.gl, st1.ok.bl, st1.ok.root, st1.ok.lm, st1.ok.ln, st1.ok.cell, st1.ok.one, st1.ok.apart, ?_, ?_, ?_⟩, ?_, ?_, m', cm', n1, n2, ?_, ?_⟩
    · intro p hp
      rcases List.mem_cons.mp hp with rfl | hp
      · exact ⟨List.mem_cons_self, hBa, nl, nc⟩
      · exact st1.ok.od p hp
    · refine List.pairwise_cons.mpr ⟨fun p hp q => ham ?_, st1.ok.oap⟩
      show a ∈ mu
      have q' : a = p.2.1 := q
      rw [q']; exact (st.ok.od p hp).1
    · exact List.pairwise_cons.mpr ⟨fun p hp => (hno p hp).symm, st1.ok.onm⟩
    · intro b hb
      obtain ⟨o, ho⟩ := st1.live b hb
      exact lv b o ho
    · intro b o e
      refine up2 b o (fun q => ?_) (st1.keep b o e)
      rw [(wrt_none st.ok (wrt_sub (own := own) q)).1] at e; cases e
    · intro z d e
      obtain ⟨v, q1, q2⟩ := e3 z d e
      have hz : ¬ z = x := fun q => by rw [q, hnx] at e; cases e
      exact ⟨v, (n4 z hz).trans q1, q2.mono upm fun _ _ hb _ => hb⟩
    · intro p hp
      rcases List.mem_cons.mp hp with rfl | hp
      · exact ⟨n3, vs, pl.at fun o e => up2 a o naw e, at'.mono upm fun _ _ hb _ => hb⟩
      · obtain ⟨q1, ws, q2, q3⟩ := e4 p hp
        refine ⟨(n4 p.1 (hno p hp)).trans q1, ws, q2.at fun o e => up2 _ o (fun q => ?_) e, q3.mono upm fun _ _ hb _ => hb⟩
        have od := st.ok.od p hp
        unfold wrt at q
        rcases List.mem_cons.mp q with q | q
        · exact od.2.2.1 q
        · rcases List.mem_append.mp q with q | q
          · obtain ⟨c, hc, hce⟩ := List.mem_map.mp q
            exact od.2.2.2 c.1 c.2 (st.ok.one _ _ (List.mem_filter.mp hc).1) hce
          · cases q) hs

/-- a list is changed no more -/
theorem Sta.freeze {x : Str} {a : Addr} {ds : List D} {h : Heap} (st : Sta F (a :: mu) ρ ((x, a, ds) :: own) h) (ham : a ∉ mu) (ok : FxOk F mu own) : Sta F mu ((x, .lst ds) :: ρ) own h := by
  obtain ⟨m, cm, h1, h2, h3, h4⟩ := st.ex
  have sub : ∀ b, b ∈ mu → b ∈ a :: mu := fun b hb => List.mem_cons_of_mem _ hb
  obtain ⟨l1, vs, l2, l3⟩ := h4 _ List.mem_cons_self
  refine ⟨ok, fun b hb => st.live b (sub b hb), st.keep, m, cm, h1, h2, fun y d e => ?_, fun p hp => ?_⟩
  · rw [List.lookup_cons] at e
    cases hy : y == x with
    | true =>
      rw [hy] at e; cases e
      have := beq_iff_eq.mp hy; subst this
      have l3' := l3.mono (mu' := mu) (fun _ _ _ e => e) fun b o hb _ hb' => hb (sub b hb')
      exact ⟨_, l1, .lst ham l2.isList l3'.1 l3'.2⟩
    | false =>
      rw [hy] at e
      obtain ⟨v, e1, e2⟩ := h3 y d e
      exact ⟨v, e1, e2.sub sub⟩
  · obtain ⟨e1, vs, e2, e3⟩ := h4 p (List.mem_cons_of_mem _ hp)
    exact ⟨e1, vs, e2, e3.mono (fun _ _ _ e => e) fun b o hb _ hb' => hb (sub b hb')⟩
end
end Mine
end

section
set_option Elab.async false
set_option maxRecDepth 100000
set_option autoImplicit false
set_option linter.unusedVariables false
namespace Mine
open PySem PySem.Calls PyProof.Rows PySem.W

theorem setItem_neg {prog : Program} {w : World} {A : Around} {s : Shared} {E : Value → Shared → Prop} {l : Addr} {items : Array Value} {k : Int} {t : Tok} {v : Value} {Q : Unit → Shared → Prop} (hl : s.heap.PlainList l items)
    (h0 : k < 0) (h1 : -(items.size : Int) ≤ k) (hfit : -(2 ^ 63) ≤ k)
    (hQ : ∀ h', h'.PlainList l (items.setIfInBounds (k + items.size).toNat v) → Heap.SameBut l s.heap h' → Q () { s with heap := h' }) :
    wpAny (model prog w) A (setItem (.ref l) (.int k t) v) Q E s := by
  obtain ⟨n, ho⟩ := id hl
  have hli := hl.isList
  unfold setItem
  try with_reducible refine wpAny_holding ?_
  first | refine wpAny_bind (wpAny_pure ?_) | skip
  refine wpAny_bind (wpAny_sequenceKey hli.typeIs (by decide) ?_)
  refine wpAny_bind (wpAny_callSpecial?_slot (name := Str.ofString "__setitem__") hli.typeIs slot_list_setitem
    (wpAny_call_entry slot_list_setitem hli.typeIs entry_list_setitem ?_ (args_list_setitem _ _ _)))
  show wpAny _ _ (Builtin.List.listSubscript? (.int k t) >>= _) _ _ s
  refine wpAny_bind (wpAny_listSubscript_int (fitsIndex_neg h0 hfit) ?_)
  have hidx := seqIndex_neg h0 h1
  have hj : (k + items.size).toNat < items.size := by lia
  generalize (k + items.size).toNat = j at hidx hj hQ
  clear hfit
  obtain ⟨i, rfl⟩ : ∃ i : Nat, k = Int.negSucc i := by
    cases k with
    | ofNat n => exact absurd h0 (Int.not_lt.mpr (Int.natCast_nonneg n))
    | negSucc n => exact ⟨n, rfl⟩
  have hx' : items[j]? = some items[j] := Array.getElem?_eq_getElem hj
  show wpAny _ _ ((Builtin.List.listItems (.ref l) >>= fun xs => pure ((seqIndex? (Int.negSucc i) xs.size).bind fun i => xs[i]?.map (i, ·))) >>= _) _ _ s
  refine wpAny_bind (wpAny_bind ?_)
  show wpAny _ _ (seqItems? (.ref l) >>= _) _ _ s
  refine wpAny_bind (wpAny_seqItems ho rfl (wpAny_pure (wpAny_pure ?_)))
  rw [hidx]
  simp only [Option.bind_some, hx', Option.map_some]
  show wpAny _ _ (setSeqItemAt l j v >>= _) _ _ s
  have e2 : ∃ n', Obj.mapSeq (·.setIfInBounds j v) { cls := .type "list", data := .seq items n } = { cls := .type "list", data := .seq (items.setIfInBounds j v) n' } := ⟨_, by simp [Obj.mapSeq]; rfl⟩
  obtain ⟨n', e2⟩ := e2
  have hfin : (s.heap.update l (Obj.mapSeq (·.setIfInBounds j v))).PlainList l (items.setIfInBounds j v) :=
    ⟨n', by rw [Heap.get?_update_self _ ho (by rw [e2]; rfl), e2]⟩
  refine wpAny_bind (wpAny_setSeqItemAt ho rfl ?_)
  first
    | exact wpAny_bind (wpAny_pure (wpAny_pure ⟨.none, rfl, wpAny_pure (hQ _ hfin (Heap.SameBut.update ..))⟩))
    | exact wpAny_pure ⟨.none, rfl, wpAny_pure (hQ _ hfin (Heap.SameBut.update ..))⟩

section
variable {F : Fx} {mu : List Addr} {ρ : Vars} {own : Owned}

theorem own_load {x : Str} {a : Addr} {ds : List D} {pos : Pos} {s : Shared} {Q : Value → Shared → Prop} {E : Value → Shared → Prop} (st : Sta F mu ρ own s.heap) (hm : (x, a, ds) ∈ own)
    (h : ∀ vs : List Value, s.heap.PlainList a vs.toArray → AtL s.heap mu vs ds → Q (.ref a) s) (hd : (x == ("__debug__" : Str)) = false := by decide) (hx : (x == ("__classdict__" : Str)) = false := by decide) :
    F.W (eval (.Name x pos) F.env) Q E s := by
  obtain ⟨m, cm, h1, h2, h3, h4⟩ := st.ex
  obtain ⟨e1, vs, e2, e3⟩ := h4 _ hm
  exact wpAny_Name (load_look st.ok.kind h1 h2 e1 hx (h vs e2 e3)) hd

theorem it_own {x : Str} {a : Addr} {ds : List D} {pos : Pos} (hm : (x, a, ds) ∈ own) (hd : (x == ("__debug__" : Str)) = false := by decide) (hx : (x == ("__classdict__" : Str)) = false := by decide) :
    ITW F mu ρ own (.Name x pos) ds := fun s Q E st h => by
  refine own_load st hm (fun vs pl av => ?_) hd hx
  have hl := pl.isList
  obtain ⟨nn, hpl⟩ := id pl
  refine wpAny_pyIter_list hl ?_
  have hI := fresh_none s.heap
  have up2 : ∀ b o, s.heap.get? b = some o → (s.heap.push { cls := .type "list_iterator", data := .fields #[.ref a, .int 0 0] }).get? b = some o := fun b o e => Heap.get?_push_of_some _ e
  have hne : a ≠ s.heap.objs.size := Nat.ne_of_lt (Heap.lt_size hpl)
  have W := Walks.list (prog := F.c.prog) (w := F.c.w) st.ok.hh s.heap.objs.size a hne vs.toArray
  have hsz : vs.toArray.size = ds.length := by rw [List.size_toArray]; exact av.1
  rw [hsz] at W
  refine h { s with heap := s.heap.push { cls := .type "list_iterator", data := .fields #[.ref a, .int 0 0] } } _ _ _ _ _ ⟨_, _, rfl, up2⟩
    (Wk.of (T := "list_iterator") W List.mem_cons_self ?_ (fun i g o ⟨⟨o', ho', hc', _⟩, _⟩ e => by rw [ho'] at e; cases e; exact hc') (by decide) ?_)
    ⟨⟨_, Heap.get?_push_size _ rfl, rfl, rfl⟩, IsList_at hl fun o => up2 _ o⟩ ?_ ?_
  · rintro i g ⟨⟨o, ho, _⟩, _⟩ b hb
    rw [List.mem_singleton.mp hb]; exact ⟨o, ho⟩
  · intro i v d hP hd
    have hP' : vs[i]? = some v := by simpa using hP
    refine (av.2 i v d hP' hd).mono (fun b o _ e => up2 b o e) fun b o hb e hb' => ?_
    rcases List.mem_append.mp hb' with hb' | hb'
    · rw [List.mem_singleton.mp hb', hI] at e; cases e
    · exact hb hb'
  · intro b hb
    rcases List.mem_cons.mp hb with rfl | hb
    · exact ⟨_, Heap.get?_push_size _ rfl⟩
    · rw [List.mem_singleton.mp hb]; exact ⟨_, up2 _ _ hpl⟩
  · intro b hb
    rw [List.mem_singleton.mp hb]; exact hI

/-- a list of one's own holds other items -/
theorem Sta.newItems {x : Str} {a : Addr} {ds es : List D} {h h' : Heap} {vs : List Value} (st : Sta F mu ρ ((x, a, ds) :: own) h) (sb : Heap.SameBut a h h') (pl : h'.PlainList a vs.toArray) (at' : AtL h mu vs es) : Sta F mu ρ ((x, a, es) :: own) h' := by
  obtain ⟨m, cm, h1, h2, h3, h4⟩ := st.ex
  have od := st.ok.od _ List.mem_cons_self
  have kb : ∀ b o, b ≠ a → h.get? b = some o → h'.get? b = some o := fun b o hb e => sb.extBut b o hb e
  have up : ∀ b o, b ∉ mu → h.get? b = some o → h'.get? b = some o := fun b o hb e => kb b o (fun q => hb (q ▸ od.1)) e
  refine ⟨st.ok.owns rfl, fun b hb => ?_, fun b o e => kb b o (fun q => by rw [q, od.2.1] at e; cases e) (st.keep b o e), m, cm, h1.at' fun o e => kb _ o (fun q => od.2.2.1 q.symm) e, fun y c e => ?_, fun y d e => ?_, fun p hp => ?_⟩
  · by_cases hba : b = a
    · subst hba; obtain ⟨n, e⟩ := pl; exact ⟨_, e⟩
    · obtain ⟨o, ho⟩ := st.live b hb; exact ⟨o, kb b o hba ho⟩
  · obtain ⟨o, ho, hd⟩ := h2 y c e
    exact ⟨o, kb _ o (fun q => od.2.2.2 y c e q) ho, hd⟩
  · obtain ⟨v, e1, e2⟩ := h3 y d e
    exact ⟨v, e1, e2.mono up fun _ _ hb _ => hb⟩
  · rcases List.mem_cons.mp hp with rfl | hp
    · exact ⟨(h4 _ List.mem_cons_self).1, vs, pl, at'.mono up fun _ _ hb _ => hb⟩
    · obtain ⟨e1, ws, e2, e3⟩ := h4 p (List.mem_cons_of_mem _ hp)
      have := (List.pairwise_cons.mp st.ok.oap).1 p hp
      exact ⟨e1, ws, e2.at fun o e => kb _ o (fun q => this q.symm) e, e3.mono up fun _ _ hb _ => hb⟩

theorem st_append {x : Str} {a : Addr} {ds : List D} {e : Expr} {d : D} {p1 apos cpos epos : Pos} (y : PE F mu ρ ((x, a, ds) :: own) e d) (hn : ds.length ≤ 100000)
    (hint : interactive F.env = false := by rfl) (hsw : swapsWith (.Call (.Attribute (.Name x p1) "append" apos) [e] [] cpos) none epos.line F.env = pure false := by rfl)
    (hbase : attributeBase (.Name x p1) "append" F.env (eval (.Name x p1) F.env) = eval (.Name x p1) F.env := by rfl)
    (hfew : ((backTo cpos (starEach [e] F.env)).all (fun x => !x.1) && (backToKw cpos (keywordEach [] F.env)).all (fun x => x.1.isSome)
      && decide (([e] : List Expr).length + ([] : List Keyword).length + (if ([] : List Keyword).isEmpty then 0 else 1) < 30)) = true := by rfl)
    (hline : (apos.endLine == cpos.line) = true := by rfl) (htrees : backTo cpos (starEach [e] F.env) = [(false, eval e F.env)] := by rfl)
    (hd : (x == ("__debug__" : Str)) = false := by decide) (hx : (x == ("__classdict__" : Str)) = false := by decide) :
    ST F (Sta F mu ρ ((x, a, ds) :: own)) [.Expr (.Call (.Attribute (.Name x p1) "append" apos) [e] [] cpos) epos] fun f g => f = .next ∧ Sta F mu ρ ((x, a, ds ++ [d]) :: own) g := st_last fun s Φ E st kq => by
  refine wpAny_Expr (wpAny_Call_append hbase hfew hline htrees (own_load st List.mem_cons_self (fun vs pl av => ?_) hd hx)) hint hsw
  obtain ⟨nn, hpl⟩ := id pl
  refine ⟨a, vs.toArray, rfl, ⟨_, nn, hpl, rfl, rfl, rfl⟩, ?_⟩
  refine y s _ _ st fun v s' kk av' => ?_
  obtain ⟨h1, t1, rfl, up⟩ := kk
  refine wpAny_list_append_plain (pl.at fun o e => up _ o e) (fun h' pl' sb => ?_) (by rw [sizeLine_eq, List.size_toArray, av.1]; lia)
  refine kq .next h' t1 ⟨rfl, ?_⟩
  have := (st.keeps up).newItems (es := ds ++ [d]) (vs := vs ++ [v]) sb (by simpa using pl') (AtL.snoc (av.keep up) av')
  exact this

theorem pe_sub_own {x : Str} {a : Addr} {ds : List D} {slice : Expr} {i : Int} {k : Nat} {d : D} {p1 pos : Pos} (hm : (x, a, ds) ∈ own) (y : PE F mu ρ own slice (.int i)) (hi : seqIndex? i ds.length = some k) (hd : ds[k]? = some d)
    (hb : -100000 ≤ i ∧ i ≤ 100000) (hs : ∀ o i, subscripted slice false o i = operate [o, i] (getItem o i) := by intro _ _; with_unfolding_all rfl)
    (hdb : (x == ("__debug__" : Str)) = false := by decide) (hx : (x == ("__classdict__" : Str)) = false := by decide) : PE F mu ρ own (.Subscript (.Name x p1) slice pos) d := fun s Q E st h => by
  refine Subscript_ (own_load st hm (fun vs pl av => ?_) hdb hx)
  refine y s _ _ st fun w s' kk b => ?_
  obtain ⟨t, rfl⟩ := b.int_inv
  have hl := pl.isList.at fun o e => khp kk _ o e
  exact tail_any hl.typeIs list_getitem_lookup (getItem_lst hl (av.keep (khp kk)) hi hd hb fun v av => h v s' kk av) (hs _ _)
theorem st_set {x : Str} {a : Addr} {ds : List D} {slice e : Expr} {i : Int} {d : D} {p1 tpos pos : Pos} (y : PE F mu ρ ((x, a, ds) :: own) e d) (z : PE F mu ρ ((x, a, ds) :: own) slice (.int i))
    (h0 : i < 0) (h1 : -(ds.length : Int) ≤ i) (h2 : -100000 ≤ i)
    (hs : swapsWith e (some (.Subscript (.Name x p1) slice tpos)) pos.line F.env = pure false := by rfl)
    (hdb : (x == ("__debug__" : Str)) = false := by decide) (hx : (x == ("__classdict__" : Str)) = false := by decide) :
    ST F (Sta F mu ρ ((x, a, ds) :: own)) [.Assign [.Subscript (.Name x p1) slice tpos] e pos] fun f g => f = .next ∧ Sta F mu ρ ((x, a, ds.set (i + ds.length).toNat d) :: own) g := st_last fun s Φ E st kq => by
  refine wpAny_Assign_Subscript (y s _ _ st fun v s1 k1 av => own_load (st.keeps (khp k1)) List.mem_cons_self (fun vs pl al => ?_) hdb hx) hs
  refine z s1 _ _ (st.keeps (khp k1)) fun w s2 k2 aw => ?_
  obtain ⟨t, rfl⟩ := aw.int_inv
  obtain ⟨h2', t2, rfl, up⟩ := ktrans k1 k2
  have up2 := khp k2
  have pl2 := pl.at fun o e => up2 _ o e
  refine setItem_neg pl2 h0 (by rw [List.size_toArray, al.1]; exact h1) (by lia) fun h' pl' sb => ?_
  refine kq .next h' t2 ⟨rfl, ?_⟩
  rw [List.size_toArray, al.1] at pl'
  have al2 := al.keep up2
  refine (st.keeps up).newItems (vs := vs.set (i + ds.length).toNat v) sb (by simpa using pl') ⟨by rw [List.length_set, List.length_set, al.1], fun j u c hu hc => ?_⟩
  rw [List.getElem?_set] at hu hc
  split at hu
  · rename_i hj
    rw [if_pos hj] at hc
    rw [al.1] at hu
    split at hu
    · rename_i hlt
      rw [if_pos hlt] at hc
      cases hu; cases hc; exact av.keep up2
    · cases hu
  · rename_i hj
    rw [if_neg hj] at hc
    exact al2.2 j u c hu hc
end
end Mine
end

section
set_option Elab.async false
set_option maxRecDepth 100000
set_option autoImplicit false
set_option linter.unusedVariables false
namespace Mine
open PySem PySem.Calls PyProof.Rows PySem.W

section
variable {F : Fx} {mu : List Addr} {ρ : Vars} {own : Owned}

/-! ## more operators -/
theorem op_sub_flt {a b : UInt64} : Op2 F mu .Sub (.flt a) (.flt b) (.flt (Float64.sub a b)) := fun s v w Q E _ x y h => by
  obtain ⟨t, rfl⟩ := x.flt_inv; obtain ⟨u, rfl⟩ := y.flt_inv
  exact AutoFloatOps.sub_0 (h _ _ (ktoks s _) (.flt _ _))
theorem op_div_flt {a b : UInt64} (hb : Float64.isZero b = false) : Op2 F mu .Div (.flt a) (.flt b) (.flt (Float64.div a b)) := fun s v w Q E _ x y h => by
  obtain ⟨t, rfl⟩ := x.flt_inv; obtain ⟨u, rfl⟩ := y.flt_inv
  exact AutoFloatOps.truediv_1 (by simp [hb]) (h _ _ (ktoks s _) (.flt _ _))
theorem op_mod_flt {a b : UInt64} (hb : Float64.isZero b = false) : Op2 F mu .Mod (.flt a) (.flt b) (.flt (Float64.divmod a b).snd) := fun s v w Q E _ x y h => by
  obtain ⟨t, rfl⟩ := x.flt_inv; obtain ⟨u, rfl⟩ := y.flt_inv
  exact AutoFloatOps.mod_1 (by simp [hb]) (h _ _ (ktoks s _) (.flt _ _))
theorem op_div_int {a b : Int} (hb : b ≠ 0) (hi : Float64.isInf (Float64.ofFrac (decide (a < 0) != decide (b < 0)) a.natAbs b.natAbs) = false) :
    Op2 F mu .Div (.int a) (.int b) (.flt (Float64.ofFrac (decide (a < 0) != decide (b < 0)) a.natAbs b.natAbs)) := fun s v w Q E _ x y h => by
  obtain ⟨t, rfl⟩ := x.int_inv; obtain ⟨u, rfl⟩ := y.int_inv
  exact AutoIntOps.truediv_2 (by simp [hb]) (by simp [hi]) (h _ _ (ktoks s _) (.flt _ _))
theorem cmp_eq_flt {a b : UInt64} : Cmp F mu .Eq (.flt a) (.flt b) (Float64.cmp a b == some .eq) := fun s v w Q E x y h => by
  obtain ⟨t, rfl⟩ := x.flt_inv; obtain ⟨u, rfl⟩ := y.flt_inv
  exact AutoFloatOps.eq_0 (h s (krefl s))
theorem cmp_ne_flt {a b : UInt64} : Cmp F mu .NotEq (.flt a) (.flt b) (Float64.cmp a b != some .eq) := fun s v w Q E x y h => by
  obtain ⟨t, rfl⟩ := x.flt_inv; obtain ⟨u, rfl⟩ := y.flt_inv
  exact AutoFloatOps.ne_0 (h s (krefl s))
theorem cmp_ne_byt {a b : Array UInt8} : Cmp F mu .NotEq (.byt a) (.byt b) (a != b) := fun s v w Q E x y h => by
  obtain ⟨t, rfl⟩ := x.byt_inv; obtain ⟨u, rfl⟩ := y.byt_inv
  refine ne_bytes ?_
  rw [bne, byt_beq]; exact h s (krefl s)
theorem cmp_ne_bool {a b : Bool} : Cmp F mu .NotEq (.bool a) (.bool b) (a != b) := fun s v w Q E x y h => by
  rw [x.bool_inv, y.bool_inv]
  exact SeqAt.RcNeAt.bool_bool a b F.c.prog F.c.w E Q (h s (krefl s))
theorem cmp_isnot_none {a : D} (ha : a = .none ∨ ∃ x, a = .str x) : Cmp F mu .IsNot a .none (match a with | .none => false | _ => true) := fun s v w Q E x y h => by
  rw [y.none_inv]
  refine isNot_none ?_
  rcases ha with rfl | ⟨z, rfl⟩
  · rw [x.none_inv]; exact h s (krefl s)
  · obtain ⟨t, rfl⟩ := x.str_inv; exact h s (krefl s)
theorem op_add_byt {a b : Array UInt8} (hn : a.size + b.size ≤ 10000) : Op2 F mu .Add (.byt a) (.byt b) (.byt (a ++ b)) := fun s v w Q E _ x y h => by
  obtain ⟨t, rfl⟩ := x.byt_inv; obtain ⟨u, rfl⟩ := y.byt_inv
  exact KBy.add_bytes (by lia) fun t' k => h _ _ (ktoks s k) (.byt _ _)
theorem pe_neg {e : Expr} {i : Int} {pos : Pos} (x : PE F mu ρ own e (.int i)) : PE F mu ρ own (.UnaryOp .USub e pos) (.int (-i)) := fun s Q E st h =>
  wpAny_UnaryOp (x s _ _ st fun v s' kk a => by
    obtain ⟨t, rfl⟩ := a.int_inv
    exact PyProof.Rows.neg_int (h _ _ (ktrans kk (ktoks s' _)) (.int _ _)))

/-! ## and, or -/
theorem pt_or {a : Expr} {rest : List Expr} {r q : Bool} {pos : Pos} (x : PT F mu ρ own a r) (y : r = false → PT F mu ρ own (.BoolOp .Or rest pos) q) : PT F mu ρ own (.BoolOp .Or (a :: rest) pos) (r || q) := fun s Q E st h =>
  isTrue_or (x s _ _ st fun s' kk => by
    cases r with
    | true => exact h s' kk
    | false => exact y rfl s' Q E (st.keeps (khp kk)) fun s'' k' => h s'' (ktrans kk k'))
theorem pt_or_nil {pos : Pos} : PT F mu ρ own (.BoolOp .Or [] pos) false := fun s Q E st h => isTrue_or_nil (h s (krefl s))
theorem pe_bool_one {op : BoolOp} {e : Expr} {d : D} {pos : Pos} (x : PE F mu ρ own e d) : PE F mu ρ own (.BoolOp op [e] pos) d := fun s Q E st h => BoolOp_one (x s Q E st h)
theorem pe_and {a b : Expr} {rest : List Expr} {r : Bool} {d : D} {pos : Pos} (x : PE F mu ρ own a (.bool r)) (y : r = true → PE F mu ρ own (.BoolOp .And (b :: rest) pos) d) (hd : r = false → d = .bool false) :
    PE F mu ρ own (.BoolOp .And (a :: b :: rest) pos) d := fun s Q E st h =>
  BoolOp_and (x s _ _ st fun v s' kk a => by
    rw [a.bool_inv]
    refine wpAny_truthy_bool ?_
    cases r with
    | false => rw [hd rfl] at h; exact h _ s' kk (.bool false)
    | true => exact y rfl s' Q E (st.keeps (khp kk)) fun u s'' k' au => h u s'' (ktrans kk k') au)
theorem pe_or {a b : Expr} {rest : List Expr} {r : Bool} {d : D} {pos : Pos} (x : PE F mu ρ own a (.bool r)) (y : r = false → PE F mu ρ own (.BoolOp .Or (b :: rest) pos) d) (hd : r = true → d = .bool true) :
    PE F mu ρ own (.BoolOp .Or (a :: b :: rest) pos) d := fun s Q E st h =>
  BoolOp_or (x s _ _ st fun v s' kk a => by
    rw [a.bool_inv]
    refine wpAny_truthy_bool ?_
    cases r with
    | true => rw [hd rfl] at h; exact h _ s' kk (.bool true)
    | false => exact y rfl s' Q E (st.keeps (khp kk)) fun u s'' k' au => h u s'' (ktrans kk k') au)

/-! ## targets in a row -/
/-- a binder's worth -/
noncomputable def TGt (F : Fx) (t : Value → Sem Unit) (d : D) (bs : Vars) : Prop :=
  ∀ (mu : List Addr) (ρ : Vars) (own : Owned) (s : Shared) (v : Value) (Q : Unit → Shared → Prop) (E : Value → Shared → Prop), Sta F mu ρ own s.heap → (∀ p ∈ own, ∀ b ∈ bs, p.1 ≠ b.1) → At s.heap mu v d →
    (∀ h' tk, Sta F mu (bs ++ ρ) own h' → (∀ b o, b ∉ wrt F [] → s.heap.get? b = some o → h'.get? b = some o) → Q () { s with heap := h', toks := tk }) → F.W (t v) Q E s
inductive TGL (F : Fx) : List (Value → Sem Unit) → List D → Vars → Prop
  | nil : TGL F [] [] []
  | cons {t : Value → Sem Unit} {ts : List (Value → Sem Unit)} {d : D} {ds : List D} {bs cs : Vars} (x : TGt F t d bs) (y : TGL F ts ds cs) : TGL F (t :: ts) (d :: ds) (cs ++ bs)
theorem TGL.go {ts : List (Value → Sem Unit)} {ds : List D} {bs : Vars} (x : TGL F ts ds bs) : ∀ (ρ : Vars) (s : Shared) (vs : List Value) (Q : Unit → Shared → Prop) (E : Value → Shared → Prop), Sta F mu ρ own s.heap → (∀ p ∈ own, ∀ b ∈ bs, p.1 ≠ b.1) → AtL s.heap mu vs ds →
    (∀ h' tk, Sta F mu (bs ++ ρ) own h' → (∀ b o, b ∉ wrt F [] → s.heap.get? b = some o → h'.get? b = some o) → Q () { s with heap := h', toks := tk }) → F.W (assignInOrder ts vs) Q E s := by
  induction x with
  | nil =>
    intro ρ s vs Q E st _ a h
    rw [a.inv_nil]
    exact assignInOrder_nil (h s.heap s.toks st fun _ _ _ e => e)
  | cons x y ih =>
    intro ρ s vs Q E st hno a h
    obtain ⟨v, vs', rfl, a1, a2⟩ := a.inv
    refine assignInOrder_cons (x mu ρ own s v _ _ st (fun p hp b hb => hno p hp b (List.mem_append_right _ hb)) a1 fun h1 t1 st1 up1 => ?_)
    have a2' : AtL h1 mu vs' _ := a2.mono (fun b o hb e => up1 b o (fun q => hb (wrt_none st.ok (wrt_sub q)).2) e) fun _ _ hb _ => hb
    refine ih _ { s with heap := h1, toks := t1 } vs' _ _ st1 (fun p hp b hb => hno p hp b (List.mem_append_left _ hb)) a2' fun h2 t2 st2 up2 => ?_
    refine h h2 t2 (by rw [List.append_assoc]; exact st2) fun b o hb e => up2 b o hb (up1 b o hb e)
theorem tgt_name {x : Str} {px : Pos} {d : D} (hx : F.env.kindOf x = some .local ∨ (F.env.kindOf x = some .cell ∧ ∃ a, F.env.cells.lookup x = some a ∧ F.B.get? a = none)) : TGt F (assign (.Name x px) F.env) d [(x, d)] := tg_name hx
theorem tgt_bind {x : Str} {d : D} (hx : F.env.kindOf x = some .local ∨ (F.env.kindOf x = some .cell ∧ ∃ a, F.env.cells.lookup x = some a ∧ F.B.get? a = none)) : TGt F (bindName F.env x) d [(x, d)] :=
  fun mu ρ own s v Q E st hno a h => bindName_ (store st a hx (fun p hp => hno p hp (x, d) (by simp)) h)
theorem ext_old {h h' : Heap} (k : Heap.ExtBut h.objs.size h h') : ∀ b o, h.get? b = some o → h'.get? b = some o := fun b o e => k b o (Nat.ne_of_lt (Heap.lt_size e)) e
theorem tg_tuple {elts : List Expr} {k : Nat} {pos : Pos} {ts : List (Value → Sem Unit)} {ds : List D} {bs : Vars} (x : TGL F ts ds bs) (he : (assignEach elts F.env).map (·.2) = ts := by rfl) (hl : (assignEach elts F.env).length = ds.length := by rfl)
    (hstar : (assignEach elts F.env).findIdx? (·.1) = none := by rfl) : TG F (.Tuple elts k pos) (.tup ds) bs := fun mu ρ own s v Q E st hno a h => by
  obtain ⟨t, vs, rfl, hm, ht, hv⟩ := a.tup_inv
  refine assign_Tuple_tuple st.ok.hh ht (by rw [hl, List.size_toArray, hv.1]) hstar fun h' ke => ?_
  rw [he]
  have up := ext_old ke
  refine x.go ρ { s with heap := h' } vs Q E (st.keeps up) hno (hv.keep up) fun h2 t2 st2 up2 => h h2 t2 st2 fun b o hb e => up2 b o hb (up b o e)

/-- several names at once -/
theorem st_assign_tup {elts : List Expr} {value : Expr} {k : Nat} {tpos pos : Pos} {ts : List (Value → Sem Unit)} {ds : List D} {bs : Vars} (y : PE F mu ρ own value (.tup ds)) (x : TGL F ts ds bs) (hno : ∀ p ∈ own, ∀ b ∈ bs, p.1 ≠ b.1)
    (he : (assignEach elts F.env).map (·.2) = ts := by rfl) (hl : (assignEach elts F.env).length = ds.length := by rfl) (hstar : (assignEach elts F.env).findIdx? (·.1) = none := by rfl)
    (hs : swapsWithSole [.Tuple elts k tpos] value pos.line F.env = pure false := by rfl) (hw : swappedStores [.Tuple elts k tpos] value F.env = pure none := by rfl) :
    ST F (Sta F mu ρ own) [.Assign [.Tuple elts k tpos] value pos] fun f g => f = .next ∧ Sta F mu (bs ++ ρ) own g := st_last fun s Φ E st kq =>
  Assign_Tuple (y s _ _ st fun v s' kk a => by
    obtain ⟨h1, t1, rfl, up⟩ := kk
    exact tg_tuple x he hl hstar mu ρ own _ v _ _ (st.keeps up) hno a fun h' tk st' _ => kq .next h' tk ⟨rfl, st'⟩) hs hw
theorem AtL.rev {h : Heap} {vs : List Value} {ds : List D} (x : AtL h mu vs ds) : AtL h mu vs.reverse ds.reverse := by
  induction ds generalizing vs with
  | nil => rw [x.inv_nil]; exact AtL.nil
  | cons d ds ih =>
    obtain ⟨v, ws, rfl, a, b⟩ := x.inv
    rw [List.reverse_cons, List.reverse_cons]
    exact AtL.snoc (ih b) a
theorem st_assign_swap {elts : List Expr} {value : Expr} {k : Nat} {tpos pos : Pos} {names : List Str} {ds : List D} {bs : Vars} (y : PE F mu ρ own value (.tup ds)) (x : TGL F (names.reverse.map fun n => bindName F.env n) ds.reverse bs) (hno : ∀ p ∈ own, ∀ b ∈ bs, p.1 ≠ b.1)
    (hl : names.length = ds.length := by rfl) (hs : swapsWithSole [.Tuple elts k tpos] value pos.line F.env = pure false := by rfl) (hw : swappedStores [.Tuple elts k tpos] value F.env = pure (some names) := by rfl) :
    ST F (Sta F mu ρ own) [.Assign [.Tuple elts k tpos] value pos] fun f g => f = .next ∧ Sta F mu (bs ++ ρ) own g := st_last fun s Φ E st kq =>
  Assign_Tuple_swapped (y s _ _ st fun v s' kk a => by
    obtain ⟨h1, t1, rfl, up⟩ := kk
    obtain ⟨t, vs, rfl, hm, ht, hv⟩ := a.tup_inv
    have e : names.length = vs.toArray.size := by rw [hl, List.size_toArray, hv.1]
    rw [e]
    refine unpackItems_tuple st.ok.hh ht fun h' ke => ?_
    have up2 := ext_old ke
    show F.W (assignInOrder _ vs.reverse) _ _ _
    exact x.go ρ { s with heap := h', toks := t1 } vs.reverse _ E (st.keeps fun b o e => up2 b o (up b o e)) hno (hv.keep up2).rev fun h2 t2 st2 _ => kq .next h2 t2 ⟨rfl, st2⟩) hs hw

/-! ## while -/
theorem st_while {α : Type} {test : Expr} {body : List Stmt} {pos : Pos} (R : α → Vars) (P : α → Prop) (m : α → Nat) (c : α → Bool) (nx : α → α) (a₀ : α) (hP : P a₀) (hm : ∀ a, P a → c a = true → P (nx a) ∧ m (nx a) < m a)
    (h0 : ∀ y d, (R a₀).lookup y = some d → ρ.lookup y = some d)
    (tst : ∀ a, P a → PT F mu (R a) own test (c a)) (bd : ∀ a, P a → c a = true → ST F (Sta F mu (R a) own) body fun f g => (f = .next ∨ f = .cont) ∧ Sta F mu (R (nx a)) own g) :
    ST F (Sta F mu ρ own) [.While test body [] pos] fun f g => f = .next ∧ ∃ a, P a ∧ c a = false ∧ Sta F mu (R a) own g := st_last fun s Φ E st kq => by
  refine wpAny_While ?_
  refine codeAny_whileLoop (fun n s' => ∃ a h tk, s' = { s with heap := h, toks := tk } ∧ P a ∧ m a = n ∧ Sta F mu (R a) own h) ?_ (m a₀) ⟨a₀, s.heap, s.toks, rfl, hP, rfl, st.less h0⟩
  rintro n s' ⟨a, h, tk, rfl, pa, rfl, sta⟩
  refine tst a pa _ _ _ sta fun s1 kk => ?_
  obtain ⟨h1, t1, rfl, up⟩ := kk
  cases hc : c a with
  | false =>
    simp only [Bool.false_eq_true, if_false]
    exact wpAny_execs_nil (kq .next h1 t1 ⟨rfl, a, pa, hc, sta.keeps up⟩)
  | true =>
    simp only [if_true]
    refine bd a pa hc _ _ _ (sta.keeps up) fun f h2 t2 q => ?_
    obtain ⟨hf, st2⟩ := q
    have := hm a pa hc
    have fin : ∃ k, k < m a ∧ ∃ a' h' tk', ({ s with heap := h2, toks := t2 } : Shared) = { s with heap := h', toks := tk' } ∧ P a' ∧ m a' = k ∧ Sta F mu (R a') own h' := ⟨_, this.2, nx a, h2, t2, rfl, this.1, rfl, st2⟩
    rcases hf with rfl | rfl <;> exact fin

/-! ## += -/
noncomputable def IOp (F : Fx) (mu : List Addr) (op : Operator) (a b d : D) : Prop :=
  ∀ (s : Shared) (v w : Value) (Q : Value → Shared → Prop) (E : Value → Shared → Prop), Live mu s.heap → At s.heap mu v a → At s.heap mu w b →
    (∀ u s', Keeps s s' → At s'.heap mu u d → Q u s') → F.W (inplaceOp op v w) Q E s
theorem iop_add_int {a b : Int} : IOp F mu .Add (.int a) (.int b) (.int (a + b)) := fun s v w Q E _ x y h => by
  obtain ⟨t, rfl⟩ := x.int_inv; obtain ⟨u, rfl⟩ := y.int_inv
  exact PyProof.Rows.iadd_int (h _ _ (ktoks s _) (.int _ _))
theorem iop_add_str {a b : Str} (hn : a.length + b.length ≤ sizeLine) : IOp F mu .Add (.str a) (.str b) (.str (a ++ b)) := fun s v w Q E _ x y h => by
  obtain ⟨t, rfl⟩ := x.str_inv; obtain ⟨u, rfl⟩ := y.str_inv
  exact PyProof.Rows.iadd_str (fun t' k => h _ _ (ktoks s k) (.str _ _)) hn
theorem st_aug {x : Str} {px pos : Pos} {op : Operator} {e : Expr} {a b d : D} (ha : ρ.lookup x = some a) (y : PE F mu ρ own e b) (o : IOp F mu op a b d)
    (hx : F.env.kindOf x = some .local ∨ (F.env.kindOf x = some .cell ∧ ∃ a, F.env.cells.lookup x = some a ∧ F.B.get? a = none)) (hno : ∀ p ∈ own, p.1 ≠ x) (hc : (x == ("__classdict__" : Str)) = false := by decide) :
    ST F (Sta F mu ρ own) [.AugAssign (.Name x px) op e pos] fun f g => f = .next ∧ Sta F mu ((x, d) :: ρ) own g := st_last fun s Φ E st kq => by
  obtain ⟨m, cm, h1, h2, h3, _⟩ := st.ex
  obtain ⟨v, e1, e2⟩ := h3 x a ha
  refine wpAny_AugAssign_Name (load_look st.ok.kind h1 h2 e1 hc (y s _ _ st fun w s1 k1 aw => ?_))
  have st1 := st.keeps (khp k1)
  refine o s1 v w _ _ st1.live (e2.keep (khp k1)) aw fun u s2 k2 au => ?_
  obtain ⟨h3', t3, rfl, up⟩ := ktrans k1 k2
  exact store (s := { s with heap := h3', toks := t3 }) (st.keeps up) au hx hno fun h' tk st' _ => kq .next h' tk ⟨rfl, st'⟩
end
end Mine
end

section
set_option Elab.async false
set_option maxRecDepth 100000
set_option autoImplicit false
set_option linter.unusedVariables false
namespace Mine
open PySem PySem.Calls PyProof.Rows PySem.W

/-- the program's text, cut up -/
noncomputable def fstmt (i : Nat) : Stmt := PySem.Challenge.pw_tp0026_01.main.body.getD i (.Pass ⟨0, 0, 0, 0⟩)
noncomputable def sBody : Stmt → List Stmt
  | .FunctionDef _ _ body .. => body
  | _ => []
noncomputable def sScope : Stmt → Scope
  | .FunctionDef (scope := sc) .. => sc
  | _ => { kind := .module, names := [], isGenerator := false, isCoroutine := false, more := [] }

/-- a def of the text stands -/
noncomputable def FnAt (c : Cx) (f : Addr) (i : Nat) (ns : List Str) : Prop :=
  ∃ o fd, c.root.get? f = some o ∧ o.data = .func fd ∧ FdOk fd ns (sBody (fstmt i)) (sScope (fstmt i)) ∧ c.root.CodeRec fd.code fd.qualname ∧ ∀ vs : List Value, vs.length = ns.length → bindArgs fd ⟨vs, []⟩ = pure (ns.zip vs)

theorem fn_at {c : Cx} {f : Addr} {i : Nat} {ns : List Str} {args : List D} {r : D} {lim : Nat} (hf : FnAt c f i ns) (hn : ns.length = args.length)
    (h : ∀ (F : Fx) (mu : List Addr), F.c = c → Room F.A lim → (∃ q L cd, F.env = envF (sScope (fstmt i)) q L f cd) →
      ST F (Sta F mu (ns.zip args) []) (sBody (fstmt i)) fun fl g => ∃ v, fl = .ret v ∧ Sta F mu [] [] g ∧ At g mu v r) : Fn c (lim + 1) f args r := by
  obtain ⟨o, fd, h1, h2, h3, h4, h5⟩ := hf
  exact fn_of h1 h2 h3 h4 hn (fun vs hv => h5 vs (hv.trans hn.symm)) fun F mu L e1 e2 e3 => h F mu e1 e2 ⟨_, _, _, e3⟩

theorem less_nil {ρ : Vars} : ∀ y d, ([] : Vars).lookup y = some d → ρ.lookup y = some d := fun _ _ h => nomatch h
theorem less_cons {ρ l : Vars} {x : Str} {d : D} (h : ρ.lookup x = some d) (t : ∀ y d, l.lookup y = some d → ρ.lookup y = some d) : ∀ y e, ((x, d) :: l).lookup y = some e → ρ.lookup y = some e := fun y e q => by
  rw [List.lookup_cons] at q
  cases hy : y == x with
  | true => rw [hy] at q; cases q; rw [beq_iff_eq.mp hy]; exact h
  | false => rw [hy] at q; exact t y e q

theorem gcd_fmod (a b : Int) : Int.gcd b (a.fmod b) = Int.gcd a b := by
  rw [Int.fmod_def, Int.sub_eq_add_neg, ← Int.mul_neg, Int.gcd_comm, Int.gcd_add_mul_left_left]
theorem fmod_lt (a b : Int) (hb : b ≠ 0) : (a.fmod b).natAbs < b.natAbs := by
  rcases Int.lt_or_gt_of_ne hb with h | h
  · have e := Int.fmod_eq_emod (a := a) (b := b)
    have h1 := Int.emod_nonneg a hb
    have h2 := Int.emod_lt_of_neg a h
    by_cases hd : b ∣ a
    · have := Int.emod_eq_zero_of_dvd hd
      simp only [hd, or_true, if_true] at e
      omega
    · have h3 : a % b ≠ 0 := fun q => hd (Int.dvd_of_emod_eq_zero q)
      have hn : ¬ (0 ≤ b ∨ b ∣ a) := by
        rintro (q | q)
        · omega
        · exact hd q
      rw [if_neg hn] at e
      omega
  · have h1 := Int.fmod_lt_of_pos a h
    have h2 := Int.fmod_nonneg_of_pos a h
    omega

set_option maxHeartbeats 4000000
theorem fn_common {c : Cx} {f : Addr} {a b : Int} (hf : FnAt c f 17 ["one", "two"]) (habs : c.mg (Str.ofString "abs") = none) : Fn c 1 f [.int a, .int b] (.int (Int.gcd a b)) := by
  refine fn_at hf rfl fun F mu hc room he => ?_
  obtain ⟨q, L, cd, he⟩ := he
  subst hc
  obtain ⟨c, A, env, B⟩ := F
  simp only at he
  subst he
  refine st_seq (st_while (fun p : Int × Int => [("one", .int p.1), ("two", .int p.2)]) (fun p => Int.gcd p.1 p.2 = Int.gcd a b) (fun p => p.2.natAbs) (fun p => p.2 != 0) (fun p => (p.2, p.1.fmod p.2)) (a, b) rfl ?_ ?_ ?_ ?_) ?_
  · rintro ⟨x, y⟩ hp hc
    have hy : y ≠ 0 := by simpa using hc
    exact ⟨(gcd_fmod x y).trans hp, fmod_lt x y hy⟩
  · intro y d h; exact h
  · rintro ⟨x, y⟩ hp
    exact pt_cmp (pe_var rfl) pe_int cmp_ne_int
  · rintro ⟨x, y⟩ hp hc
    have hy : y ≠ 0 := by simpa using hc
    refine (st_assign_swap (names := ["one", "two"]) (pe_tuple (.cons (pe_var rfl) (.cons (pe_bin (pe_var rfl) (pe_var rfl) (op_mod_int hy)) .nil))) (.cons (tgt_bind (.inl rfl)) (.cons (tgt_bind (.inl rfl)) .nil)) (by intro p hp; cases hp)).post fun f g ⟨hf, hs⟩ => ⟨.inl hf, hs.less (less_cons rfl (less_cons rfl less_nil))⟩
  · intro s Φ E st kq
    obtain ⟨⟨x, y⟩, hg, hc, st'⟩ := st
    have hy : y = 0 := by simpa using hc
    subst hy
    have hr : (if x < 0 then -x else x) = ((Int.gcd a b : Nat) : Int) := by
      rw [← hg]; simp only [Int.gcd_zero_right]; split <;> omega
    refine (st_ret (pe_blt blt_abs (.cons (pe_var rfl) .nil) habs (by decide +kernel))) s Φ E st' fun fl h' tk ⟨v, e1, e2, e3⟩ => kq fl h' tk ⟨v, e1, e2.less less_nil, hr ▸ e3⟩
end Mine
end

section
set_option Elab.async false
set_option maxRecDepth 100000
set_option autoImplicit false
set_option linter.unusedVariables false
namespace Mine
open PySem PySem.Calls PyProof.Rows PySem.W

section
variable {F : Fx} {mu : List Addr} {ρ : Vars} {own : Owned}
/-- a statement that may end the block -/
theorem st_seq' {P R : Heap → Prop} {st : Stmt} {ss : List Stmt} {Q : Flow → Heap → Prop} (h : ST F P [st] fun f g => (f = .next ∧ R g) ∨ (f ≠ .next ∧ Q f g)) (k : ST F R ss Q) : ST F P (st :: ss) Q := fun s Φ E p kk => by
  have one := h s (fun f s' => ∃ h' tk, s' = { s with heap := h', toks := tk } ∧ ((f = .next ∧ R h') ∨ (f ≠ .next ∧ Q f h'))) E p fun f h' tk q => ⟨h', tk, rfl, q⟩
  refine wpAny_execs_cons ?_
  have e1 : execs [st] F.env = (do match ← exec st F.env with | .next => pure .next | f => pure f) := rfl
  have two : F.W (exec st F.env) (fun f s' => ∃ h' tk, s' = { s with heap := h', toks := tk } ∧ ((f = .next ∧ R h') ∨ (f ≠ .next ∧ Q f h'))) E s := by
    intro Γ pp hΓ
    have := one Γ pp hΓ
    rw [e1, Sem.wp_bind'] at this
    refine Sem.wp_mono _ Γ _ (fun f p' s' h' => ?_) (fun _ _ _ h' => h') _ _ this
    cases f <;> exact h'
  refine wpAny_mono two (fun f s' q => ?_) fun _ _ e => e
  obtain ⟨h', tk, rfl, q⟩ := q
  cases f with
  | next =>
    rcases q with ⟨_, r⟩ | ⟨q, _⟩
    · exact k _ Φ E r fun f h'' tk' q => kk f h'' tk' q
    · exact absurd rfl q
  | _ =>
    rcases q with ⟨q, _⟩ | ⟨_, q⟩
    · cases q
    · exact kk _ h' tk q
/-- if .. : return .. -/
theorem st_if_ret {t : Expr} {b rest : List Stmt} {r : Bool} {pos : Pos} {Q : Flow → Heap → Prop} (x : PT F mu ρ own t r) (y : r = true → ST F (Sta F mu ρ own) b Q) (z : r = false → ST F (Sta F mu ρ own) rest Q) (hQ : ∀ g, ¬ Q .next g) :
    ST F (Sta F mu ρ own) (.If t b [] pos :: rest) Q := by
  cases r with
  | true => exact st_seq' (R := fun _ => False) ((st_if x y (fun q => nomatch q)).post fun f g q => .inr ⟨fun e => hQ g (e ▸ q), q⟩) fun s Φ E p _ => p.elim
  | false => exact st_seq' (R := Sta F mu ρ own) (st_if x (fun q => nomatch q) fun _ => st_nil fun g p => .inl ⟨rfl, p⟩) (z rfl)
end

noncomputable def signI (letter form : Int) : Int := if form.fmod 8 = 0 then 97 + letter else if form.fmod 8 = 1 then 65 + letter else 120068 + 52 * form.fmod 8 + letter

set_option maxHeartbeats 4000000
theorem fn_sign {c : Cx} {f : Addr} {a b : Int} (hf : FnAt c f 15 ["letter", "form"]) (hchr : c.mg (Str.ofString "chr") = none) (ha : 0 ≤ a ∧ a < 16) : Fn c 1 f [.int a, .int b] (.str ⟨#[(signI a b).toNat]⟩) := by
  refine fn_at hf rfl fun F mu hc room he => ?_
  obtain ⟨q, L, cd, he⟩ := he
  subst hc
  obtain ⟨c, A, env, B⟩ := F
  simp only at he
  subst he
  have k0 : 0 ≤ b.fmod 8 := Int.fmod_nonneg_of_pos b (by decide)
  have k1 : b.fmod 8 < 8 := Int.fmod_lt_of_pos b (by decide)
  refine st_seq (st_assign (pe_bin (pe_var rfl) pe_int (op_mod_int (by decide))) (.inl rfl) (by intro p hp; cases hp)) ?_
  refine st_if_ret (pt_cmp (pe_var rfl) pe_int cmp_eq_int) ?_ ?_ (fun g ⟨v, e, _⟩ => nomatch e)
  · intro h
    have h : b.fmod 8 = 0 := by simpa using h
    refine (st_ret (pe_blt (blt_chr (by lia) (by lia)) (.cons (pe_bin pe_int (pe_var rfl) op_add_int) .nil) hchr (by decide +kernel))).post fun fl g ⟨v, e1, e2, e3⟩ => ⟨v, e1, e2.less less_nil, ?_⟩
    rw [show signI a b = 97 + a by unfold signI; rw [if_pos h]]; exact e3
  · intro h
    have h : b.fmod 8 ≠ 0 := by simpa using h
    refine st_if_ret (pt_cmp (pe_var rfl) pe_int cmp_eq_int) ?_ ?_ (fun g ⟨v, e, _⟩ => nomatch e)
    · intro h2
      have h2 : b.fmod 8 = 1 := by simpa using h2
      refine (st_ret (pe_blt (blt_chr (by lia) (by lia)) (.cons (pe_bin pe_int (pe_var rfl) op_add_int) .nil) hchr (by decide +kernel))).post fun fl g ⟨v, e1, e2, e3⟩ => ⟨v, e1, e2.less less_nil, ?_⟩
      rw [show signI a b = 65 + a by unfold signI; rw [if_neg h, if_pos h2]]; exact e3
    · intro h2
      have h2 : b.fmod 8 ≠ 1 := by simpa using h2
      refine (st_ret (pe_blt (blt_chr (a := 120068 + 52 * b.fmod 8 + a) (by lia) (by lia)) (.cons (pe_bin (pe_bin pe_int (pe_bin pe_int (pe_var rfl) (op_mul_int ?_)) op_add_int) (pe_var rfl) op_add_int) .nil) hchr (by decide +kernel))).post fun fl g ⟨v, e1, e2, e3⟩ => ⟨v, e1, e2.less less_nil, ?_⟩
      · exact IntMulOk.of_left (by decide +kernel)
      · rw [show signI a b = 120068 + 52 * b.fmod 8 + a by unfold signI; rw [if_neg h, if_neg h2]]; exact e3
end Mine
end

section
set_option Elab.async false
set_option maxRecDepth 100000
set_option autoImplicit false
set_option linter.unusedVariables false
namespace Mine
open PySem PySem.Calls PyProof.Rows PySem.W

section
variable {F : Fx} {mu : List Addr} {ρ : Vars} {own : Owned}

theorem pe_in_set {l : Expr} {x : Str} {p pos : Pos} {i : Int} {a : Addr} {S : Int → Bool} {n : Nat} (y : PE F mu ρ own l (.int i)) (hg : F.c.mg x = some (.ref a)) (hS : F.c.root.SetOf (intKind F.c.prog F.c.w) a S n)
    (hk : F.env.kindOf x = some .globalImplicit := by rfl) (hm : behindInMarks .In (.Name x p) = false := by with_unfolding_all rfl) (hd : (x == ("__debug__" : Str)) = false := by decide) :
    PE F mu ρ own (.Compare l [.In] [.Name x p] pos) (.bool (S i)) := fun s Q E st h =>
  wpAny_Compare1 (y s _ _ st fun v s' kk av => pe_glob (st.keeps (khp kk)) hk hg (by
    obtain ⟨t, rfl⟩ := av.int_inv
    have hS' : s'.heap.SetOf (intKind F.c.prog F.c.w) a S n := by
      obtain ⟨o, es, ep, t, e, r⟩ := hS
      exact ⟨o, es, ep, t, khp kk _ _ (st.rootK _ _ e), r⟩
    exact wpAny_inSet_of (knd := intKind F.c.prog F.c.w) (k := i) (by simp [intKind, Value.isInt]) rfl hS' (h _ _ (ktrans kk (ktoks s' _)) (.bool _))) hd) hm

theorem pe_get {x : Str} {p apos pos : Pos} {e : Expr} {k : Int} {a : Addr} {f : Int → Option Value} {d : D} (y : PE F mu ρ own e (.int k)) (hg : F.c.mg x = some (.ref a)) (hM : F.c.root.MapOf (intKind F.c.prog F.c.w) a f) (hs : (a == sysModules) = false)
    (hd : ∀ h mu, At h mu ((f k).getD .none) d)
    (hk : F.env.kindOf x = some .globalImplicit := by rfl) (hdb : (x == ("__debug__" : Str)) = false := by decide)
    (hbase : attributeBase (.Name x p) "get" F.env (eval (.Name x p) F.env) = eval (.Name x p) F.env := by rfl) (hline : (apos.endLine == pos.line) = true := by rfl)
    (htrees : backTo pos (starEach [e] F.env) = [(false, eval e F.env)] := by rfl) :
    PE F mu ρ own (.Call (.Attribute (.Name x p) "get" apos) [e] [] pos) d := fun s Q E st h => by
  refine wpAny_Call_method1_late hbase hline htrees (pe_glob st hk hg ?_ hdb)
  have up : ∀ s' : Shared, Keeps s s' → s'.heap.MapOf (intKind F.c.prog F.c.w) a f := fun s' kk => by
    obtain ⟨o, es, ep, e, r⟩ := hM
    exact ⟨o, es, ep, khp kk _ _ (st.rootK _ _ e), r⟩
  have hM0 := up s (krefl s)
  refine ⟨"dict", "dict.get", PySem.F.plainAttrs_dict, PySem.F.slot_dict_get, PySem.F.type_dict_get, hM0.typeIs, hM0.noDict, ?_⟩
  refine wpAny_dict_get1 (knd := intKind F.c.prog F.c.w) hs (y s _ _ st fun v s' kk av => ?_)
  obtain ⟨t, rfl⟩ := av.int_inv
  exact ⟨k, f, by simp [intKind, Value.isInt], up s' kk, h _ _ (ktrans kk (ktoks s' _)) (hd _ _)⟩

theorem pe_lower {o : Expr} {x : Str} {apos pos : Pos} (y : PE F mu ρ own o (.str x)) (hn : x.length ≤ 10)
    (hbase : attributeBase o "lower" F.env (eval o F.env) = eval o F.env := by rfl) (hline : (apos.endLine == pos.line) = true := by rfl) (hfit : Builtin.Str.tooLong (Txt.lower x).length = false := by decide +kernel) :
    PE F mu ρ own (.Call (.Attribute o "lower" apos) [] [] pos) (.str (Txt.lower x)) := fun s Q E st h => by
  refine Call_method0 hbase hline (y s _ _ st fun v s' kk av => ?_)
  obtain ⟨t, rfl⟩ := av.str_inv
  exact SB.lower hfit (h _ _ (ktrans kk (ktoks s' _)) (.str _ _))
end

set_option maxHeartbeats 4000000
theorem fn_in_b1 {c : Cx} {f : Addr} {i : Nat} {a : Addr} {S : Int → Bool} {n : Nat} (hf : FnAt c f 9 ["code"]) (hord : c.mg (Str.ofString "ord") = none) (hg : c.mg "b1_set" = some (.ref a)) (hS : c.root.SetOf (intKind c.prog c.w) a S n) : Fn c 1 f [.str ⟨#[i]⟩] (.bool (S i)) := by
  refine fn_at hf rfl fun F mu hc room he => ?_
  obtain ⟨q, L, cd, he⟩ := he
  subst hc
  obtain ⟨c, A, env, B⟩ := F
  simp only at he
  subst he
  exact (st_ret (pe_in_set (pe_blt blt_ord (.cons (pe_var rfl) .nil) hord (by decide +kernel)) hg hS)).post fun fl g ⟨v, e1, e2, e3⟩ => ⟨v, e1, e2.less less_nil, e3⟩
theorem fn_in_c7 {c : Cx} {f : Addr} {i : Nat} {a : Addr} {S : Int → Bool} {n : Nat} (hf : FnAt c f 13 ["code"]) (hord : c.mg (Str.ofString "ord") = none) (hg : c.mg "c7_set" = some (.ref a)) (hS : c.root.SetOf (intKind c.prog c.w) a S n) : Fn c 1 f [.str ⟨#[i]⟩] (.bool (S i)) := by
  refine fn_at hf rfl fun F mu hc room he => ?_
  obtain ⟨q, L, cd, he⟩ := he
  subst hc
  obtain ⟨c, A, env, B⟩ := F
  simp only at he
  subst he
  exact (st_ret (pe_in_set (pe_blt blt_ord (.cons (pe_var rfl) .nil) hord (by decide +kernel)) hg hS)).post fun fl g ⟨v, e1, e2, e3⟩ => ⟨v, e1, e2.less less_nil, e3⟩

/-- what the table of B.3 tells of a letter of the eight forms -/
structure B3 (f : Int → Option Value) : Prop where
  high : ∀ k l : Nat, k < 8 → 2 ≤ k → l < 16 → ∃ t, f ((120068 + 52 * k + l : Nat) : Int) = some (.str ⟨#[97 + l]⟩ t)
  low : ∀ l : Nat, l < 16 → f ((97 + l : Nat) : Int) = none ∧ f ((65 + l : Nat) : Int) = none

theorem sign_cases (l b : Int) (hl : 0 ≤ l ∧ l < 16) : ((signI l b).toNat = 97 + l.toNat) ∨ ((signI l b).toNat = 65 + l.toNat) ∨ ∃ k : Nat, k < 8 ∧ 2 ≤ k ∧ (signI l b).toNat = 120068 + 52 * k + l.toNat := by
  unfold signI
  obtain ⟨n, rfl⟩ := Int.eq_ofNat_of_zero_le hl.1
  obtain ⟨k, e⟩ := Int.eq_ofNat_of_zero_le (Int.fmod_nonneg_of_pos b (show (0 : Int) < 8 by decide))
  have k1 := Int.fmod_lt_of_pos b (show (0 : Int) < 8 by decide)
  rw [e] at k1 ⊢
  clear hl e
  by_cases h0 : (k : Int) = 0
  · rw [if_pos h0]; exact .inl rfl
  · rw [if_neg h0]
    by_cases h1 : (k : Int) = 1
    · rw [if_pos h1]; exact .inr (.inl rfl)
    · rw [if_neg h1]
      refine .inr (.inr ⟨k, Int.ofNat_lt.mp k1, ?_, rfl⟩)
      clear k1
      lia

theorem lower_small : ∀ l : Fin 16, Txt.lower ⟨#[97 + l.val]⟩ = ⟨#[97 + l.val]⟩ ∧ Txt.lower ⟨#[65 + l.val]⟩ = ⟨#[97 + l.val]⟩ := by decide +kernel

theorem fn_map {c : Cx} {f : Addr} {i l : Nat} {a : Addr} {m : Int → Option Value} (hf : FnAt c f 11 ["code"]) (hord : c.mg (Str.ofString "ord") = none) (hg : c.mg "b3_exceptions" = some (.ref a)) (hM : c.root.MapOf (intKind c.prog c.w) a m) (hs : (a == sysModules) = false)
    (hB : B3 m) (hl : l < 16) (hi : i = 97 + l ∨ i = 65 + l ∨ ∃ k, k < 8 ∧ 2 ≤ k ∧ i = 120068 + 52 * k + l) : Fn c 1 f [.str ⟨#[i]⟩] (.str ⟨#[97 + l]⟩) := by
  refine fn_at hf rfl fun F mu hc room he => ?_
  obtain ⟨q, L, cd, he⟩ := he
  subst hc
  obtain ⟨c, A, env, B⟩ := F
  simp only at he
  subst he
  have low := lower_small ⟨l, hl⟩
  have main : (∃ t, m (i : Int) = some (.str ⟨#[97 + l]⟩ t)) ∨ (m (i : Int) = none ∧ Txt.lower ⟨#[i]⟩ = ⟨#[97 + l]⟩) := by
    rcases hi with rfl | rfl | ⟨k, h1, h2, rfl⟩
    · exact .inr ⟨(hB.low l hl).1, low.1⟩
    · exact .inr ⟨(hB.low l hl).2, low.2⟩
    · exact .inl (hB.high k l h1 h2 hl)
  rcases main with ⟨t, ht⟩ | ⟨hn, hlo⟩
  · refine st_seq (st_assign (pe_get (d := .str ⟨#[97 + l]⟩) (pe_blt blt_ord (.cons (pe_var rfl) .nil) hord (by decide +kernel)) hg hM hs (fun h mu => by rw [ht]; exact .str _ _)) (.inl rfl) (by intro p hp; cases hp)) ?_
    refine st_if_ret (pt_cmp (pe_var rfl) pe_none (cmp_isnot_none (.inr ⟨_, rfl⟩))) ?_ (fun h => nomatch h) (fun g ⟨v, e, _⟩ => nomatch e)
    intro _
    exact (st_ret (pe_var rfl)).post fun fl g ⟨v, e1, e2, e3⟩ => ⟨v, e1, e2.less less_nil, e3⟩
  · refine st_seq (st_assign (pe_get (d := .none) (pe_blt blt_ord (.cons (pe_var rfl) .nil) hord (by decide +kernel)) hg hM hs (fun h mu => by rw [hn]; exact .none)) (.inl rfl) (by intro p hp; cases hp)) ?_
    refine st_if_ret (pt_cmp (pe_var rfl) pe_none (cmp_isnot_none (.inl rfl))) (fun h => nomatch h) ?_ (fun g ⟨v, e, _⟩ => nomatch e)
    intro _
    exact (st_ret (pe_lower (x := ⟨#[i]⟩) (pe_var rfl) (show 1 ≤ 10 by decide) rfl rfl (by rw [hlo]; show Builtin.Str.tooLong 1 = false; decide +kernel))).post fun fl g ⟨v, e1, e2, e3⟩ => ⟨v, e1, e2.less less_nil, hlo ▸ e3⟩
end Mine
end

section
set_option Elab.async false
set_option maxRecDepth 100000
set_option autoImplicit false
set_option linter.unusedVariables false
namespace Mine
open PySem PySem.Calls PyProof.Rows PySem.W

noncomputable def apOf (d : Nat) : UInt8 := (65 + d).toUInt8
noncomputable def apAll : Array UInt8 := #[65, 66, 67, 68, 69, 70, 71, 72, 73, 74, 75, 76, 77, 78, 79, 80]
noncomputable def wordF : Nat → Nat → List UInt8
  | 0, _ => []
  | f + 1, n => if n = 0 then [] else wordF f (n / 16) ++ [apOf (n % 16)]
/-- the word of a number -/
noncomputable def word (n : Nat) : List UInt8 := wordF 8 n
theorem wordF_more : ∀ (f n : Nat), n < 16 ^ f → wordF f n = wordF (f + 1) n
  | 0, n, h => by
    have : n = 0 := by simpa using h
    subst this; rfl
  | f + 1, n, h => by
    have ih := wordF_more f (n / 16) (by rw [Nat.pow_succ] at h; lia)
    rw [wordF, wordF, ih]
theorem word_step {n : Nat} (h : n < 16 ^ 8) (h0 : n ≠ 0) : word n = word (n / 16) ++ [apOf (n % 16)] := by
  have e : wordF 7 (n / 16) = wordF 8 (n / 16) := wordF_more 7 _ (by lia)
  unfold word
  rw [wordF, if_neg h0, e]
theorem wordF_len : ∀ (f n : Nat), (wordF f n).length ≤ f
  | 0, n => Nat.le_refl _
  | f + 1, n => by
    have := wordF_len f (n / 16)
    unfold wordF; split
    · exact Nat.zero_le _
    · rw [List.length_append, List.length_singleton]; lia
theorem ap_slice : ∀ m : Fin 16, ((apAll.toList.drop (clipAt apAll.size (m.val : Int))).take (clipAt apAll.size ((m.val : Int) + 1) - clipAt apAll.size (m.val : Int))).toArray = #[apOf m.val] := by decide +kernel

section
variable {F : Fx} {mu : List Addr} {ρ : Vars} {own : Owned}
theorem pb_some {e : Expr} {i : Int} (x : PE F mu ρ own e (.int i)) : PB F mu ρ own (some e) (some i) := x
theorem pb_none : PB F mu ρ own none none := trivial
theorem pe_conv {e : Expr} {a b : D} (x : PE F mu ρ own e a) (h : a = b) : PE F mu ρ own e b := h ▸ x
end

set_option maxHeartbeats 4000000
theorem fn_word {c : Cx} {f : Addr} {n : Nat} (hf : FnAt c f 3 ["num"]) (habs : c.mg (Str.ofString "abs") = none) (hint : c.mg (Str.ofString "int") = none) (hdm : c.mg (Str.ofString "divmod") = none) (hn : n < 16 ^ 6) : Fn c 1 f [.int n] (.byt (word n).toArray) := by
  refine fn_at hf rfl fun F mu hc room he => ?_
  obtain ⟨q, L, cd, he⟩ := he
  subst hc
  obtain ⟨c, A, env, B⟩ := F
  simp only at he
  subst he
  refine st_seq (st_assign pe_byt (.inl rfl) (by intro p hp; cases hp)) ?_
  refine st_seq (st_assign (pe_conv pe_byt (show D.byt _ = D.byt apAll from rfl)) (.inl rfl) (by intro p hp; cases hp)) ?_
  refine st_seq (st_assign (d := .int n) (pe_typ typ_int (.cons (pe_conv (pe_blt blt_abs (.cons (pe_var rfl) .nil) habs (by decide +kernel)) (by rw [if_neg (by lia)])) .nil) hint (by decide +kernel)) (.inl rfl) (by intro p hp; cases hp)) ?_
  refine st_seq (st_while (fun p : Nat × List UInt8 => [("num", .int p.1), ("val", .byt p.2.toArray), ("AP", .byt apAll)]) (fun p => p.1 < 16 ^ 6 ∧ word p.1 ++ p.2 = word n) (fun p => p.1) (fun p => (p.1 : Int) != 0)
    (fun p => (p.1 / 16, apOf (p.1 % 16) :: p.2)) (n, []) ?_ ?_ ?_ ?_ ?_) ?_
  · exact ⟨hn, by simp⟩
  · rintro ⟨m, v⟩ ⟨h1, h3⟩ hc
    have hm : m ≠ 0 := by simpa using hc
    refine ⟨⟨show m / 16 < 16 ^ 6 by lia, ?_⟩, show m / 16 < m by lia⟩
    rw [word_step (by lia) hm] at h3
    simpa using h3
  · exact less_cons rfl (less_cons rfl (less_cons rfl less_nil))
  · rintro ⟨m, v⟩ hp
    exact pt_plain (pe_var rfl) truth_int
  · rintro ⟨m, v⟩ ⟨h1, h3⟩ hc
    have hm : m ≠ 0 := by simpa using hc
    refine st_seq (st_assign_tup (pe_blt (blt_divmod (by decide) (PyProof.noPylong_small (by lia))) (.cons (pe_var rfl) (.cons pe_int .nil)) hdm (by decide +kernel)) (.cons (tgt_name (.inl rfl)) (.cons (tgt_name (.inl rfl)) .nil)) (by intro p hp; cases hp)) ?_
    have hv : v.length ≤ 8 := by
      have := wordF_len 8 n
      have e : (word m ++ v).length = (word n).length := by rw [h3]
      rw [List.length_append] at e
      unfold word at e; lia
    have hs := ap_slice ⟨m % 16, Nat.mod_lt _ (by decide)⟩
    have hmod : (m : Int).fmod 16 = ((m % 16 : Nat) : Int) := by rw [Int.fmod_eq_emod_of_nonneg _ (by decide)]; lia
    have hdiv : (m : Int).fdiv 16 = ((m / 16 : Nat) : Int) := by rw [Int.fdiv_eq_ediv_of_nonneg _ (by decide)]; lia
    refine (st_assign (d := .byt (#[apOf (m % 16)] ++ v.toArray)) (pe_bin (pe_conv (pe_slice_byt (b := apAll) (i := some ((m : Int).fmod 16)) (j := some ((m : Int).fmod 16 + 1)) (pe_var rfl) (pb_some (pe_var rfl)) (pb_some (pe_bin (pe_var rfl) pe_int op_add_int)) (by decide)) (show D.byt _ = D.byt #[apOf (m % 16)] by rw [hmod]; exact congrArg D.byt hs)) (pe_var rfl)
      (op_add_byt (by simp; lia))) (.inl rfl) (by intro p hp; cases hp)).post fun f g ⟨e1, e2⟩ => ⟨.inl e1, e2.less ?_⟩
    refine less_cons (by rw [← hdiv]; rfl) (less_cons ?_ (less_cons rfl less_nil))
    show some (D.byt (#[apOf (m % 16)] ++ v.toArray)) = some (D.byt (apOf (m % 16) :: v).toArray)
    simp
  · intro s Φ E st kq
    obtain ⟨⟨m, v⟩, ⟨h1, h3⟩, hc, st'⟩ := st
    have hm : m = 0 := by simpa using hc
    subst hm
    have hv : v = word n := by rw [← h3]; rfl
    subst hv
    exact (st_ret (pe_var rfl)) s Φ E st' fun fl h' tk ⟨v, e1, e2, e3⟩ => kq fl h' tk ⟨v, e1, e2.less less_nil, e3⟩
end Mine
end

section
set_option Elab.async false
set_option maxRecDepth 100000
set_option autoImplicit false
set_option linter.unusedVariables false
namespace Mine
open PySem PySem.Calls PyProof.Rows PySem.W

/-- what the sets hold -/
structure SetB1 (S : Int → Bool) : Prop where
  yes : ∀ i : Int, 65024 ≤ i → i < 65040 → S i = true
  no : ∀ i : Int, (65 ≤ i ∧ i ≤ 112) ∨ (120000 ≤ i ∧ i ≤ 121000) → S i = false
structure SetC7 (S : Int → Bool) : Prop where
  yes : ∀ i : Int, 12272 ≤ i → i < 12284 → S i = true
  no : ∀ i : Int, i < 12272 ∨ 12284 ≤ i → S i = false

/-- the module's names -/
structure Gl (c : Cx) where
  f3 : Addr
  f4 : Addr
  f6 : Addr
  f9 : Addr
  f11 : Addr
  f13 : Addr
  f15 : Addr
  f16 : Addr
  f17 : Addr
  f18 : Addr
  a8 : Addr
  a10 : Addr
  a12 : Addr
  g3 : c.mg (Str.ofString "Int2AP") = some (.ref f3)
  g4 : c.mg (Str.ofString "ParseFlags") = some (.ref f4)
  g6 : c.mg (Str.ofString "rgb_to_hsv") = some (.ref f6)
  g8 : c.mg (Str.ofString "b1_set") = some (.ref a8)
  g9 : c.mg (Str.ofString "in_table_b1") = some (.ref f9)
  g10 : c.mg (Str.ofString "b3_exceptions") = some (.ref a10)
  g11 : c.mg (Str.ofString "map_table_b3") = some (.ref f11)
  g12 : c.mg (Str.ofString "c7_set") = some (.ref a12)
  g13 : c.mg (Str.ofString "in_table_c7") = some (.ref f13)
  g15 : c.mg (Str.ofString "_law_sign") = some (.ref f15)
  g16 : c.mg (Str.ofString "_law_read") = some (.ref f16)
  g17 : c.mg (Str.ofString "_law_common") = some (.ref f17)
  g18 : c.mg (Str.ofString "_law_inside") = some (.ref f18)
  d3 : FnAt c f3 3 ["num"]
  d4 : FnAt c f4 4 ["resp"]
  d6 : FnAt c f6 6 ["r", "g", "b"]
  d9 : FnAt c f9 9 ["code"]
  d11 : FnAt c f11 11 ["code"]
  d13 : FnAt c f13 13 ["code"]
  d15 : FnAt c f15 15 ["letter", "form"]
  d16 : FnAt c f16 16 ["text"]
  d17 : FnAt c f17 17 ["one", "two"]
  d18 : FnAt c f18 18 ["spots", "edges"]
  s8 : ∃ S n, c.root.SetOf (intKind c.prog c.w) a8 S n ∧ SetB1 S
  s12 : ∃ S n, c.root.SetOf (intKind c.prog c.w) a12 S n ∧ SetC7 S
  m10 : ∃ m, c.root.MapOf (intKind c.prog c.w) a10 m ∧ B3 m
  m10s : (a10 == sysModules) = false
  n_abs : c.mg (Str.ofString "abs") = none
  n_int : c.mg (Str.ofString "int") = none
  n_divmod : c.mg (Str.ofString "divmod") = none
  n_ord : c.mg (Str.ofString "ord") = none
  n_chr : c.mg (Str.ofString "chr") = none
  n_max : c.mg (Str.ofString "max") = none
  n_min : c.mg (Str.ofString "min") = none
  n_len : c.mg (Str.ofString "len") = none
  n_sum : c.mg (Str.ofString "sum") = none
  n_list : c.mg (Str.ofString "list") = none
  n_tuple : c.mg (Str.ofString "tuple") = none
  n_range : c.mg (Str.ofString "range") = none
  n_sorted : c.mg (Str.ofString "sorted") = none
  n_zip : c.mg (Str.ofString "zip") = none

section
variable {F : Fx} {mu : List Addr} {ρ : Vars} {own : Owned}
theorem st_exi {α : Sort _} {P : α → Heap → Prop} {ss : List Stmt} {Q : Flow → Heap → Prop} (h : ∀ a, ST F (P a) ss Q) : ST F (fun g => ∃ a, P a g) ss Q := fun s Φ E ⟨a, p⟩ k => h a s Φ E p k
theorem st_fact {p : Prop} {P : Heap → Prop} {ss : List Stmt} {Q : Flow → Heap → Prop} (h : p → ST F P ss Q) : ST F (fun g => p ∧ P g) ss Q := fun s Φ E ⟨q, r⟩ k => h q s Φ E r k
/-- a call of a def of the text -/
theorem pe_def {f : Addr} {i lim : Nat} {ns : List Str} {x : Str} {p pos : Pos} {es : List Expr} {ds : List D} {r : D} (C : Fn F.c lim f ds r) (hd : FnAt F.c f i ns) (hg : F.c.mg x = some (.ref f)) (room : Room F.A lim) (xs : PEL F mu ρ own es ds)
    (hk : F.env.kindOf x = some .globalImplicit := by rfl) (hs : starEach es F.env = es.map (fun e => (false, eval e F.env)) := by rfl) (hne : es ≠ [] := by simp) (hb : (x == ("__debug__" : Str)) = false := by decide) :
    PE F mu ρ own (.Call (.Name x p) es [] pos) r := by
  obtain ⟨o, fd, h1, h2, _⟩ := hd
  exact pe_call C xs room hg h1 h2 hk hs hne hb
end

/-- a sign of the text, as it is meant -/
inductive Sg where
  | let (v : Nat) (code : Nat)
  | gap (code : Nat)
  | stop (code : Nat)
noncomputable def Sg.code : Sg → Nat
  | .let _ c => c
  | .gap c => c
  | .stop c => c
noncomputable def Sg.Ok : Sg → Prop
  | .let v c => v < 16 ∧ (c = 97 + v ∨ c = 65 + v ∨ ∃ k, k < 8 ∧ 2 ≤ k ∧ c = 120068 + 52 * k + v)
  | .gap c => 65024 ≤ c ∧ c < 65040
  | .stop c => 12272 ≤ c ∧ c < 12284
/-- one step of the reading -/
noncomputable def readStep (rows : List Int) : Sg → List Int
  | .let v _ => rows.set (rows.length - 1) (16 * rows.getLastD 0 + v)
  | .gap _ => rows
  | .stop _ => rows ++ [0]
noncomputable def readAll (sg : List Sg) : List Int := sg.foldl readStep [0]
theorem read_take_length (sg : List Sg) (i : Nat) : 1 ≤ (readAll (sg.take i)).length ∧ (readAll (sg.take i)).length ≤ i + 1 := by
  induction i with
  | zero => simp [readAll]
  | succ i ih =>
    rw [List.take_add_one]
    cases h : sg[i]? with
    | none => simp at ih ⊢; lia
    | some s =>
      unfold readAll at ih ⊢
      rw [List.foldl_append]
      simp only [Option.toList_some, List.foldl_cons, List.foldl_nil]
      cases s <;> simp [readStep] <;> lia

theorem rows_idx {rows : List Int} (h : 1 ≤ rows.length) : seqIndex? (-1) (rows.map D.int).length = some (rows.length - 1) := by
  rw [seqIndex_neg (by decide) (by simp; lia), List.length_map]
  congr 1; lia
theorem rows_get {rows : List Int} (h : 1 ≤ rows.length) : (rows.map D.int)[rows.length - 1]? = some (.int (rows.getLastD 0)) := by
  rw [List.getElem?_map, ← List.getLast?_eq_getElem?]
  cases hr : rows.getLast? with
  | none => rw [List.getLast?_eq_none_iff] at hr; rw [hr] at h; cases h
  | some y => rw [List.getLastD_eq_getLast?, hr]; rfl
theorem rows_set {rows : List Int} (h : 1 ≤ rows.length) {v k : Nat} : ((rows.map D.int).set ((-1 + ((rows.map D.int).length : Int)).toNat) (.int (16 * rows.getLastD 0 + ((97 + v : Nat) : Int) - 97))) = (readStep rows (.let v k)).map .int := by
  rw [List.length_map, show (-1 + (rows.length : Int)).toNat = rows.length - 1 by lia]
  unfold readStep
  rw [List.map_set]
  congr 2; lia
set_option maxHeartbeats 4000000
theorem fn_read {c : Cx} (G : Gl c) {x : Str} {sg : List Sg} (hx : x.cps.toList = sg.map Sg.code) (ok : ∀ s ∈ sg, s.Ok) (hn : sg.length ≤ 10000) : Fn c 2 G.f16 [.str x] (.lst ((readAll sg).map .int)) := by
  refine fn_at G.d16 rfl fun F mu hc room he => ?_
  obtain ⟨q, L, cd, he⟩ := he
  obtain ⟨c', A, env, B⟩ := F
  dsimp only at hc he
  subst hc
  subst he
  refine st_seq (st_own (pn_list (.cons pe_int .nil)) (.inl rfl) (by intro p hp; cases hp) rfl) (st_exi fun a => st_fact fun ham => st_fact fun okF => ?_)
  have hno : ∀ (i : Nat) (d : D), ∀ p ∈ ([("rows", a, [D.int 0])] : Owned), ∀ b ∈ ([("sign", d)] : Vars), p.1 ≠ b.1 := fun i d p hp b hb => by
    have e1 := List.mem_singleton.mp hp
    have e2 := List.mem_singleton.mp hb
    subst e1; subst e2
    show (Str.ofString "rows") ≠ (Str.ofString "sign")
    decide
  refine st_seq (R := Sta _ (a :: mu) [] [("rows", a, (readAll (sg.take (x.cps.toList.map fun c => D.str ⟨#[c]⟩).length)).map .int)]) (st_for (it_str (x := x) (pe_var rfl)) (fun i d => [("sign", d)]) hno
    (fun _ => []) (fun i => [("rows", a, (readAll (sg.take i)).map .int)]) less_nil rfl (fun i => rfl) (fun i d hd => tg_name (.inl rfl)) ?_) ?_
  · intro B' mu' i d hd
    rw [List.getElem?_map, hx, List.getElem?_map] at hd
    obtain ⟨s, hs⟩ : ∃ s, sg[i]? = some s := by
      cases h : sg[i]? with
      | none => rw [h] at hd; cases hd
      | some s => exact ⟨s, rfl⟩
    rw [hs] at hd
    have hd' : d = .str ⟨#[s.code]⟩ := by simpa using hd.symm
    subst hd'
    have hok := ok s (List.mem_of_getElem? hs)
    obtain ⟨S1, n1, hS1, b1⟩ := G.s8
    obtain ⟨S2, n2, hS2, c7⟩ := G.s12
    obtain ⟨m, hm, b3⟩ := G.m10
    have next : readAll (sg.take (i + 1)) = readStep (readAll (sg.take i)) s := by
      unfold readAll
      rw [List.take_add_one, hs, List.foldl_append]; rfl
    have len := read_take_length sg i
    have hi : i < sg.length := by
      rcases Nat.lt_or_ge i sg.length with h | h
      · exact h
      · rw [List.getElem?_eq_none h] at hs; cases hs
    rw [next]
    generalize readAll (sg.take i) = rows at len
    have rm : Room A 1 := room
    refine (st_if (r := S2 s.code) (pt_plain (pe_def (fn_in_c7 (i := s.code) G.d13 G.n_ord G.g12 hS2) G.d13 G.g13 rm (.cons (pe_var rfl) .nil)) truth_bool) ?_ ?_)
    · intro h2
      cases s with
      | stop k =>
        refine (st_append pe_int (by simp; lia)).post fun f g ⟨e1, e2⟩ => ⟨.inl e1, ?_⟩
        have e3 := e2.less (ρ' := []) less_nil
        simpa [readStep] using e3
      | gap k =>
        have : S2 (k : Int) = false := c7.no k (by have := hok.1; lia)
        rw [show ((Sg.gap k).code : Int) = k from rfl, this] at h2; cases h2
      | «let» v k =>
        have : S2 (k : Int) = false := c7.no k (by have h0 := hok.1; rcases hok.2 with h | h | ⟨j, h3, h4, h⟩ <;> lia)
        rw [show ((Sg.let v k).code : Int) = k from rfl, this] at h2; cases h2
    · intro h2
      refine (st_if (r := !S1 s.code) (pt_not (pt_plain (pe_def (fn_in_b1 (i := s.code) G.d9 G.n_ord G.g8 hS1) G.d9 G.g9 rm (.cons (pe_var rfl) .nil)) truth_bool)) ?_ ?_)
      · intro h1
        cases s with
        | stop k =>
          have : S2 (k : Int) = true := c7.yes k (by have := hok.1; lia) (by have := hok.2; lia)
          rw [show ((Sg.stop k).code : Int) = k from rfl, this] at h2; cases h2
        | gap k =>
          have : S1 (k : Int) = true := b1.yes k (by have := hok.1; lia) (by have := hok.2; lia)
          rw [show ((Sg.gap k).code : Int) = k from rfl, this] at h1; cases h1
        | «let» v k =>
          have hmap := fn_map (i := k) (l := v) G.d11 G.n_ord G.g10 hm G.m10s b3 hok.1 hok.2
          have hidx := rows_idx len.1
          have hget := rows_get len.1
          refine (st_set (i := -1) (d := .int (16 * rows.getLastD 0 + ((97 + v : Nat) : Int) - 97)) (pe_bin (pe_bin (pe_bin pe_int (pe_sub_own List.mem_cons_self (pe_neg pe_int) hidx hget (by decide)) (op_mul_int (IntMulOk.of_left (by decide +kernel)))) (pe_blt blt_ord (.cons (pe_def hmap G.d11 G.g11 rm (.cons (pe_var rfl) .nil)) .nil) G.n_ord (by decide +kernel)) op_add_int) pe_int op_sub_int)
            (pe_neg pe_int) (by decide) (by simp; lia) (by decide)).post fun f g ⟨e1, e2⟩ => ⟨.inl e1, ?_⟩
          have e3 := e2.less (ρ' := []) less_nil
          rw [rows_set len.1 (k := k)] at e3; exact e3
      · intro h1
        refine st_nil fun g p => ⟨.inl rfl, ?_⟩
        cases s with
        | stop k =>
          have : S2 (k : Int) = true := c7.yes k (by have := hok.1; lia) (by have := hok.2; lia)
          rw [show ((Sg.stop k).code : Int) = k from rfl, this] at h2; cases h2
        | gap k => exact p.less less_nil
        | «let» v k =>
          have : S1 (k : Int) = false := b1.no k (by have := hok.1; rcases hok.2 with h | h | ⟨j, h3, h4, h⟩ <;> lia)
          rw [show ((Sg.let v k).code : Int) = k from rfl, this] at h1; cases h1
  · have hl : (x.cps.toList.map fun c => D.str ⟨#[c]⟩).length = sg.length := by rw [hx]; simp
    rw [hl, List.take_length]
    refine ST.pre (P := Sta _ mu [("rows", .lst ((readAll sg).map .int))] []) ?_ fun g p => p.freeze ham okF
    exact (st_ret (pe_var rfl)).post fun fl g ⟨v, e1, e2, e3⟩ => ⟨v, e1, e2.less less_nil, e3⟩
end Mine
end

section
set_option Elab.async false
set_option maxRecDepth 100000
set_option autoImplicit false
set_option linter.unusedVariables false
namespace Mine
open PySem PySem.Calls PyProof.Rows PySem.W

/-- the colour's hue, share and light -/
noncomputable def hueF (r g b : UInt64) : UInt64 :=
  let mx := maxF r g b
  let rg := Float64.sub mx (minF r g b)
  let rc := Float64.div (Float64.sub mx r) rg
  let gc := Float64.div (Float64.sub mx g) rg
  let bc := Float64.div (Float64.sub mx b) rg
  let h := if Float64.cmp r mx == some .eq then Float64.sub bc gc else if Float64.cmp g mx == some .eq then Float64.sub (Float64.add 0x4000000000000000 rc) bc else Float64.sub (Float64.add 0x4010000000000000 gc) rc
  (Float64.divmod (Float64.div h 0x4018000000000000) 0x3FF0000000000000).snd
noncomputable def shareF (r g b : UInt64) : UInt64 := Float64.div (Float64.sub (maxF r g b) (minF r g b)) (maxF r g b)
noncomputable def greyF (r g b : UInt64) : Bool := Float64.cmp (minF r g b) (maxF r g b) == some .eq
noncomputable def hsvD (r g b : UInt64) : D := if greyF r g b then .tup [.flt 0, .flt 0, .flt (maxF r g b)] else .tup [.flt (hueF r g b), .flt (shareF r g b), .flt (maxF r g b)]

set_option maxHeartbeats 4000000
theorem fn_hsv {c : Cx} (G : Gl c) {r g b : UInt64} (h1 : greyF r g b = false → Float64.isZero (maxF r g b) = false) (h2 : greyF r g b = false → Float64.isZero (Float64.sub (maxF r g b) (minF r g b)) = false) :
    Fn c 1 G.f6 [.flt r, .flt g, .flt b] (hsvD r g b) := by
  refine fn_at G.d6 rfl fun F mu hc room he => ?_
  obtain ⟨q, L, cd, he⟩ := he
  obtain ⟨c', A, env, B⟩ := F
  dsimp only at hc he
  subst hc
  subst he
  have no : ∀ {x : Str}, ∀ p ∈ ([] : Owned), p.1 ≠ x := fun p hp => nomatch hp
  refine st_seq (st_assign (pe_blt blt_maxF (.cons (pe_var rfl) (.cons (pe_var rfl) (.cons (pe_var rfl) .nil))) G.n_max (by decide +kernel)) (.inl rfl) no) ?_
  refine st_seq (st_assign (pe_blt blt_minF (.cons (pe_var rfl) (.cons (pe_var rfl) (.cons (pe_var rfl) .nil))) G.n_min (by decide +kernel)) (.inl rfl) no) ?_
  refine st_seq (st_assign (pe_bin (pe_var rfl) (pe_var rfl) op_sub_flt) (.inl rfl) no) ?_
  refine st_seq (st_assign (pe_var rfl) (.inl rfl) no) ?_
  refine st_if_ret (r := greyF r g b) (pt_cmp (pe_var rfl) (pe_var rfl) cmp_eq_flt) ?_ ?_ (fun g ⟨v, e, _⟩ => nomatch e)
  · intro hg
    refine (st_ret (pe_tuple (.cons pe_flt (.cons pe_flt (.cons (pe_var rfl) .nil))))).post fun fl g ⟨v, e1, e2, e3⟩ => ⟨v, e1, e2.less less_nil, ?_⟩
    unfold hsvD; rw [if_pos hg]; exact e3
  · intro hg
    have z1 := h1 hg
    have z2 := h2 hg
    refine st_seq (st_assign (pe_bin (pe_var rfl) (pe_var rfl) (op_div_flt z1)) (.inl rfl) no) ?_
    refine st_seq (st_assign (pe_bin (pe_bin (pe_var rfl) (pe_var rfl) op_sub_flt) (pe_var rfl) (op_div_flt z2)) (.inl rfl) no) ?_
    refine st_seq (st_assign (pe_bin (pe_bin (pe_var rfl) (pe_var rfl) op_sub_flt) (pe_var rfl) (op_div_flt z2)) (.inl rfl) no) ?_
    refine st_seq (st_assign (pe_bin (pe_bin (pe_var rfl) (pe_var rfl) op_sub_flt) (pe_var rfl) (op_div_flt z2)) (.inl rfl) no) ?_
    refine st_seq (R := Sta ⟨c', A, envF (sScope (fstmt 6)) q L G.f6 cd, B⟩ mu [("h", .flt (let mx := maxF r g b
        let rg := Float64.sub mx (minF r g b)
        let rc := Float64.div (Float64.sub mx r) rg
        let gc := Float64.div (Float64.sub mx g) rg
        let bc := Float64.div (Float64.sub mx b) rg
        if Float64.cmp r mx == some .eq then Float64.sub bc gc else if Float64.cmp g mx == some .eq then Float64.sub (Float64.add 0x4000000000000000 rc) bc else Float64.sub (Float64.add 0x4010000000000000 gc) rc)),
        ("s", .flt (shareF r g b)), ("v", .flt (maxF r g b))] []) ?_ ?_
    · refine st_if (r := Float64.cmp r (maxF r g b) == some .eq) (pt_cmp (pe_var rfl) (pe_var rfl) cmp_eq_flt) ?_ ?_
      · intro e
        refine (st_assign (pe_bin (pe_var rfl) (pe_var rfl) op_sub_flt) (.inl rfl) no).post fun f gh ⟨e1, e2⟩ => ⟨e1, e2.less (less_cons ?_ (less_cons rfl (less_cons rfl less_nil)))⟩
        simp only [e, if_true]; rfl
      · intro e
        refine st_if (r := Float64.cmp g (maxF r g b) == some .eq) (pt_cmp (pe_var rfl) (pe_var rfl) cmp_eq_flt) ?_ ?_
        · intro e'
          refine (st_assign (pe_bin (pe_bin pe_flt (pe_var rfl) op_add_flt) (pe_var rfl) op_sub_flt) (.inl rfl) no).post fun f gh ⟨e1, e2⟩ => ⟨e1, e2.less (less_cons ?_ (less_cons rfl (less_cons rfl less_nil)))⟩
          simp only [e, e', if_true, Bool.false_eq_true, if_false]; rfl
        · intro e'
          refine (st_assign (pe_bin (pe_bin pe_flt (pe_var rfl) op_add_flt) (pe_var rfl) op_sub_flt) (.inl rfl) no).post fun f gh ⟨e1, e2⟩ => ⟨e1, e2.less (less_cons ?_ (less_cons rfl (less_cons rfl less_nil)))⟩
          simp only [e, e', Bool.false_eq_true, if_false]; rfl
    · refine st_seq (st_assign (pe_bin (pe_bin (pe_var rfl) pe_flt (op_div_flt (by decide +kernel))) pe_flt (op_mod_flt (by decide +kernel))) (.inl rfl) no) ?_
      refine (st_ret (pe_tuple (.cons (pe_var rfl) (.cons (pe_var rfl) (.cons (pe_var rfl) .nil))))).post fun fl gh ⟨v, e1, e2, e3⟩ => ⟨v, e1, e2.less less_nil, ?_⟩
      unfold hsvD; rw [if_neg (by simp [hg])]; exact e3
end Mine
end

section
set_option Elab.async false
set_option maxRecDepth 100000
set_option autoImplicit false
set_option linter.unusedVariables false
namespace Mine
open PySem PySem.Calls PyProof.Rows PySem.W

theorem zip_name {x : Str} (hx : x = Str.ofString "zip") : bootBuiltins x = some (.type "zip") := by subst hx; decide +kernel
theorem zipWith_get {α β γ : Type} {f : α → β → γ} {a : List α} {b : List β} {i : Nat} {z : γ} (h : (List.zipWith f a b)[i]? = some z) : ∃ x y, a[i]? = some x ∧ b[i]? = some y ∧ z = f x y := by
  rw [List.getElem?_zipWith] at h
  cases ha : a[i]? <;> cases hb : b[i]? <;> simp [ha, hb] at h
  exact ⟨_, _, rfl, rfl, h.symm⟩

section
variable {F : Fx} {mu : List Addr} {ρ : Vars} {own : Owned}

theorem it_zip {p pos : Pos} {e e' : Expr} {ds es : List D} (x : PE F mu ρ own e (.lst ds)) (y : PE F mu ρ own e' (.lst es)) (hg : F.c.mg (Str.ofString "zip") = none)
    (hk : F.env.kindOf (Str.ofString "zip") = some .globalImplicit := by rfl) (hs : starEach [e, e'] F.env = [(false, eval e F.env), (false, eval e' F.env)] := by rfl) :
    ITT (fun t => ∃ elts k pos, t = .Tuple elts k pos) F mu ρ own (.Call (.Name (Str.ofString "zip") p) [e, e'] [] pos) (List.zipWith (fun a b => .tup [a, b]) ds es) := fun s Q E st h => by
  refine Call_Name rfl ?_
  rw [hs]
  refine pe_builtin st hk hg (zip_name rfl) (by decide) ?_ (by decide)
  refine PyProof.Rows.callWith_type rfl (evalArgs_plain (spliced_cons (x s _ _ st fun v s₁ k1 a1 => spliced_cons (y s₁ _ _ (st.keeps (khp k1)) fun w s₂ k2 a2 => spliced_nil ?_))))
  have kk := ktrans k1 k2
  have a1' := a1.keep (khp k2)
  obtain ⟨l1, vs, rfl, m1, hl1, hv1⟩ := a1'.lst_inv
  obtain ⟨l2, ws, rfl, m2, hl2, hv2⟩ := a2.lst_inv
  have st₂ := st.keeps (khp kk)
  show F.W (call (.type "zip") [.ref l1, .ref l2]) _ _ _
  refine call_zip_2 hl1 hl2 fun h' iz iTI iTO j1 j2 hsz up => ?_
  obtain ⟨hp2, t2, rfl, up2⟩ := kk
  dsimp only at iz iTI iTO j1 j2 hsz up hl1 hl2 hv1 hv2 st₂ ⊢
  generalize hN : hp2.objs.size = N at iz iTI iTO j1 j2 hsz
  have lt1 : l1 < N := by obtain ⟨o, ho, _⟩ := hl1; exact hN ▸ Heap.lt_size ho
  have lt2 : l2 < N := by obtain ⟨o, ho, _⟩ := hl2; exact hN ▸ Heap.lt_size ho
  have lt1' : @LT.lt Nat _ l1 N := lt1
  have lt2' : @LT.lt Nat _ l2 N := lt2
  have ZA : ZipApart (N + 4) (N + 2) (N + 3) N (N + 1) l1 l2 := by constructor <;> first | (show @Ne Nat _ _; lia)
  have W := WalksT.zip2 (prog := F.c.prog) (w := F.c.w) st.ok.hh (N + 4) (N + 2) (N + 3) N (N + 1) l1 l2 ZA vs.toArray ws.toArray
  have hlen : min vs.toArray.size ws.toArray.size = (List.zipWith (fun a b => D.tup [a, b]) ds es).length := by
    rw [List.size_toArray, List.size_toArray, hv1.1, hv2.1, List.length_zipWith]
  rw [hlen] at W
  have fr : ∀ b, @LE.le Nat _ N b → hp2.get? b = none := fun b hb => Heap.get?_none_of_le (hN ▸ hb)
  have wrfr : ∀ b ∈ [N + 4, N + 3, N, N + 1], hp2.get? b = none := fun b hb => by
    simp only [List.mem_cons, List.not_mem_nil, or_false] at hb
    rcases hb with rfl | rfl | rfl | rfl <;> exact fr _ (by lia)
  have lift : ∀ v d, At hp2 mu v d → At h' ([N + 4, N + 3, N, N + 1] ++ mu) v d := fun v d a => a.mono (fun b o _ e => up b o e) fun b o hb e hb' => by
    rcases List.mem_append.mp hb' with q | q
    · rw [wrfr b q] at e; cases e
    · exact hb q
  refine wpAny_pyIter_zip iz ?_
  refine h { s with heap := h', toks := t2 } (N + 4) _ _
    (fun i h => IsZip h (N + 4) (N + 2) (N + 3) .none ∧ IsPair h (N + 2) (.ref N) (.ref (N + 1)) ∧ (∃ a b, IsPair h (N + 3) a b) ∧ h.IsListIter N l1 i ∧ h.IsListIter (N + 1) l2 i ∧ h.IsList l1 vs.toArray ∧ h.IsList l2 ws.toArray)
    (fun i v h => ∃ T, v = .ref T ∧ (IsZip h (N + 4) (N + 2) (N + 3) (rawInt T) ∧ IsPair h (N + 2) (.ref N) (.ref (N + 1)) ∧ (∃ a b, IsPair h (N + 3) a b) ∧ h.IsListIter N l1 (i + 1) ∧ h.IsListIter (N + 1) l2 (i + 1) ∧ h.IsList l1 vs.toArray ∧ h.IsList l2 ws.toArray ∧
        T ≠ N + 4 ∧ T ≠ N + 3 ∧ T ≠ N ∧ T ≠ N + 1)) ⟨_, _, rfl, fun b o e => up b o (up2 b o e)⟩ ⟨W.sub, W.frame, ?_, ?_, ?_, ?_, W.done, W.self⟩ ?_ ?_ ?_
  · rintro i g ⟨z1, z2, ⟨a, b, z3⟩, ⟨o1, z4, _⟩, ⟨o2, z5, _⟩, _⟩ b hb
    simp only [List.mem_cons, List.not_mem_nil, or_false] at hb
    rcases hb with rfl | rfl | rfl | rfl
    · exact ⟨_, z1⟩
    · exact ⟨_, z3⟩
    · exact ⟨_, z4⟩
    · exact ⟨_, z5⟩
  · rintro i v g ⟨T, rfl, z1, z2, ⟨a, b, z3⟩, ⟨o1, z4, _⟩, ⟨o2, z5, _⟩, _⟩ b hb
    simp only [List.mem_cons, List.not_mem_nil, or_false] at hb
    rcases hb with rfl | rfl | rfl | rfl
    · exact ⟨_, z1⟩
    · exact ⟨_, z3⟩
    · exact ⟨_, z4⟩
    · exact ⟨_, z5⟩
  · intro i s' Q' E' hi hst hup hQ
    refine W.item i s' Q' E' hi hst fun T vals h2 tk hP hT ht hM kw => ?_
    refine hQ (.ref T) h2 tk ⟨T, rfl, hM⟩ (fun d mx hd hmx => ?_) kw
    obtain ⟨d1, d2, e1, e2, rfl⟩ := zipWith_get hd
    obtain ⟨u1, u2, g1, g2, rfl⟩ := hP
    have g1' : vs[i]? = some u1 := by simpa using g1
    have g2' : ws[i]? = some u2 := by simpa using g2
    have tr : ∀ v d, At hp2 mu v d → At h2 mx v d := fun v d a => (lift v d a).mono (fun b o hb e => kw b o (fun q => hb (List.mem_append_left _ q)) (hup b o hb e)) fun b o hb e hb' => (hmx b hb').1.elim hb fun q => by
      have e' : h'.get? b = some o := e
      rw [q] at e'; cases e'
    have at2 : AtL h2 mx [u1, u2] [d1, d2] := AtL.cons (tr _ _ (hv1.2 i u1 d1 g1' e1)) (AtL.cons (tr _ _ (hv2.2 i u2 d2 g2' e2)) AtL.nil)
    refine .tup (fun hm => ?_) (vs := [u1, u2]) ht at2.1 at2.2
    obtain ⟨o, ho⟩ := (hmx T hm).2
    exact absurd (Heap.lt_size ho) (Nat.not_lt.mpr hT)
  · rintro i v tgt s' Q' E' ⟨elts, k, pos', rfl⟩ ⟨T, rfl, hM⟩ hQ
    refine W.go elts k pos' i T s' Q' E' hM fun g hst kw => hQ g hst kw fun d mx hmx a => ?_
    exact a.mono (fun b o hb e => kw b o (fun q => hb (hmx b q)) e) fun _ _ hb _ => hb
  · exact ⟨iz, iTI, ⟨_, _, iTO⟩, j1, j2, hl1.at fun o e => up _ o e, hl2.at fun o e => up _ o e⟩
  · intro b hb
    simp only [List.mem_cons, List.not_mem_nil, or_false] at hb
    have nm : ∀ b, @LE.le Nat _ N b → b ∉ mu := fun b hb hm => by obtain ⟨o, e⟩ := st₂.live b hm; rw [fr b hb] at e; cases e
    rcases hb with rfl | rfl | rfl | rfl | rfl | rfl | rfl
    · exact ⟨nm _ (by lia), _, iz⟩
    · exact ⟨nm _ (by lia), _, iTI⟩
    · exact ⟨nm _ (by lia), _, iTO⟩
    · exact ⟨nm _ (by lia), _, j1.choose_spec.1⟩
    · exact ⟨nm _ (by lia), _, j2.choose_spec.1⟩
    · obtain ⟨o, ho, _⟩ := hl1; exact ⟨m1, o, up _ o ho⟩
    · obtain ⟨o, ho, _⟩ := hl2; exact ⟨m2, o, up _ o ho⟩
  · intro b hb
    cases e : s.heap.get? b with
    | none => rfl
    | some o => have := up2 b o e; rw [wrfr b hb] at this; cases this
end
end Mine
end

section
set_option Elab.async false
set_option maxRecDepth 100000
set_option autoImplicit false
set_option linter.unusedVariables false
namespace Mine
open PySem PySem.Calls PyProof.Rows PySem.W

theorem mul_ok {a b : Int} (h : a.natAbs < 2 ^ 40) : IntMulOk a b := IntMulOk.of_left (Nat.le_trans (intBits_le_iff.mpr h) (by decide : 40 ≤ 64))

/-- a pair -/
noncomputable def pD (p : Int × Int) : D := .tup [.int p.1, .int p.2]
noncomputable def insStep (y : Int) (lh s e : Int × Int) : Int × Int :=
  if 0 < e.2 then (lh.1, min lh.2 ((e.2 * s.1 + e.1 * (y - s.2) - 1).fdiv e.2))
  else if e.2 < 0 then (max lh.1 ((-e.2 * s.1 - e.1 * (y - s.2)).fdiv (-e.2) + 1), lh.2) else lh
noncomputable def rowOf (se : List ((Int × Int) × Int × Int)) (y : Int) : Int × Int := se.foldl (fun lh p => insStep y lh p.1 p.2) (-100, 100)
noncomputable def rowCount (se : List ((Int × Int) × Int × Int)) (y : Int) : Int := max 0 ((rowOf se y).2 - (rowOf se y).1 + 1)
noncomputable def countUp (se : List ((Int × Int) × Int × Int)) (a : Int) : Nat → Int
  | 0 => 0
  | n + 1 => countUp se a n + rowCount se (a + (n : Nat))

theorem rowOf_snoc (l : List ((Int × Int) × Int × Int)) (p : (Int × Int) × Int × Int) (y : Int) : rowOf (l ++ [p]) y = insStep y (rowOf l y) p.1 p.2 := by
  unfold rowOf; rw [List.foldl_append]; rfl

noncomputable def ysF : D → Option D
  | .tup [_, y] => some y
  | _ => none
theorem ys_map (sp : List (Int × Int)) : (sp.map pD).filterMap ysF = (sp.map (·.2)).map .int := by
  induction sp with
  | nil => rfl
  | cons p sp ih => simp only [List.map_cons, List.filterMap_cons]; rw [ih]; rfl

section
variable {F : Fx} {mu : List Addr} {ρ : Vars} {own : Owned}
/-- a comprehension that sees no outer name -/
theorem comp_ok {scope : Scope} (h1 : closureFor scope F.env = pure []) (h2 : scope.kind = .function) (h3 : ∀ x ∈ scope.names, x.2 = .local → scope.names.lookup x.1 = some .local)
    (h4 : ∀ n, cellsFrom n scope.names [] = []) (h5 : ∀ h, pushCells h scope.names = h) : CompOk F scope [] none :=
  ⟨h1, h2, h3, h4, h5, (fun _ _ h => nomatch h), (fun _ _ h => nomatch h), (fun _ h => nomatch h)⟩
theorem no_vis {scope : Scope} {cl : List (Str × Addr)} : ∀ x d, ([] : Vars).lookup x = some d → ρ.lookup x = some d ∧ Vis F scope cl x := fun _ _ h => nomatch h
theorem no_ownv {scope : Scope} {cl : List (Str × Addr)} : ∀ p ∈ ([] : Owned), Vis F scope cl p.1 := fun _ h => nomatch h
theorem no_bs {bs : D → Vars} : ∀ d y e, ([] : Vars).lookup y = some e → (bs d ++ ([] : Vars)).lookup y = some e := fun _ _ _ h => nomatch h
theorem no_bo {bs : D → Vars} : ∀ d, ∀ p ∈ ([] : Owned), ∀ b ∈ bs d, p.1 ≠ b.1 := fun _ _ h => nomatch h
end

theorem ins_up {y l h sx sy ex ey : Int} (hp : 0 < ey) : insStep y (l, h) (sx, sy) (ex, ey) = (l, min h ((ey * sx + ex * (y - sy) - 1).fdiv ey)) := if_pos hp
theorem ins_dn {y l h sx sy ex ey : Int} (hn : ey < 0) : insStep y (l, h) (sx, sy) (ex, ey) = (max l ((-ey * sx - ex * (y - sy)).fdiv (-ey) + 1), h) := by
  unfold insStep
  rw [if_neg (Int.lt_asymm hn), if_pos hn]
theorem ins_no {y l h sx sy ex ey : Int} (hp : ¬ 0 < ey) (hn : ¬ ey < 0) : insStep y (l, h) (sx, sy) (ex, ey) = (l, h) := by
  unfold insStep
  rw [if_neg hp, if_neg hn]
set_option maxHeartbeats 8000000
theorem fn_inside {c : Cx} (G : Gl c) {sp ed : List (Int × Int)} {lo hi : Int} (hlo : lo ∈ sp.map (·.2)) (hlo' : ∀ y ∈ sp.map (·.2), lo ≤ y) (hhi : hi ∈ sp.map (·.2)) (hhi' : ∀ y ∈ sp.map (·.2), y ≤ hi)
    (bs : ∀ p ∈ sp, (p.1.natAbs < 10000 ∧ p.2.natAbs < 10000)) (be : ∀ p ∈ ed, (p.1.natAbs < 10000 ∧ p.2.natAbs < 10000)) (hn : sp.length ≤ 1000) :
    Fn c 1 G.f18 [.lst (sp.map pD), .lst (ed.map pD)] (.int (countUp (sp.zip ed) (lo + 1) (hi - (lo + 1)).toNat)) := by
  refine fn_at G.d18 rfl fun F mu hc room he => ?_
  obtain ⟨q, L, cd, he⟩ := he
  obtain ⟨c', A, env, B⟩ := F
  dsimp only at hc he
  subst hc
  subst he
  have no : ∀ {x : Str}, ∀ p ∈ ([] : Owned), p.1 ≠ x := fun p hp => nomatch hp
  have no2 : ∀ {bs : Vars}, ∀ p ∈ ([] : Owned), ∀ b ∈ bs, p.1 ≠ b.1 := fun p hp => nomatch hp
  have blo : lo.natAbs < 10000 := by obtain ⟨p, hp, rfl⟩ := List.mem_map.mp hlo; exact (bs p hp).2
  have bhi : hi.natAbs < 10000 := by obtain ⟨p, hp, rfl⟩ := List.mem_map.mp hhi; exact (bs p hp).2
  refine st_seq (R := Sta ⟨c', A, envF (sScope (fstmt 18)) q L G.f18 cd, B⟩ mu [("heights", .lst ((sp.map (·.2)).map .int)), ("spots", .lst (sp.map pD)), ("edges", .lst (ed.map pD))] []) ?_ ?_
  · refine (st_assign_comp (f := ysF) (bs := fun d => match d with | .tup [x, y] => [("y", y), ("x", x)] | _ => []) (ρ' := []) (own' := []) (it_list (ds := sp.map pD) (pe_var rfl)).w (comp_ok rfl rfl (by decide +kernel) (fun _ => rfl) (fun _ => rfl)) (by simp; lia)
      rfl no rfl no_vis (List.Sublist.refl _) no_ownv no_bs no_bo ?_ ?_).post fun f g ⟨e1, e2⟩ => ⟨e1, ?_⟩
    · intro C B' d hd _
      obtain ⟨p, hp, rfl⟩ := List.mem_map.mp hd
      exact tg_tuple (.cons (tgt_name (.inl rfl)) (.cons (tgt_name (.inl rfl)) .nil))
    · intro C B' mu' d hd
      obtain ⟨p, hp, rfl⟩ := List.mem_map.mp hd
      refine ⟨pif_nil, fun r hr => ?_⟩
      have : r = .int p.2 := (Option.some.inj hr).symm
      subst this
      exact pe_var rfl
    · rw [ys_map] at e2
      exact e2.less (less_cons rfl (less_cons rfl (less_cons rfl less_nil)))
  · refine st_seq (st_assign pe_int (.inl rfl) no) ?_
    have hmx : ∀ {ρ' : Vars} {B' : Heap} {mu' : List Addr}, ρ'.lookup (Str.ofString "heights") = some (.lst ((sp.map (·.2)).map .int)) → ∀ {p1 p2 p3 : Pos}, PE ⟨c', A, envF (sScope (fstmt 18)) q L G.f18 cd, B'⟩ mu' ρ' [] (.Call (.Name (Str.ofString "max") p1) [.Name (Str.ofString "heights") p2] [] p3) (.int hi) :=
      fun h _ _ _ => pe_blt (blt_max hhi hhi') (.cons (pe_var h) .nil) G.n_max (by decide +kernel)
    have hmn : ∀ {ρ' : Vars} {B' : Heap} {mu' : List Addr}, ρ'.lookup (Str.ofString "heights") = some (.lst ((sp.map (·.2)).map .int)) → ∀ {p1 p2 p3 : Pos}, PE ⟨c', A, envF (sScope (fstmt 18)) q L G.f18 cd, B'⟩ mu' ρ' [] (.Call (.Name (Str.ofString "min") p1) [.Name (Str.ofString "heights") p2] [] p3) (.int lo) :=
      fun h _ _ _ => pe_blt (blt_min hlo hlo') (.cons (pe_var h) .nil) G.n_min (by decide +kernel)
    refine st_seq (R := Sta ⟨c', A, envF (sScope (fstmt 18)) q L G.f18 cd, B⟩ mu [("count", .int (countUp (sp.zip ed) (lo + 1) (ups (lo + 1) (hi - (lo + 1)).toNat).length)), ("spots", .lst (sp.map pD)), ("edges", .lst (ed.map pD))] [])
      (st_for (it_range2 (pe_bin (hmn rfl) pe_int op_add_int) (hmx rfl) (by lia) (by lia) G.n_range) (fun i d => [("y", d)]) (fun i d p hp => nomatch hp)
        (fun i => [("count", .int (countUp (sp.zip ed) (lo + 1) i)), ("spots", .lst (sp.map pD)), ("edges", .lst (ed.map pD))]) (fun i => []) (less_cons rfl (less_cons rfl (less_cons rfl less_nil))) rfl (fun i => rfl) (fun i d hd => tg_name (.inl rfl)) ?_) ?_
    · intro B' mu' i d hd
      obtain ⟨hi', rfl⟩ := ups_get hd
      obtain ⟨y, hy⟩ : ∃ y, y = lo + 1 + (i : Nat) := ⟨_, rfl⟩
      have by' : y.natAbs < 20000 := by lia
      rw [← hy]
      refine st_seq (st_assign_tup (ds := [.int (-100), .int 100]) (pe_tuple (.cons (pe_neg pe_int) (.cons pe_int .nil))) (.cons (tgt_name (.inl rfl)) (.cons (tgt_name (.inl rfl)) .nil)) no2) ?_
      have hds : List.zipWith (fun a b => D.tup [a, b]) (sp.map pD) (ed.map pD) = (sp.zip ed).map fun p => .tup [pD p.1, pD p.2] := by
        rw [List.zip_eq_zipWith, List.map_zipWith, List.zipWith_map]
      have hlen : (List.zipWith (fun a b => D.tup [a, b]) (sp.map pD) (ed.map pD)).length = (sp.zip ed).length := by rw [hds, List.length_map]
      refine st_seq (R := Sta ⟨c', A, envF (sScope (fstmt 18)) q L G.f18 cd, B'⟩ mu' [("low", .int (rowOf (sp.zip ed) y).1), ("high", .int (rowOf (sp.zip ed) y).2), ("count", .int (countUp (sp.zip ed) (lo + 1) i)), ("spots", .lst (sp.map pD)), ("edges", .lst (ed.map pD))] []) ?_ ?_
      · refine (st_for (it_zip (ds := sp.map pD) (es := ed.map pD) (pe_var rfl) (pe_var rfl) G.n_zip) (fun j d => match d with | .tup [s, e] => [("edge", e), ("spot", s)] | _ => []) (fun i d => no2)
          (fun j => [("low", .int (rowOf ((sp.zip ed).take j) y).1), ("high", .int (rowOf ((sp.zip ed).take j) y).2), ("y", .int y), ("count", .int (countUp (sp.zip ed) (lo + 1) i)), ("spots", .lst (sp.map pD)), ("edges", .lst (ed.map pD))]) (fun i => [])
          (less_cons rfl (less_cons rfl (less_cons rfl (less_cons rfl (less_cons rfl (less_cons rfl less_nil)))))) rfl (fun i => rfl) ?_ ?_ (fun _ => rfl) ⟨_, _, _, rfl⟩).post fun f g ⟨e1, e2⟩ => ⟨e1, ?_⟩
        · intro j d hd
          obtain ⟨a, b, h1, h2, rfl⟩ := zipWith_get hd
          exact tg_tuple (.cons (tgt_name (.inl rfl)) (.cons (tgt_name (.inl rfl)) .nil))
        · intro B2 mu2 j d hd
          rw [hds, List.getElem?_map] at hd
          obtain ⟨⟨s, e⟩, hse, rfl⟩ := Option.map_eq_some_iff.mp hd
          have hm := List.mem_of_getElem? hse
          have b1 := bs s (List.of_mem_zip hm).1
          have b2 := be e (List.of_mem_zip hm).2
          have next : rowOf ((sp.zip ed).take (j + 1)) y = insStep y (rowOf ((sp.zip ed).take j) y) s e := by
            rw [List.take_add_one, hse]; exact rowOf_snoc _ (s, e) y
          rw [next]
          generalize rowOf ((sp.zip ed).take j) y = lh
          obtain ⟨l0, h0⟩ := lh
          obtain ⟨sx, sy⟩ := s
          obtain ⟨ex, ey⟩ := e
          simp only at b1 b2
          refine st_seq (st_assign (d := .int (ex * (y - sy))) (pe_bin (pe_sub_tup (ds := [.int ex, .int ey]) (pe_var rfl) pe_int rfl rfl (by decide)) (pe_bin (pe_var rfl) (pe_sub_tup (ds := [.int sx, .int sy]) (pe_var rfl) pe_int rfl rfl (by decide)) op_sub_int) (op_mul_int (mul_ok (by lia)))) (.inl rfl) no) ?_
          refine st_if (r := decide (0 < ey)) (pt_cmp (pe_sub_tup (ds := [.int ex, .int ey]) (pe_var rfl) pe_int rfl rfl (by decide)) pe_int cmp_gt_int) ?_ ?_
          · intro hpos
            have hpos : 0 < ey := of_decide_eq_true hpos
            refine (st_assign (d := .int (min h0 ((ey * sx + ex * (y - sy) - 1).fdiv ey))) (pe_blt blt_min2 (.cons (pe_var rfl) (.cons (pe_bin (pe_bin (pe_bin (pe_bin (pe_sub_tup (ds := [.int ex, .int ey]) (pe_var rfl) pe_int rfl rfl (by decide)) (pe_sub_tup (ds := [.int sx, .int sy]) (pe_var rfl) pe_int rfl rfl (by decide)) (op_mul_int (mul_ok (by lia)))) (pe_var rfl) op_add_int) pe_int op_sub_int) (pe_sub_tup (ds := [.int ex, .int ey]) (pe_var rfl) pe_int rfl rfl (by decide)) (op_fdiv_int (by lia) (PyProof.noPylong_small (by lia)))) .nil)) G.n_min (by decide +kernel)) (.inl rfl) no).post fun f g ⟨e1, e2⟩ => ⟨.inl e1, e2.less ?_⟩
            rw [ins_up hpos]
            exact less_cons rfl (less_cons rfl (less_cons rfl (less_cons rfl (less_cons rfl (less_cons rfl less_nil)))))
          · intro hpos
            have hpos : ¬ 0 < ey := of_decide_eq_false hpos
            refine st_if (r := decide (ey < 0)) (pt_cmp (pe_sub_tup (ds := [.int ex, .int ey]) (pe_var rfl) pe_int rfl rfl (by decide)) pe_int cmp_lt_int) ?_ ?_
            · intro hneg
              have hneg : ey < 0 := of_decide_eq_true hneg
              refine (st_assign (d := .int (max l0 ((-ey * sx - ex * (y - sy)).fdiv (-ey) + 1))) (pe_blt blt_max2 (.cons (pe_var rfl) (.cons (pe_bin (pe_bin (pe_bin (pe_bin (pe_neg (pe_sub_tup (ds := [.int ex, .int ey]) (pe_var rfl) pe_int rfl rfl (by decide))) (pe_sub_tup (ds := [.int sx, .int sy]) (pe_var rfl) pe_int rfl rfl (by decide)) (op_mul_int (mul_ok (by lia)))) (pe_var rfl) op_sub_int) (pe_neg (pe_sub_tup (ds := [.int ex, .int ey]) (pe_var rfl) pe_int rfl rfl (by decide))) (op_fdiv_int (by lia) (PyProof.noPylong_small (by lia)))) pe_int op_add_int) .nil)) G.n_max (by decide +kernel)) (.inl rfl) no).post fun f g ⟨e1, e2⟩ => ⟨.inl e1, e2.less ?_⟩
              rw [ins_dn hneg]
              exact less_cons rfl (less_cons rfl (less_cons rfl (less_cons rfl (less_cons rfl (less_cons rfl less_nil)))))
            · intro hneg
              have hneg : ¬ ey < 0 := of_decide_eq_false hneg
              refine st_nil fun g p => ⟨.inl rfl, p.less ?_⟩
              rw [ins_no hpos hneg]
              exact less_cons rfl (less_cons rfl (less_cons rfl (less_cons rfl (less_cons rfl (less_cons rfl less_nil)))))
        · rw [hlen, List.take_length] at e2
          exact e2.less (less_cons rfl (less_cons rfl (less_cons rfl (less_cons rfl (less_cons rfl less_nil)))))
      · refine (st_aug (d := .int (countUp (sp.zip ed) (lo + 1) i + rowCount (sp.zip ed) y)) rfl (pe_blt (blt_max2 (a := 0) (b := (rowOf (sp.zip ed) y).2 - (rowOf (sp.zip ed) y).1 + 1)) (.cons pe_int (.cons (pe_bin (pe_bin (pe_var rfl) (pe_var rfl) op_sub_int) pe_int op_add_int) .nil)) G.n_max (by decide +kernel)) iop_add_int (.inl rfl) no).post fun f g ⟨e1, e2⟩ => ⟨.inl e1, e2.less ?_⟩
        refine less_cons ?_ (less_cons rfl (less_cons rfl less_nil))
        rw [hy]; rfl
    · rw [ups_length]
      exact (st_ret (pe_var rfl)).post fun fl g ⟨v, e1, e2, e3⟩ => ⟨v, e1, e2.less less_nil, e3⟩
end Mine
end

section
set_option maxRecDepth 100000
set_option autoImplicit false
set_option linter.unusedVariables false
namespace Mine.Rx
open PySem PySem.Sre

/-- the pattern's words -/
noncomputable def C : Array Nat := #[14, 4, 0, 8, 4294967295, 24, 5, 0, 4294967295, 2, 1, 16, 70, 16, 76, 16, 65, 16, 71, 16, 83, 16, 32, 16, 40, 17, 0, 24, 6, 0, 4294967295, 20, 41, 1, 17, 1, 16, 41, 1]

structure Tx (T : Array Nat) (n : Nat) : Prop where
  size : T.size = n + 10
  small : n ≤ 1000
  head : ∀ i, i < 9 → T.getD i 0 = [42, 32, 70, 76, 65, 71, 83, 32, 40].getD i 0
  body : ∀ i, i < n → T.getD (9 + i) 0 ≠ 41 ∧ T.getD (9 + i) 0 ≠ 10 ∧ T.getD (9 + i) 0 ≠ 83
  last : T.getD (9 + n) 0 = 41

noncomputable def mk (T : Array Nat) (pc pos handed : Nat) (marks : Array (Option Nat)) (lm li : Int) (fr : List Sre.Frame) (w : Nat) (ans : Option Bool) (seen : Seen) : M :=
  { code := C, text := T, lim := T.size, start := 0, pc, pos, handed, marks, lastmark := lm, lastindex := li, frames := fr, weight := w, answer := ans, seen }

/-- one leads to the other -/
noncomputable def R (n : Nat) (m m' : M) : Prop := ∃ k, k ≤ n ∧ ∀ j, M.runFor (k + j) m = M.runFor j m'
theorem R.refl {n : Nat} (m : M) : R n m m := ⟨0, Nat.zero_le _, fun j => by rw [Nat.zero_add]⟩
theorem R.trans {n n' : Nat} {a b c : M} (x : R n a b) (y : R n' b c) : R (n + n') a c := by
  obtain ⟨k, bk, hk⟩ := x; obtain ⟨l, bl, hl⟩ := y
  exact ⟨k + l, Nat.add_le_add bk bl, fun j => by rw [Nat.add_assoc, hk, hl]⟩
theorem R.mono {n n' : Nat} {a b : M} (x : R n a b) (h : n ≤ n') : R n' a b := let ⟨k, bk, hk⟩ := x; ⟨k, Nat.le_trans bk h, hk⟩
theorem R.step {m m' : M} (h : m.step = m') (ho : m.outcome = none) : R 1 m m' := ⟨1, Nat.le_refl _, fun j => by
  rw [Nat.add_comm, M.runFor, ho]; simp [h]⟩

variable {T : Array Nat} {n : Nat}

theorem lit_yes {pc p h c : Nat} {marks : Array (Option Nat)} {lm li : Int} {fr : List Sre.Frame} {w : Nat} {seen : Seen} (h0 : C.getD pc 0 = 16) (h1 : C.getD (pc + 1) 0 = c) (hs : pc < C.size) (hp : p < T.size) (ht : T.getD p 0 = c) :
    R 1 (mk T pc p h marks lm li fr w none seen) (mk T (pc + 2) (p + 1) h marks lm li fr w none (seen.add 16)) := by
  refine R.step ?_ rfl
  unfold M.step M.exec accepts itemWidth
  have e0 : ops[16]? = some .LITERAL := rfl
  have hp' : ¬ T.size ≤ p := by lia
  simp [mk, M.word, h0, h1, hs, e0, hp', ht]

theorem lit_no {pc p h c : Nat} {marks : Array (Option Nat)} {lm li : Int} {fr : List Sre.Frame} {w : Nat} {seen : Seen} (h0 : C.getD pc 0 = 16) (h1 : C.getD (pc + 1) 0 = c) (hs : pc < C.size) (ht : T.getD p 0 ≠ c) :
    R 1 (mk T pc p h marks lm li fr w none seen) (mk T pc p h marks lm li fr w (some false) (seen.add 16)) := by
  refine R.step ?_ rfl
  unfold M.step M.exec accepts
  have e0 : ops[16]? = some .LITERAL := rfl
  by_cases hp : T.size ≤ p
  · simp [mk, M.word, h0, h1, hs, e0, hp, M.say]
  · have hb : (T[p]?.getD 0 == c) = false := by
      rw [Array.getD_eq_getD_getElem?] at ht
      exact beq_eq_false_iff_ne.mpr ht
    simp [mk, M.word, h0, h1, hs, e0, hp, M.say, hb]

/-- the frame of the first run -/
noncomputable def A (k : Nat) : Sre.Frame := { wait := .giveBack, pc := 5, pos := k, outermost := true, count := k }

theorem back {pc p h k : Nat} {marks : Array (Option Nat)} {seen : Seen} (hk : 1 ≤ k) :
    R 1 (mk T pc p h marks (-1) (-1) [A k] 1 (some false) seen) (mk T 11 (k - 1) (k - 1) marks (-1) (-1) [A (k - 1)] 1 none seen) := by
  refine R.step ?_ rfl
  unfold M.step M.resume
  have e : (k : Int) - 1 = ((k - 1 : Nat) : Int) := by lia
  have e7 : C.getD 7 0 = 0 := rfl
  have e6 : C.getD 6 0 = 5 := rfl
  have hn : ¬ ((k - 1 : Nat) : Int) < 0 := by lia
  simp [mk, A, M.word, M.putBack, M.afterRun, M.attempt, M.frame, e7, e6, e, hn]

theorem fail_at {p k : Nat} {marks : Array (Option Nat)} {seen : Seen} (hk : 1 ≤ k) (hp : p = k) (i : Nat) (hi : i < 7) (ht : T.getD (p + i) 0 ≠ [70, 76, 65, 71, 83, 32, 40].getD i 0) :
    ∃ seen', R 9 (mk T 11 p p marks (-1) (-1) [A k] 1 none seen) (mk T 11 (k - 1) (k - 1) marks (-1) (-1) [A (k - 1)] 1 none seen') := by
  have go : ∀ (d j h : Nat) (seen : Seen), j + d = i → ∃ pc pos seen', R (d + 1) (mk T (11 + 2 * j) (p + j) h marks (-1) (-1) [A k] 1 none seen) (mk T pc pos h marks (-1) (-1) [A k] 1 (some false) seen') := by
    intro d
    induction d with
    | zero =>
      intro j h seen hj
      have : j = i := by lia
      subst this
      have c : C.getD (11 + 2 * j) 0 = 16 ∧ C.getD (11 + 2 * j + 1) 0 = [70, 76, 65, 71, 83, 32, 40].getD j 0 ∧ 11 + 2 * j < C.size := by
        have : j = 0 ∨ j = 1 ∨ j = 2 ∨ j = 3 ∨ j = 4 ∨ j = 5 ∨ j = 6 := by lia
        rcases this with rfl | rfl | rfl | rfl | rfl | rfl | rfl <;> exact ⟨rfl, rfl, by decide⟩
      exact ⟨_, _, _, lit_no c.1 c.2.1 c.2.2 ht⟩
    | succ d ih =>
      intro j h seen hj
      have c : C.getD (11 + 2 * j) 0 = 16 ∧ C.getD (11 + 2 * j + 1) 0 = [70, 76, 65, 71, 83, 32, 40].getD j 0 ∧ 11 + 2 * j < C.size ∧ [70, 76, 65, 71, 83, 32, 40].getD j 0 ≠ 0 := by
        have : j = 0 ∨ j = 1 ∨ j = 2 ∨ j = 3 ∨ j = 4 ∨ j = 5 ∨ j = 6 := by lia
        rcases this with rfl | rfl | rfl | rfl | rfl | rfl | rfl <;> exact ⟨rfl, rfl, by decide, by decide⟩
      by_cases hc : T.getD (p + j) 0 = [70, 76, 65, 71, 83, 32, 40].getD j 0
      · have hs : p + j < T.size := by
          rcases Nat.lt_or_ge (p + j) T.size with h | h
          · exact h
          · have : T.getD (p + j) 0 = 0 := by simp [Array.getD, Nat.not_lt.mpr h]
            rw [this] at hc; exact absurd hc.symm c.2.2.2
        obtain ⟨pc, pos, s', r⟩ := ih (j + 1) h (seen.add 16) (by lia)
        refine ⟨pc, pos, s', R.mono (n := 1 + (d + 1)) ((lit_yes c.1 c.2.1 c.2.2.1 hs hc).trans ?_) (by lia)⟩
        exact r
      · exact ⟨_, _, _, (lit_no c.1 c.2.1 c.2.2.1 hc).mono (by lia)⟩
  obtain ⟨pc, pos, s', r⟩ := go i 0 p seen (by lia)
  exact ⟨s', (r.trans (back hk)).mono (by lia)⟩
end Mine.Rx
end

section
set_option maxRecDepth 100000
set_option autoImplicit false
set_option linter.unusedVariables false
namespace Mine.Rx
open PySem PySem.Sre
variable {T : Array Nat} {n : Nat}

theorem run_all {i : Nat} (acc : ∀ (c : Nat) (seen : Seen), c ≠ 10 → accepts C i c seen = .ok (true, seen)) : ∀ (k p found : Nat) (seen : Seen), (∀ j, j < k → T.getD (p + j) 0 ≠ 10) → run C T i k p found seen = .ok (found + k, seen)
  | 0, p, found, seen, h => rfl
  | k + 1, p, found, seen, h => by
    unfold Sre.run
    rw [acc _ _ (by simpa using h 0 (by lia))]
    show run C T i k (p + 1) (found + 1) seen = _
    rw [run_all acc k (p + 1) (found + 1) seen fun j hj => by have := h (j + 1) (by lia); rwa [show p + 1 + j = p + (j + 1) by lia]]
    congr 2; lia
theorem run_until : ∀ (k m p found : Nat) (seen : Seen), m < k → (∀ j, j < m → T.getD (p + j) 0 ≠ 41) → T.getD (p + m) 0 = 41 → run C T 31 k p found seen = .ok (found + m, seen)
  | 0, m, p, found, seen, h, _, _ => by lia
  | k + 1, m, p, found, seen, h, hn, hl => by
    have acc : ∀ c, accepts C 31 c seen = .ok (c != 41, seen) := fun c => rfl
    unfold Sre.run
    rw [acc]
    cases m with
    | zero =>
      have e : T.getD p 0 = 41 := by simpa using hl
      rw [e]; rfl
    | succ m =>
      have e : (T.getD p 0 != 41) = true := by have := hn 0 (by lia); simpa using this
      rw [e]
      show run C T 31 k (p + 1) (found + 1) seen = _
      rw [run_until k m (p + 1) (found + 1) seen (by lia) (fun j hj => by have := hn (j + 1) (by lia); rwa [show p + 1 + j = p + (j + 1) by lia]) (by rwa [show p + 1 + m = p + (m + 1) by lia])]
      congr 2; lia

theorem start (h : Tx T n) (seen : Seen) : ∃ seen', R 1 (mk T 5 0 0 #[none, none] (-1) (-1) [] 0 none seen) (mk T 11 T.size T.size #[none, none] (-1) (-1) [A T.size] 1 none seen') := by
  have hr : run C T 9 (min 4294967295 T.size) 0 0 ((seen.add 24).add 2) = .ok (T.size, (seen.add 24).add 2) := by
    have hs := h.size
    have hm := h.small
    rw [show min 4294967295 T.size = T.size by lia]
    rw [run_all (i := 9) (fun c s hc => by show Except.ok (c != 10, s) = _; simp [hc]) T.size 0 0 _ fun j hj => ?_, Nat.zero_add]
    rw [Nat.zero_add]
    by_cases h1 : j < 9
    · rw [h.head j h1]
      have : j = 0 ∨ j = 1 ∨ j = 2 ∨ j = 3 ∨ j = 4 ∨ j = 5 ∨ j = 6 ∨ j = 7 ∨ j = 8 := by lia
      rcases this with rfl | rfl | rfl | rfl | rfl | rfl | rfl | rfl | rfl <;> decide
    · by_cases h2 : j < 9 + n
      · have := (h.body (j - 9) (by lia)).2.1; rwa [show 9 + (j - 9) = j by lia] at this
      · rw [show j = 9 + n by lia, h.last]; decide
  refine ⟨(seen.add 24).add 2, R.step ?_ rfl⟩
  unfold M.step M.exec
  have e0 : ops[24]? = some .REPEAT_ONE := rfl
  have c5 : C.getD 5 0 = 24 := rfl
  have c6 : C.getD 6 0 = 5 := rfl
  have c7 : C.getD 7 0 = 0 := rfl
  have c8 : C.getD 8 0 = 4294967295 := rfl
  have c9 : C.getD 9 0 = 2 := rfl
  have hs : 5 < C.size := by decide
  have hn : ¬ (0 : Int) > (T.size : Int) := by lia
  simp only [mk, M.word, hs, if_true, c5, c7, c8, c9, e0, Int.natCast_zero, Int.sub_zero, hn, if_false, Int.toNat_natCast, Option.isSome_none, Bool.false_eq_true, Nat.add_zero]
  simp only [Nat.reduceAdd, c7, c8, c9, hr]
  simp [M.afterRun, M.attempt, M.frame, M.word, M.keep, A, c6]

theorem down (h : Tx T n) : ∀ (d k : Nat) (seen : Seen), k = d + 2 → k ≤ T.size → ∃ seen', R (9 * d) (mk T 11 k k #[none, none] (-1) (-1) [A k] 1 none seen) (mk T 11 2 2 #[none, none] (-1) (-1) [A 2] 1 none seen')
  | 0, k, seen, hk, hl => by
    have : k = 2 := by lia
    subst this; exact ⟨seen, R.refl _⟩
  | d + 1, k, seen, hk, hl => by
    have hs := h.size
    have bad : ∃ i, i < 7 ∧ T.getD (k + i) 0 ≠ [70, 76, 65, 71, 83, 32, 40].getD i 0 := by
      by_cases h1 : k < 9
      · refine ⟨0, by lia, ?_⟩
        rw [Nat.add_zero, h.head k h1]
        have : k = 3 ∨ k = 4 ∨ k = 5 ∨ k = 6 ∨ k = 7 ∨ k = 8 := by lia
        rcases this with rfl | rfl | rfl | rfl | rfl | rfl <;> decide
      · refine ⟨4, by lia, ?_⟩
        show T.getD (k + 4) 0 ≠ 83
        by_cases h2 : k + 4 < 9 + n
        · have := (h.body (k + 4 - 9) (by lia)).2.2; rwa [show 9 + (k + 4 - 9) = k + 4 by lia] at this
        · by_cases h3 : k + 4 = 9 + n
          · rw [h3, h.last]; decide
          · have : T.getD (k + 4) 0 = 0 := by
              have : ¬ k + 4 < T.size := by lia
              simp [Array.getD, this]
            rw [this]; decide
    obtain ⟨i, hi, ht⟩ := bad
    obtain ⟨s1, r1⟩ := fail_at (T := T) (p := k) (k := k) (marks := #[none, none]) (seen := seen) (by lia) rfl i hi ht
    obtain ⟨s2, r2⟩ := down h d (k - 1) s1 (by lia) (by lia)
    exact ⟨s2, (r1.trans r2).mono (by lia)⟩

theorem lits (h : Tx T n) (seen : Seen) : ∃ seen', R 7 (mk T 11 2 2 #[none, none] (-1) (-1) [A 2] 1 none seen) (mk T 25 9 2 #[none, none] (-1) (-1) [A 2] 1 none seen') := by
  have hs := h.size
  have g := h.head
  have y := fun (pc p c : Nat) (s : Seen) h0 h1 h2 (h3 : p < T.size) (h4 : T.getD p 0 = c) => lit_yes (T := T) (pc := pc) (p := p) (h := 2) (c := c) (marks := #[none, none]) (lm := -1) (li := -1) (fr := [A 2]) (w := 1) (seen := s) h0 h1 h2 h3 h4
  refine ⟨_, (y 11 2 70 _ rfl rfl (by decide) (by lia) (g 2 (by decide))).trans ((y 13 3 76 _ rfl rfl (by decide) (by lia) (g 3 (by decide))).trans ((y 15 4 65 _ rfl rfl (by decide) (by lia) (g 4 (by decide))).trans ((y 17 5 71 _ rfl rfl (by decide) (by lia) (g 5 (by decide))).trans
    ((y 19 6 83 _ rfl rfl (by decide) (by lia) (g 6 (by decide))).trans ((y 21 7 32 _ rfl rfl (by decide) (by lia) (g 7 (by decide))).trans (y 23 8 40 _ rfl rfl (by decide) (by lia) (g 8 (by decide))))))))⟩

/-- the frame of the second run -/
noncomputable def Bf (n : Nat) : Sre.Frame := { wait := .giveBack, pc := 27, pos := 9 + n, outermost := true, count := n, kept := { lastmark := 0, lastindex := -1 } }

theorem mark0 (seen : Seen) : ∃ seen', R 1 (mk T 25 9 2 #[none, none] (-1) (-1) [A 2] 1 none seen) (mk T 27 9 2 #[some 9, none] 0 (-1) [A 2] 1 none seen') := by
  refine ⟨seen.add 17, R.step ?_ rfl⟩
  unfold M.step M.exec
  have e0 : ops[17]? = some .MARK := rfl
  have c0 : C.getD 25 0 = 17 := rfl
  have c1 : C.getD 26 0 = 0 := rfl
  have hs : 25 < C.size := by decide
  simp [mk, M.word, hs, c0, c1, e0, M.mark]; try decide
theorem second (h : Tx T n) (seen : Seen) : ∃ seen', R 1 (mk T 27 9 2 #[some 9, none] 0 (-1) [A 2] 1 none seen) (mk T 34 (9 + n) (9 + n) #[some 9, none] 0 (-1) [Bf n, A 2] 2 none seen') := by
  have hsz := h.size
  have hm := h.small
  have hr : run C T 31 (min 4294967295 ((T.size : Int) - 9).toNat) 9 0 ((seen.add 24).add 20) = .ok (n, (seen.add 24).add 20) := by
    rw [run_until _ n 9 0 _ (by lia) (fun j hj => (h.body j hj).1) h.last, Nat.zero_add]
  refine ⟨(seen.add 24).add 20, R.step ?_ rfl⟩
  unfold M.step M.exec
  have e0 : ops[24]? = some .REPEAT_ONE := rfl
  have c5 : C.getD 27 0 = 24 := rfl
  have c6 : C.getD 28 0 = 6 := rfl
  have c7 : C.getD 29 0 = 0 := rfl
  have c8 : C.getD 30 0 = 4294967295 := rfl
  have c9 : C.getD 31 0 = 20 := rfl
  have hs : 27 < C.size := by decide
  have hn : ¬ ((0 : Nat) : Int) > (T.size : Int) - ((9 : Nat) : Int) := by lia
  simp only [mk, M.word, hs, if_true, Nat.add_zero, c5, e0, Option.isSome_none, Bool.false_eq_true, if_false, Nat.reduceAdd, c7, c8, c9, hn]
  have hr' : run C T 31 (min 4294967295 ((T.size : Int) - ((9 : Nat) : Int)).toNat) 9 0 ((seen.add 24).add 20) = .ok (n, (seen.add 24).add 20) := hr
  simp only [hr']
  simp [M.afterRun, M.attempt, M.frame, M.word, M.keep, A, Bf, c6]
theorem mark1 (seen : Seen) : ∃ seen', R 1 (mk T 34 (9 + n) (9 + n) #[some 9, none] 0 (-1) [Bf n, A 2] 2 none seen) (mk T 36 (9 + n) (9 + n) #[some 9, some (9 + n)] 1 1 [Bf n, A 2] 2 none seen') := by
  refine ⟨seen.add 17, R.step ?_ rfl⟩
  unfold M.step M.exec
  have e0 : ops[17]? = some .MARK := rfl
  have c0 : C.getD 34 0 = 17 := rfl
  have c1 : C.getD 35 0 = 1 := rfl
  have hs : 34 < C.size := by decide
  simp [mk, M.word, hs, c0, c1, e0, M.mark]; try decide
theorem ending (seen : Seen) : ∃ m, R 4 (mk T 38 (9 + n + 1) (9 + n) #[some 9, some (9 + n)] 1 1 [Bf n, A 2] 2 none seen) m ∧ m.outcome = some .matched ∧ m.marks = #[some 9, some (9 + n)] ∧ m.lastmark = 1 ∧ m.lastindex = 1 ∧ m.start = 0 ∧ m.handed = 9 + n + 1 := by
  have e0 : ops[1]? = some .SUCCESS := rfl
  have c0 : C.getD 38 0 = 1 := rfl
  have hs : 38 < C.size := by decide
  have s1 : (mk T 38 (9 + n + 1) (9 + n) #[some 9, some (9 + n)] 1 1 [Bf n, A 2] 2 none seen).step = mk T 38 (9 + n + 1) (9 + n + 1) #[some 9, some (9 + n)] 1 1 [Bf n, A 2] 2 (some true) (seen.add 1) := by
    unfold M.step M.exec
    simp [mk, M.word, hs, c0, e0, M.say]
  have s2 : (mk T 38 (9 + n + 1) (9 + n + 1) #[some 9, some (9 + n)] 1 1 [Bf n, A 2] 2 (some true) (seen.add 1)).step = mk T 27 (9 + n) (9 + n + 1) #[some 9, some (9 + n)] 1 1 [A 2] 1 (some true) (seen.add 1) := by
    unfold M.step M.resume
    simp [mk, M.say, Bf]
  have s3 : (mk T 27 (9 + n) (9 + n + 1) #[some 9, some (9 + n)] 1 1 [A 2] 1 (some true) (seen.add 1)).step = mk T 5 2 (9 + n + 1) #[some 9, some (9 + n)] 1 1 [] 0 (some true) (seen.add 1) := by
    unfold M.step M.resume
    simp [mk, M.say, A]
  have r1 := R.step s1 rfl
  have r2 := R.step s2 rfl
  have r3 := R.step s3 rfl
  have r4 := R.step (m := mk T 5 2 (9 + n + 1) #[some 9, some (9 + n)] 1 1 [] 0 (some true) (seen.add 1)) rfl rfl
  exact ⟨_, r1.trans (r2.trans (r3.trans r4)), rfl, rfl, rfl, rfl, rfl, rfl⟩

theorem whole (h : Tx T n) : ∃ m, R 20000 (Sre.forMatch C T 1 0 T.size false false) m ∧ m.outcome = some .matched ∧ m.marks = #[some 9, some (9 + n)] ∧ m.lastmark = 1 ∧ m.lastindex = 1 ∧ m.start = 0 ∧ m.handed = n + 10 := by
  have hs := h.size
  have e : Sre.forMatch C T 1 0 T.size false false = mk T 5 0 0 #[none, none] (-1) (-1) [] 0 none (({} : Seen).add 14) := by
    have : Sre.forMatch C T 1 0 T.size false false = if ((8 : Nat) != 0 && decide (0 ≤ T.size) && decide (T.size - 0 < 8)) = true then (mk T 5 0 0 #[none, none] (-1) (-1) [] 0 none (({} : Seen).add 14)).say false else mk T 5 0 0 #[none, none] (-1) (-1) [] 0 none (({} : Seen).add 14) := rfl
    rw [this, if_neg]
    have : decide (T.size - 0 < 8) = false := by rw [decide_eq_false_iff_not]; lia
    rw [this]; simp
  rw [e]
  obtain ⟨s1, r1⟩ := start h (({} : Seen).add 14)
  obtain ⟨s2, r2⟩ := down h (T.size - 2) T.size s1 (by lia) (Nat.le_refl _)
  obtain ⟨s3, r3⟩ := lits h s2
  obtain ⟨s4, r4⟩ := mark0 (T := T) s3
  obtain ⟨s5, r5⟩ := second h s4
  obtain ⟨s6, r6⟩ := mark1 (T := T) (n := n) s5
  have r7 := lit_yes (T := T) (pc := 36) (p := 9 + n) (h := 9 + n) (c := 41) (marks := #[some 9, some (9 + n)]) (lm := 1) (li := 1) (fr := [Bf n, A 2]) (w := 2) (seen := s6) rfl rfl (by decide) (by lia) h.last
  obtain ⟨m, r8, q⟩ := ending (T := T) (n := n) (s6.add 16)
  refine ⟨m, (r1.trans (r2.trans (r3.trans (r4.trans (r5.trans (r6.trans (r7.trans r8))))))).mono (by have := h.size; have := h.small; lia), q.1, q.2.1, q.2.2.1, q.2.2.2.1, q.2.2.2.2.1, ?_⟩
  rw [q.2.2.2.2.2]; lia
end Mine.Rx
end

section
set_option Elab.async false
set_option maxRecDepth 100000
set_option autoImplicit false
set_option linter.unusedVariables false
namespace Mine
open PySem PySem.Calls PyProof.Rows PySem.W

namespace RF
theorem plainAttrs_pattern : PlainAttrs "re.Pattern" :=
  ⟨⟨"object.__getattribute__", by rw [typeLookup_type, builtinLookup_eq_fast]; kernel_rfl, by decide +kernel⟩, by rw [typeLookup_type, builtinLookup_eq_fast]; kernel_rfl⟩
theorem plainAttrs_match : PlainAttrs "re.Match" :=
  ⟨⟨"object.__getattribute__", by rw [typeLookup_type, builtinLookup_eq_fast]; kernel_rfl, by decide +kernel⟩, by rw [typeLookup_type, builtinLookup_eq_fast]; kernel_rfl⟩
theorem owner_pattern : Manifest.owners.lookup (String.ofList ['n', 'r', 'e', 't', 't', 'a', 'P', '.', 'e', 'r'].reverse) = some Manifest.sig_re_Pattern := by kernel_rfl
theorem owner_Match : Manifest.owners.lookup (String.ofList ['h', 'c', 't', 'a', 'M', '.', 'e', 'r'].reverse) = some Manifest.sig_re_Match := by kernel_rfl
theorem slot_match : Slot "re.Pattern" "match" "re.Pattern.match" :=
  .of (owner := "re.Pattern") (n := "match") (by rw [typeLookup_type, builtinLookup_eq_fast]; kernel_rfl) (by decide +kernel) (by decide +kernel) (by decide +kernel)
    (by first | exact .inl (by decide +kernel) | exact .inr (by decide +kernel)) (by rw [isSubtype_type]; kernel_rfl)
theorem entry_match : entryFor table "re.Pattern.match" = some Builtin.«re.Pattern.match» := entryFor_of_tree (by kernel_rfl)
theorem type_match : typeOf (.builtin "re.Pattern.match") = pure (.type "method_descriptor") := by show builtinType _ = _; rw [builtinType_eq_fast]; kernel_rfl
theorem args_match (a b : Value) : argsOk "re.Pattern.match" ⟨[a, b], []⟩ := by
  unfold argsOk; rw [signature?_of (id := "re.Pattern.match") (n := ['h', 'c', 't', 'a', 'm']) (o := ['n', 'r', 'e', 't', 't', 'a', 'P', '.', 'e', 'r']) (by kernel_rfl) owner_pattern]; kernel_rfl
theorem slot_group : Slot "re.Match" "group" "re.Match.group" :=
  .of (owner := "re.Match") (n := "group") (by rw [typeLookup_type, builtinLookup_eq_fast]; kernel_rfl) (by decide +kernel) (by decide +kernel) (by decide +kernel)
    (by first | exact .inl (by decide +kernel) | exact .inr (by decide +kernel)) (by rw [isSubtype_type]; kernel_rfl)
theorem entry_group : entryFor table "re.Match.group" = some Builtin.«re.Match.group» := entryFor_of_tree (by kernel_rfl)
theorem type_group : typeOf (.builtin "re.Match.group") = pure (.type "method_descriptor") := by show builtinType _ = _; rw [builtinType_eq_fast]; kernel_rfl
theorem args_group (a b : Value) : argsOk "re.Match.group" ⟨[a, b], []⟩ := by
  unfold argsOk; rw [signature?_of (id := "re.Match.group") (n := ['p', 'u', 'o', 'r', 'g']) (o := ['h', 'c', 't', 'a', 'M', '.', 'e', 'r']) (by kernel_rfl) owner_Match]; kernel_rfl
theorem slot_split : Slot "bytes" "split" "bytes.split" :=
  .of (owner := "bytes") (n := "split") (by rw [typeLookup_type, builtinLookup_eq_fast]; kernel_rfl) (by decide +kernel) (by decide +kernel) (by decide +kernel)
    (by first | exact .inl (by decide +kernel) | exact .inr (by decide +kernel)) (by rw [isSubtype_type]; kernel_rfl)
theorem entry_split : entryFor table "bytes.split" = some Builtin.«bytes.split» := entryFor_of_tree (by kernel_rfl)
theorem type_split : typeOf (.builtin "bytes.split") = pure (.type "method_descriptor") := by show builtinType _ = _; rw [builtinType_eq_fast]; kernel_rfl
theorem args_split (a : Value) : argsOk "bytes.split" ⟨[a], []⟩ := by
  unfold argsOk; rw [signature?_of (id := "bytes.split") (n := ['t', 'i', 'l', 'p', 's']) (o := ['s', 'e', 't', 'y', 'b']) (by kernel_rfl) FB.owner_bytes]; kernel_rfl
theorem slot_join : Slot "bytes" "join" "bytes.join" :=
  .of (owner := "bytes") (n := "join") (by rw [typeLookup_type, builtinLookup_eq_fast]; kernel_rfl) (by decide +kernel) (by decide +kernel) (by decide +kernel)
    (by first | exact .inl (by decide +kernel) | exact .inr (by decide +kernel)) (by rw [isSubtype_type]; kernel_rfl)
theorem entry_join : entryFor table "bytes.join" = some Builtin.«bytes.join» := entryFor_of_tree (by kernel_rfl)
theorem type_join : typeOf (.builtin "bytes.join") = pure (.type "method_descriptor") := by show builtinType _ = _; rw [builtinType_eq_fast]; kernel_rfl
theorem args_join (a b : Value) : argsOk "bytes.join" ⟨[a, b], []⟩ := by
  unfold argsOk; rw [signature?_of (id := "bytes.join") (n := ['n', 'i', 'o', 'j']) (o := ['s', 'e', 't', 'y', 'b']) (by kernel_rfl) FB.owner_bytes]; kernel_rfl
theorem noBool_Match : typeLookup (.type "re.Match") "__bool__" = pure none := by rw [typeLookup_type, builtinLookup_eq_fast]; kernel_rfl
theorem noLen_Match : typeLookup (.type "re.Match") "__len__" = pure none := by rw [typeLookup_type, builtinLookup_eq_fast]; kernel_rfl
end RF
end Mine
end

section
set_option Elab.async false
set_option maxRecDepth 100000
set_option autoImplicit false
set_option linter.unusedVariables false
namespace Mine
open PySem PySem.Calls PyProof.Rows PySem.W

section
variable {F : Fx} {mu : List Addr} {ρ : Vars} {own : Owned}

/-- a datum's type -/
noncomputable def Is (F : Fx) (mu : List Addr) (a : D) (T : String) : Prop :=
  ∀ (s : Shared) (v : Value), (∀ b o, F.c.root.get? b = some o → s.heap.get? b = some o) → At s.heap mu v a → s.TypeIs v T ∧ ∀ x, v = .ref x → ∃ ob, s.heap.get? x = some ob ∧ ob.dict = Option.none
theorem is_byt {b : Array UInt8} : Is F mu (.byt b) "bytes" := fun s v _ a => by
  obtain ⟨t, rfl⟩ := a.byt_inv
  exact ⟨(rfl : typeOf (.bytes b t) = pure (.type "bytes")), fun x e => nomatch e⟩
theorem is_obj {T : String} {l : List D} : Is F mu (.obj T l) T := fun s v _ a => by
  obtain ⟨a, o, vs, rfl, hm, ho, hc, hn, hf, hl⟩ := a.obj_inv
  exact ⟨⟨o, ho, hc⟩, fun x e => by cases e; exact ⟨o, ho, hn⟩⟩
theorem is_root {a : Addr} {T : String} {o : Obj} (ho : F.c.root.get? a = some o) (hc : o.cls = .type T) (hn : o.dict = none) : Is F mu (.ref a) T := fun s v k x => by
  rw [x.ref_inv]
  exact ⟨⟨o, k _ _ ho, hc⟩, fun x e => by cases e; exact ⟨o, k _ _ ho, hn⟩⟩

/-- a method's worth -/
noncomputable def Mth (F : Fx) (mu : List Addr) (B : Builtin) (a : D) (ds : List D) (r : D) : Prop :=
  ∀ (s : Shared) (v : Value) (ws : List Value) (Q : Fin → Shared → Prop) (E : Value → Shared → Prop), F.A.handled = none → F.A.units + 100 < cLine → (∀ b o, F.c.root.get? b = some o → s.heap.get? b = some o) → Live mu s.heap →
    At s.heap mu v a → AtL s.heap mu ws ds → (∀ u s', Keeps s s' → At s'.heap mu u r → Q (.done (.ret u)) s') → wpAny (model F.c.prog F.c.w) F.A.in1 (B ⟨v :: ws, []⟩) Q E s

theorem pe_gref {x : Str} {pos : Pos} {a : Addr} (hg : F.c.mg x = some (.ref a)) (hk : F.env.kindOf x = some .globalImplicit := by rfl) (hd : (x == ("__debug__" : Str)) = false := by decide) :
    PE F mu ρ own (.Name x pos) (.ref a) := fun s Q E st h => pe_glob st hk hg (h _ s (krefl s) (.ref a)) hd

theorem pe_meth1 {T : String} {name : Str} {id : String} {B : Builtin} {o e : Expr} {apos pos : Pos} {a b r : D} (hB : Mth F mu B a [b] r) (plain : PlainAttrs T) (slot : Slot T name id) (entry : entryFor table id = some B)
    (ht : typeOf (.builtin id) = pure (.type "method_descriptor")) (hargs : ∀ x y, argsOk id ⟨[x, y], []⟩) (hT : Is F mu a T) (x : PE F mu ρ own o a) (y : PE F mu ρ own e b)
    (hbase : attributeBase o name F.env (eval o F.env) = eval o F.env := by rfl) (hline : (apos.endLine == pos.line) = true := by rfl)
    (htrees : backTo pos (starEach [e] F.env) = [(false, eval e F.env)] := by rfl) :
    PE F mu ρ own (.Call (.Attribute o name apos) [e] [] pos) r := fun s Q E st h => by
  refine wpAny_Call_method1_late hbase hline htrees (x s _ _ st fun v s₁ k₁ a₁ => ?_)
  have st₁ := st.keeps (khp k₁)
  have is := hT s₁ v st₁.rootK a₁
  refine ⟨T, id, plain, slot, ht, is.1, is.2, ?_⟩
  refine callWith_builtin rfl (evalArgs_plain (spliced_cons (y s₁ _ _ st₁ fun w s₂ k₂ a₂ => spliced_nil ?_)))
  have st₂ := st₁.keeps (khp k₂)
  refine wpAny_call_entry slot (hT s₂ v st₂.rootK (a₁.keep (khp k₂))).1 entry ?_ (hargs _ _)
  exact hB s₂ v [w] _ _ st.ok.hh st.ok.un st₂.rootK st₂.live (a₁.keep (khp k₂)) (AtL.cons a₂ AtL.nil) fun u s₃ k₃ a₃ => ⟨u, rfl, h u s₃ (ktrans k₁ (ktrans k₂ k₃)) a₃⟩

theorem pe_meth0 {T : String} {name : Str} {id : String} {B : Builtin} {o : Expr} {apos pos : Pos} {a r : D} (hB : Mth F mu B a [] r) (plain : PlainAttrs T) (slot : Slot T name id) (entry : entryFor table id = some B)
    (ht : typeOf (.builtin id) = pure (.type "method_descriptor")) (hargs : ∀ x, argsOk id ⟨[x], []⟩) (hT : Is F mu a T) (x : PE F mu ρ own o a)
    (hbase : attributeBase o name F.env (eval o F.env) = eval o F.env := by rfl) (hline : (apos.endLine == pos.line) = true := by rfl) :
    PE F mu ρ own (.Call (.Attribute o name apos) [] [] pos) r := fun s Q E st h => by
  refine Call_method0 hbase hline (x s _ _ st fun v s₁ k₁ a₁ => ?_)
  have st₁ := st.keeps (khp k₁)
  have is := hT s₁ v st₁.rootK a₁
  refine ⟨T, id, plain, slot, ht, is.1, is.2, ?_⟩
  refine callWith_builtin rfl (evalArgs_nil3 ?_)
  refine wpAny_call_entry slot is.1 entry ?_ (hargs _)
  exact hB s₁ v [] _ _ st.ok.hh st.ok.un st₁.rootK st₁.live a₁ AtL.nil fun u s₃ k₃ a₃ => ⟨u, rfl, h u s₃ (ktrans k₁ k₃) a₃⟩
end
end Mine
end

section
set_option Elab.async false
set_option maxRecDepth 100000
set_option autoImplicit false
set_option linter.unusedVariables false
namespace Mine
open PySem PySem.Calls PyProof.Rows PySem.W
open PySem.Builtin.Re

theorem drive {prog : Program} {w : World} {A : Around} {E : Value → Shared → Prop} {s : Shared} {m' : Sre.M} {Q : Sre.M → Shared → Prop} (ho : m'.outcome.isSome = true) (h : Q m' s) :
    ∀ (t : Nat) (m : Sre.M), Rx.R (4 * t) m m' → 0 < t → wpAny (model prog w) A (reDrive t m) Q E s
  | 0, m, _, h0 => absurd h0 (Nat.lt_irrefl _)
  | t + 1, m, ⟨k, hk, hr⟩, _ => by
    have stay : ∀ (j : Nat) (x : Sre.M), x.outcome.isSome = true → Sre.M.runFor j x = x := by
      intro j x hx
      cases j with
      | zero => rfl
      | succ j => unfold Sre.M.runFor; rw [hx]; rfl
    have add : ∀ (a b : Nat) (x : Sre.M), Sre.M.runFor (a + b) x = Sre.M.runFor b (Sre.M.runFor a x) := by
      intro a
      induction a with
      | zero => intro b x; rw [Nat.zero_add]; rfl
      | succ a ih =>
        intro b x
        rw [Nat.succ_add_eq_add_succ]
        show (if x.outcome.isSome then x else Sre.M.runFor (a + b) x.step) = Sre.M.runFor b (if x.outcome.isSome then x else Sre.M.runFor a x.step)
        by_cases hx : x.outcome.isSome = true
        · rw [if_pos hx, if_pos hx]; exact (stay b x hx).symm
        · rw [if_neg hx, if_neg hx]; exact ih b _
    have step : reDrive (t + 1) m = (if (Sre.M.runFor 4 m).outcome.isSome then pure (Sre.M.runFor 4 m) else do rule "sre.turn"; reDrive t (Sre.M.runFor 4 m)) := rfl
    rw [step]
    by_cases hk4 : k ≤ 4
    · have e : Sre.M.runFor 4 m = m' := by
        have := hr (4 - k)
        rw [show k + (4 - k) = 4 by lia] at this
        rw [this, stay _ _ ho]
      rw [e, if_pos ho]
      exact wpAny_pure h
    · by_cases h4 : (Sre.M.runFor 4 m).outcome.isSome = true
      · rw [if_pos h4]
        have e : Sre.M.runFor 4 m = m' := by
          have := hr 0
          rw [Nat.add_zero, show k = 4 + (k - 4) by lia, add, stay _ _ h4] at this
          exact this
        rw [e]; exact wpAny_pure h
      · rw [if_neg h4]
        refine wpAny_bind (wpAny_rule ?_)
        refine drive ho h t _ ⟨k - 4, by lia, fun j => ?_⟩ (by lia)
        have := hr j
        rw [show k + j = 4 + (k - 4 + j) by lia, add] at this
        exact this

/-- the pattern's object -/
noncomputable def PatOk (prog : Program) (w : World) (h : Heap) (p : Addr) : Prop :=
  ∃ o vs, h.get? p = some o ∧ o.cls = .type "re.Pattern" ∧ o.dict = none ∧ o.data = .fields vs ∧ reRawNat (vs.getD 6 .none) = 1 ∧ reRawNat (vs.getD 2 .none) = 1 ∧
    (∃ ca co xs n, vs.getD 5 .none = .ref ca ∧ h.get? ca = some co ∧ co.data = .seq xs n ∧ (xs.map reRawOf).map (·.toNat) = Rx.C) ∧
    ∃ da f, vs.getD 3 .none = .ref da ∧ h.MapOf (strKind prog w) da f ∧ ∃ t, f (Str.ofString "flags") = some (.int 1 t)

noncomputable def matchD (b : Array UInt8) (p : Addr) (n : Nat) : D :=
  .obj "re.Match" [.byt b, .ref p, .int 0, .int ((n + 10 : Nat) : Int), .int 1, .tup [.int 0, .int ((n + 10 : Nat) : Int), .int 9, .int ((9 + n : Nat) : Int)]]

theorem toEnd {prog : Program} {w : World} {A : Around} {E : Value → Shared → Prop} {s : Shared} {m m' : Sre.M} {Q : Option Sre.M → Shared → Prop} (hr : Rx.R 20000 m m') (ho : m'.outcome = some .matched) (h : Q (some m') s) :
    wpAny (model prog w) A (reRunToEnd m) Q E s := by
  unfold reRunToEnd
  refine wpAny_bind (drive (by rw [ho]; rfl) ?_ _ m (hr.mono (by decide)) (by decide))
  refine wpAny_bind (wpAny_forIn_list _ (fun _ _ s' => s' = s) _ (fun x rest b s' hs => ?_) (fun b s' hs => ?_) _ _ rfl)
  · subst hs
    by_cases hx : m'.seen.has x = true
    · rw [if_pos hx]
      exact wpAny_bind (wpAny_rule (wpAny_pure rfl))
    · rw [if_neg hx]
      exact wpAny_pure rfl
  · subst hs
    rw [ho]
    exact wpAny_pure h

theorem newMatch {prog : Program} {w : World} {A : Around} {E : Value → Shared → Prop} {s : Shared} {m : Sre.M} {p : Addr} {b : Array UInt8} {t : Tok} {L n : Nat} {Q : Value → Shared → Prop}
    (mm : m.marks = #[some 9, some (9 + n)]) (ml : m.lastmark = 1) (mi : m.lastindex = 1) (ms : m.start = 0) (mh : m.handed = n + 10)
    (h : Q (.ref (s.heap.objs.size + 1)) { s with heap := (s.heap.push { cls := .type "tuple", dict := none, data := .seq [rawInt 0, rawInt ((n + 10 : Nat) : Int), rawInt 9, rawInt ((9 + n : Nat) : Int)].toArray }).push { cls := .type "re.Match", dict := none, data := .fields [.bytes b t, .ref p, rawInt ((0 : Nat) : Int), rawInt (L : Int), rawInt 1, .ref s.heap.objs.size].toArray } }) :
    wpAny (model prog w) A (reNewMatch (.ref p) (.bytes b t) 1 0 L m) Q E s := by
  unfold reNewMatch
  rw [show List.range 1 = [0] from rfl, ml, mm, mi, ms, mh]
  dsimp only
  split
  · rename_i hx
    simp at hx
    lia
  show wpAny _ _ (newTuple [rawInt ((0 : Nat) : Int), rawInt ((n + 10 : Nat) : Int), rawInt 9, rawInt ((9 + n : Nat) : Int)] >>= fun tup => newFields "re.Match" [.bytes b t, .ref p, rawInt ((0 : Nat) : Int), rawInt (L : Int), rawInt 1, tup]) Q E s
  refine wpAny_bind ?_
  refine wpAny_newObj_type ?_ ?_
  · refine wpAny_newObj_type ?_ ?_
    · show Q (.ref (s.heap.push _).objs.size) _
      rw [Heap.size_push]
      exact h
    · show 6 ≤ sizeLine + 2
      rw [sizeLine_eq]; decide
  · show 4 ≤ sizeLine
    rw [sizeLine_eq]; decide

section
variable {F : Fx} {mu : List Addr} {ρ : Vars} {own : Owned}

theorem mth_match {p : Addr} (hp : PatOk F.c.prog F.c.w F.c.root p) {b : Array UInt8} {n : Nat} (hT : Rx.Tx (b.map (·.toNat)) n) : Mth F mu Builtin.«re.Pattern.match» (.ref p) [.byt b] (matchD b p n) := fun s v ws Q E hh hu hk hl av aws h => by
  obtain ⟨w1, ws', rfl, a1, a2⟩ := aws.inv
  cases a2.inv_nil
  obtain ⟨t, rfl⟩ := a1.byt_inv
  cases av.ref_inv
  obtain ⟨o, vs, ho, hc, hn, hd, h6, h2, ⟨ca, co, xs, nn, h5, hca, hcd, hC⟩, _⟩ := hp
  have hsz : (b.map (·.toNat)).size = n + 10 := hT.size
  have hsm := hT.small
  obtain ⟨m, hR, mo, mm, ml, mi, ms, mh⟩ := Rx.whole hT
  have e2 : reTextOf (.bytes b t) = pure (b.map (·.toNat), 1) := by
    show (do match ← Builtin.Bytes.bufferQuiet? "_sre" (.bytes b t) with
      | some (b : Array UInt8) => pure (b.map (fun (x : UInt8) => x.toNat), 1)
      | none => raiseError "TypeError" s!"expected string or bytes-like object, got '{← typeNameOf (.bytes b t)}'") = _
    rw [KBy.quiet_eq]; rfl
  have e3 : reNoCollectionInside (.bytes b t) 1 = pure () := by
    show (do if !(← isInstance (.bytes b t) (.type "bytes")) then noCollectionInside "_sre:a-collection-may-fall-inside-the-match-while-it-holds-a-buffer-that-can-be-written") = _
    rw [KBy.isInstance_eq]; rfl
  have hlim : min (2 ^ 63 - 1 : Int).toNat (b.map (·.toNat)).size = (b.map (·.toNat)).size := by
    rw [hsz]
    have : (2 ^ 63 - 1 : Int).toNat = 9223372036854775807 := by decide
    lia
  have tgt : ∀ Q' : ReTarget → Shared → Prop, Q' { pattern := .ref p, string := .bytes b t, code := Rx.C, text := b.map (·.toNat), kind := 1, groups := 1, pos := 0, lim := (b.map (·.toNat)).size } s →
      wpAny (model F.c.prog F.c.w) F.A.in1 (reTarget "re.Pattern.match" "match" ⟨[.ref p, .bytes b t], []⟩) Q' E s := by
    intro Q' hq
    show wpAny _ _ (do
      let fs ← fieldsOf (.ref p)
      let (text, kind) ← reTextOf (.bytes b t)
      let want := reRawNat (fs.getD 6 .none)
      if want == 0 && kind == 1 then raiseError "TypeError" "cannot use a string pattern on a bytes-like object"
      if want == 1 && kind == 0 then raiseError "TypeError" "cannot use a bytes pattern on a string-like object"
      reNoCollectionInside (.bytes b t) kind
      let clip (i : Int) : Nat := min i.toNat text.size
      pure ({ pattern := .ref p, string := .bytes b t, code := (← reRawItems (fs.getD 5 .none)).map (fun (i : Int) => i.toNat), text, kind, groups := reRawNat (fs.getD 2 .none), pos := clip 0, lim := clip (2 ^ 63 - 1) } : ReTarget)) Q' E s
    rw [e2]
    refine wpAny_bind (wpAny_fieldsOf (hk _ _ ho) hd ?_)
    refine wpAny_bind (wpAny_pure ?_)
    dsimp only
    rw [h6, h2, h5, e3]
    refine wpAny_bind (wpAny_pure ?_)
    refine wpAny_bind ?_
    unfold reRawItems
    refine wpAny_bind (wpAny_seqItems (hk _ _ hca) hcd ?_)
    refine wpAny_pure (wpAny_pure ?_)
    rw [hlim]
    show Q' { pattern := .ref p, string := .bytes b t, code := (xs.map reRawOf).map (·.toNat), text := b.map (·.toNat), kind := 1, groups := 1, pos := 0, lim := (b.map (·.toNat)).size } s
    rw [hC]
    exact hq
  show wpAny _ _ (reTarget "re.Pattern.match" "match" ⟨[.ref p, .bytes b t], []⟩ >>= fun t => reAnswer t (Sre.forMatch t.code t.text t.groups t.pos t.lim false false)) Q E s
  refine wpAny_bind (tgt _ ?_)
  show wpAny _ _ (reRunToEnd (Sre.forMatch Rx.C (b.map (·.toNat)) 1 0 (b.map (·.toNat)).size false false) >>= fun r => match r with
    | some m => reNewMatch (.ref p) (.bytes b t) 1 0 (b.map (·.toNat)).size m >>= fun v => ret v
    | none => ret .none) Q E s
  refine wpAny_bind (toEnd hR mo ?_)
  refine wpAny_bind (newMatch mm ml mi ms mh (wpAny_pure ?_))
  have k1 : Keeps s { s with heap := (s.heap.push { cls := .type "tuple", dict := none, data := .seq [rawInt 0, rawInt ((n + 10 : Nat) : Int), rawInt 9, rawInt ((9 + n : Nat) : Int)].toArray }).push { cls := .type "re.Match", dict := none, data := .fields [.bytes b t, .ref p, rawInt ((0 : Nat) : Int), rawInt ((b.map (·.toNat)).size : Int), rawInt 1, .ref s.heap.objs.size].toArray } } :=
    ktrans (kpush s { cls := .type "tuple", dict := none, data := .seq [rawInt 0, rawInt ((n + 10 : Nat) : Int), rawInt 9, rawInt ((9 + n : Nat) : Int)].toArray } s.toks) (kpush _ _ s.toks)
  refine h _ _ k1 ?_
  rw [hsz]
  have l1 : Live mu (s.heap.push { cls := .type "tuple", dict := none, data := .seq [rawInt 0, rawInt ((n + 10 : Nat) : Int), rawInt 9, rawInt ((9 + n : Nat) : Int)].toArray }) := hl.keeps fun b o e => Heap.get?_push_of_some _ e
  have f1 := l1.fresh
  rw [Heap.size_push] at f1
  have at1 : AtL s.heap mu [rawInt 0, rawInt ((n + 10 : Nat) : Int), rawInt 9, rawInt ((9 + n : Nat) : Int)] [.int 0, .int ((n + 10 : Nat) : Int), .int 9, .int ((9 + n : Nat) : Int)] := .cons (.int _ _) (.cons (.int _ _) (.cons (.int _ _) (.cons (.int _ _) .nil)))
  have at2 := new_tup hl at1
  have at3 : AtL (s.heap.push { cls := .type "tuple", dict := none, data := .seq [rawInt 0, rawInt ((n + 10 : Nat) : Int), rawInt 9, rawInt ((9 + n : Nat) : Int)].toArray }) mu [.bytes b t, .ref p, rawInt ((0 : Nat) : Int), rawInt ((n + 10 : Nat) : Int), rawInt 1, .ref s.heap.objs.size]
      [.byt b, .ref p, .int 0, .int ((n + 10 : Nat) : Int), .int 1, .tup [.int 0, .int ((n + 10 : Nat) : Int), .int 9, .int ((9 + n : Nat) : Int)]] := .cons (.byt _ _) (.cons (.ref _) (.cons (.int _ _) (.cons (.int _ _) (.cons (.int _ _) (.cons at2 .nil)))))
  have at4 := at3.keep (h' := (s.heap.push { cls := .type "tuple", dict := none, data := .seq [rawInt 0, rawInt ((n + 10 : Nat) : Int), rawInt 9, rawInt ((9 + n : Nat) : Int)].toArray }).push { cls := .type "re.Match", dict := none, data := .fields [.bytes b t, .ref p, rawInt ((0 : Nat) : Int), rawInt ((n + 10 : Nat) : Int), rawInt 1, .ref s.heap.objs.size].toArray }) fun b o e => Heap.get?_push_of_some _ e
  have g1 : ((s.heap.push { cls := .type "tuple", dict := none, data := .seq [rawInt 0, rawInt ((n + 10 : Nat) : Int), rawInt 9, rawInt ((9 + n : Nat) : Int)].toArray }).push { cls := .type "re.Match", dict := none, data := .fields [.bytes b t, .ref p, rawInt ((0 : Nat) : Int), rawInt ((n + 10 : Nat) : Int), rawInt 1, .ref s.heap.objs.size].toArray }).get? (s.heap.objs.size + 1) = some { cls := .type "re.Match", dict := none, data := .fields [.bytes b t, .ref p, rawInt ((0 : Nat) : Int), rawInt ((n + 10 : Nat) : Int), rawInt 1, .ref s.heap.objs.size].toArray } :=
    by
      have := Heap.get?_push_size (s.heap.push { cls := .type "tuple", dict := none, data := .seq [rawInt 0, rawInt ((n + 10 : Nat) : Int), rawInt 9, rawInt ((9 + n : Nat) : Int)].toArray }) (o := { cls := .type "re.Match", dict := none, data := .fields [.bytes b t, .ref p, rawInt ((0 : Nat) : Int), rawInt ((n + 10 : Nat) : Int), rawInt 1, .ref s.heap.objs.size].toArray }) rfl
      rwa [Heap.size_push] at this
  exact .obj f1 g1 rfl rfl rfl at4.1 at4.2

theorem truth_obj {T : String} {l : List D} (h1 : typeLookup (.type T) "__bool__" = pure none) (h2 : typeLookup (.type T) "__len__" = pure none) : Truth F mu (.obj T l) true := fun s v Q E x h => by
  obtain ⟨a, o, vs, rfl, hm, ho, hc, hn, hf, hl⟩ := x.obj_inv
  have ht : s.TypeIs (.ref a) T := ⟨o, ho, hc⟩
  unfold truthy
  refine wpAny_bind (wpAny_callSpecial?_none ht h1 ?_)
  refine wpAny_bind (wpAny_specialOf ht h2 ?_)
  exact wpAny_pure (h s (krefl s))

theorem mth_group {p : Addr} (hp : PatOk F.c.prog F.c.w F.c.root p) {b : Array UInt8} {n : Nat} (hs : b.size = n + 10) (hn : n ≤ 1000) : Mth F mu Builtin.«re.Match.group» (matchD b p n) [.str (Str.ofString "flags")] (.byt (b.extract 9 (9 + n))) := fun s v ws Q E hh hu hk hl av aws h => by
  obtain ⟨w1, ws', rfl, a1, a2⟩ := aws.inv
  cases a2.inv_nil
  obtain ⟨t, rfl⟩ := a1.str_inv
  obtain ⟨a, o, vs, rfl, hm, ho, hc, hno, hf, hfl⟩ := av.obj_inv
  obtain ⟨v0, vs1, rfl, b0, c0⟩ := hfl.inv
  obtain ⟨v1, vs2, rfl, b1, c1⟩ := c0.inv
  obtain ⟨v2, vs3, rfl, b2, c2⟩ := c1.inv
  obtain ⟨v3, vs4, rfl, b3, c3⟩ := c2.inv
  obtain ⟨v4, vs5, rfl, b4, c4⟩ := c3.inv
  obtain ⟨v5, vs6, rfl, b5, c5⟩ := c4.inv
  cases c5.inv_nil
  obtain ⟨tb, rfl⟩ := b0.byt_inv
  cases b1.ref_inv
  obtain ⟨ta, ts, rfl, htm, hta, htl⟩ := b5.tup_inv
  obtain ⟨u0, ts1, rfl, e0, f0⟩ := htl.inv
  obtain ⟨u1, ts2, rfl, e1, f1⟩ := f0.inv
  obtain ⟨u2, ts3, rfl, e2, f2⟩ := f1.inv
  obtain ⟨u3, ts4, rfl, e3, f3⟩ := f2.inv
  cases f3.inv_nil
  obtain ⟨t0, rfl⟩ := e0.int_inv
  obtain ⟨t1, rfl⟩ := e1.int_inv
  obtain ⟨t2, rfl⟩ := e2.int_inv
  obtain ⟨t3, rfl⟩ := e3.int_inv
  obtain ⟨oo, hto, htc, tn, htd⟩ := hta
  obtain ⟨po, pvs, hpo, hpc, hpn, hpd, h6, h2, _, da, f, h3, hmap, tf, hflag⟩ := hp
  have hmap' : s.heap.MapOf (strKind F.c.prog F.c.w) da f := by
    obtain ⟨o, es, ep, e, r⟩ := hmap
    exact ⟨o, es, ep, hk _ _ e, r⟩
  have e2 : reTextOf (.bytes b tb) = pure (b.map (·.toNat), 1) := by
    show (do match ← Builtin.Bytes.bufferQuiet? "_sre" (.bytes b tb) with
      | some (b : Array UInt8) => pure (b.map (fun (x : UInt8) => x.toNat), 1)
      | none => raiseError "TypeError" s!"expected string or bytes-like object, got '{← typeNameOf (.bytes b tb)}'") = _
    rw [KBy.quiet_eq]; rfl
  have noIx : typeLookup (.type "str") "__index__" = pure none := by rw [typeLookup_type, builtinLookup_eq_fast]; kernel_rfl
  show wpAny _ _ (reFound (.ref a) >>= fun x => reGroupNumber x (.str (Str.ofString "flags") t) >>= fun g => reGroupText x g .none >>= fun v => ret v) Q E s
  unfold reFound
  refine wpAny_bind (wpAny_bind (wpAny_fieldsOf ho hf (wpAny_bind ?_)))
  unfold reRawItems
  refine wpAny_bind (wpAny_seqItems hto htd ?_)
  refine wpAny_pure (wpAny_pure ?_)
  refine wpAny_bind ?_
  unfold reGroupNumber
  refine wpAny_bind (show wpAny _ _ (pure none) _ E s from wpAny_pure ?_)
  refine wpAny_bind (wpAny_specialOf (typeIs_str _ _ _) noIx ?_)
  refine wpAny_bind (wpAny_fieldsOf (hk _ _ hpo) hpd ?_)
  rw [h3]
  refine wpAny_bind (wpAny_dictGet_of (knd := strKind F.c.prog F.c.w) (k := Str.ofString "flags") (strKind_is _ _ _ _) hmap' ?_)
  rw [hflag]
  refine wpAny_bind (wpAny_pure ?_)
  refine wpAny_bind (wpAny_pure ?_)
  dsimp only [Option.getD_some]
  split
  · rename_i hx
    simp at hx
  refine wpAny_pure ?_
  rw [show Array.map reRawOf #[Value.int 0 t0, Value.int ((n + 10 : Nat) : Int) t1, Value.int 9 t2, Value.int ((9 + n : Nat) : Int) t3] = #[0, ((n + 10 : Nat) : Int), 9, ((9 + n : Nat) : Int)] by simp [reRawOf]]
  show wpAny _ _ (reGroupText { fields := #[Value.bytes b tb, Value.ref p, v2, v3, v4, Value.ref ta], spans := #[0, ((n + 10 : Nat) : Int), 9, ((9 + n : Nat) : Int)] } 1 .none >>= fun v => ret v) Q E _
  unfold reGroupText
  have hb : (decide ((9 : Int) < 0) || decide (((9 + n : Nat) : Int) < 0)) = false := by
    rw [Bool.or_eq_false_iff, decide_eq_false_iff_not, decide_eq_false_iff_not]; lia
  show wpAny _ _ ((if (decide ((9 : Int) < 0) || decide (((9 + n : Nat) : Int) < 0)) = true then pure .none else (reTextOf (.bytes b tb) >>= fun (tk : Array Nat × Nat) => reSlice tk.1 tk.2 9 (9 + n))) >>= fun v => ret v) Q E _
  rw [hb, e2]
  refine wpAny_bind ?_
  show wpAny _ _ (mkBytes (((b.map (·.toNat)).extract 9 (9 + n)).map (·.toUInt8))) _ E _
  have he : ((b.map (·.toNat)).extract 9 (9 + n)).map (·.toUInt8) = b.extract 9 (9 + n) := by
    rw [← Array.map_extract, Array.map_map]
    have : (fun (x : Nat) => x.toUInt8) ∘ (fun (x : UInt8) => x.toNat) = id := by
      funext x; simp
    rw [this, Array.map_id]
  rw [he]
  refine wpAny_mkBytes (wpAny_pure (h _ _ (ktoks s _) (.byt _ _))) ?_
  rw [sizeLine_eq, Array.size_extract]; lia
end
end Mine
end

section
set_option Elab.async false
set_option maxRecDepth 100000
set_option autoImplicit false
set_option linter.unusedVariables false
namespace Mine
open PySem PySem.Calls PyProof.Rows PySem.W
open PySem.Builtin

/-- what bytes.split() tells -/
noncomputable def splitW (b : Array UInt8) : List (Array UInt8) :=
  if (!b.isEmpty && !b.any Bytes.isSpace) = true then [b] else (Bytes.words (b.size + 1) (b.size + 1) b.toList).map List.toArray

section
variable {F : Fx} {mu : List Addr} {ρ : Vars} {own : Owned}

theorem many_byts {M : Model} {A : Around} {E : Value → Shared → Prop} : ∀ (ws : List (List UInt8)) (s : Shared) (Q : List Value → Shared → Prop), (∀ w ∈ ws, w.length ≤ sizeLine) →
    (∀ vs tk, AtL s.heap mu vs ((ws.map List.toArray).map D.byt) → Q vs { s with toks := tk }) → wpAny M A (ws.mapM fun w => Bytes.Kind.new .bytes w.toArray) Q E s
  | [], s, Q, _, h => by
    rw [List.mapM_nil]
    exact wpAny_pure (h [] s.toks AtL.nil)
  | w :: ws, s, Q, hw, h => by
    rw [List.mapM_cons]
    refine wpAny_bind (show wpAny _ _ (mkBytes w.toArray) _ E s from wpAny_mkBytes ?_ (by rw [List.size_toArray]; exact hw w List.mem_cons_self))
    refine wpAny_bind (many_byts ws _ _ (fun x hx => hw x (List.mem_cons_of_mem _ hx)) fun vs tk a => wpAny_pure ?_)
    exact h _ tk (AtL.cons (.byt _ _) a)

theorem mth_split {b : Array UInt8} (hb : b.size ≤ 10000) (hw : (splitW b).length ≤ 1000) (hws : ∀ w ∈ splitW b, w.size ≤ 10000) : Mth F mu Builtin.«bytes.split» (.byt b) [] (.lst ((splitW b).map .byt)) := fun s v ws Q E hh hu hk hl av aws h => by
  cases aws.inv_nil
  obtain ⟨t, rfl⟩ := av.byt_inv
  show wpAny _ _ (Bytes.splitM .bytes "split" false ⟨[.bytes b t], []⟩) Q E s
  have e : Bytes.splitM .bytes "split" false ⟨[.bytes b t], []⟩ = (do
      let limit := if (-1 : Int) < 0 then b.size + 1 else (-1 : Int).toNat
      rule s!"{s!"{Bytes.Kind.bytes.name}.{"split"}"}.whitespace"
      if limit > 0 && !b.isEmpty && !b.any Bytes.isSpace then return ← ret (← newList [← Bytes.Kind.same .bytes (.bytes b t)])
      let ws := Bytes.words (b.size + 1) limit b.toList
      ret (← newList (← ws.mapM fun w => Bytes.Kind.new .bytes w.toArray))) := rfl
  rw [e]
  dsimp only
  rw [show (if (-1 : Int) < 0 then b.size + 1 else (-1 : Int).toNat) = b.size + 1 from rfl]
  refine wpAny_bind (wpAny_rule ?_)
  have hg : decide (b.size + 1 > 0) = true := by simp
  rw [hg, Bool.true_and]
  unfold splitW at hw hws h
  by_cases hc : (!b.isEmpty && !b.any Bytes.isSpace) = true
  · rw [if_pos hc] at hw hws h
    rw [if_pos hc]
    have es : Bytes.Kind.same .bytes (.bytes b t) = pure (.bytes b t) := rfl
    rw [es]
    refine wpAny_bind ?_
    refine wpAny_pure (wpAny_bind (wpAny_newObj_type ?_ ?_))
    · refine wpAny_pure ?_
      exact h _ _ (kpush s _ s.toks) (new_lst hl (AtL.cons (.byt _ _) .nil))
    · show 1 ≤ sizeLine
      rw [sizeLine_eq]; decide
  · rw [if_neg hc] at hw hws h
    rw [if_neg hc]
    refine wpAny_bind (many_byts (mu := mu) _ s _ (fun w hx => ?_) fun vs tk a => ?_)
    · have := hws w.toArray (List.mem_map_of_mem hx)
      rw [List.size_toArray] at this
      rw [sizeLine_eq]; lia
    · refine wpAny_bind (wpAny_newObj_type ?_ ?_)
      · refine wpAny_pure ?_
        exact h _ _ (ktrans (ktoks s tk) (kpush _ _ _)) (new_lst hl a)
      · show vs.toArray.size ≤ sizeLine
        have := a.1
        rw [sizeLine_eq, List.size_toArray]
        simp at this hw
        lia
end

/-- the reply -/
noncomputable def reply (b : Array UInt8) : Array UInt8 := #[42, 32, 70, 76, 65, 71, 83, 32, 40] ++ b ++ #[41]

theorem reply_tx {b : Array UInt8} (hn : b.size ≤ 1000) (hb : ∀ x ∈ b, x ≠ 41 ∧ x ≠ 10 ∧ x ≠ 83) : Rx.Tx ((reply b).map (·.toNat)) b.size := by
  have hsz : (reply b).size = b.size + 10 := by unfold reply; simp; lia
  have get : ∀ i, i < b.size + 10 → ((reply b).map (·.toNat)).getD i 0 = ((reply b)[i]?.getD 0).toNat := by
    intro i hi
    have h : i < (reply b).size := by lia
    rw [Array.getD_eq_getD_getElem?, Array.getElem?_map, Array.getElem?_eq_getElem h]; rfl
  refine ⟨by rw [Array.size_map, hsz], hn, fun i hi => ?_, fun i hi => ?_, ?_⟩
  · rw [get i (by lia)]
    unfold reply
    rw [Array.append_assoc, Array.getElem?_append_left (by simpa using hi)]
    have : i = 0 ∨ i = 1 ∨ i = 2 ∨ i = 3 ∨ i = 4 ∨ i = 5 ∨ i = 6 ∨ i = 7 ∨ i = 8 := by lia
    rcases this with rfl | rfl | rfl | rfl | rfl | rfl | rfl | rfl | rfl <;> rfl
  · rw [get (9 + i) (by lia)]
    unfold reply
    rw [Array.getElem?_append_left (by simp; lia), Array.getElem?_append_right (by simp), show 9 + i - (#[42, 32, 70, 76, 65, 71, 83, 32, 40] : Array UInt8).size = i by simp, Array.getElem?_eq_getElem hi]
    obtain ⟨h1, h2, h3⟩ := hb b[i] (Array.getElem_mem hi)
    refine ⟨fun q => h1 ?_, fun q => h2 ?_, fun q => h3 ?_⟩
    · exact UInt8.toNat_inj.mp q
    · exact UInt8.toNat_inj.mp q
    · exact UInt8.toNat_inj.mp q
  · rw [get _ (by lia)]
    unfold reply
    rw [Array.getElem?_append_right (by simp)]
    simp
theorem reply_mid (b : Array UInt8) : (reply b).extract 9 (9 + b.size) = b := by
  unfold reply
  rw [Array.extract_append, Array.extract_append]
  simp
theorem reply_size (b : Array UInt8) : (reply b).size = b.size + 10 := by unfold reply; simp; lia

set_option maxHeartbeats 4000000
theorem fn_parse {c : Cx} {f p : Addr} {b : Array UInt8} (hf : FnAt c f 4 ["resp"]) (hg : c.mg (Str.ofString "Flags") = some (.ref p)) (hp : PatOk c.prog c.w c.root p) (htup : c.mg (Str.ofString "tuple") = none) (hn : b.size ≤ 1000) (hb : ∀ x ∈ b, x ≠ 41 ∧ x ≠ 10 ∧ x ≠ 83)
    (hw : (splitW b).length ≤ 1000) (hws : ∀ w ∈ splitW b, w.size ≤ 10000) : Fn c 1 f [.byt (reply b)] (.tup ((splitW b).map .byt)) := by
  refine fn_at hf rfl fun F mu hc room he => ?_
  obtain ⟨q, L, cd, he⟩ := he
  obtain ⟨c', A, env, B⟩ := F
  dsimp only at hc he
  subst hc
  subst he
  have no : ∀ {x : Str}, ∀ p ∈ ([] : Owned), p.1 ≠ x := fun p hp => nomatch hp
  obtain ⟨o, vs, ho, hcl, hnn, _⟩ := id hp
  refine st_seq (st_assign (pe_meth1 (mth_match hp (reply_tx hn hb)) RF.plainAttrs_pattern RF.slot_match RF.entry_match RF.type_match RF.args_match (is_root ho hcl hnn) (pe_gref hg) (pe_var rfl)) (.inl rfl) no) ?_
  refine st_if_ret (pt_not (pt_plain (pe_var rfl) (truth_obj RF.noBool_Match RF.noLen_Match))) (fun h => nomatch h) ?_ (fun g ⟨v, e, _⟩ => nomatch e)
  intro _
  have hgr := mth_group (F := ⟨c', A, envF (sScope (fstmt 4)) q L f cd, B⟩) (mu := mu) hp (reply_size b) hn
  rw [reply_mid] at hgr
  exact (st_ret (pe_typ (typ_tuple (by rw [List.length_map]; exact hw)) (.cons (pe_meth0 (mth_split (by lia) hw hws) FB.plainAttrs_bytes RF.slot_split RF.entry_split RF.type_split RF.args_split is_byt
    (pe_meth1 hgr RF.plainAttrs_match RF.slot_group RF.entry_group RF.type_group RF.args_group is_obj (pe_var rfl) pe_str)) .nil) htup (by decide +kernel))).post fun fl g ⟨v, e1, e2, e3⟩ => ⟨v, e1, e2.less less_nil, e3⟩
end Mine
end

section
set_option Elab.async false
set_option maxRecDepth 100000
set_option autoImplicit false
set_option linter.unusedVariables false
namespace Mine
open PySem PySem.Calls PyProof.Rows PySem.W
open PySem.Builtin

section
variable {F : Fx} {mu : List Addr} {ρ : Vars} {own : Owned}

theorem take_eq {id : String} {b : Array UInt8} {t : Tok} : Bytes.takeBufferQuiet? id (.bytes b t) 0 = pure (some (b, none)) := by
  have e : Bytes.takeBuffer? id (.bytes b t) 0 = pure (some (b, none)) := by
    unfold Bytes.takeBuffer?
    rw [KBy.special_eq KBy.look_buffer, KBy.own_buffer, show ((0 : Int) == Bytes.fullReadOnly) = false from by decide +kernel, KBy.buffer_eq]
    kernel_rfl
  unfold Bytes.takeBufferQuiet?
  rw [e]
  rfl

theorem joinLet {M : Model} {A : Around} {E : Value → Shared → Prop} {s : Shared} {keep : List Value} {Q : Unit → Shared → Prop} (h : Q () s) : ∀ (l : List (Value × Option Value)), (∀ p ∈ l, p.2 = none) → wpAny M A (Bytes.joinLetGo l keep) Q E s
  | [], _ => wpAny_pure h
  | (x, w) :: l, hl => by
    have hw : w = none := hl (x, w) List.mem_cons_self
    subst hw
    unfold Bytes.joinLetGo
    refine wpAny_bind (wpAny_letGo ?_)
    exact joinLet h l fun p hp => hl p (List.mem_cons_of_mem _ hp)

theorem jm {T : Sort _} (X : Array Value) (hne : ∀ x, X ≠ #[x]) (f : Value → T) (g : Array Value → T) : Bytes.joinM.match_1 (motive := fun _ => T) X f g = g X := by
  rcases X with ⟨l⟩
  match l with
  | [] => rfl
  | [x] => exact absurd rfl (hne x)
  | x :: y :: l => rfl

theorem mth_join {sep : Array UInt8} {ws : List (Array UInt8)} (h1 : ws.length ≠ 1) (hs : (Bytes.joined sep ws).size ≤ 10000)
    (hz : ws.foldl (fun n b => n + b.size) (sep.size * (ws.length - 1)) ≤ 10000) : Mth F mu Builtin.«bytes.join» (.byt sep) [.lst (ws.map .byt)] (.byt (Bytes.joined sep ws)) := fun s v vs Q E hh hu hk hl av aws h => by
  obtain ⟨w1, ws', rfl, a1, a2⟩ := aws.inv
  cases a2.inv_nil
  obtain ⟨t, rfl⟩ := av.byt_inv
  obtain ⟨l, xs, rfl, hm, hls, hv⟩ := a1.lst_inv
  obtain ⟨o, ho, hc, nn, hd⟩ := hls
  have hx : xs.length = ws.length := by rw [hv.1, List.length_map]
  show wpAny _ _ (Bytes.joinM .bytes ⟨[.bytes sep t, .ref l], []⟩) Q E s
  unfold Bytes.joinM
  dsimp only
  refine wpAny_bind (show wpAny _ _ (pure (Value.bytes sep t, Value.ref l)) _ E s from wpAny_pure ?_)
  dsimp only
  refine wpAny_bind (show wpAny _ _ (Bytes.joinItems (.ref l)) _ E s from ?_)
  unfold Bytes.joinItems
  refine wpAny_bind (wpAny_typeOf (T := "list") ⟨o, ho, hc⟩ ?_)
  refine wpAny_pure ?_
  refine wpAny_bind (wpAny_seqItems ho hd ?_)
  dsimp only
  rw [if_pos (by rfl)]
  have hne : ∀ x, xs.toArray ≠ #[x] := fun x q => h1 (by
    have := congrArg Array.size q
    rw [List.size_toArray, hx] at this
    exact this)
  rw [jm _ hne]
  refine wpAny_bind ?_
  rw [Std.Legacy.Range.forIn_eq_forIn_range']
  refine wpAny_forIn_list _ (fun rest (p : Array (Array UInt8) × List (Value × Option Value)) s' => s' = s ∧ ∃ k, rest = List.range' k (xs.length - k) ∧ k ≤ xs.length ∧ p.1 = (ws.take k).toArray ∧ ∀ e ∈ p.2, e.2 = none ∧ e.1.onHeap = false) _ ?_ ?_ _ _ ?_
  · rintro i rest ⟨parts, taken⟩ s' ⟨rfl, k, hr, hk', hp, ht⟩
    have hlt : k < xs.length := by
      rcases Nat.lt_or_ge k xs.length with q | q
      · exact q
      · rw [show xs.length - k = 0 by lia] at hr; cases hr
    rw [show xs.length - k = (xs.length - (k + 1)) + 1 by lia, List.range'_succ] at hr
    obtain ⟨rfl, rfl⟩ := List.cons.inj hr
    obtain ⟨w, hw⟩ : ∃ w, ws[i]? = some w := ⟨ws[i]'(by lia), List.getElem?_eq_getElem _⟩
    have hxi : ∃ v, xs[i]? = some v := ⟨xs[i]'(by lia), List.getElem?_eq_getElem _⟩
    obtain ⟨v, hvi⟩ := hxi
    have av := hv.2 i v (.byt w) hvi (by rw [List.getElem?_map, hw]; rfl)
    obtain ⟨tv, rfl⟩ := av.byt_inv
    have hget : xs.toArray.getD i .none = .bytes w tv := by
      rw [Array.getD_eq_getD_getElem?, List.getElem?_toArray, hvi]; rfl
    have hany : (Bytes.Kind.bytes == Bytes.Kind.bytearray || taken.any fun x => x.1.onHeap) = false := by
      rw [Bool.or_eq_false_iff]
      refine ⟨rfl, ?_⟩
      rw [List.any_eq_false]
      intro x hx
      rw [(ht x hx).2]; simp
    refine wpAny_bind (wpAny_seqItems ho hd ?_)
    dsimp only
    rw [if_neg (by rw [hany]; simp)]
    rw [hget, take_eq]
    refine wpAny_bind (wpAny_holding (wpAny_pure ?_))
    dsimp only
    refine wpAny_bind (wpAny_seqItems ho hd ?_)
    dsimp only
    rw [if_neg (by simp)]
    refine wpAny_pure ?_
    refine ⟨rfl, i + 1, rfl, by lia, ?_, ?_⟩
    · show parts.push w = _
      have hp' : parts = (ws.take i).toArray := hp
      rw [hp', List.push_toArray, List.take_add_one, hw]; rfl
    · intro e he
      rcases List.mem_append.mp he with he | he
      · exact ht e he
      · cases List.mem_singleton.mp he
        exact ⟨rfl, rfl⟩
  · rintro ⟨parts, taken⟩ s' ⟨rfl, k, hr, hk', hp, ht⟩
    have hkk : k = xs.length := by
      rcases Nat.lt_or_ge k xs.length with q | q
      · rw [show xs.length - k = (xs.length - (k + 1)) + 1 by lia, List.range'_succ] at hr; cases hr
      · lia
    have hp' : parts = ws.toArray := by
      have : parts = (ws.take k).toArray := hp
      rw [this, hkk, hx, List.take_length]
    subst hp'
    refine wpAny_bind (show wpAny _ _ (pure sep) _ E s' from wpAny_pure ?_)
    rw [if_neg ?_]
    · refine wpAny_bind (show wpAny _ _ (mkBytes (Bytes.joined sep ws.toArray.toList)) _ E s' from wpAny_mkBytes ?_ (by rw [sizeLine_eq]; show (Bytes.joined sep ws).size ≤ _; lia))
      refine wpAny_bind (wpAny_holding (wpAny_point ?_))
      refine wpAny_bind (joinLet ?_ _ fun p hp => (ht p hp).1)
      refine wpAny_pure ?_
      exact h _ _ (ktoks s' _) (.byt _ _)
    · unfold Bytes.tooLong
      rw [decide_eq_true_iff, sizeLine_eq]
      rw [List.foldl_toArray]
      have := hz
      simp only [List.size_toArray]
      lia
  · refine ⟨rfl, 0, ?_, Nat.zero_le _, rfl, fun e he => nomatch he⟩
    simp [Std.Legacy.Range.size]
end
end Mine
end

section
set_option Elab.async false
set_option maxRecDepth 100000
set_option autoImplicit false
set_option linter.unusedVariables false
namespace Mine
open PySem PySem.Calls PyProof.Rows PySem.W

section
variable {prog : Program} {w : World} {A : Around} {E : Value → Shared → Prop} {s : Shared}

noncomputable abbrev OctAt (x : Array UInt8) (i : Nat) (v : Value) : Prop := ∃ c u, x[i]? = some c ∧ v = .int (c.toNat : Int) u

theorem extend_byt {R : Result → Shared → Prop} (hh : A.handled = none) (x : Array UInt8) (t : Tok) (S : Addr) (res : Value) (c₀ : Nat) (hS : s.heap.get? S = some { cls := .type "list", data := .seq #[] c₀ })
    (hR : ∀ h' tk acc' c', (∀ b o, b ≠ S → s.heap.get? b = some o → h'.get? b = some o) → h'.get? S = some { cls := .type "list", dict := none, data := .seq acc' c', slots := #[] } →
      ItemsOf (OctAt x) acc' x.size → R (.ok (.ret res)) { s with heap := h', toks := tk }) (hn : x.size ≤ sizeLine) :
    wpAny (model prog w) A.in1 (Builtin.List.listExtendWith (.ref S) (.bytes x t) res)
      (fun fin s' => match fin with | .done f => R (.ok f) s' | .again c' => c'.quiet = true ∧ codeAny (model prog w) A c' R s') (fun e s' => R (.error e) s') s := by
  have hSI : S ≠ s.heap.objs.size := Nat.ne_of_lt (Heap.lt_size hS)
  have hSf : S ∉ [s.heap.objs.size] := fun hm => hSI (List.mem_singleton.mp hm)
  unfold Builtin.List.listExtendWith
  refine wpAny_bind (wpAny_typeOf (T := "bytes") (v := .bytes x t) rfl ?_)
  have h1 : Builtin.List.listSameRef (.ref S) (.bytes x t) = false := rfl
  have h2 : (Value.type "bytes" == Value.type "list") = false := by decide
  have h3 : (Value.type "bytes" == Value.type "tuple") = false := by decide
  simp only [h1, h2, h3, Bool.or_false, Bool.false_eq_true, if_false]
  refine wpAny_bind (KBw.pyIter_bytes ?_)
  refine wpAny_bind (wpAny_holding ?_)
  unfold Builtin.List.listLengthHint
  have hlen : typeLookup (.type "bytes") "__len__" = pure (some (.builtin "bytes.__len__")) := by rw [typeLookup_type, builtinLookup_eq_fast]; kernel_rfl
  refine wpAny_bind (wpAny_specialOf (T := "bytes") (v := .bytes x t) rfl hlen ?_)
  wp_delta
  refine wpAny_bind (wpAny_isInstance (T := "bytes") (v := .bytes x t) (b := true) rfl (by rw [isSubtype_type]; kernel_rfl) ?_)
  show wpAny _ _ (typeOf (Value.bytes x t) >>= _) _ _ _
  refine wpAny_bind (wpAny_typeOf (T := "bytes") (v := .bytes x t) rfl ?_)
  refine wpAny_pure ?_
  rw [if_neg (by decide)]
  have W := KBw.walks (prog := prog) (w := w) (A := A.in1) hh s.heap.objs.size x t
  have hst : KBw.IsBytesIter (s.heap.push { cls := .type "bytes_iterator", data := .fields #[.bytes x t, .int 0 0] }) s.heap.objs.size x t 0 := ⟨_, Heap.get?_push_size _ rfl, rfl, rfl⟩
  refine wpAny_pure ⟨plainId_quiet F.plain_extend_loop _, codeAny_extend_loopS W.toS hn _ hSf _ x.size 0 _ _ _ rfl (Nat.zero_le _) hst (Heap.get?_push_of_some _ hS) (ItemsOf.nil _) fun s' acc' c' hm hS' hacc => ?_⟩
  rw [Moved.eq_with hm]
  refine hR s'.heap s'.toks acc' c' (fun b ob hb e => hm.heap b ob (fun hmem => ?_) (Heap.get?_push_of_some _ e)) hS' hacc
  rcases List.mem_cons.mp hmem with e' | hmem
  · exact hb e'
  · exact absurd (Heap.lt_size e) (by rw [List.mem_singleton.mp hmem]; exact Nat.lt_irrefl _)

theorem init_byt {R : Result → Shared → Prop} (hh : A.handled = none) (x : Array UInt8) (t : Tok) (S : Addr) (hS : s.heap.get? S = some { cls := .type "list", data := .seq #[] })
    (hR : ∀ h' tk acc' c', (∀ b o, b ≠ S → s.heap.get? b = some o → h'.get? b = some o) → h'.get? S = some { cls := .type "list", dict := none, data := .seq acc' c', slots := #[] } →
      ItemsOf (OctAt x) acc' x.size → R (.ok (.ret .none)) { s with heap := h', toks := tk }) (hn : x.size ≤ sizeLine) :
    wpAny (model prog w) A.in1 (Builtin.«list.__init__» ⟨[.ref S, .bytes x t], []⟩)
      (fun fin s' => match fin with | .done f => R (.ok f) s' | .again c' => c'.quiet = true ∧ codeAny (model prog w) A c' R s') (fun e s' => R (.error e) s') s := by
  show wpAny _ _ (do let old ← Builtin.List.listItems (.ref S); Builtin.List.listUpdate (.ref S) (fun _ => #[]); letGo old.toList.reverse; Builtin.List.listExtendWith (.ref S) (.bytes x t) .none) _ _ s
  refine wpAny_bind ?_
  unfold Builtin.List.listItems
  refine wpAny_bind (wpAny_seqItems hS rfl (wpAny_pure ?_))
  show wpAny _ _ (updateSeq S (fun _ => #[]) >>= fun _ => letGo (#[] : Array Value).toList.reverse >>= fun _ => Builtin.List.listExtendWith (.ref S) (.bytes x t) .none) _ _ s
  refine wpAny_bind (wpAny_updateSeq hS rfl ?_)
  have hS₂ := Heap.get?_update_self (Obj.mapSeq (fun _ => (#[] : Array Value))) hS rfl
  have oth : ∀ b o, b ≠ S → s.heap.get? b = some o → (s.heap.update S (Obj.mapSeq (fun _ => (#[] : Array Value)))).get? b = some o :=
    fun b o hb e => (Heap.get?_update_other _ _ (Ne.symm hb)).trans e
  refine wpAny_bind (wpAny_letGo ?_)
  refine extend_byt (hn := hn) hh x t S .none _ hS₂ fun h' tk acc' c' hk hS' hacc => ?_
  exact hR h' tk acc' c' (fun b o hb e => hk b o hb (oth b o hb e)) hS' hacc

theorem call_list_byt {Q : Value → Shared → Prop} (hh : A.handled = none) (x : Array UInt8) (t : Tok)
    (hQ : ∀ h' tk acc' c', (∀ b o, s.heap.get? b = some o → h'.get? b = some o) →
      h'.get? s.heap.objs.size = some { cls := .type "list", dict := none, data := .seq acc' c', slots := #[] } → ItemsOf (OctAt x) acc' x.size → Q (.ref s.heap.objs.size) { s with heap := h', toks := tk }) (hn : x.size ≤ sizeLine) :
    wpAny (model prog w) A (call (.type "list") [.bytes x t]) Q E s := by
  refine callType_codes (Q₁ := fun obj s₁ => obj = .ref s.heap.objs.size ∧ s₁ = { s with heap := s.heap.push { cls := .type "list", data := .seq #[] } }) F.called_list (F.typeCall_list_1 _) F.entry_list_init
    (code_list_new _ ⟨rfl, rfl⟩) fun obj s₁ h₁ => ?_
  obtain ⟨rfl, rfl⟩ := h₁
  have hS : (s.heap.push { cls := .type "list", data := .seq #[] }).get? s.heap.objs.size = some { cls := .type "list", data := .seq #[] } := Heap.get?_push_size _ rfl
  refine ⟨⟨_, hS, rfl⟩, F.args_list_init_2 _ _, init_byt (A := A.in1) (hn := hn) hh x t _ hS fun h' tk acc' c' hk hS' hacc => ?_⟩
  exact ⟨rfl, hQ h' tk acc' c' (fun b o e => hk b o (Nat.ne_of_lt (Heap.lt_size e)) (Heap.get?_push_of_some _ e)) hS' hacc⟩
end

section
variable {F : Fx} {mu : List Addr} {ρ : Vars} {own : Owned}
theorem typ_list_byt {b : Array UInt8} (hb : b.size ≤ 10000) : Typ F mu "list" [.byt b] (.lst (b.toList.map fun c => .int c.toNat)) := fun s vs Q E hh hu hl x0 h => by
  obtain ⟨v, rfl, x⟩ := x0.one
  obtain ⟨t, rfl⟩ := x.byt_inv
  refine call_list_byt hh b t (fun h' tk acc c k hS hacc => ?_) (by rw [sizeLine_eq]; lia)
  refine h _ _ ⟨h', tk, rfl, k⟩ ?_
  obtain ⟨hsz, hit⟩ := hacc
  refine .lst hl.fresh (vs := acc.toList) ⟨_, hS, rfl, _, rfl⟩ (by simp [hsz]) fun i v d hv hd => ?_
  rw [List.getElem?_map] at hd
  obtain ⟨c', u, hc, rfl⟩ := hit i v (by simpa using hv)
  have : b.toList[i]? = some c' := by simpa using hc
  rw [this] at hd; cases hd
  exact .int _ _
end
end Mine
end

section
set_option Elab.async false
set_option maxRecDepth 100000
set_option autoImplicit false
set_option linter.unusedVariables false
namespace Mine
open PySem PySem.Calls PyProof.Rows PySem.W

/-- one answer for each question -/
noncomputable def tval {α : Type} (lt : Nat → Nat → Bool) : KasT α → α
  | .ret a => a
  | .ask i j k => tval lt (k (lt i j))
/-- questions below n, ends that hold -/
noncomputable def InT (n : Nat) {α : Type} (P : α → Prop) : KasT α → Prop
  | .ret a => P a
  | .ask i j k => i < n ∧ j < n ∧ ∀ b, InT n P (k b)
theorem InT.bind {n : Nat} {α β : Type} {P : α → Prop} {R : β → Prop} {f : α → KasT β} (h : ∀ a, P a → InT n R (f a)) : ∀ {t : KasT α}, InT n P t → InT n R (t.bind f)
  | .ret a, p => h a p
  | .ask i j k, p => ⟨p.1, p.2.1, fun b => InT.bind h (p.2.2 b)⟩
theorem InT.val {n : Nat} {α : Type} {P : α → Prop} (lt : Nat → Nat → Bool) : ∀ (t : KasT α), InT n P t → P (tval lt t)
  | .ret a, p => p
  | .ask i j k, p => InT.val lt (k (lt i j)) (p.2.2 (lt i j))
theorem tval_congr {n : Nat} {α : Type} {P : α → Prop} {lt lt' : Nat → Nat → Bool} (h : ∀ i j, i < n → j < n → lt i j = lt' i j) : ∀ {t : KasT α}, InT n P t → tval lt t = tval lt' t
  | .ret a, p => rfl
  | .ask i j k, p => by
    show tval lt (k (lt i j)) = tval lt' (k (lt' i j))
    rw [h i j p.1 p.2.1]
    exact tval_congr h (p.2.2 _)

noncomputable abbrev Pm (n : Nat) (p : Array Nat) : Prop := p.Perm (List.range n).toArray
theorem Pm.get {n : Nat} {p : Array Nat} (h : Pm n p) (hn : 0 < n) (k : Nat) : p.getD k 0 < n := by
  rw [Array.getD_eq_getD_getElem?]
  cases hk : p[k]? with
  | none => exact hn
  | some x =>
    have hm : x ∈ p := Array.mem_of_getElem? hk
    have := h.mem_iff.mp hm
    simpa using this
theorem Pm.rev {n : Nat} {p : Array Nat} (h : Pm n p) (i j : Nat) : Pm n (kas_rev p i j) := (mirror_perm _ _ _ _).trans h
theorem Pm.bub {n : Nat} {p : Array Nat} (h : Pm n p) (i j : Nat) : Pm n (bubble p i j) := (bubble_perm _ _ _).trans h

section
variable {n : Nat} (hn : 0 < n)
include hn
theorem in_asc {p : Array Nat} (h : Pm n p) : ∀ (f m : Nat), InT n (fun _ => True) (kas_asc p f m)
  | 0, m => trivial
  | f + 1, m => ⟨h.get hn _, h.get hn _, fun b => by cases b; exact in_asc h f (m + 1); trivial⟩
theorem in_desc : ∀ (f : Nat) {p : Array Nat} (m q : Nat), Pm n p → InT n (fun r : Array Nat × Nat × Nat => Pm n r.1) (kas_desc f p m q)
  | 0, p, m, q, h => h
  | f + 1, p, m, q, h => by
    refine ⟨h.get hn _, h.get hn _, fun b => ?_⟩
    cases b with
    | true =>
      show InT n _ (if q > 0 then _ else _)
      split
      · exact in_desc f _ _ (h.rev _ _)
      · exact in_desc f _ _ h
    | false =>
      refine ⟨h.get hn _, h.get hn _, fun b => ?_⟩
      cases b with
      | true => exact h
      | false => exact in_desc f _ _ h
theorem in_tail3 {p : Array Nat} (m k : Nat) (h : Pm n p) : InT n (fun r : Nat × Array Nat => Pm n r.2) (kas_tail3 m k p) :=
  InT.bind (P := fun _ => True) (R := fun r : Nat × Array Nat => Pm n r.2) (f := fun j => KasT.ret (j, kas_rev p 0 m)) (fun a _ => show Pm n (kas_rev p 0 m) from h.rev _ _) (in_asc hn (h.rev _ _) _ _)
theorem in_descPart {p : Array Nat} (m k : Nat) (h : Pm n p) : InT n (fun r : Nat × Array Nat => Pm n r.2) (kas_descPart m k p) :=
  InT.bind (P := fun r : Array Nat × Nat × Nat => Pm n r.1) (fun r hr => by
    split
    · exact in_tail3 hn _ _ (hr.rev _ _)
    · exact in_tail3 hn _ _ hr) (in_desc hn _ _ _ h)
theorem in_count {p : Array Nat} (k : Nat) (h : Pm n p) : InT n (fun r : Nat × Array Nat => Pm n r.2) (kas_count k p) :=
  InT.bind (P := fun _ => True) (fun m _ => by
    split
    · exact h
    · split
      · refine ⟨h.get hn _, h.get hn _, fun b => ?_⟩
        cases b with
        | true => exact h
        | false => exact in_descPart hn _ _ (h.rev _ _)
      · exact in_descPart hn _ _ h) (in_asc hn h _ _)
theorem in_place {p : Array Nat} (h : Pm n p) (k : Nat) : ∀ (f l r : Nat), InT n (fun _ => True) (kas_place p k f l r)
  | 0, l, r => trivial
  | f + 1, l, r => by
    show InT n _ (if l ≥ r then _ else _)
    split
    · trivial
    · refine ⟨h.get hn _, h.get hn _, fun b => ?_⟩
      cases b with
      | true => exact in_place h k f _ _
      | false => exact in_place h k f _ _
theorem in_bin : ∀ (f : Nat) {p : Array Nat} (k : Nat), Pm n p → InT n (Pm n) (kas_bin f p k)
  | 0, p, k, h => h
  | f + 1, p, k, h => InT.bind (P := fun _ => True) (fun l _ => in_bin f _ (h.bub _ _)) (in_place hn h _ _ _ _)
theorem in_sort : InT n (Pm n) (kas_sort n) :=
  InT.bind (P := fun r : Nat × Array Nat => Pm n r.2) (fun r hr => by
    split
    · exact in_bin hn _ _ hr
    · exact hr) (in_count hn _ (Array.Perm.refl _))
end

theorem kas_val {prog : Program} {w : World} {A : Around} {κ : SortKind} {vs : List Value} {n : Nat} {lt : Nat → Nat → Bool} (Inv : Shared → Prop)
    (ask : ∀ i j (C : Bool → Shared → Prop) s, i < n → j < n → Inv s → (∀ s', Inv s' → C (lt i j) s') → kas_ask prog w A κ vs i j C s) {α : Type} {P : α → Prop} {Q : α → Shared → Prop} :
    ∀ {t : KasT α} {s : Shared}, InT n P t → Inv s → (∀ s', Inv s' → Q (tval lt t) s') → t.kasWp (kas_ask prog w A κ vs) Q s
  | .ret a, s, _, hi, h => h s hi
  | .ask i j k, s, p, hi, h => ask i j _ s p.1 p.2.1 hi fun s' hi' => kas_val Inv ask (p.2.2 _) hi' h

/-- two tellings of one run agree -/
theorem wp_both {M : Model} {s : Shared} {α : Type} {t : Sem α} {Q₁ Q₂ : α → Prop}
    (h₁ : ∀ A E, wpAny M A t (fun a _ => Q₁ a) E s) (h₂ : ∀ A E, wpAny M A t (fun a _ => Q₂ a) E s) : ∃ a, Q₁ a ∧ Q₂ a := by
  classical
  refine Decidable.byContradiction fun hno => ?_
  have no : ∀ a, Q₁ a → Q₂ a → False := fun a x y => hno ⟨a, x, y⟩
  have hin : (Ctx.of (.builtin "boot" {}) []).In {} := boot_in
  have g₁ : wpAny M {} (t >>= fun a => (ret (.bool (decide (Q₁ a))) : Sem PySem.Fin)) (fun f _ => f = .done (.ret (.bool true))) (fun _ _ => False) s :=
    wpAny_bind (wpAny_mono (h₁ _ _) (fun a s' q => wpAny_pure (by rw [decide_eq_true q])) fun _ _ e => e)
  have g₂ : wpAny M {} (t >>= fun a => (ret (.bool (decide (Q₁ a))) : Sem PySem.Fin)) (fun f _ => f = .done (.ret (.bool false))) (fun _ _ => False) s :=
    wpAny_bind (wpAny_mono (h₂ _ _) (fun a s' q => wpAny_pure (by rw [decide_eq_false fun x => no a x q])) fun _ _ e => e)
  have r₁ : ∃ r s', Reach M [] s (t >>= fun a => (ret (.bool (decide (Q₁ a))) : Sem PySem.Fin)) (.builtin "boot" {}) ⟨0, 0, 0, 0⟩ [] s' (.ret r) ∧ r = .ok (.ret (.bool true)) :=
    (wp_iff_reach _ (fun r _ => r = .ok (.ret (.bool true))) _ _).mp (Sem.wp_mono _ _ _ (fun f p' s' q => by subst q; exact rfl) (fun _ _ _ e => e.elim) _ _ (g₁ _ ⟨0, 0, 0, 0⟩ hin))
  have r₂ : ∃ r s', Reach M [] s (t >>= fun a => (ret (.bool (decide (Q₁ a))) : Sem PySem.Fin)) (.builtin "boot" {}) ⟨0, 0, 0, 0⟩ [] s' (.ret r) ∧ r = .ok (.ret (.bool false)) :=
    (wp_iff_reach _ (fun r _ => r = .ok (.ret (.bool false))) _ _).mp (Sem.wp_mono _ _ _ (fun f p' s' q => by subst q; exact rfl) (fun _ _ _ e => e.elim) _ _ (g₂ _ ⟨0, 0, 0, 0⟩ hin))
  obtain ⟨_, s₁, x₁, rfl⟩ := r₁
  obtain ⟨_, s₂, x₂, rfl⟩ := r₂
  have := (Reach.det x₁ x₂).2
  injection this with this
  injection this with this
  injection this with this
  injection this with this
  cases this

theorem rank_sorted (prog : Program) (w : World) (s₀ : Shared) {n : Nat} (h2 : 2 ≤ n) (h64 : n < 64) (r : Nat → Int) : ∀ i j, i ≤ j → j < n →
    r ((tval (fun i j => decide (r i < r j)) (kas_sort n)).getD i 0) ≤ r ((tval (fun i j => decide (r i < r j)) (kas_sort n)).getD j 0) := by
  have hn : 0 < n := by lia
  have hP := InT.val (fun i j => decide (r i < r j)) _ (in_sort hn)
  have hPs := hP
  generalize hp : tval (fun i j => decide (r i < r j)) (kas_sort n) = p at hP
  let vs : List Value := (List.range n).map fun i => .int (r i) 0
  have hv : ∀ i, i < n → vs.getD i .none = .int (r i) 0 := fun i hi => by simp [vs, hi]
  have hvl : vs.length = n := by simp [vs]
  have h₁ : ∀ A E, wpAny (model prog w) A ((sortRuns').run (SortSt.mk' oneType' (pairsOf vs) #[] 7 none)) (fun q _ => (arrOf q.2) = p.map (kas_item (pairsOf vs))) E s₀ := by
    intro A E
    refine kat_run (ks := vs) (vs := vs) (Q := fun st' _ => arrOf st' = p.map (kas_item (pairsOf vs))) (G := fun p' _ => p' = p) rfl (by lia) (by lia) (fun p' st' s' _ ha _ hg => by rw [ha, hg]; rfl) ?_
    rw [hvl]
    refine kas_val (n := n) (lt := fun i j => decide (r i < r j)) (fun _ => True) (fun i j C s hi hj _ hC => ?_) (in_sort hn) trivial fun s' _ => hp
    unfold kas_ask
    rw [hv i hi, hv j hj]
    exact kat_lt_int (hC s trivial)
  have h₂ : ∀ A E, wpAny (model prog w) A ((sortRuns').run (SortSt.mk' oneType' (pairsOf vs) #[] 7 none)) (fun q _ => SortedTo (arrOf q.2) n) E s₀ := by
    intro A E
    have hz : (pairsOf vs).size = n := by rw [pairsOf_size, hvl]
    have hk : IntKeys (pairsOf vs) := fun q hq => by
      rw [pairsOf_toList] at hq
      have h1 := (List.of_mem_zip (a := q.1) (b := q.2) hq).1
      obtain ⟨i, _, e⟩ := List.mem_map.mp h1
      exact ⟨_, _, e.symm⟩
    have := wpS_sortRuns (prog := prog) (w := w) (A := A) (E := E) (s := s₀) (a₀ := pairsOf vs) (st := SortSt.mk' oneType' (pairsOf vs) #[] 7 none) (Q := fun _ st' => SortedTo (arrOf st') n) hk ⟨Array.Perm.refl _, rfl, rfl, rfl⟩ (by lia) (by lia) (fun st' _ _ hs => by rw [hz] at hs; exact hs)
    exact wpAny_mono this (fun q s' h => h.2) fun _ _ e => e
  obtain ⟨a, q₁, q₂⟩ := wp_both h₁ h₂
  intro i j hij hj
  have := q₂ i j hij hj
  rw [q₁] at this
  have ke : ∀ k, k < n → K (p.map (kas_item (pairsOf vs))) k = r (p.getD k 0) := by
    intro k hk
    have hsz : p.size = n := by have := hP.size_eq; simpa using this
    have hk' : k < p.size := by lia
    have hlt := hP.get hn k
    unfold K
    rw [Array.getElem?_map, Array.getElem?_eq_getElem hk']
    rw [Array.getD_eq_getD_getElem?, Array.getElem?_eq_getElem hk'] at hlt ⊢
    show numOf (kas_item (pairsOf vs) p[k]).1 = r p[k]
    have hlt' : p[k] < n := hlt
    rw [kas_item_eq, hv _ hlt']; rfl
  rw [ke i (by lia), ke j hj] at this
  exact this
end Mine
end

section
set_option Elab.async false
set_option maxRecDepth 100000
set_option autoImplicit false
set_option linter.unusedVariables false
namespace Mine
open PySem PySem.Calls PyProof.Rows PySem.W

theorem setGen_toks (s : Shared) (g : Nat) (x : GenState) : (s.setGen g x).toks = s.toks := rfl

/-- tokens are never given back -/
theorem runs_toks {M : Model} {Γ : Ctx} {p : Pos} {t : Sem PySem.Fin} {fs : List Frame} {s s' : Shared} {e : End} (h : Runs M Γ p t fs s e s') : s.toks ≤ s'.toks := by
  induction h <;> (try simp only [setGen_toks] at *) <;> (try lia)

theorem wakes_toks {M : Model} {Γ : Ctx} {p : Pos} {g : Nat} {r : Resume} {s s' : Shared} {res : GenResult} (h : Wakes M Γ p g r s res s') : s.toks ≤ s'.toks := by
  unfold Wakes at h
  split at h
  · exact h.elim
  · split at h
    · obtain ⟨e₁, s₁, h1, h2, h3, rfl⟩ := h
      have := runs_toks h1; exact this
    · obtain ⟨_, rfl⟩ := h; exact Nat.le_refl _
    · obtain ⟨_, rfl⟩ := h; exact Nat.le_refl _
  · obtain ⟨e₁, s₁, h1, h2, h3, rfl⟩ := h
    have := runs_toks h1; exact this
  · obtain ⟨_, rfl⟩ := h; exact Nat.le_refl _
  · obtain ⟨_, rfl⟩ := h; exact Nat.le_refl _

theorem wp_toks {M : Model} {Γ : Ctx} {α : Type} (t : Sem α) : ∀ {Q : α → Pos → Shared → Prop} {E : Value → Pos → Shared → Prop} {p : Pos} {s : Shared} (n : Nat), n ≤ s.toks → Sem.wp M Γ t Q E p s →
    Sem.wp M Γ t (fun a p' s' => Q a p' s' ∧ n ≤ s'.toks) E p s := by
  induction t with
  | pure a => intro Q E p s n hn h; exact ⟨h, hn⟩
  | raise e => intro Q E p s n hn h; exact h
  | unsupported w => intro Q E p s n hn h; exact h
  | finish e => intro Q E p s n hn h; exact h
  | rule tag k ih => intro Q E p s n hn h; exact ih () n hn h
  | «at» p' k ih => intro Q E p s n hn h; exact ih () n hn h
  | load a part k ih => intro Q E p s n hn h; obtain ⟨o, ho, h⟩ := h; exact ⟨o, ho, ih o n hn h⟩
  | update a part f k ih => intro Q E p s n hn h; exact ⟨h.1, ih () n hn h.2⟩
  | loadIfAlive a k ih => intro Q E p s n hn h; exact ih _ n hn h
  | point l k ih => intro Q E p s n hn h; exact ih () n hn h
  | register a k ih => intro Q E p s n hn h; exact h
  | alloc o k ih => intro Q E p s n hn h; exact ih _ n hn h
  | fresh k ih => intro Q E p s n hn h; exact ih _ n (Nat.le_succ_of_le hn) h
  | ask k ih => intro Q E p s n hn h; exact ih _ n hn h
  | choose src m k ih => intro Q E p s n hn h; exact ⟨h.1, ih _ n hn h.2⟩
  | os q l k ih => intro Q E p s n hn h; exact ih _ n hn h
  | call c hd g l k ih =>
    intro Q E p s n hn h
    obtain ⟨r, s', h1, h2⟩ := h
    exact ⟨r, s', h1, ih _ n (Nat.le_trans hn (runs_toks h1)) h2⟩
  | handled own k ih => intro Q E p s n hn h; exact ih _ n hn h
  | genState g k ih => intro Q E p s n hn h; obtain ⟨st, ho, h⟩ := h; exact ⟨st, ho, ih _ n hn h⟩
  | newGen c k ih => intro Q E p s n hn h; exact ih _ n hn h
  | resume g r l k ih =>
    intro Q E p s n hn h
    obtain ⟨res, s', h1, h2⟩ := h
    exact ⟨res, s', h1, ih _ n (Nat.le_trans hn (wakes_toks h1)) h2⟩
  | yield v g l k ih => intro Q E p s n hn h; exact h
  | stack k ih => intro Q E p s n hn h; exact ih _ n hn h
  | fork c k ih => intro Q E p s n hn h; exact h
  | thread k ih => intro Q E p s n hn h; exact ih _ n hn h
  | await a f d l k ih => intro Q E p s n hn h; exact h

theorem wpAny_toks {M : Model} {A : Around} {α : Type} {t : Sem α} {Q : α → Shared → Prop} {E : Value → Shared → Prop} {s : Shared} (h : wpAny M A t Q E s) :
    wpAny M A t (fun a s' => Q a s' ∧ s.toks ≤ s'.toks) E s := fun Γ p hΓ => wp_toks t s.toks (Nat.le_refl _) (h Γ p hΓ)
end Mine
end

section
set_option Elab.async false
set_option maxRecDepth 100000
set_option autoImplicit false
set_option linter.unusedVariables false
namespace Mine
open PySem PySem.Calls PyProof.Rows PySem.W

theorem wpAny_tk {M : Model} {A : Around} {α : Type} {t : Sem α} {Q : α → Shared → Prop} {E : Value → Shared → Prop} {s : Shared} (h : wpAny M A t (fun a s' => s.toks ≤ s'.toks → Q a s') E s) : wpAny M A t Q E s :=
  wpAny_mono (wpAny_toks h) (fun _ _ q => q.1 q.2) fun _ _ e => e

theorem wpAny_tk2 {M : Model} {A : Around} {α β : Type} {t : Sem α} {u : α → Sem β} {Q : β → Shared → Prop} {E : Value → Shared → Prop} {s : Shared} (h : wpAny M A t (fun x s₁ => wpAny M A (u x) (fun y s₂ => s.toks ≤ s₂.toks → Q y s₂) E s₁) E s) :
    wpAny M A t (fun x s₁ => wpAny M A (u x) Q E s₁) E s :=
  wpAny_mono (wpAny_toks h) (fun _ _ q => wpAny_mono (wpAny_toks q.1) (fun _ _ r => r.1 (Nat.le_trans q.2 r.2)) fun _ _ e => e) fun _ _ e => e

section
variable {F : Fx} {mu : List Addr} {ρ : Vars} {own : Owned}
/-- a block's worth, the count of tokens seen -/
noncomputable def STs (F : Fx) (P : Heap → Nat → Prop) (ss : List Stmt) (Q : Flow → Heap → Nat → Prop) : Prop :=
  ∀ (s : Shared) (Φ : Flow → Shared → Prop) (E : Value → Shared → Prop), P s.heap s.toks → (∀ f h' tk, Q f h' tk → Φ f { s with heap := h', toks := tk }) → F.W (execs ss F.env) Φ E s

theorem sts_lift {P : Heap → Prop} {ss : List Stmt} {Q : Flow → Heap → Prop} (h : ST F P ss Q) (R : Nat → Prop) (hR : ∀ t t', t ≤ t' → R t → R t') : STs F (fun g tk => P g ∧ R tk) ss fun f g tk => Q f g ∧ R tk := fun s Φ E ⟨p, r⟩ k =>
  wpAny_tk (h s _ E p fun f h' tk q (le : s.toks ≤ tk) => k f h' tk ⟨q, hR _ _ le r⟩)
theorem STs.pre {P P' : Heap → Nat → Prop} {ss : List Stmt} {Q : Flow → Heap → Nat → Prop} (h : STs F P ss Q) (k : ∀ g t, P' g t → P g t) : STs F P' ss Q := fun s Φ E p kk => h s Φ E (k _ _ p) kk
theorem STs.post {P : Heap → Nat → Prop} {ss : List Stmt} {Q Q' : Flow → Heap → Nat → Prop} (h : STs F P ss Q) (k : ∀ f g t, Q f g t → Q' f g t) : STs F P ss Q' := fun s Φ E p kk => h s Φ E p fun f h' tk q => kk f h' tk (k f h' tk q)
theorem STs.st {P : Heap → Prop} {ss : List Stmt} {Q : Flow → Heap → Prop} (h : STs F (fun g _ => P g) ss fun f g _ => Q f g) : ST F P ss Q := fun s Φ E p kk => h s Φ E p fun f h' tk q => kk f h' tk q
theorem sts_exi {α : Sort _} {P : α → Heap → Nat → Prop} {ss : List Stmt} {Q : Flow → Heap → Nat → Prop} (h : ∀ a, STs F (P a) ss Q) : STs F (fun g t => ∃ a, P a g t) ss Q := fun s Φ E ⟨a, p⟩ k => h a s Φ E p k
theorem sts_last {P : Heap → Nat → Prop} {st : Stmt} {Q : Flow → Heap → Nat → Prop}
    (h : ∀ (s : Shared) (Φ : Flow → Shared → Prop) (E : Value → Shared → Prop), P s.heap s.toks → (∀ f h' tk, Q f h' tk → Φ f { s with heap := h', toks := tk }) → F.W (exec st F.env) Φ E s) : STs F P [st] Q := fun s Φ E p k => by
  refine wpAny_execs_cons (wpAny_mono (h s (fun f s' => Φ f s') E p k) (fun f s' q => ?_) fun _ _ e => e)
  cases f with
  | next => exact wpAny_execs_nil q
  | _ => exact q
theorem sts_seq {P R : Heap → Nat → Prop} {st : Stmt} {ss : List Stmt} {Q : Flow → Heap → Nat → Prop} (h : STs F P [st] fun f g t => f = .next ∧ R g t) (k : STs F R ss Q) : STs F P (st :: ss) Q := fun s Φ E p kk => by
  have one := h s (fun f s' => ∃ h' tk, s' = { s with heap := h', toks := tk } ∧ f = .next ∧ R h' tk) E p fun f h' tk q => ⟨h', tk, rfl, q⟩
  refine wpAny_execs_cons ?_
  have e1 : execs [st] F.env = (do match ← exec st F.env with | .next => pure .next | f => pure f) := rfl
  have two : F.W (exec st F.env) (fun f s' => ∃ h' tk, s' = { s with heap := h', toks := tk } ∧ f = .next ∧ R h' tk) E s := by
    intro Γ pp hΓ
    have := one Γ pp hΓ
    rw [e1, Sem.wp_bind'] at this
    refine Sem.wp_mono _ Γ _ (fun f p' s' h' => ?_) (fun _ _ _ h' => h') _ _ this
    cases f <;> exact h'
  refine wpAny_mono two (fun f s' q => ?_) fun _ _ e => e
  obtain ⟨h', tk, rfl, rfl, r⟩ := q
  exact k _ Φ E r fun f h'' tk' q => kk f h'' tk' q

theorem st_forS {Γ : Type} {T : Expr → Prop} {tgt : Expr} {pos : Pos} {iter : Expr} {body : List Stmt} {ds : List D} (it : ITT T F mu ρ own iter ds) (bs : Nat → D → Vars) (hno : ∀ i d, ∀ p ∈ own, ∀ b ∈ bs i d, p.1 ≠ b.1)
    (ρi : Nat → Vars) (owni : Nat → Γ → Owned) (R : Nat → Γ → Nat → Prop) (γ0 : Γ) (hR : ∀ i γ t t', t ≤ t' → R i γ t → R i γ t') (h0 : ∀ y d, (ρi 0).lookup y = some d → ρ.lookup y = some d) (o0 : owni 0 γ0 = own)
    (oadr : ∀ i γ, (owni i γ).map (fun p => (p.1, p.2.1)) = own.map (fun p => (p.1, p.2.1)))
    (tg : ∀ (i : Nat) (d : D), ds[i]? = some d → TG F tgt d (bs i d))
    (turn : ∀ (B' : Heap) (mu' : List Addr) (i : Nat) (d : D) (γ : Γ), ds[i]? = some d →
      STs (F.on B') (fun g tk => Sta (F.on B') mu' (bs i d ++ ρi i) (owni i γ) g ∧ R i γ tk) body fun f g tk => (f = .next ∨ f = .cont) ∧ ∃ γ', Sta (F.on B') mu' (ρi (i + 1)) (owni (i + 1) γ') g ∧ R (i + 1) γ' tk)
    (hs : ∀ v, foldedSetIterable iter F.env v = pure v := by intro _; rfl) (hT : T tgt := by trivial) :
    STs F (fun g tk => Sta F mu ρ own g ∧ R 0 γ0 tk) [.For tgt iter body [] pos] fun f g tk => f = .next ∧ ∃ γ, Sta F mu (ρi ds.length) (owni ds.length γ) g ∧ R ds.length γ tk := sts_last fun s Φ E ⟨st, hr0⟩ k => by
  refine wpAny_For ?_ hs
  refine wpAny_tk2 ?_
  refine it s _ _ st fun s' I fp wr Si Mi kk W hst hfp hnew => ?_
  obtain ⟨h₂, t₂, rfl, up⟩ := kk
  intro (le0 : s.toks ≤ t₂)
  have st₂ : Sta F mu ρ own h₂ := st.keeps up
  have hmu : ∀ b ∈ wr, b ∉ mu := fun b hb => (hfp b (W.sub b hb)).1
  have hB : ∀ b ∈ wr, F.B.get? b = none := fun b hb => by
    cases e : F.B.get? b with
    | none => rfl
    | some o => have e' := st.keep b o e; rw [hnew b hb] at e'; cases e'
  have hfr : ∀ v d, At s.heap mu v d → At h₂ (wr ++ mu) v d := fun v d a => a.mono (fun b o _ e => up b o e) fun b o hb e hb' => (List.mem_append.mp hb').elim (fun q => by rw [hnew b q] at e; cases e) hb
  have st₃ : Sta F (wr ++ mu) (ρi 0) (owni 0 γ0) h₂ := by
    rw [o0]
    have s1 : Sta F (wr ++ mu) ρ own h₂ := by
      obtain ⟨m, cm, h1, h2, h3, h4⟩ := st.ex
      have sub : ∀ b, b ∈ mu → b ∈ wr ++ mu := fun b hb => List.mem_append_right _ hb
      exact ⟨⟨st.ok.hh, st.ok.un, st.ok.kind, st.ok.gl, st.ok.bl, st.ok.root, sub _ st.ok.lm, st.ok.ln, fun x a e => ⟨(st.ok.cell x a e).1, sub _ (st.ok.cell x a e).2⟩, st.ok.one, st.ok.apart,
        fun p hp => ⟨sub _ (st.ok.od p hp).1, (st.ok.od p hp).2⟩, st.ok.oap, st.ok.onm⟩, fun b hb => (List.mem_append.mp hb).elim (W.live 0 h₂ hst b) (st₂.live b), st₂.keep, m, cm, h1.keeps up, fun x a e => (h2 x a e).keeps up,
        fun x d e => let ⟨v, e1, e2⟩ := h3 x d e; ⟨v, e1, hfr v d e2⟩, fun p hp => let ⟨e1, vs, e2, e3⟩ := h4 p hp; ⟨e1, vs, e2.at fun o e => up _ o e, e3.1, fun i v d a b => hfr v d (e3.2 i v d a b)⟩⟩
    exact s1.less h0
  have okm : FxOk F mu own := st.ok
  refine codeAny_forLoop_any (fun n s₄ => ∃ i h tk γ, s₄ = { s with heap := h, toks := tk } ∧ Si i h ∧ Sta F (wr ++ mu) (ρi i) (owni i γ) h ∧ i ≤ ds.length ∧ n = ds.length + 1 - i ∧
    (∀ b o, b ∉ wr ++ mu → h₂.get? b = some o → h.get? b = some o) ∧ (∀ b ∈ fp, ∃ o, h.get? b = some o) ∧ R i γ tk) ?_ (ds.length + 1)
    ⟨0, h₂, t₂, γ0, rfl, hst, st₃, Nat.zero_le _, rfl, fun _ _ _ e => e, fun b hb => (hfp b hb).2, hR _ _ _ _ le0 hr0⟩
  rintro n s₄ ⟨i, h, tk, γ, rfl, hsi, sti, hi, rfl, hup, hfa, hri⟩
  have oki : FxOk F mu (owni i γ) := okm.owns (oadr i γ)
  refine wpAny_tk ?_
  by_cases hlt : i < ds.length
  · refine W.item i _ _ _ hlt hsi hup fun v h' tk' hMi hat kw => ?_
    intro (le1 : tk ≤ tk')
    have st₅ : Sta F (wr ++ mu) (ρi i) (owni i γ) h' := sti.walked hB hmu oki (W.mid _ _ _ hMi) kw
    refine W.go i v tgt _ _ _ hT hMi fun h'' hsi'' kw' kat => ?_
    have st₅' : Sta F (wr ++ mu) (ρi i) (owni i γ) h'' := st₅.walked hB hmu oki (W.live _ _ hsi'') kw'
    obtain ⟨d, hd⟩ : ∃ d, ds[i]? = some d := ⟨ds[i], by simp [hlt]⟩
    have av : At h'' (wr ++ mu) v d := kat d _ (fun b q => List.mem_append_left _ q) (hat d _ hd fun b q => ⟨.inl q, sti.live b q⟩)
    have hno' : ∀ p ∈ owni i γ, ∀ b ∈ bs i d, p.1 ≠ b.1 := fun p hp => by
      have : (p.1, p.2.1) ∈ own.map (fun p => (p.1, p.2.1)) := oadr i γ ▸ List.mem_map.mpr ⟨p, hp, rfl⟩
      obtain ⟨q, hq, eq⟩ := List.mem_map.mp this
      rw [← (Prod.mk.inj eq).1]; exact hno i d q hq
    refine wpAny_tk ?_
    refine tg i d hd _ _ _ { s with heap := h'', toks := tk' } v _ _ st₅' hno' av fun h6 tk6 st₆ up6' => ?_
    intro (le2 : tk' ≤ tk6)
    have up6 : ∀ b o, b ∉ wrt F (owni i γ) → h''.get? b = some o → h6.get? b = some o := fun b o hb e => up6' b o (fun q => hb (wrt_sub q)) e
    obtain ⟨st₇, k1, k2⟩ := st₆.rebase
    refine turn (hide (wrt F (owni i γ)) h6) (wr ++ mu) i d γ hd { s with heap := h6, toks := tk6 } _ _ ⟨st₇, hR _ _ _ _ (Nat.le_trans le1 le2) hri⟩ fun f h8 tk8 q => ?_
    obtain ⟨hf, γ', st₈, hr'⟩ := q
    have st₉ : Sta F (wr ++ mu) (ρi (i + 1)) (owni (i + 1) γ') h8 :=
      ⟨(st₆.ok.owns ((oadr (i + 1) γ').trans (oadr i γ).symm)), st₈.live, fun b o e => st₈.keep b o (k1 b o e), st₈.ex⟩
    have hfp' : ∀ b ∈ fp, ∀ o, h''.get? b = some o → h8.get? b = some o := fun b hb o e => by
      have nw : b ∉ wrt F (owni i γ) := fun q => (hfp b hb).1 (wrt_none oki q).2
      refine st₈.keep b o ?_
      show (hide _ _).get? b = _
      rw [get_hide, if_neg nw]; exact up6 b o nw e
    have fin : ∃ m, m < ds.length + 1 - i ∧ ∃ i h tk γ, ({ s with heap := h8, toks := tk8 } : Shared) = { s with heap := h, toks := tk } ∧ Si i h ∧ Sta F (wr ++ mu) (ρi i) (owni i γ) h ∧ i ≤ ds.length ∧ m = ds.length + 1 - i ∧
      (∀ b o, b ∉ wr ++ mu → h₂.get? b = some o → h.get? b = some o) ∧ (∀ b ∈ fp, ∃ o, h.get? b = some o) ∧ R i γ tk := by
      refine ⟨ds.length + 1 - (i + 1), by lia, i + 1, h8, tk8, γ', rfl, W.frame _ _ _ hsi'' hfp', st₉, hlt, rfl, fun b o hb e => ?_, fun b hb => ?_, hr'⟩
      · have nb : b ∉ wr := fun q => hb (List.mem_append_left _ q)
        refine st₈.keep b o (k2 b o hb (up6 b o (fun q => hb (wrt_none st₅.ok q).2) (kw' b o nb (kw b o nb (hup b o hb e)))))
      · by_cases hbw : b ∈ wr
        · exact W.live _ _ (W.frame _ _ _ hsi'' hfp') b hbw
        · obtain ⟨o, ho⟩ := hfa b hb
          exact ⟨o, hfp' b hb o (kw' b o hbw (kw b o hbw ho))⟩
    rcases hf with rfl | rfl <;> exact fin
  · have hin : i = ds.length := by lia
    subst hin
    refine W.done _ _ _ hsi fun h' tk' kw => ?_
    intro (le1 : tk ≤ tk')
    refine wpAny_execs_nil ?_
    refine k .next h' tk' ⟨rfl, γ, ?_, hR _ _ _ _ le1 hri⟩
    exact sti.out hB hmu oki kw
end
end Mine
end

section
set_option Elab.async false
set_option maxRecDepth 100000
set_option autoImplicit false
set_option linter.unusedVariables false
namespace Mine
open PySem PySem.Calls PyProof.Rows PySem.W

section
variable {F : Fx} {mu : List Addr} {ρ : Vars} {own : Owned}
theorem st_modT {x : Str} {px bp pos : Pos} {l r : Expr} {a b : UInt64} {k : Nat} (y : PE F mu ρ own l (.flt a)) (z : PE F mu ρ own r (.flt b)) (hb : Float64.isZero b = false)
    (hx : F.env.kindOf x = some .local ∨ (F.env.kindOf x = some .cell ∧ ∃ a, F.env.cells.lookup x = some a ∧ F.B.get? a = none)) (hno : ∀ p ∈ own, p.1 ≠ x)
    (hs : swapsWith (.BinOp l .Mod r bp) (some (.Name x px)) pos.line F.env = pure false := by rfl) :
    STs F (fun g tk => Sta F mu ρ own g ∧ k ≤ tk) [.Assign [.Name x px] (.BinOp l .Mod r bp) pos] fun f g tk => f = .next ∧ ∃ t, k ≤ t ∧ t < tk ∧ Sta F mu ((x, .fltT (Float64.divmod a b).snd t) :: ρ) own g := sts_last fun s Φ E ⟨st, hk⟩ kq => by
  refine wpAny_Assign_Name (wpAny_BinOp ?_) hs
  refine wpAny_tk (y s _ _ st fun v s₁ k₁ a₁ => fun le₁ => ?_)
  have st₁ := st.keeps (khp k₁)
  refine wpAny_tk (z s₁ _ _ st₁ fun w s₂ k₂ a₂ => fun le₂ => ?_)
  have st₂ := st₁.keeps (khp k₂)
  obtain ⟨t, rfl⟩ := a₁.flt_inv; obtain ⟨u, rfl⟩ := a₂.flt_inv
  refine AutoFloatOps.mod_1 (by simp [hb]) ?_
  refine wpAny_tk (store (F := F) (s := { s₂ with toks := s₂.toks + 1 }) st₂ (.fltT (Float64.divmod a b).snd s₂.toks) hx hno fun h' tk st' _ => fun le₃ => ?_)
  obtain ⟨h2, t2, rfl, _⟩ := ktrans k₁ k₂
  have le₃' : t2 + 1 ≤ tk := le₃
  have le₂' : s₁.toks ≤ t2 := le₂
  exact kq .next h' tk ⟨rfl, t2, by lia, by lia, st'⟩
end

/-- what a def does, its tokens seen -/
noncomputable def FnR (c : Cx) (lim : Nat) (f : Addr) (args : List D) (K : Nat → Nat → D → Prop) : Prop :=
  ∀ (A : Around) (s : Shared) (mu : List Addr) (vs : List Value) (R : Result → Shared → Prop), A.handled = none → Room A lim →
    (∀ b o, c.root.get? b = some o → s.heap.get? b = some o) → Live mu s.heap → AtL s.heap mu vs args →
    (∀ v s' d, Keeps s s' → K (s.toks + 1) s'.toks d → At s'.heap mu v d → R (.ok (.ret v)) s') → codeAny (model c.prog c.w) A (.call (.ref f) ⟨vs, []⟩) R s
theorem fn_ofR {c : Cx} {f : Addr} {o : Obj} {fd : FuncData} {ns : List Str} {body : List Stmt} {scope : Scope} {args : List D} {K : Nat → Nat → D → Prop} {lim : Nat}
    (hf : c.root.get? f = some o) (hd : o.data = .func fd) (ok : FdOk fd ns body scope) (hcd : c.root.CodeRec fd.code fd.qualname) (hn : ns.length = args.length) (hpos : 0 < ns.length)
    (hb : ∀ vs : List Value, vs.length = args.length → bindArgs fd ⟨vs, []⟩ = pure (ns.zip vs))
    (h : ∀ (F : Fx) (mu : List Addr) (L : Addr) (k : Nat), F.c = c → Room F.A lim → F.env = envF scope (fd.qualname ++ Str.ofString ".<locals>.") L f fd.code →
      STs F (fun g tk => Sta F mu (ns.zip args) [] g ∧ k ≤ tk) body fun fl g tk => ∃ v d, fl = .ret v ∧ Sta F mu [] [] g ∧ K k tk d ∧ At g mu v d) : FnR c (lim + 1) f args K := by
  intro A s mu vs R hh hdep hroot hlive hat hR
  have hlv : vs.length = args.length := hat.1
  have hnv : ns.length = vs.length := hn.trans hlv.symm
  refine codeAny_call_function (by have := hdep.1; lia) (hroot _ _ hf) hd (by rw [ok.sc]; exact ok.co) (by rw [ok.sc]; exact ok.gen) ok.body (hcd.keeps hroot) ?_
  rw [hb vs hlv]
  refine wpAny_pure ?_
  rw [ok.sc, ok.cl, ok.gl, ok.bl]
  have hnd : ((ns.zip vs).map (·.1)).Nodup := by rw [zip_keys ns vs hnv]; exact ok.nd
  refine wpAny_newFunctionEnv ok.cell (fun x hx => ok.loc _ (by rw [← zip_keys ns vs hnv]; exact List.mem_map_of_mem (f := (·.1)) hx)) (fun h₁ hns hsb => ?_) ok.kind
  have hL : s.heap.get? s.heap.objs.size = none := Heap.get?_none_of_le (Nat.le_refl _)
  have up : ∀ b o, s.heap.get? b = some o → h₁.get? b = some o := fun b o e => hsb.extBut b o (Nat.ne_of_lt (Heap.lt_size e)) (Heap.get?_push_of_some _ e)
  refine ⟨(c.lim.keeps hroot).keeps up, ?_⟩
  show codeAny _ _ (.func body (envF scope (fd.qualname ++ Str.ofString ".<locals>.") s.heap.objs.size f fd.code)) _ _
  refine codeAny_func ?_
  have st : Sta ⟨c, A.deeper (envF scope (fd.qualname ++ Str.ofString ".<locals>.") s.heap.objs.size f fd.code), envF scope (fd.qualname ++ Str.ofString ".<locals>.") s.heap.objs.size f fd.code, s.heap⟩
      (s.heap.objs.size :: mu) (ns.zip args) [] h₁ := by
    refine ⟨⟨hh, by show A.units + 3 + 100 < cLine; have := hdep.2; lia, ok.kind, rfl, rfl, hroot, List.mem_cons_self, hL, (fun x a e => nomatch e), (fun x a e => nomatch e), (fun x y a e => nomatch e), (fun p hp => nomatch hp), List.Pairwise.nil, List.Pairwise.nil⟩, ?_, up, _, (fun _ => none), hns, (fun x a e => nomatch e), (fun x d e => ?_), (fun p hp => nomatch hp)⟩
    · intro b hb
      rcases List.mem_cons.mp hb with rfl | hb
      · obtain ⟨o, _, _, ho, _⟩ := hns; exact ⟨o, ho⟩
      · obtain ⟨o, ho⟩ := hlive b hb; exact ⟨o, up b o ho⟩
    · obtain ⟨v, e1, e2⟩ := zip_at hat e
      refine ⟨v, ?_, e2.mono (fun b o _ e => up b o e) fun b o hb ho hb' => ?_⟩
      · unfold look
        have hx : x ∈ ns := by
          rw [← zip_keys ns vs hnv]
          exact Decidable.byContradiction fun q => by rw [lookup_none q] at e1; cases e1
        rw [show (envF scope (fd.qualname ++ Str.ofString ".<locals>.") s.heap.objs.size f fd.code).kindOf x = some .local from ok.loc x hx]
        show (ns.zip vs).reverse.lookup x = some v
        rw [lookup_rev hnd]; exact e1
      · rcases List.mem_cons.mp hb' with rfl | hb'
        · rw [hL] at ho; cases ho
        · exact hb hb'
  have go := h ⟨c, A.deeper (envF scope (fd.qualname ++ Str.ofString ".<locals>.") s.heap.objs.size f fd.code), envF scope (fd.qualname ++ Str.ofString ".<locals>.") s.heap.objs.size f fd.code, s.heap⟩ (s.heap.objs.size :: mu) s.heap.objs.size (s.toks + 1) rfl ⟨by show A.depth + 1 + lim ≤ _; have := hdep.1; lia, by show A.units + 3 + 3 * lim + 100 < cLine; have := hdep.2; lia⟩ rfl
  refine go _ _ _ ⟨st, by show s.toks + 1 ≤ s.toks + (ns.zip vs).length; rw [List.length_zip]; lia⟩ fun fl h' tk ⟨v, d, e, st', hK, a⟩ => ?_
  subst e
  refine hR v _ d ⟨h', tk, rfl, st'.keep⟩ hK (a.sub fun b hb => List.mem_cons_of_mem _ hb)
theorem fn_atR {c : Cx} {f : Addr} {i : Nat} {ns : List Str} {args : List D} {K : Nat → Nat → D → Prop} {lim : Nat} (hf : FnAt c f i ns) (hn : ns.length = args.length) (hpos : 0 < ns.length)
    (h : ∀ (F : Fx) (mu : List Addr) (k : Nat), F.c = c → Room F.A lim → (∃ q L cd, F.env = envF (sScope (fstmt i)) q L f cd) →
      STs F (fun g tk => Sta F mu (ns.zip args) [] g ∧ k ≤ tk) (sBody (fstmt i)) fun fl g tk => ∃ v d, fl = .ret v ∧ Sta F mu [] [] g ∧ K k tk d ∧ At g mu v d) : FnR c (lim + 1) f args K := by
  obtain ⟨o, fd, h1, h2, h3, h4, h5⟩ := hf
  exact fn_ofR h1 h2 h3 h4 hn hpos (fun vs hv => h5 vs (hv.trans hn.symm)) fun F mu L k e1 e2 e3 => h F mu k e1 e2 ⟨_, _, _, e3⟩


/-- the colour that is not grey, and its hue's token -/
noncomputable def HsvK (r g b : UInt64) (k k' : Nat) (d : D) : Prop := ∃ t, k ≤ t ∧ t < k' ∧ d = .tup [.fltT (hueF r g b) t, .flt (shareF r g b), .flt (maxF r g b)]

theorem sts_of {F : Fx} {P : Heap → Prop} {st : Stmt} {ss : List Stmt} {R : Heap → Prop} {k : Nat} {Q : Flow → Heap → Nat → Prop} (h : ST F P [st] fun f g => f = .next ∧ R g) (n : STs F (fun g tk => R g ∧ k ≤ tk) ss Q) : STs F (fun g tk => P g ∧ k ≤ tk) (st :: ss) Q :=
  sts_seq ((sts_lift h (fun tk => k ≤ tk) fun _ _ a b => Nat.le_trans b a).post fun f g tk q => ⟨q.1.1, q.1.2, q.2⟩) n

set_option maxHeartbeats 4000000
theorem fn_hsvT {c : Cx} (G : Gl c) {r g b : UInt64} (hg : greyF r g b = false) (z1 : Float64.isZero (maxF r g b) = false) (z2 : Float64.isZero (Float64.sub (maxF r g b) (minF r g b)) = false) :
    FnR c 1 G.f6 [.flt r, .flt g, .flt b] (HsvK r g b) := by
  refine fn_atR G.d6 rfl (by decide) fun F mu k hc room he => ?_
  obtain ⟨q, L, cd, he⟩ := he
  obtain ⟨c', A, env, B⟩ := F
  dsimp only at hc he
  subst hc
  subst he
  have no : ∀ {x : Str}, ∀ p ∈ ([] : Owned), p.1 ≠ x := fun p hp => nomatch hp
  refine sts_of (st_assign (pe_blt blt_maxF (.cons (pe_var rfl) (.cons (pe_var rfl) (.cons (pe_var rfl) .nil))) G.n_max (by decide +kernel)) (.inl rfl) no) ?_
  refine sts_of (st_assign (pe_blt blt_minF (.cons (pe_var rfl) (.cons (pe_var rfl) (.cons (pe_var rfl) .nil))) G.n_min (by decide +kernel)) (.inl rfl) no) ?_
  refine sts_of (st_assign (pe_bin (pe_var rfl) (pe_var rfl) op_sub_flt) (.inl rfl) no) ?_
  refine sts_of (st_assign (pe_var rfl) (.inl rfl) no) ?_
  refine sts_of (R := Sta ⟨c', A, envF (sScope (fstmt 6)) q L G.f6 cd, B⟩ mu _ []) (st_if (r := greyF r g b) (pt_cmp (pe_var rfl) (pe_var rfl) cmp_eq_flt) (fun e => by rw [hg] at e; cases e) (fun _ => st_nil fun g p => ⟨rfl, p⟩)) ?_
  refine sts_of (st_assign (pe_bin (pe_var rfl) (pe_var rfl) (op_div_flt z1)) (.inl rfl) no) ?_
  refine sts_of (st_assign (pe_bin (pe_bin (pe_var rfl) (pe_var rfl) op_sub_flt) (pe_var rfl) (op_div_flt z2)) (.inl rfl) no) ?_
  refine sts_of (st_assign (pe_bin (pe_bin (pe_var rfl) (pe_var rfl) op_sub_flt) (pe_var rfl) (op_div_flt z2)) (.inl rfl) no) ?_
  refine sts_of (st_assign (pe_bin (pe_bin (pe_var rfl) (pe_var rfl) op_sub_flt) (pe_var rfl) (op_div_flt z2)) (.inl rfl) no) ?_
  refine sts_of (R := Sta ⟨c', A, envF (sScope (fstmt 6)) q L G.f6 cd, B⟩ mu [("h", .flt (let mx := maxF r g b
        let rg := Float64.sub mx (minF r g b)
        let rc := Float64.div (Float64.sub mx r) rg
        let gc := Float64.div (Float64.sub mx g) rg
        let bc := Float64.div (Float64.sub mx b) rg
        if Float64.cmp r mx == some .eq then Float64.sub bc gc else if Float64.cmp g mx == some .eq then Float64.sub (Float64.add 0x4000000000000000 rc) bc else Float64.sub (Float64.add 0x4010000000000000 gc) rc)),
        ("s", .flt (shareF r g b)), ("v", .flt (maxF r g b))] []) ?_ ?_
  · refine st_if (r := Float64.cmp r (maxF r g b) == some .eq) (pt_cmp (pe_var rfl) (pe_var rfl) cmp_eq_flt) ?_ ?_
    · intro e
      refine (st_assign (pe_bin (pe_var rfl) (pe_var rfl) op_sub_flt) (.inl rfl) no).post fun f gh ⟨e1, e2⟩ => ⟨e1, e2.less (less_cons ?_ (less_cons rfl (less_cons rfl less_nil)))⟩
      simp only [e, if_true]; rfl
    · intro e
      refine st_if (r := Float64.cmp g (maxF r g b) == some .eq) (pt_cmp (pe_var rfl) (pe_var rfl) cmp_eq_flt) ?_ ?_
      · intro e'
        refine (st_assign (pe_bin (pe_bin pe_flt (pe_var rfl) op_add_flt) (pe_var rfl) op_sub_flt) (.inl rfl) no).post fun f gh ⟨e1, e2⟩ => ⟨e1, e2.less (less_cons ?_ (less_cons rfl (less_cons rfl less_nil)))⟩
        simp only [e, e', if_true, Bool.false_eq_true, if_false]; rfl
      · intro e'
        refine (st_assign (pe_bin (pe_bin pe_flt (pe_var rfl) op_add_flt) (pe_var rfl) op_sub_flt) (.inl rfl) no).post fun f gh ⟨e1, e2⟩ => ⟨e1, e2.less (less_cons ?_ (less_cons rfl (less_cons rfl less_nil)))⟩
        simp only [e, e', Bool.false_eq_true, if_false]; rfl
  · refine sts_seq (st_modT (pe_bin (pe_var rfl) pe_flt (op_div_flt (by decide +kernel))) pe_flt (by decide +kernel) (.inl rfl) no) ?_
    refine sts_exi fun t => ?_
    refine STs.pre (P := fun g' tk => Sta ⟨c', A, envF (sScope (fstmt 6)) q L G.f6 cd, B⟩ mu _ [] g' ∧ (k ≤ t ∧ t < tk)) ?_ fun g' tk p => ⟨p.2.2, p.1, p.2.1⟩
    refine (sts_lift (st_ret (pe_tuple (.cons (pe_var rfl) (.cons (pe_var rfl) (.cons (pe_var rfl) .nil))))) (fun tk => k ≤ t ∧ t < tk) fun _ _ a b => ⟨b.1, Nat.lt_of_lt_of_le b.2 a⟩).post fun fl gh tk ⟨⟨v, e1, e2, e3⟩, e4, e5⟩ => ⟨v, _, e1, e2.less less_nil, ⟨t, e4, e5, rfl⟩, e3⟩
end Mine
end

section
set_option Elab.async false
set_option maxRecDepth 100000
set_option autoImplicit false
set_option linter.unusedVariables false
namespace Mine
open PySem PySem.Calls PyProof.Rows PySem.W

section
variable {F : Fx} {mu : List Addr} {ρ : Vars} {own : Owned}
/-- an expression's worth, the tokens seen -/
noncomputable def PER (F : Fx) (mu : List Addr) (ρ : Vars) (own : Owned) (e : Expr) (K : Nat → Nat → D → Prop) : Prop :=
  ∀ (s : Shared) (Q : Value → Shared → Prop) (E : Value → Shared → Prop), Sta F mu ρ own s.heap →
    (∀ v s' d, Keeps s s' → K (s.toks + 1) s'.toks d → At s'.heap mu v d → Q v s') → F.W (eval e F.env) Q E s

theorem pe_callR {f : Addr} {lim i : Nat} {ns : List Str} {x : Str} {p pos : Pos} {es : List Expr} {ds : List D} {K : Nat → Nat → D → Prop} (C : FnR F.c lim f ds K) (fa : FnAt F.c f i ns) (hg : F.c.mg x = some (.ref f)) (hd : Room F.A lim) (xs : PEL F mu ρ own es ds)
    (hK : ∀ k k₁ k' d, k ≤ k₁ → K k₁ k' d → K k k' d)
    (hk : F.env.kindOf x = some .globalImplicit := by rfl) (hs : starEach es F.env = es.map (fun e => (false, eval e F.env)) := by rfl) (hne : es ≠ [] := by simp)
    (hb : (x == ("__debug__" : Str)) = false := by decide) :
    PER F mu ρ own (.Call (.Name x p) es [] pos) K := fun s Q E st h => by
  obtain ⟨o, fd, hf, hfd, _⟩ := fa
  refine Call_Name rfl ?_
  rw [hs]
  refine pe_glob st hk hg ?_ hb
  refine callWith_function (o := o) (fd := fd) ?_
  cases es with
  | nil => exact absurd rfl hne
  | cons e es =>
    show F.W (evalArgs _ true ((false, eval e F.env) :: backTo pos (es.map fun e => (false, eval e F.env))) []) _ E s
    refine evalArgs_plain ?_
    refine wpAny_tk (xs.go (pos := pos) s _ _ st fun vs s' kk a => fun le => ⟨⟨khp kk _ _ (st.rootK _ _ hf), hfd⟩, ?_⟩)
    refine wpAny_call ?_
    exact C F.A s' mu vs _ st.ok.hh hd (fun b o e => khp kk _ _ (st.rootK b o e)) (st.live.keeps (khp kk)) a fun v s'' d k' hk' a' => h v s'' d (ktrans kk k') (hK _ _ _ _ (Nat.succ_le_succ le) hk') a'

theorem sts_assign_hsv {elts : List Expr} {value : Expr} {kk : Nat} {tpos pos : Pos} {ts : List (Value → Sem Unit)} {r g b : UInt64} {k : Nat} {bs : Nat → Vars} (y : PER F mu ρ own value (HsvK r g b))
    (x : ∀ t, TGL F ts [.fltT (hueF r g b) t, .flt (shareF r g b), .flt (maxF r g b)] (bs t)) (hno : ∀ t, ∀ p ∈ own, ∀ b ∈ bs t, p.1 ≠ b.1)
    (he : (assignEach elts F.env).map (·.2) = ts := by rfl) (hl : (assignEach elts F.env).length = 3 := by rfl) (hstar : (assignEach elts F.env).findIdx? (·.1) = none := by rfl)
    (hs : swapsWithSole [.Tuple elts kk tpos] value pos.line F.env = pure false := by rfl) (hw : swappedStores [.Tuple elts kk tpos] value F.env = pure none := by rfl) :
    STs F (fun g tk => Sta F mu ρ own g ∧ k ≤ tk) [.Assign [.Tuple elts kk tpos] value pos] fun f g tk => f = .next ∧ ∃ t, k ≤ t ∧ 0 < t ∧ t < tk ∧ Sta F mu (bs t ++ ρ) own g := sts_last fun s Φ E ⟨st, hk⟩ kq =>
  Assign_Tuple (y s _ _ st fun v s' d k1 hK a => by
    obtain ⟨t, t1, t2, rfl⟩ := hK
    obtain ⟨h1, tk1, rfl, up⟩ := k1
    exact wpAny_tk (tg_tuple (x t) he hl hstar mu ρ own _ v _ _ (st.keeps up) (hno t) a fun h' tk st' _ => fun le => kq .next h' tk ⟨rfl, t, Nat.le_trans hk (Nat.le_of_succ_le t1), Nat.lt_of_lt_of_le (Nat.succ_pos _) t1, Nat.lt_of_lt_of_le t2 le, st'⟩)) hs hw
end
end Mine
end

section
set_option Elab.async false
set_option maxRecDepth 100000
set_option autoImplicit false
set_option linter.unusedVariables false
namespace Mine
open PySem PySem.Calls PyProof.Rows PySem.W

section
variable {prog : Program} {w : World} {A : Around} {E : Value → Shared → Prop} {s : Shared}

/-- the order of the sorted items -/
noncomputable def ordOf (lt : Nat → Nat → Bool) (n : Nat) : Array Nat := if n < 2 then (List.range n).toArray else tval lt (kas_sort n)

/-- all but one object stay -/
noncomputable def Stay (a : Addr) (s s₁ : Shared) : Prop := ∃ h t, s₁ = { s with heap := h, toks := t } ∧ ∀ b o, b ≠ a → s.heap.get? b = some o → h.get? b = some o

set_option maxHeartbeats 1000000
theorem short_out (lt : Nat → Nat → Bool) {vs : List Value} (hlen : vs.length < 2) : (arrOf (SortSt.mk' general' (vs.toArray.zip vs.toArray) #[] 7 none)).map (·.2) = ((ordOf lt vs.length).toList.map fun i => vs.getD i Value.none).toArray := by
  unfold ordOf
  rw [if_pos hlen]
  show (vs.toArray.zip vs.toArray).map (·.2) = _
  cases vs with
  | nil => simp
  | cons v vs =>
    have : vs = [] := List.eq_nil_of_length_eq_zero (Nat.lt_one_iff.mp (Nat.lt_of_succ_lt_succ hlen))
    subst this
    simp
theorem my_list_sort {a : Addr} {vs : List Value} {n : Nat} {κ : SortKind} {lt : Nat → Nat → Bool} {P : PySem.Fin → Shared → Prop} (ho : s.heap.get? a = some (seqObj "list" vs.toArray n)) (h64 : vs.length < 64)
    (hk : 2 ≤ vs.length → ∀ s₁ : Shared, Stay a s s₁ → ∀ (Q : SortKind → Shared → Prop), Q κ s₁ → wpAny (model prog w) A (keyKind' vs.toArray) Q (fun _ _ => False) s₁)
    (hlt : ∀ s₁ : Shared, Stay a s s₁ → ∀ i j, i < vs.length → j < vs.length → ∀ (C : Bool → Shared → Prop), (∀ s₂, Keeps s₁ s₂ → C (lt i j) s₂) → wpAny (model prog w) A (keyLt' κ (vs.getD i .none) (vs.getD j .none)) C (fun _ _ => False) s₁)
    (h : ∀ s₁ c, Stay a s s₁ → s₁.heap.get? a = some (seqObj "list" ((ordOf lt vs.length).toList.map fun i => vs.getD i .none).toArray c) → P (.done (.ret .none)) s₁) :
    wpAny (model prog w) A (Builtin.«list.sort» ⟨[.ref a], []⟩) P E s := by
  have ha : a < s.heap.objs.size := Heap.lt_size ho
  obtain ⟨e1, ho1⟩ : ∃ e1, (s.heap.update a (Obj.mapSeq fun _ => (#[] : Array Value))).get? a = some (seqObj "list" #[] e1) := ⟨_, get?_update_seq ho fun _ => #[]⟩
  have ho6 : (((s.heap.update a (Obj.mapSeq fun _ => #[])).push (seqObj "tuple" vs.toArray 0)).push (seqObj "list" #[] 0)).get? a = some (seqObj "list" #[] e1) := by
    rw [Heap.get?_push_ne _ _ _ (by rw [size_push', Heap.size_update]; exact Nat.ne_of_lt (Nat.lt_succ_of_lt ha)), Heap.get?_push_ne _ _ _ (by rw [Heap.size_update]; exact Nat.ne_of_lt ha)]
    exact ho1
  have st1 : Stay a s { s with heap := ((s.heap.update a (Obj.mapSeq fun _ => (#[] : Array Value))).push (seqObj "tuple" vs.toArray 0)).push (seqObj "list" #[] 0) } :=
    ⟨_, s.toks, rfl, fun b o hb e => Heap.get?_push_of_some _ (Heap.get?_push_of_some _ ((Heap.get?_update_other _ _ (Ne.symm hb)).trans e))⟩
  rw [list_sort_plain]
  refine wpAny_bind (listItems_at ho rfl ?_)
  refine wpAny_bind (listUpdate_at ho rfl ?_ (by rw [List.size_toArray, sizeLine_eq]; lia) (Nat.zero_le _))
  refine wpAny_bind (seqEpoch_at ho1 rfl ?_)
  refine wpAny_bind (wpAny_newTuple ?_ (by show vs.length ≤ _; rw [sizeLine_eq]; lia))
  refine wpAny_bind (wpAny_newList ?_ (Nat.zero_le _))
  refine wpAny_holding ?_
  show wpAny (model prog w) A _ P E { s with heap := ((s.heap.update a (Obj.mapSeq fun _ => (#[] : Array Value))).push (seqObj "tuple" vs.toArray 0)).push (seqObj "list" #[] 0) }
  dsimp only
  have hsz : vs.toArray.size = vs.length := by simp
  have hol : ((ordOf lt vs.length).toList.map fun i => vs.getD i Value.none).length < 64 → True := fun _ => trivial
  by_cases h2 : vs.toArray.size < 2
  · rw [if_pos h2, if_pos h2]
    refine wpAny_bind (wpAny_pure ?_)
    rw [StateT.run_pure]
    refine wpAny_bind (wpAny_pure ?_)
    dsimp only
    have hlen : vs.length < 2 := by rw [← hsz]; exact h2
    have hout := short_out lt hlen
    refine wpAny_bind (seqEpoch_at ho6 rfl ?_)
    rw [hout]
    refine wpAny_bind (listUpdate_at ho6 rfl ?_ (Nat.zero_le _) (by
      unfold ordOf
      rw [if_pos hlen, List.size_toArray, List.length_map]
      simp [sizeLine_eq]; lia))
    simp only [bne_self_eq_false, Bool.false_eq_true, if_false]
    obtain ⟨h1, t1, e0, k1⟩ := st1
    injection e0 with e0
    refine wpAny_pure (h _ _ ⟨_, s.toks, rfl, fun b o hb e => (Heap.get?_update_other _ _ (Ne.symm hb)).trans (e0 ▸ k1 b o hb e)⟩ (get?_update_seq ho6 fun _ => _))
  · rw [if_neg h2, if_neg h2]
    have hlen : 2 ≤ vs.length := by lia
    have hn : 0 < vs.length := by lia
    refine wpAny_bind (wpAny_mono (hk hlen _ st1 (fun κ' s' => κ' = κ ∧ s' = { s with heap := ((s.heap.update a (Obj.mapSeq fun _ => (#[] : Array Value))).push (seqObj "tuple" vs.toArray 0)).push (seqObj "list" #[] 0) }) ⟨rfl, rfl⟩) (fun κ' s0 hk' => ?_) fun _ _ x => x.elim)
    obtain ⟨rfl, rfl⟩ := hk'
    have tree : (kas_sort vs.length).kasWp (kas_ask prog w A κ' vs) (fun p s' => p = tval lt (kas_sort vs.length) ∧ Keeps { s with heap := ((s.heap.update a (Obj.mapSeq fun _ => (#[] : Array Value))).push (seqObj "tuple" vs.toArray 0)).push (seqObj "list" #[] 0) } s')
        { s with heap := ((s.heap.update a (Obj.mapSeq fun _ => (#[] : Array Value))).push (seqObj "tuple" vs.toArray 0)).push (seqObj "list" #[] 0) } := by
      refine kas_val (n := vs.length) (lt := lt) (fun s' => Keeps { s with heap := ((s.heap.update a (Obj.mapSeq fun _ => (#[] : Array Value))).push (seqObj "tuple" vs.toArray 0)).push (seqObj "list" #[] 0) } s') (fun i j C s₁ hi hj inv hC => ?_) (in_sort hn) (krefl _) fun s' inv => ⟨rfl, inv⟩
      unfold kas_ask
      refine hlt s₁ ?_ i j hi hj C fun s₂ k2 => hC s₂ (ktrans inv k2)
      obtain ⟨h1, t1, rfl, k1⟩ := inv
      obtain ⟨h0, t0, e0, k0⟩ := st1
      injection e0 with e0
      exact ⟨h1, t1, rfl, fun b o hb e => k1 b o (e0 ▸ k0 b o hb e)⟩
    refine wpAny_bind (wpAny_mono (kat_run (Q := fun st' s' => ∃ p : Array Nat, p.size = vs.length ∧ arrOf st' = p.map (kas_item (vs.toArray.zip vs.toArray)) ∧ failedOf st' = none ∧ p = tval lt (kas_sort vs.length) ∧ Keeps { s with heap := ((s.heap.update a (Obj.mapSeq fun _ => (#[] : Array Value))).push (seqObj "tuple" vs.toArray 0)).push (seqObj "list" #[] 0) } s')
      rfl hlen h64 (fun p' st' s' a1 a2 a3 a4 => ⟨p', a1, a2, a3, a4⟩) tree) ?_ fun _ _ e => e)
    rintro ⟨⟨⟩, st'⟩ s' ⟨p, hp, har, hf, rfl, inv⟩
    dsimp only
    have hout := kat_snds rfl har
    have hsz' : (List.toArray ((tval lt (kas_sort vs.length)).toList.map fun i => vs.getD i Value.none)).size = vs.length := by rw [List.size_toArray, List.length_map, Array.length_toList, hp]
    rw [hout]
    have hg := khp inv _ _ ho6
    refine wpAny_bind (seqEpoch_at hg rfl ?_)
    refine wpAny_bind (listUpdate_at hg rfl ?_ (Nat.zero_le _) (Nat.le_trans (Nat.le_of_eq hsz') (by rw [sizeLine_eq]; lia)))
    rw [hf]
    simp only [bne_self_eq_false, Bool.false_eq_true, if_false]
    have hor : ordOf lt vs.length = tval lt (kas_sort vs.length) := by unfold ordOf; rw [if_neg (by lia)]
    obtain ⟨h1, t1, rfl, k1⟩ := inv
    obtain ⟨h0, t0, e0, k0⟩ := st1
    injection e0 with e0
    obtain ⟨c2, hc2⟩ : ∃ c2, (h1.update a (Obj.mapSeq fun _ => List.toArray ((tval lt (kas_sort vs.length)).toList.map fun i => vs.getD i Value.none))).get? a = some (seqObj "list" (List.toArray ((tval lt (kas_sort vs.length)).toList.map fun i => vs.getD i Value.none)) c2) := ⟨_, get?_update_seq hg fun _ => List.toArray ((tval lt (kas_sort vs.length)).toList.map fun i => vs.getD i Value.none)⟩
    refine wpAny_pure (h _ c2 ⟨_, t1, rfl, fun b o hb e => (Heap.get?_update_other _ _ (Ne.symm hb)).trans (k1 b o (e0 ▸ k0 b o hb e))⟩ ?_)
    rw [hor]
    exact hc2
end
end Mine
end

section
set_option Elab.async false
set_option maxRecDepth 100000
set_option autoImplicit false
set_option linter.unusedVariables false
namespace Mine
open PySem PySem.Calls PyProof.Rows PySem.W

section
variable {prog : Program} {w : World} {A : Around} {E : Value → Shared → Prop} {s : Shared}

theorem eqb_flt {a b : UInt64} {t u : Tok} (ht : t ≠ 0) (hu : u ≠ 0) (htu : t = u → a = b) (nb : NoneBooked s.heap) (hc : Float64.cmp a b = some (compare a.toNat b.toNat)) {Q : Bool → Shared → Prop} (h : Q (decide (a = b)) s) :
    wpAny (model prog w) A (eqBool (.float a t) (.float b u)) Q E s := by
  unfold eqBool
  refine wpAny_holding ?_
  refine wpAny_ite_split (fun hab => ?_) (fun hab => ?_)
  · have e : a = b := by have := eq_of_beq hab; injection this
    subst e
    exact wpAny_bind (wpAny_rule (wpAny_pure (by simpa using h)))
  · have rc : wpAny (model prog w) A (richCompare .Eq (.float a t) (.float b u) >>= fun r => truthOfDropped r) Q E s := by
      refine wpAny_bind (show wpAny (model prog w) A (compareOp .Eq (.float a t) (.float b u)) _ E s from AutoFloatOps.eq_0 (wpAny_truthy_bool ?_))
      rw [hc]
      have : (some (compare a.toNat b.toNat) == some Ordering.eq) = decide (a = b) := by
        by_cases e : a = b
        · subst e; simp
        · have hn : a.toNat ≠ b.toNat := fun q => e (UInt64.toNat_inj.mp q)
          have : compare a.toNat b.toNat ≠ .eq := fun q => hn (Nat.compare_eq_eq.mp q)
          simp [e, hn]
      rw [this]; exact h
    dsimp only
    refine wpAny_bind (show wpAny _ _ (isSame.created (a == b && !Float64.isNaN a) t u) _ E s from ?_)
    unfold isSame.created
    refine wpAny_ite_split (fun h0 => ?_) (fun h0 => ?_)
    · exfalso
      simp only [Bool.or_eq_true, beq_iff_eq] at h0
      rcases h0 with h0 | h0
      · exact ht h0
      · exact hu h0
    refine wpAny_ite_split (fun h1 => ?_) (fun h1 => ?_)
    · exfalso
      have e1 : t = u := by simpa using h1
      have e2 := htu e1
      subst e1; subst e2
      exact hab (beq_self_eq_true _)
    refine wpAny_ite_split (fun h2 => ?_) (fun h2 => ?_)
    · refine wpAny_pure ?_
      rw [if_neg (by simp)]
      exact rc
    have eab : a = b := by
      simp only [Bool.not_eq_true', Bool.not_eq_false, Bool.and_eq_true] at h2
      exact beq_iff_eq.mp h2.1
    refine wpAny_bind (wpAny_sharingNotTold_none nb ?_)
    first | rw [if_neg Bool.false_ne_true] | simp only [Bool.false_eq_true, if_false]
    refine wpAny_bind (wpAny_sharingNotTold_none nb ?_)
    first | rw [if_neg Bool.false_ne_true] | simp only [Bool.false_eq_true, if_false]
    refine wpAny_bind (wpAny_rule (wpAny_bind (wpAny_askSetting (wpAny_pure ?_))))
    refine wpAny_ite_split (fun _ => ?_) (fun _ => ?_)
    · refine wpAny_pure ?_
      rw [decide_eq_true eab] at h; exact h
    · exact rc

theorem onelt_flt {a b : UInt64} {t u : Tok} (hc : Float64.cmp a b = some (compare a.toNat b.toNat)) {Q : Bool → Shared → Prop} (h : Q (decide (a.toNat < b.toNat)) s) : wpAny (model prog w) A (oneLt' true (.float a t) (.float b u)) Q E s := by
  rw [oneLt'_eq]
  simp only [if_true]
  refine wpAny_bind (wpAny_cRoomFor_byValue rfl ?_)
  refine wpAny_bind (wpAny_callSpecialIfBound?_slot (AutoFloatOps.typeIs_float s a t) F.slot_float_lt (call_gives F.slot_float_lt (AutoFloatOps.typeIs_float s a t) F.entry_float_lt (F.args_float_lt_2 _ _) (AutoFloatG5.float___lt___float_float_0 a t b u) ?_))
  refine wpAny_truthy_bool ?_
  show Q (Float64.cmp a b == some Ordering.lt) s
  rw [hc]
  have : (some (compare a.toNat b.toNat) == some Ordering.lt) = decide (a.toNat < b.toNat) := by
    by_cases e : a.toNat < b.toNat
    · have := Nat.compare_eq_lt.mpr e
      simp [e, this]
    · have : compare a.toNat b.toNat ≠ .lt := fun q => e (Nat.compare_eq_lt.mp q)
      rw [decide_eq_false e]
      exact beq_eq_false_iff_ne.mpr fun q => this (Option.some.inj q)
  rw [this]; exact h
end

/-- an item of the laid ones: hue, its token, across, up -/
structure T3 where
  b : UInt64
  t : Nat
  x : Int
  y : Int
noncomputable def T3.d (p : T3) : D := .tup [.fltT p.b p.t, .int p.x, .int p.y]
noncomputable def T3.lt (p q : T3) : Bool := if p.b = q.b then (if p.x = q.x then decide (p.y < q.y) else decide (p.x < q.x)) else decide (p.b.toNat < q.b.toNat)

/-- tokens and floats are as they should be -/
structure T3.Ok (ts : List T3) : Prop where
  nz : ∀ p ∈ ts, p.t ≠ 0
  one : ∀ p ∈ ts, ∀ q ∈ ts, p.t = q.t → p.b = q.b
  cmp : ∀ p ∈ ts, ∀ q ∈ ts, Float64.cmp p.b q.b = some (compare p.b.toNat q.b.toNat)

section
variable {prog : Program} {w : World} {A : Around} {E : Value → Shared → Prop} {s : Shared} {mu : List Addr}

theorem lt_t3 {p q : T3} {v u : Value} (hp : At s.heap mu v p.d) (hq : At s.heap mu u q.d) (h1 : p.t ≠ 0) (h2 : q.t ≠ 0) (h3 : p.t = q.t → p.b = q.b) (hc : Float64.cmp p.b q.b = some (compare p.b.toNat q.b.toNat)) (nb : NoneBooked s.heap)
    {C : Bool → Shared → Prop} (h : C (p.lt q) s) : wpAny (model prog w) A (keyLt' (tuples' (Value.type "float" != Value.type "tuple")) v u) C (fun _ _ => False) s := by
  obtain ⟨a, vs, rfl, _, ⟨oa, hoa, hca, na, hda⟩, hvs⟩ := hp.tup_inv
  obtain ⟨b, us, rfl, _, ⟨ob, hob, hcb, nb', hdb⟩, hus⟩ := hq.tup_inv
  obtain ⟨v0, vs1, rfl, x0, y0⟩ := hvs.inv
  obtain ⟨v1, vs2, rfl, x1, y1⟩ := y0.inv
  obtain ⟨v2, vs3, rfl, x2, y2⟩ := y1.inv
  cases y2.inv_nil
  obtain ⟨u0, us1, rfl, z0, w0⟩ := hus.inv
  obtain ⟨u1, us2, rfl, z1, w1⟩ := w0.inv
  obtain ⟨u2, us3, rfl, z2, w2⟩ := w1.inv
  cases w2.inv_nil
  cases x0.fltT_inv
  cases z0.fltT_inv
  obtain ⟨t1, rfl⟩ := x1.int_inv
  obtain ⟨t2, rfl⟩ := x2.int_inv
  obtain ⟨t3, rfl⟩ := z1.int_inv
  obtain ⟨t4, rfl⟩ := z2.int_inv
  refine kat_lt hoa hda hob hdb ?_
  show KatLex prog w A (Value.type "float" != Value.type "tuple") _ C [(Value.float p.b p.t, Value.float q.b q.t), (Value.int p.x t1, Value.int q.x t3), (Value.int p.y t2, Value.int q.y t4)] 0 s
  have hb0 : (Value.type "float" != Value.type "tuple" && (0 : Nat) == 0) = true := by decide
  have hb1 : (Value.type "float" != Value.type "tuple" && (0 + 1 : Nat) == 0) = false := by decide
  have hb2 : (Value.type "float" != Value.type "tuple" && (0 + 1 + 1 : Nat) == 0) = false := by decide
  unfold T3.lt at h
  refine kat_cons (eqb_flt h1 h2 h3 nb hc ?_)
  by_cases e1 : p.b = q.b
  · rw [decide_eq_true e1]
    rw [if_pos e1] at h
    refine kat_yes (kat_cons (wpAny_eqBool_int ?_))
    by_cases e2 : p.x = q.x
    · rw [if_pos e2] at h
      rw [show (p.x == q.x) = true by simp [e2]]
      refine kat_yes (kat_cons (wpAny_eqBool_int ?_))
      by_cases e3 : p.y = q.y
      · rw [show (p.y == q.y) = true by simp [e3]]
        refine kat_yes (kat_nil ?_)
        rw [show decide (p.y < q.y) = false by simp [e3]] at h
        exact h
      · rw [show (p.y == q.y) = false by simp [e3]]
        refine kat_no ?_
        rw [hb2]
        exact kat_one _ _ (lt_int h)
    · rw [if_neg e2] at h
      rw [show (p.x == q.x) = false by simp [e2]]
      refine kat_no ?_
      rw [hb1]
      exact kat_one _ _ (lt_int h)
  · rw [decide_eq_false e1]
    rw [if_neg e1] at h
    refine kat_no ?_
    rw [hb0]
    exact onelt_flt hc h
end

section
variable {F : Fx} {mu : List Addr} {ρ : Vars} {own : Owned}

/-- the laid ones, sorted -/
noncomputable def sortT (ts : List T3) : List T3 := (ordOf (fun i j => (ts.getD i ⟨0, 0, 0, 0⟩).lt (ts.getD j ⟨0, 0, 0, 0⟩)) ts.length).toList.map fun i => ts.getD i ⟨0, 0, 0, 0⟩

set_option maxHeartbeats 1000000
theorem pe_sorted {x : Str} {p pos : Pos} {e : Expr} {ts : List T3} (ok : T3.Ok ts) (h64 : ts.length < 64) (nb : NoneBooked F.c.root) (y : PE F mu ρ own e (.lst (ts.map T3.d)))
    (hg : F.c.mg x = none) (hv : bootBuiltins x = some (.builtin "sorted")) (hn : x ≠ "__name__" := by decide)
    (hk : F.env.kindOf x = some .globalImplicit := by rfl) (hs : starEach [e] F.env = [(false, eval e F.env)] := by rfl)
    (hb : (x == ("__debug__" : Str)) = false := by decide) : PE F mu ρ own (.Call (.Name x p) [e] [] pos) (.lst ((sortT ts).map T3.d)) := fun s Q E st h => by
  refine Call_Name rfl ?_
  rw [hs]
  refine pe_builtin st hk hg hv hn ?_ hb
  refine callWith_builtin rfl (evalArgs_plain (spliced_cons (y s _ _ st fun v s₁ k₁ a₁ => spliced_nil ?_)))
  have st₁ := st.keeps (khp k₁)
  obtain ⟨l, vs, rfl, hm, hl, hvs⟩ := a₁.lst_inv
  have hlen : vs.length = ts.length := by rw [hvs.1, List.length_map]
  refine Calls.call_function_entry kind_sorted plain_sorted entry_sorted (args_sorted1 _) ?_
  unfold Builtin.«sorted»
  refine wpAny_bind (m := checkCount "sorted" 1 1 _) (wpAny_pure ?_)
  refine wpAny_bind (collect_list hl ?_ (by rw [sizeLine_eq]; lia))
  refine wpAny_bind (wpAny_newList ?_ (by rw [sizeLine_eq]; lia))
  have hsz : ((s₁.heap.push (seqObj "list" #[] 0)).update s₁.heap.objs.size (Obj.mapSeq (· ++ vs.toArray))).objs.size = s₁.heap.objs.size + 1 := by
    rw [Heap.size_update, size_push']
  have hoL : (((s₁.heap.push (seqObj "list" #[] 0)).update s₁.heap.objs.size (Obj.mapSeq (· ++ vs.toArray))).push (seqObj "list" vs.toArray 0)).get? (s₁.heap.objs.size + 1) = some (seqObj "list" vs.toArray 0) := by
    rw [← hsz]; exact Heap.get?_push_size _ rfl
  have keep : ∀ b o, s₁.heap.get? b = some o → (((s₁.heap.push (seqObj "list" #[] 0)).update s₁.heap.objs.size (Obj.mapSeq (· ++ vs.toArray))).push (seqObj "list" vs.toArray 0)).get? b = some o := fun b o q => by
    have hlt : b < s₁.heap.objs.size := Heap.lt_size q
    rw [Heap.get?_push_ne _ _ _ (by rw [hsz]; exact Nat.ne_of_lt (Nat.lt_succ_of_lt hlt)), Heap.get?_update_ne _ _ _ _ (Nat.ne_of_lt hlt), Heap.get?_push_ne _ _ _ (Nat.ne_of_lt hlt)]
    exact q
  show wpAny _ _ _ _ _ { s₁ with heap := ((s₁.heap.push (seqObj "list" #[] 0)).update s₁.heap.objs.size (Obj.mapSeq (· ++ vs.toArray))).push (seqObj "list" vs.toArray 0) }
  rw [hsz]
  have new : ∀ b o, s₁.heap.get? b = some o → b ≠ s₁.heap.objs.size + 1 := fun b o q => Nat.ne_of_lt (Nat.lt_succ_of_lt (Heap.lt_size q))
  have kst : ∀ s₂, Stay (s₁.heap.objs.size + 1) { s₁ with heap := ((s₁.heap.push (seqObj "list" #[] 0)).update s₁.heap.objs.size (Obj.mapSeq (· ++ vs.toArray))).push (seqObj "list" vs.toArray 0) } s₂ → Keeps s₁ s₂ := by
    rintro s₂ ⟨h2, t2, rfl, k2⟩
    exact ⟨h2, t2, rfl, fun b o e => k2 b o (new b o e) (keep b o e)⟩
  have nbk : ∀ s₂, Keeps s₁ s₂ → NoneBooked s₂.heap := fun s₂ k2 => by
    obtain ⟨mc, hmc, e⟩ := nb
    exact ⟨mc, hmc.keeps fun b o e => khp k2 _ _ (st₁.rootK b o e), e⟩
  have item : ∀ i, i < ts.length → ∀ s₂, Keeps s₁ s₂ → At s₂.heap mu (vs.getD i .none) (ts.getD i ⟨0, 0, 0, 0⟩).d ∧ ts.getD i ⟨0, 0, 0, 0⟩ ∈ ts := by
    intro i hi s₂ k2
    have hi' : i < vs.length := by lia
    rw [List.getD_eq_getElem?_getD, List.getD_eq_getElem?_getD, List.getElem?_eq_getElem hi, List.getElem?_eq_getElem hi']
    refine ⟨(hvs.2 i _ _ (List.getElem?_eq_getElem hi') ?_).keep (khp k2), List.getElem_mem hi⟩
    rw [List.getElem?_map, List.getElem?_eq_getElem hi]; rfl
  refine wpAny_bind (wpAny_holding (wpAny_call_entry slot_list_sort ⟨_, hoL, rfl⟩ entry_list_sort ?body (args_list_sort _)))
  case body =>
    refine my_list_sort (κ := tuples' (Value.type "float" != Value.type "tuple")) (lt := fun i j => (ts.getD i ⟨0, 0, 0, 0⟩).lt (ts.getD j ⟨0, 0, 0, 0⟩)) hoL (by lia) ?_ ?_ ?_
    · intro h2 s₂ hs Q' q
      have k2 := kst s₂ hs
      have tups : ∀ (us : List Value) (ps : List T3), AtL s₂.heap mu us (ps.map T3.d) → KatTups s₂.heap us (ps.map fun p => Value.float p.b p.t) := by
        intro us ps
        induction ps generalizing us with
        | nil => intro a; rw [a.inv_nil]; exact KatTups.nil
        | cons p ps ih =>
          intro a
          obtain ⟨v, us', rfl, x, y⟩ := a.inv
          obtain ⟨a', zs, rfl, _, ⟨oa, hoa, hca, na, hda⟩, hzs⟩ := x.tup_inv
          obtain ⟨v0, zs1, rfl, x0, y0⟩ := hzs.inv
          cases x0.fltT_inv
          exact KatTups.cons hoa hca hda (by simp) (ih us' y)
      refine kat_kind (T := .type "float") (tups vs ts (hvs.keep (khp k2))) (by rw [List.length_map]; lia) ?_ (by decide) q
      intro v hv
      obtain ⟨p, _, rfl⟩ := List.mem_map.mp hv
      exact Looks.of_pure rfl
    · intro s₂ hs i j hi hj C hC
      have k2 := kst s₂ hs
      obtain ⟨a1, m1⟩ := item i (by lia) s₂ k2
      obtain ⟨a2, m2⟩ := item j (by lia) s₂ k2
      exact lt_t3 a1 a2 (ok.nz _ m1) (ok.nz _ m2) (ok.one _ m1 _ m2) (ok.cmp _ m1 _ m2) (nbk s₂ k2) (hC s₂ (krefl s₂))
    · intro s₂ c hs hg
      have k2 := kst s₂ hs
      refine ⟨_, rfl, wpAny_pure ⟨_, rfl, ?_⟩⟩
      refine h _ s₂ (ktrans k₁ k2) ?_
      rw [hlen] at hg
      refine .lst ?_ ⟨_, hg, rfl, _, rfl⟩ ?_ ?_
      · intro q
        obtain ⟨o, e⟩ := st₁.live _ q
        exact new _ o e rfl
      · unfold sortT; simp
      · intro i v d hv hd
        unfold sortT at hd
        rw [List.map_map, List.getElem?_map] at hd
        rw [List.getElem?_map] at hv
        cases ho : (ordOf (fun i j => (ts.getD i ⟨0, 0, 0, 0⟩).lt (ts.getD j ⟨0, 0, 0, 0⟩)) ts.length).toList[i]? with
        | none => rw [ho] at hv; cases hv
        | some k =>
          rw [ho] at hv hd
          cases hv; cases hd
          have hkl : k < ts.length := by
            have hmem := List.mem_of_getElem? ho
            unfold ordOf at hmem
            split at hmem
            · simpa using hmem
            · rename_i h2
              have hp := InT.val (fun i j => (ts.getD i ⟨0, 0, 0, 0⟩).lt (ts.getD j ⟨0, 0, 0, 0⟩)) _ (in_sort (n := ts.length) (by lia))
              have := (Array.perm_iff_toList_perm.mp hp).mem_iff.mp hmem
              simpa using this
          exact (item k hkl s₂ k2).1
end
end Mine
end

section
set_option Elab.async false
set_option maxRecDepth 100000
set_option autoImplicit false
set_option linter.unusedVariables false
namespace Mine
open PySem PySem.Calls PyProof.Rows PySem.W

theorem T3.irr (a : T3) : a.lt a = false := by unfold T3.lt; simp
theorem T3.lt_key (a b : T3) : a.lt b = true ↔ (a.b.toNat < b.b.toNat ∨ (a.b = b.b ∧ (a.x < b.x ∨ (a.x = b.x ∧ a.y < b.y)))) := by
  unfold T3.lt
  by_cases e1 : a.b = b.b
  · rw [if_pos e1]
    have : ¬ a.b.toNat < b.b.toNat := by rw [e1]; omega
    by_cases e2 : a.x = b.x
    · rw [if_pos e2]; simp [e1, e2]
    · rw [if_neg e2]; simp [e1, e2]
  · rw [if_neg e1]; simp [e1]
theorem lex_tr {a b c d e f : Int} (h1 : a < b ∨ (a = b ∧ d < e)) (h2 : b < c ∨ (b = c ∧ e < f)) : a < c ∨ (a = c ∧ d < f) := by
  rcases h1 with h1 | ⟨rfl, h1⟩ <;> rcases h2 with h2 | ⟨rfl, h2⟩
  · exact .inl (Int.lt_trans h1 h2)
  · exact .inl h1
  · exact .inl h2
  · exact .inr ⟨rfl, Int.lt_trans h1 h2⟩
theorem lex_neg {a b c d e f : Int} (h : a < c ∨ (a = c ∧ d < f)) : (a < b ∨ (a = b ∧ d < e)) ∨ (b < c ∨ (b = c ∧ e < f)) := by
  rcases Int.lt_trichotomy a b with q | q | q
  · exact .inl (.inl q)
  · subst q
    rcases h with h | ⟨rfl, h⟩
    · exact .inr (.inl h)
    · rcases Int.lt_or_le d e with k | k
      · exact .inl (.inr ⟨rfl, k⟩)
      · exact .inr (.inr ⟨rfl, Int.lt_of_le_of_lt k h⟩)
  · rcases h with h | ⟨rfl, h⟩
    · exact .inr (.inl (Int.lt_trans q h))
    · exact .inr (.inl q)
theorem T3.tr {a b c : T3} (h1 : a.lt b = true) (h2 : b.lt c = true) : a.lt c = true := by
  rw [T3.lt_key] at *
  rcases h1 with h1 | ⟨e1, h1⟩ <;> rcases h2 with h2 | ⟨e2, h2⟩
  · exact .inl (Nat.lt_trans h1 h2)
  · exact .inl (by rw [← e2]; exact h1)
  · exact .inl (by rw [e1]; exact h2)
  · exact .inr ⟨e1.trans e2, lex_tr h1 h2⟩
theorem T3.neg {a b c : T3} (h : a.lt c = true) : a.lt b = true ∨ b.lt c = true := by
  rw [T3.lt_key] at *
  rw [T3.lt_key]
  rcases Nat.lt_trichotomy a.b.toNat b.b.toNat with g | g | g
  · exact .inl (.inl g)
  · have e : a.b = b.b := UInt64.toNat_inj.mp g
    rcases h with h | ⟨e1, h⟩
    · exact .inr (.inl (g ▸ h))
    · exact (lex_neg h).elim (fun q => .inl (.inr ⟨e, q⟩)) fun q => .inr (.inr ⟨e ▸ e1, q⟩)
  · rcases h with h | ⟨e1, h⟩
    · exact .inr (.inl (Nat.lt_trans g h))
    · exact .inr (.inl (by rw [← e1]; exact g))

theorem countP_lt {α : Type} {p q : α → Bool} : ∀ {l : List α}, (∀ x ∈ l, p x = true → q x = true) → (∃ x ∈ l, p x = false ∧ q x = true) → l.countP p < l.countP q
  | [], _, h => by obtain ⟨x, hx, _⟩ := h; cases hx
  | x :: l, h1, h2 => by
    have hle : l.countP p ≤ l.countP q := List.countP_mono_left fun x hx => h1 x (List.mem_cons_of_mem _ hx)
    rw [List.countP_cons, List.countP_cons]
    obtain ⟨y, hy, a, b⟩ := h2
    rcases List.mem_cons.mp hy with rfl | hy
    · rw [a, b]; simp; omega
    · have := countP_lt (l := l) (fun x hx => h1 x (List.mem_cons_of_mem _ hx)) ⟨y, hy, a, b⟩
      have hx := h1 x List.mem_cons_self
      cases hp : p x with
      | false => cases hq : q x <;> simp <;> omega
      | true => rw [hx hp]; simp; omega

theorem weak_sorted (prog : Program) (w : World) {n : Nat} (h2 : 2 ≤ n) (h64 : n < 64) {lt : Nat → Nat → Bool} (irr : ∀ a, lt a a = false) (tr : ∀ a b c, lt a b = true → lt b c = true → lt a c = true) (neg : ∀ a b c, lt a c = true → lt a b = true ∨ lt b c = true) :
    ∀ i j, i ≤ j → j < n → lt ((tval lt (kas_sort n)).getD j 0) ((tval lt (kas_sort n)).getD i 0) = false := by
  have hn : 0 < n := by omega
  let r : Nat → Int := fun i => ((List.range n).countP fun k => lt k i : Nat)
  have key : ∀ i j, i < n → j < n → lt i j = decide (r i < r j) := by
    intro i j hi hj
    cases h : lt i j with
    | true =>
      symm
      rw [decide_eq_true_iff]
      have : (List.range n).countP (fun k => lt k i) < (List.range n).countP fun k => lt k j :=
        countP_lt (fun x _ hx => tr _ _ _ hx h) ⟨i, by simpa using hi, irr i, h⟩
      show ((List.range n).countP (fun k => lt k i) : Int) < ((List.range n).countP fun k => lt k j : Nat)
      omega
    | false =>
      symm
      rw [decide_eq_false_iff_not]
      have : (List.range n).countP (fun k => lt k j) ≤ (List.range n).countP fun k => lt k i :=
        List.countP_mono_left fun x _ hx => by
          rcases neg x i j hx with q | q
          · exact q
          · rw [h] at q; cases q
      show ¬ ((List.range n).countP (fun k => lt k i) : Int) < ((List.range n).countP fun k => lt k j : Nat)
      omega
  intro i j hij hj
  have e : tval lt (kas_sort n) = tval (fun i j => decide (r i < r j)) (kas_sort n) := tval_congr key (in_sort hn)
  have hP := InT.val (fun i j => decide (r i < r j)) _ (in_sort hn)
  have := rank_sorted prog w {} h2 h64 r i j hij hj
  rw [e, key _ _ (hP.get hn j) (hP.get hn i), decide_eq_false_iff_not]
  omega

theorem ord_perm {lt : Nat → Nat → Bool} {n : Nat} : Pm n (ordOf lt n) := by
  unfold ordOf
  split
  · exact Array.Perm.refl _
  · exact InT.val lt _ (in_sort (by omega))

theorem sortT_perm (ts : List T3) : (sortT ts).Perm ts := by
  unfold sortT
  have h := Array.perm_iff_toList_perm.mp (ord_perm (lt := fun i j => (ts.getD i ⟨0, 0, 0, 0⟩).lt (ts.getD j ⟨0, 0, 0, 0⟩)) (n := ts.length))
  have h2 := h.map fun i => ts.getD i ⟨0, 0, 0, 0⟩
  refine h2.trans ?_
  have : (List.range ts.length).map (fun i => ts.getD i ⟨0, 0, 0, 0⟩) = ts := by
    apply List.ext_getElem
    · simp
    · intro i h1 h2
      simp [h2]
  show ((List.range ts.length).map fun i => ts.getD i ⟨0, 0, 0, 0⟩).Perm ts
  rw [this]

theorem sortT_sorted (prog : Program) (w : World) (ts : List T3) (h64 : ts.length < 64) : (sortT ts).Pairwise fun a b => b.lt a = false := by
  rw [List.pairwise_iff_getElem]
  intro i j hi hj hij
  have hlen : (sortT ts).length = ts.length := (sortT_perm ts).length_eq
  have hj' : j < ts.length := by omega
  have hsz : (ordOf (fun i j => (ts.getD i ⟨0, 0, 0, 0⟩).lt (ts.getD j ⟨0, 0, 0, 0⟩)) ts.length).size = ts.length := by
    have := (ord_perm (lt := fun i j => (ts.getD i ⟨0, 0, 0, 0⟩).lt (ts.getD j ⟨0, 0, 0, 0⟩)) (n := ts.length)).size_eq
    simpa using this
  have get : ∀ (k : Nat) x, (sortT ts)[k]? = some x → x = ts.getD ((ordOf (fun i j => (ts.getD i ⟨0, 0, 0, 0⟩).lt (ts.getD j ⟨0, 0, 0, 0⟩)) ts.length).getD k 0) ⟨0, 0, 0, 0⟩ := by
    intro k x h
    unfold sortT at h
    rw [List.getElem?_map, Array.getElem?_toList] at h
    rw [Array.getD_eq_getD_getElem?]
    cases hk : (ordOf (fun i j => (ts.getD i ⟨0, 0, 0, 0⟩).lt (ts.getD j ⟨0, 0, 0, 0⟩)) ts.length)[k]? with
    | none => rw [hk] at h; cases h
    | some m => rw [hk] at h; cases h; rfl
  rw [get i _ (List.getElem?_eq_getElem hi), get j _ (List.getElem?_eq_getElem hj)]
  have h2 : 2 ≤ ts.length := by omega
  have := weak_sorted prog w h2 h64 (lt := fun i j => (ts.getD i ⟨0, 0, 0, 0⟩).lt (ts.getD j ⟨0, 0, 0, 0⟩)) (fun a => T3.irr _) (fun a b c => T3.tr) (fun a b c => T3.neg) i j (by omega) hj'
  unfold ordOf
  rw [if_neg (by omega)]
  exact this
end Mine
end

section
set_option Elab.async false
set_option maxRecDepth 100000
set_option autoImplicit false
set_option linter.unusedVariables false
namespace Mine
open PySem PySem.Calls PyProof.Rows PySem.W

/-- the law's environment -/
noncomputable def envLaw (q : Str) (L f : Addr) (cd : Value) : Env :=
  { scope := sScope (fstmt 19), locals := L, globals := mainGlobals, cells := [("laid", L + 1 + 1), ("tints", L + 1)], qual := q, func := some f, code := cd, frame := some L, builtins := builtinsNs }

noncomputable def LawAt (c : Cx) (f : Addr) : Prop :=
  ∃ o fd, c.root.get? f = some o ∧ o.data = .func fd ∧ fd.scope = sScope (fstmt 19) ∧ fd.body = .stmts (sBody (fstmt 19)) ∧ fd.globals = mainGlobals ∧ fd.closure = [] ∧ fd.builtins = builtinsNs ∧ c.root.CodeRec fd.code fd.qualname ∧
    ∀ v : Value, bindArgs fd ⟨[v], []⟩ = pure [(Str.ofString "script", v)]

theorem law_entry {c : Cx} {f : Addr} (hl : LawAt c f) {d r : D} {lim : Nat}
    (h : ∀ (F : Fx) (mu : List Addr) (L : Addr), F.c = c → Room F.A lim → (∃ q cd, F.env = envLaw q L f cd) → F.B.get? (L + 1) = none → F.B.get? (L + 1 + 1) = none →
      ST F (Sta F mu [("script", d)] []) (sBody (fstmt 19)) fun fl g => ∃ v, fl = .ret v ∧ Sta F mu [] [] g ∧ At g mu v r) : Fn c (lim + 1) f [d] r := by
  intro A s mu vs R hh hdep hroot hlive hat hR
  obtain ⟨o, fd, hf, hd, hsc, hbody, hgl, hcl, hbl, hcd, hbind⟩ := hl
  obtain ⟨v, vs', rfl, hv, hvs'⟩ := hat.inv
  cases hvs'.inv_nil
  have envE : callEnvC fd s.heap.objs.size f = envLaw (fd.qualname ++ ".<locals>.") s.heap.objs.size f fd.code := by
    unfold callEnvC envLaw newEnv
    rw [hsc, hgl, hbl]
    rfl
  have hkind : (callEnvC fd s.heap.objs.size f).kindOf (Str.ofString "script") = some .local := by rw [envE]; rfl
  refine codeAny_call_cells (by have := hdep.1; lia) (hroot _ _ hf) hd (c.lim.keeps hroot) (hcd.keeps hroot) hbody (hbind v) hcl (fun x hx => ?_) (fun s₁ ic => ?_) (by rw [hsc]; rfl) (by rw [hsc]; rfl) (by rw [hsc]; rfl)
  · rw [List.mem_singleton.mp hx, hsc]
    exact .inl rfl
  rw [envE] at ic ⊢
  have hL : s.heap.get? s.heap.objs.size = none := Heap.get?_none_of_le (Nat.le_refl _)
  have hL1 : s.heap.get? (s.heap.objs.size + 1) = none := Heap.get?_none_of_le (Nat.le_succ _)
  have hL2 : s.heap.get? (s.heap.objs.size + 1 + 1) = none := Heap.get?_none_of_le (by lia)
  obtain ⟨h₁, t₁, rfl⟩ := ic.toInCall.same
  have up := ic.toInCall.keep
  have hmb : ∀ b ∈ mu, b < s.heap.objs.size := fun b hb => by obtain ⟨o, e⟩ := hlive b hb; exact Heap.lt_size e
  have cl : ∀ x a, (envLaw (fd.qualname ++ ".<locals>.") s.heap.objs.size f fd.code).cells.lookup x = some a → (x = Str.ofString "laid" ∧ a = s.heap.objs.size + 1 + 1) ∨ (x = Str.ofString "tints" ∧ a = s.heap.objs.size + 1) := by
    intro x a e
    have e' : ([(Str.ofString "laid", s.heap.objs.size + 1 + 1), (Str.ofString "tints", s.heap.objs.size + 1)] : List (Str × Addr)).lookup x = some a := e
    rw [List.lookup_cons] at e'
    cases hx : x == Str.ofString "laid" with
    | true => rw [hx] at e'; cases e'; exact .inl ⟨beq_iff_eq.mp hx, rfl⟩
    | false =>
      rw [hx] at e'
      simp only [List.lookup_cons] at e'
      cases hx2 : x == Str.ofString "tints" with
      | true => rw [hx2] at e'; cases e'; exact .inr ⟨beq_iff_eq.mp hx2, rfl⟩
      | false => rw [hx2] at e'; cases e'
  have st : Sta ⟨c, A.deeper (envLaw (fd.qualname ++ ".<locals>.") s.heap.objs.size f fd.code), envLaw (fd.qualname ++ ".<locals>.") s.heap.objs.size f fd.code, s.heap⟩
      (s.heap.objs.size :: (s.heap.objs.size + 1) :: (s.heap.objs.size + 1 + 1) :: mu) [("script", d)] [] h₁ := by
    refine ⟨⟨hh, by show A.units + 3 + 100 < cLine; have := hdep.2; lia, rfl, rfl, rfl, hroot, List.mem_cons_self, hL, fun x a e => ?_, fun x a e => ?_, fun x y a e1 e2 => ?_, (fun p hp => nomatch hp), List.Pairwise.nil, List.Pairwise.nil⟩, ?_, up, _, _, ic.toInCall.ns, ic.cell, (fun x d' e => ?_), (fun p hp => nomatch hp)⟩
    · rcases cl x a e with ⟨_, rfl⟩ | ⟨_, rfl⟩
      · exact ⟨show @Ne Nat (s.heap.objs.size + 1 + 1) s.heap.objs.size by lia, by simp⟩
      · exact ⟨show @Ne Nat (s.heap.objs.size + 1) s.heap.objs.size by lia, by simp⟩
    · have e' : (x, a) ∈ [(Str.ofString "laid", s.heap.objs.size + 1 + 1), (Str.ofString "tints", s.heap.objs.size + 1)] := e
      rcases List.mem_cons.mp e' with e' | e'
      · cases e'; rfl
      · cases List.mem_singleton.mp e'; rfl
    · rcases cl x a e1 with ⟨rfl, e3⟩ | ⟨rfl, e3⟩ <;> rcases cl y a e2 with ⟨rfl, e4⟩ | ⟨rfl, e4⟩
      · rfl
      · have e5 : @Eq Nat (s.heap.objs.size + 1 + 1) (s.heap.objs.size + 1) := e3.symm.trans e4
        lia
      · have e5 : @Eq Nat (s.heap.objs.size + 1) (s.heap.objs.size + 1 + 1) := e3.symm.trans e4
        lia
      · rfl
    · intro b hb
      rcases List.mem_cons.mp hb with rfl | hb
      · obtain ⟨o, _, _, ho, _⟩ := ic.toInCall.ns; exact ⟨o, ho⟩
      rcases List.mem_cons.mp hb with rfl | hb
      · obtain ⟨o, ho, _⟩ := ic.cell (Str.ofString "tints") (s.heap.objs.size + 1) rfl; exact ⟨o, ho⟩
      rcases List.mem_cons.mp hb with rfl | hb
      · obtain ⟨o, ho, _⟩ := ic.cell (Str.ofString "laid") (s.heap.objs.size + 1 + 1) rfl; exact ⟨o, ho⟩
      · obtain ⟨o, ho⟩ := hlive b hb; exact ⟨o, up b o ho⟩
    · rw [List.lookup_cons] at e
      cases hx : x == "script" with
      | false => rw [hx] at e; cases e
      | true =>
        rw [hx] at e; cases e
        have hx' := beq_iff_eq.mp hx
        subst hx'
        refine ⟨v, ?_, hv.mono (fun b o _ e => up b o e) fun b o hb ho hb' => ?_⟩
        · rfl
        · rcases List.mem_cons.mp hb' with rfl | hb'
          · rw [hL] at ho; cases ho
          rcases List.mem_cons.mp hb' with rfl | hb'
          · rw [hL1] at ho; cases ho
          rcases List.mem_cons.mp hb' with rfl | hb'
          · rw [hL2] at ho; cases ho
          · exact hb hb'
  have go := h ⟨c, A.deeper (envLaw (fd.qualname ++ ".<locals>.") s.heap.objs.size f fd.code), envLaw (fd.qualname ++ ".<locals>.") s.heap.objs.size f fd.code, s.heap⟩ (s.heap.objs.size :: (s.heap.objs.size + 1) :: (s.heap.objs.size + 1 + 1) :: mu) s.heap.objs.size rfl
    ⟨by show A.depth + 1 + lim ≤ _; have := hdep.1; lia, by show A.units + 3 + 3 * lim + 100 < cLine; have := hdep.2; lia⟩ ⟨_, _, rfl⟩ hL1 hL2
  refine go _ _ _ st fun fl h' tk ⟨v, e, st', a⟩ => ?_
  subst e
  refine hR v _ ⟨h', tk, rfl, st'.keep⟩ (a.sub fun b hb => ?_)
  exact List.mem_cons_of_mem _ (List.mem_cons_of_mem _ (List.mem_cons_of_mem _ hb))
end Mine
end

section
set_option autoImplicit false
set_option linter.unusedVariables false
namespace Mine
/-! the law's data, plain -/
noncomputable abbrev Tri := Int × Int × Int
noncomputable def drawOf (sc : List Int) : List Int := (sc.take 5).map (fun x => x.fmod 1000000) ++ ([323, 140, 608, 774, 468] : List Int).drop (sc.take 5).length
noncomputable def tin (x : Int) : Tri := (x.fmod 4, (x.fdiv 4).fmod 4, (x.fdiv 16).fmod 4)
noncomputable def tin5 (sc : List Int) : List Tri := (drawOf sc).map tin
noncomputable def sums (l : List Tri) : Tri := ((l.map (·.1)).sum, (l.map (·.2.1)).sum, (l.map (·.2.2)).sum)
noncomputable def greyOf (s : Tri) : Int := max (max s.1 s.2.1) s.2.2
noncomputable def tin6 (sc : List Int) : List Tri :=
  tin5 sc ++ [(greyOf (sums (tin5 sc)) - (sums (tin5 sc)).1, greyOf (sums (tin5 sc)) - (sums (tin5 sc)).2.1, greyOf (sums (tin5 sc)) - (sums (tin5 sc)).2.2)]
noncomputable def numI (t : Tri) : Int := 256 * t.1 + 16 * t.2.1 + t.2.2
noncomputable def nums (sc : List Int) : List Int := (tin6 sc).map numI

theorem drawOf_length (sc : List Int) : (drawOf sc).length = 5 := by
  unfold drawOf
  rw [List.length_append, List.length_map, List.length_drop, List.length_take]
  simp; lia
theorem tin_range (x : Int) : (0 ≤ (tin x).1 ∧ (tin x).1 ≤ 3) ∧ (0 ≤ (tin x).2.1 ∧ (tin x).2.1 ≤ 3) ∧ (0 ≤ (tin x).2.2 ∧ (tin x).2.2 ≤ 3) := by
  have h : ∀ y : Int, 0 ≤ y.fmod 4 ∧ y.fmod 4 ≤ 3 := fun y => ⟨Int.fmod_nonneg_of_pos _ (by decide), by have := Int.fmod_lt_of_pos y (b := 4) (by decide); omega⟩
  exact ⟨h _, h _, h _⟩
theorem tin5_length (sc : List Int) : (tin5 sc).length = 5 := by unfold tin5; rw [List.length_map, drawOf_length]
theorem tin5_range (sc : List Int) : ∀ t ∈ tin5 sc, (0 ≤ t.1 ∧ t.1 ≤ 3) ∧ (0 ≤ t.2.1 ∧ t.2.1 ≤ 3) ∧ (0 ≤ t.2.2 ∧ t.2.2 ≤ 3) := by
  intro t ht
  obtain ⟨x, _, rfl⟩ := List.mem_map.mp ht
  exact tin_range x
theorem sum_range (l : List Int) (b : Int) (h : ∀ x ∈ l, 0 ≤ x ∧ x ≤ b) : 0 ≤ l.sum ∧ l.sum ≤ l.length * b := by
  induction l with
  | nil => simp
  | cons x l ih =>
    have h1 := h x List.mem_cons_self
    have h2 := ih fun y hy => h y (List.mem_cons_of_mem _ hy)
    rw [List.sum_cons, List.length_cons]
    have : ((l.length + 1 : Nat) : Int) * b = (l.length : Int) * b + b := by rw [Int.natCast_add, Int.add_mul]; simp
    omega
theorem sums_range (sc : List Int) : (0 ≤ (sums (tin5 sc)).1 ∧ (sums (tin5 sc)).1 ≤ 15) ∧ (0 ≤ (sums (tin5 sc)).2.1 ∧ (sums (tin5 sc)).2.1 ≤ 15) ∧ (0 ≤ (sums (tin5 sc)).2.2 ∧ (sums (tin5 sc)).2.2 ≤ 15) := by
  have g : ∀ f : Tri → Int, (∀ t ∈ tin5 sc, 0 ≤ f t ∧ f t ≤ 3) → 0 ≤ ((tin5 sc).map f).sum ∧ ((tin5 sc).map f).sum ≤ 15 := by
    intro f hf
    have := sum_range ((tin5 sc).map f) 3 (fun x hx => by obtain ⟨t, ht, rfl⟩ := List.mem_map.mp hx; exact hf t ht)
    rw [List.length_map, tin5_length] at this
    exact ⟨this.1, by omega⟩
  exact ⟨g _ fun t ht => (tin5_range sc t ht).1, g _ fun t ht => (tin5_range sc t ht).2.1, g _ fun t ht => (tin5_range sc t ht).2.2⟩
theorem tin6_length (sc : List Int) : (tin6 sc).length = 6 := by unfold tin6; rw [List.length_append, tin5_length]; rfl
theorem grey_range (sc : List Int) : 0 ≤ greyOf (sums (tin5 sc)) ∧ greyOf (sums (tin5 sc)) ≤ 15 := by
  have := sums_range sc
  unfold greyOf; omega
theorem tin6_range (sc : List Int) : ∀ t ∈ tin6 sc, (0 ≤ t.1 ∧ t.1 ≤ 15) ∧ (0 ≤ t.2.1 ∧ t.2.1 ≤ 15) ∧ (0 ≤ t.2.2 ∧ t.2.2 ≤ 15) := by
  intro t ht
  unfold tin6 at ht
  have g := grey_range sc
  have s := sums_range sc
  rcases List.mem_append.mp ht with h | h
  · have t := tin5_range sc t h
    have l : (3 : Int) ≤ 15 := by decide
    exact ⟨⟨t.1.1, Int.le_trans t.1.2 l⟩, ⟨t.2.1.1, Int.le_trans t.2.1.2 l⟩, ⟨t.2.2.1, Int.le_trans t.2.2.2 l⟩⟩
  · rw [List.mem_singleton.mp h]
    have k : ∀ {x : Int}, x ≤ greyOf (sums (tin5 sc)) → 0 ≤ x → 0 ≤ greyOf (sums (tin5 sc)) - x ∧ greyOf (sums (tin5 sc)) - x ≤ 15 := fun h h0 => ⟨Int.sub_nonneg_of_le h, Int.le_trans (Int.sub_le_self _ h0) g.2⟩
    exact ⟨k (Int.le_trans (Int.le_max_left _ _) (Int.le_max_left _ _)) s.1.1, k (Int.le_trans (Int.le_max_right _ _) (Int.le_max_left _ _)) s.2.1.1, k (Int.le_max_right _ _) s.2.2.1⟩
theorem nums_length (sc : List Int) : (nums sc).length = 6 := by unfold nums; rw [List.length_map, tin6_length]
theorem nums_range (sc : List Int) : ∀ n ∈ nums sc, 0 ≤ n ∧ n < 4096 := by
  intro n hn
  obtain ⟨t, ht, rfl⟩ := List.mem_map.mp hn
  have := tin6_range sc t ht
  unfold numI; omega
end Mine
end

section
set_option Elab.async false
set_option maxRecDepth 100000
set_option autoImplicit false
set_option linter.unusedVariables false
namespace Mine
open PySem PySem.Calls PyProof.Rows PySem.W

theorem op_pow {F : Fx} {mu : List Addr} : Op2 F mu .Pow (.int 10) (.int 6) (.int 1000000) := fun s v w Q E _ x y h => by
  obtain ⟨t, rfl⟩ := x.int_inv; obtain ⟨u, rfl⟩ := y.int_inv
  exact AutoIntOps.pow_4 (by decide) (by decide) (by decide) (by decide) (by decide +kernel) (h _ _ (ktoks s _) (.int _ _))

noncomputable def tD (t : Tri) : D := .tup [.int t.1, .int t.2.1, .int t.2.2]
/-- the law's body, from a row on -/
noncomputable def lawB (n : Nat) : List Stmt := (sBody (fstmt 19)).drop n

theorem filterMap_map_some {α : Type} {f : D → Option D} {g : α → D} {h : α → D} (e : ∀ a, f (g a) = some (h a)) (l : List α) : (l.map g).filterMap f = l.map h := by
  induction l with
  | nil => rfl
  | cons a l ih => rw [List.map_cons, List.filterMap_cons, e, List.map_cons, ih]

noncomputable def modF : D → Option D
  | .int x => some (.int (x.fmod 1000000))
  | _ => none
noncomputable def tinF : D → Option D
  | .int x => some (tD (tin x))
  | _ => none

theorem clip5 (n : Nat) : (5 ≤ n ∧ clipAt n 5 = 5) ∨ (n ≤ 5 ∧ clipAt n 5 = n) := by
  unfold clipAt
  rw [if_neg (by decide)]
  rcases Nat.le_total 5 n with h | h
  · rw [Int.min_eq_left (show (5 : Int) ≤ n from Int.ofNat_le.mpr h)]; exact .inl ⟨h, rfl⟩
  · rw [Int.min_eq_right (show (n : Int) ≤ 5 from Int.ofNat_le.mpr h), Int.max_eq_right (Int.natCast_nonneg n)]; exact .inr ⟨h, rfl⟩
theorem take_clip (sc : List Int) : List.take (clipAt (sc.map D.int).length 5 - 0) (List.drop 0 (sc.map D.int)) = (sc.take 5).map D.int := by
  rw [List.map_take, List.drop_zero, Nat.sub_zero, List.length_map]
  rcases clip5 sc.length with ⟨_, e⟩ | ⟨h, e⟩ <;> rw [e]
  rw [List.take_of_length_le (by rw [List.length_map]; exact Nat.le_refl _), List.take_of_length_le (by rw [List.length_map]; exact h)]
theorem draw_tail (sc : List Int) : ∃ m, (sc.take 5).length = m ∧ (m = 0 ∨ m = 1 ∨ m = 2 ∨ m = 3 ∨ m = 4 ∨ m = 5) := ⟨_, rfl, by rw [List.length_take]; lia⟩
theorem look1 {α : Type} {x k : Str} {v d : α} (h : ([(k, v)] : List (Str × α)).lookup x = some d) : x = k ∧ d = v := by
  rw [List.lookup_cons] at h
  cases hx : x == k with
  | true => rw [hx] at h; cases h; exact ⟨beq_iff_eq.mp hx, rfl⟩
  | false => rw [hx] at h; cases h
theorem five_le (sc : List Int) : ((sc.take 5).map (fun x => x.fmod 1000000)).length ≤ 5 := by rw [List.length_map, List.length_take]; exact Nat.min_le_left _ _
theorem take_low {n : Nat} (sc : List Int) (h : 5 ≤ n) : ((sc.take 5).map D.int).length ≤ n := by rw [List.length_map, List.length_take]; exact Nat.le_trans (Nat.min_le_left _ _) h
set_option maxHeartbeats 8000000
theorem law_a1 {c : Cx} (G : Gl c) {q : Str} {L f : Addr} {cd : Value} {A : Around} {B : Heap} {mu : List Addr} {sc : List Int} (hn : sc.length ≤ 63) {Q : Flow → Heap → Prop} (hB : B.get? (L + 1) = none)
    (k : ST ⟨c, A, envLaw q L f cd, B⟩ (Sta ⟨c, A, envLaw q L f cd, B⟩ mu [("draw", .lst ((drawOf sc).map .int))] []) (lawB 2) Q) :
    ST ⟨c, A, envLaw q L f cd, B⟩ (Sta ⟨c, A, envLaw q L f cd, B⟩ mu [("script", .lst (sc.map .int))] []) (lawB 0) Q := by
  have no : ∀ {x : Str}, ∀ p ∈ ([] : Owned), p.1 ≠ x := fun p hp => nomatch hp
  refine st_seq (R := Sta ⟨c, A, envLaw q L f cd, B⟩ mu [("draw", .lst (((sc.take 5).map (fun x => x.fmod 1000000)).map .int))] []) ?_ ?_
  · have hsl : ∀ {ρ' : Vars}, ρ'.lookup (Str.ofString "script") = some (.lst (sc.map .int)) → ∀ {p p1 p2 : Pos} {kk : Nat} {p3 : Pos}, PE ⟨c, A, envLaw q L f cd, B⟩ mu ρ' [] (.Subscript (.Name (Str.ofString "script") p) (.Slice none (some (.Constant (.int 5) kk p3)) none p1) p2) (.lst ((sc.take 5).map .int)) := by
      intro ρ' h p p1 p2 kk p3
      refine pe_conv (pe_slice_lst (i := none) (j := some 5) (pe_var h) pb_none (pb_some pe_int) (by simp; lia)) ?_
      exact congrArg D.lst (take_clip sc)
    refine (st_assign_comp (f := modF) (bs := fun d => [("x", d)]) (ρ' := []) (own' := []) (it_list (ds := (sc.take 5).map .int) (hsl rfl)).w (comp_ok rfl rfl (by decide +kernel) (fun _ => rfl) (fun _ => rfl)) (take_low sc (by decide))
      rfl no rfl no_vis (List.Sublist.refl _) no_ownv no_bs no_bo ?_ ?_).post fun fl g ⟨e1, e2⟩ => ⟨e1, ?_⟩
    · intro C B' d hd _
      exact tg_name (.inl rfl)
    · intro C B' mu' d hd
      obtain ⟨x, _, rfl⟩ := List.mem_map.mp hd
      refine ⟨pif_nil, fun r hr => ?_⟩
      have : r = .int (x.fmod 1000000) := (Option.some.inj hr).symm
      subst this
      exact pe_bin (pe_var rfl) (pe_bin pe_int pe_int op_pow) (op_mod_int (by decide))
    · rw [filterMap_map_some (f := modF) (g := D.int) (h := fun (x : Int) => .int (x.fmod 1000000)) (fun x => rfl)] at e2
      rw [List.map_map]
      exact e2.less (less_cons rfl less_nil)
  · refine st_seq (R := Sta ⟨c, A, envLaw q L f cd, B⟩ mu [("draw", .lst ((drawOf sc).map .int))] []) ?_ k
    have hlen := five_le sc
    refine (st_assign (pe_bin (pe_var rfl) (pe_slice_lst (i := some (((sc.take 5).map (fun x => x.fmod 1000000)).length : Int)) (j := none) (pe_list (ds := [.int 323, .int 140, .int 608, .int 774, .int 468]) (.cons pe_int (.cons pe_int (.cons pe_int (.cons pe_int (.cons pe_int .nil))))))
      (pb_some (pe_conv (pe_blt (blt_len_lst (by rw [List.length_map]; lia)) (.cons (pe_var rfl) .nil) G.n_len (by decide +kernel)) (by rw [List.length_map]))) pb_none (by decide)) (op_add_lst (by simp; lia))) (.inl rfl) no).post fun fl g ⟨e1, e2⟩ => ⟨e1, e2.less (less_cons ?_ less_nil)⟩
    have hd : (List.map D.int ([323, 140, 608, 774, 468].drop (sc.take 5).length)) = [D.int 323, .int 140, .int 608, .int 774, .int 468].drop (sc.take 5).length := by rw [List.map_drop]; rfl
    show some (D.lst _) = some (D.lst _)
    unfold drawOf
    rw [List.map_append, hd]
    congr 2
    rw [List.length_map]
    obtain ⟨m, hm, this⟩ := draw_tail sc
    rw [hm]
    rcases this with rfl | rfl | rfl | rfl | rfl | rfl <;> rfl

theorem PN.conv {F : Fx} {mu : List Addr} {ρ : Vars} {own : Owned} {e : Expr} {ds ds' : List D} (x : PN F mu ρ own e ds) (h : ds = ds') : PN F mu ρ own e ds' := h ▸ x

noncomputable def firstF (j : Nat) : D → Option D
  | .tup ds => ds[j]?
  | _ => none
noncomputable def numF : D → Option D
  | .tup [.int a, .int b, .int c] => some (.int (256 * a + 16 * b + c))
  | _ => none
noncomputable def partI (t : Tri) : Nat → Int
  | 0 => t.1
  | 1 => t.2.1
  | _ => t.2.2
noncomputable def sumF (ts : List Tri) : D → Option D
  | .int j => some (.int ((ts.map fun t => partI t j.toNat).sum))
  | _ => none

theorem part_at {i : Nat} (h : i < (3 : Int).toNat) (t : Tri) : firstF i (tD t) = some (.int (partI t i)) ∧ seqIndex? (i : Int) ([D.int t.1, .int t.2.1, .int t.2.2] : List D).length = some i ∧ ([D.int t.1, .int t.2.1, .int t.2.2] : List D)[i]? = some (.int (partI t i)) ∧ (-100000 ≤ (i : Int) ∧ (i : Int) ≤ 100000) := by
  have hi : i = 0 ∨ i = 1 ∨ i = 2 := by
    have h : i < 3 := h
    lia
  rcases hi with rfl | rfl | rfl <;> exact ⟨rfl, rfl, rfl, by decide⟩
theorem max_mem (a b : Int) : max a b = a ∨ max a b = b := by
  rcases Int.le_total a b with h | h
  · exact .inr (Int.max_eq_right h)
  · exact .inl (Int.max_eq_left h)
theorem grey_mem (s : Tri) : greyOf s ∈ [s.1, s.2.1, s.2.2] ∧ ∀ x ∈ [s.1, s.2.1, s.2.2], x ≤ greyOf s := by
  unfold greyOf
  constructor
  · rcases max_mem (max s.1 s.2.1) s.2.2 with e | e <;> rw [e]
    · rcases max_mem s.1 s.2.1 with e | e <;> rw [e]
      · exact List.mem_cons_self
      · exact List.mem_cons_of_mem _ List.mem_cons_self
    · exact List.mem_cons_of_mem _ (List.mem_cons_of_mem _ List.mem_cons_self)
  · intro x hx
    rcases List.mem_cons.mp hx with rfl | hx
    · exact Int.le_trans (Int.le_max_left _ _) (Int.le_max_left _ _)
    rcases List.mem_cons.mp hx with rfl | hx
    · exact Int.le_trans (Int.le_max_right _ _) (Int.le_max_left _ _)
    · rw [List.mem_singleton.mp hx]; exact Int.le_max_right _ _
theorem law_a2 {c : Cx} (G : Gl c) {q : Str} {L f : Addr} {cd : Value} {A : Around} {B : Heap} {mu : List Addr} {sc : List Int} {Q : Flow → Heap → Prop} (hB : B.get? (L + 1) = none)
    (k : ST ⟨c, A, envLaw q L f cd, B⟩ (Sta ⟨c, A, envLaw q L f cd, B⟩ mu [("numbers", .lst ((nums sc).map .int)), ("grey", .int (greyOf (sums (tin5 sc)))), ("draw", .lst ((drawOf sc).map .int))] []) (lawB 7) Q) :
    ST ⟨c, A, envLaw q L f cd, B⟩ (Sta ⟨c, A, envLaw q L f cd, B⟩ mu [("draw", .lst ((drawOf sc).map .int))] []) (lawB 2) Q := by
  have no : ∀ {x : Str}, ∀ p ∈ ([] : Owned), p.1 ≠ x := fun p hp => nomatch hp
  have dl := drawOf_length sc
  refine st_seq (st_own (ds := (tin5 sc).map tD) (PN.conv (pn_comp (f := tinF) (bs := fun d => [("x", d)]) (ρ' := []) (own' := []) (cl := []) (jc := none) (it_list (ds := (drawOf sc).map .int) (pe_var rfl)).w (comp_ok rfl rfl (by decide +kernel) (fun _ => rfl) (fun _ => rfl)) (by simp; lia) no_vis (List.Sublist.refl _) no_ownv no_bs no_bo
      (fun C B' d hd _ => tg_name (.inl rfl)) (fun C B' mu' d hd => ?bd)) ?cv) (.inr ⟨rfl, L + 1, rfl, hB⟩) no rfl) (st_exi fun a => st_fact fun ham => st_fact fun okF => ?_)
  case bd =>
    obtain ⟨x, _, rfl⟩ := List.mem_map.mp hd
    refine ⟨pif_nil, fun r hr => ?_⟩
    have : r = tD (tin x) := (Option.some.inj hr).symm
    subst this
    exact pe_tuple (ds := [.int (x.fmod 4), .int ((x.fdiv 4).fmod 4), .int ((x.fdiv 16).fmod 4)]) (.cons (pe_bin (pe_var rfl) pe_int (op_mod_int (by decide))) (.cons (pe_bin (pe_bin (pe_var rfl) pe_int (op_fdiv_int (by decide) (PyProof.noPylong_small (by decide)))) pe_int (op_mod_int (by decide)))
      (.cons (pe_bin (pe_bin (pe_var rfl) pe_int (op_fdiv_int (by decide) (PyProof.noPylong_small (by decide)))) pe_int (op_mod_int (by decide))) .nil)))
  case cv =>
    rw [filterMap_map_some (f := tinF) (g := D.int) (h := fun x => tD (tin x)) (fun x => rfl)]
    unfold tin5; rw [List.map_map]; rfl
  -- sums
  refine st_seq (R := Sta ⟨c, A, envLaw q L f cd, B⟩ (a :: mu) [("sums", .lst [.int (sums (tin5 sc)).1, .int (sums (tin5 sc)).2.1, .int (sums (tin5 sc)).2.2]), ("draw", .lst ((drawOf sc).map .int))] [("tints", a, (tin5 sc).map tD)]) ?_ ?_
  · have vis : ∀ {scope : Scope} {x : Str}, ([("tints", L + 1)] : List (Str × Addr)).lookup x = some (L + 1) → ((relabel scope (envLaw q L f cd)).names.lookup x = some .cell ∨ (relabel scope (envLaw q L f cd)).names.lookup x = some .free) → x = "tints" → Vis ⟨c, A, envLaw q L f cd, B⟩ scope [("tints", L + 1)] x := by
      intro scope x h1 h2 h3
      subst h3
      exact ⟨by rw [h1]; rfl, .inl rfl, h2⟩
    refine (st_assign_comp (f := sumF (tin5 sc)) (bs := fun d => [("j", d)]) (ρ' := []) (own' := [("tints", a, (tin5 sc).map tD)]) (cl := [("tints", L + 1)]) (jc := some (Str.ofString "j")) (it_range1 (b := 3) pe_int (by decide) G.n_range).w
      ⟨rfl, rfl, by decide +kernel, fun _ => rfl, fun _ => rfl, fun x a h => ?s1, fun x a h => ?s2, fun j h => by cases h; rfl⟩ (by decide) rfl (fun p hp => by rw [List.mem_singleton.mp hp]; show Str.ofString "tints" ≠ Str.ofString "sums"; decide) rfl no_vis (List.Sublist.refl _) (fun p hp => ?vo) no_bs (fun d p hp b hb => ?bo) ?tg ?bd2).post fun fl g ⟨e1, e2⟩ => ⟨e1, ?fin⟩
    case s1 =>
      have h' : ([(Str.ofString "tints", L + 1)] : List (Str × Addr)).lookup x = some a := h
      obtain ⟨rfl, rfl⟩ := look1 h'
      rfl
    case s2 => cases List.mem_singleton.mp h; rfl
    case vo => rw [List.mem_singleton.mp hp]; exact vis rfl (by first | exact .inl rfl | exact .inr rfl) rfl
    case bo => rw [List.mem_singleton.mp hp, List.mem_singleton.mp hb]; show Str.ofString "tints" ≠ Str.ofString "j"; decide
    case tg =>
      intro C B' d hd hnew
      exact tg_name (.inr ⟨rfl, C + 1, rfl, hnew (C + 1) List.mem_cons_self⟩)
    case bd2 =>
      intro C B' mu' d hd
      obtain ⟨i, hi⟩ := List.getElem?_of_mem hd
      obtain ⟨hi3, rfl⟩ := ups_get hi
      refine ⟨pif_nil, fun r hr => ?_⟩
      have hj : (0 + (i : Nat) : Int) = (i : Int) := by lia
      rw [hj] at hr ⊢
      have : r = .int (((tin5 sc).map fun t => partI t i).sum) := (Option.some.inj hr).symm
      subst this
      refine pe_blt blt_sum (.cons (pe_conv (pn_comp (f := firstF i) (bs := fun d => [("tint", d)]) (ρ' := [("j", .int i)]) (own' := []) (cl := [("j", C + 1)]) (jc := none) (it_own List.mem_cons_self)
        ⟨rfl, rfl, by decide +kernel, fun _ => rfl, fun _ => rfl, fun x a h => ?t1, fun x a h => ?t2, fun j h => nomatch h⟩ (by rw [List.length_map, tin5_length]; decide) (fun x d h => ?t3) (List.nil_sublist _) no_ownv (fun d y e h => ?t4) no_bo
        (fun C2 B2 d hd _ => tg_name (.inl rfl)) (fun C2 B2 mu2 d hd => ?t5)).pe ?t6) .nil) G.n_sum (by decide +kernel)
      case t1 =>
        obtain ⟨rfl, rfl⟩ := look1 h
        rfl
      case t2 => cases List.mem_singleton.mp h; rfl
      case t3 =>
        obtain ⟨rfl, rfl⟩ := look1 h
        exact ⟨rfl, rfl, by first | exact .inl rfl | exact .inr rfl, by first | exact .inl rfl | exact .inr rfl⟩
      case t4 =>
        obtain ⟨rfl, rfl⟩ := look1 h
        rfl
      case t5 =>
        obtain ⟨t, _, rfl⟩ := List.mem_map.mp hd
        obtain ⟨q1, q2, q3, q4⟩ := part_at hi3 t
        refine ⟨by rw [q1]; exact pif_nil, fun r hr => ?_⟩
        have : r = .int (partI t i) := (Option.some.inj (q1.symm.trans hr)).symm
        subst this
        exact pe_sub_tup (ds := [.int t.1, .int t.2.1, .int t.2.2]) (pe_var rfl) (pe_var rfl) q2 q3 q4
      case t6 =>
        rw [filterMap_map_some (f := firstF i) (g := tD) (h := fun t => .int (partI t i)) (fun t => (part_at hi3 t).1), List.map_map]; rfl
    case fin =>
      refine e2.less (less_cons ?_ (less_cons rfl less_nil))
      rfl
  have hs := sums_range sc
  have hno : ∀ {x : Str}, Str.ofString "tints" ≠ x → ∀ p ∈ ([("tints", a, (tin5 sc).map tD)] : Owned), p.1 ≠ x := fun h p hp => by rw [List.mem_singleton.mp hp]; exact h
  have hno6 : ∀ {x : Str}, Str.ofString "tints" ≠ x → ∀ p ∈ ([("tints", a, (tin6 sc).map tD)] : Owned), p.1 ≠ x := fun h p hp => by rw [List.mem_singleton.mp hp]; exact h
  -- grey
  refine st_seq (st_assign (pe_blt (blt_max (ns := [(sums (tin5 sc)).1, (sums (tin5 sc)).2.1, (sums (tin5 sc)).2.2]) (r := greyOf (sums (tin5 sc))) ?_ ?_) (.cons (pe_var rfl) .nil) G.n_max (by decide +kernel)) (.inl rfl) (hno (by decide))) ?_
  · exact (grey_mem _).1
  · exact (grey_mem _).2
  -- the sixth
  refine st_seq (st_append (pe_tuple (ds := [.int (greyOf (sums (tin5 sc)) - (sums (tin5 sc)).1), .int (greyOf (sums (tin5 sc)) - (sums (tin5 sc)).2.1), .int (greyOf (sums (tin5 sc)) - (sums (tin5 sc)).2.2)])
    (.cons (pe_bin (pe_var rfl) (pe_sub_lst (ds := [.int (sums (tin5 sc)).1, .int (sums (tin5 sc)).2.1, .int (sums (tin5 sc)).2.2]) (pe_var rfl) pe_int rfl rfl (by decide)) op_sub_int) (.cons (pe_bin (pe_var rfl) (pe_sub_lst (ds := [.int (sums (tin5 sc)).1, .int (sums (tin5 sc)).2.1, .int (sums (tin5 sc)).2.2]) (pe_var rfl) pe_int rfl rfl (by decide)) op_sub_int) (.cons (pe_bin (pe_var rfl) (pe_sub_lst (ds := [.int (sums (tin5 sc)).1, .int (sums (tin5 sc)).2.1, .int (sums (tin5 sc)).2.2]) (pe_var rfl) pe_int rfl rfl (by decide)) op_sub_int) .nil)))) (by rw [List.length_map, tin5_length]; decide)) ?_
  have e6 : (tin5 sc).map tD ++ [D.tup [.int (greyOf (sums (tin5 sc)) - (sums (tin5 sc)).1), .int (greyOf (sums (tin5 sc)) - (sums (tin5 sc)).2.1), .int (greyOf (sums (tin5 sc)) - (sums (tin5 sc)).2.2)]] = (tin6 sc).map tD := by
    unfold tin6; rw [List.map_append]; rfl
  rw [e6]
  -- numbers
  refine st_seq (R := Sta ⟨c, A, envLaw q L f cd, B⟩ (a :: mu) [("numbers", .lst ((nums sc).map .int)), ("grey", .int (greyOf (sums (tin5 sc)))), ("draw", .lst ((drawOf sc).map .int))] [("tints", a, (tin6 sc).map tD)]) ?_ ?_
  · refine (st_assign_comp (f := numF) (bs := fun d => [("tint", d)]) (ρ' := []) (own' := []) (it_own List.mem_cons_self) (comp_ok rfl rfl (by decide +kernel) (fun _ => rfl) (fun _ => rfl)) (by rw [List.length_map, tin6_length]; decide)
      rfl (hno6 (by decide)) rfl no_vis (List.nil_sublist _) no_ownv no_bs no_bo (fun C B' d hd _ => tg_name (.inl rfl)) ?_).post fun fl g ⟨e1, e2⟩ => ⟨e1, ?_⟩
    · intro C B' mu' d hd
      obtain ⟨t, ht, rfl⟩ := List.mem_map.mp hd
      refine ⟨pif_nil, fun r hr => ?_⟩
      have : r = .int (256 * t.1 + 16 * t.2.1 + t.2.2) := (Option.some.inj hr).symm
      subst this
      have b := tin6_range sc t ht
      exact pe_bin (pe_bin (pe_bin pe_int (pe_sub_tup (ds := [.int t.1, .int t.2.1, .int t.2.2]) (pe_var rfl) pe_int rfl rfl (by decide)) (op_mul_int (mul_ok (by decide)))) (pe_bin pe_int (pe_sub_tup (ds := [.int t.1, .int t.2.1, .int t.2.2]) (pe_var rfl) pe_int rfl rfl (by decide)) (op_mul_int (mul_ok (by decide)))) op_add_int)
        (pe_sub_tup (ds := [.int t.1, .int t.2.1, .int t.2.2]) (pe_var rfl) pe_int rfl rfl (by decide)) op_add_int
    · rw [filterMap_map_some (f := numF) (g := tD) (h := fun t => .int (numI t)) (fun t => rfl)] at e2
      rw [show (nums sc).map D.int = (tin6 sc).map fun t => .int (numI t) by unfold nums; rw [List.map_map]; rfl]
      exact e2.less (less_cons rfl (less_cons rfl (less_cons rfl less_nil)))
  · exact k.pre fun g p => (p.freeze ham okF).less (less_cons rfl (less_cons rfl (less_cons rfl less_nil)))
end Mine
end

section
set_option Elab.async false
set_option maxRecDepth 100000
set_option autoImplicit false
set_option linter.unusedVariables false
namespace Mine
open PySem PySem.Calls PyProof.Rows PySem.W
open PySem.Builtin

/-- words, each behind a blank -/
noncomputable def spaced (ws : List (List UInt8)) : List UInt8 := (ws.map fun w => (32 : UInt8) :: w).flatten

theorem words_blank (f l : Nat) (x : List UInt8) : Bytes.words f l (32 :: x) = Bytes.words f l x := by
  cases f with
  | zero => rfl
  | succ f =>
    unfold Bytes.words
    rw [show List.dropWhile Bytes.isSpace (32 :: x) = List.dropWhile Bytes.isSpace x from rfl]

theorem take_word {w t : List UInt8} (hw : ∀ c ∈ w, Bytes.isSpace c = false) (ht : t = [] ∨ ∃ y, t = 32 :: y) : (w ++ t).takeWhile (fun c => !Bytes.isSpace c) = w ∧ (w ++ t).dropWhile (fun c => !Bytes.isSpace c) = t := by
  induction w with
  | nil =>
    rcases ht with rfl | ⟨y, rfl⟩
    · exact ⟨rfl, rfl⟩
    · exact ⟨rfl, rfl⟩
  | cons c w ih =>
    have hc := hw c List.mem_cons_self
    have := ih fun d hd => hw d (List.mem_cons_of_mem _ hd)
    rw [List.cons_append, List.takeWhile_cons, List.dropWhile_cons]
    simp only [hc, Bool.not_false, if_true]
    exact ⟨by rw [this.1], this.2⟩

theorem spaced_head (ws : List (List UInt8)) : spaced ws = [] ∨ ∃ y, spaced ws = 32 :: y := by
  cases ws with
  | nil => exact .inl rfl
  | cons w ws => exact .inr ⟨_, rfl⟩

theorem words_spaced : ∀ (ws : List (List UInt8)) (f l : Nat), (∀ w ∈ ws, ∀ c ∈ w, Bytes.isSpace c = false) → (spaced ws).length < f → (spaced ws).length < l → Bytes.words f l (spaced ws) = ws.filter fun w => !w.isEmpty
  | [], f, l, _, hf, hl => by
    cases f with
    | zero => simp at hf
    | succ f => rfl
  | w :: ws, f, l, hw, hf, hl => by
    have e : spaced (w :: ws) = 32 :: (w ++ spaced ws) := rfl
    rw [e] at hf hl ⊢
    rw [List.length_cons, List.length_append] at hf hl
    rw [words_blank]
    cases w with
    | nil =>
      rw [List.filter_cons]
      simp only [List.nil_append, List.isEmpty_nil, Bool.not_true, Bool.false_eq_true, if_false]
      exact words_spaced ws f l (fun w h => hw w (List.mem_cons_of_mem _ h)) (by simp at hf; lia) (by simp at hl; lia)
    | cons c w =>
      obtain ⟨f, rfl⟩ : ∃ f', f = f' + 1 := ⟨f - 1, by lia⟩
      have hc := hw (c :: w) List.mem_cons_self c List.mem_cons_self
      have tw := take_word (hw (c :: w) List.mem_cons_self) (spaced_head ws)
      unfold Bytes.words
      have hd : List.dropWhile Bytes.isSpace (c :: w ++ spaced ws) = c :: w ++ spaced ws := by
        rw [List.cons_append, List.dropWhile_cons, hc]; rfl
      rw [hd]
      have hl0 : (l == 0) = false := by simp; lia
      show (if (l == 0) = true then _ else _) = _
      rw [hl0]
      simp only [Bool.false_eq_true, if_false]
      rw [List.filter_cons]
      simp only [List.isEmpty_cons, Bool.not_false, if_true]
      have ih := words_spaced ws f (l - 1) (fun w h => hw w (List.mem_cons_of_mem _ h)) (by simp at hf; lia) (by simp at hl; lia)
      have tw1 : List.takeWhile (fun x => !Bytes.isSpace x) (c :: w ++ spaced ws) = c :: w := tw.1
      have tw2 : List.dropWhile (fun x => !Bytes.isSpace x) (c :: w ++ spaced ws) = spaced ws := tw.2
      rw [tw1, tw2, ih]

theorem words_first (w : List UInt8) (ws : List (List UInt8)) (f l : Nat) (hw : ∀ u ∈ w :: ws, ∀ c ∈ u, Bytes.isSpace c = false) (hf : (w ++ spaced ws).length < f) (hl : (w ++ spaced ws).length < l) :
    Bytes.words f l (w ++ spaced ws) = (w :: ws).filter fun w => !w.isEmpty := by
  rw [List.length_append] at hf hl
  cases w with
  | nil =>
    rw [List.filter_cons]
    simp only [List.nil_append, List.isEmpty_nil, Bool.not_true, Bool.false_eq_true, if_false]
    exact words_spaced ws f l (fun w h => hw w (List.mem_cons_of_mem _ h)) (by simp at hf; lia) (by simp at hl; lia)
  | cons c w =>
    obtain ⟨f, rfl⟩ : ∃ f', f = f' + 1 := ⟨f - 1, by lia⟩
    have hc := hw (c :: w) List.mem_cons_self c List.mem_cons_self
    have tw := take_word (hw (c :: w) List.mem_cons_self) (spaced_head ws)
    unfold Bytes.words
    have hd : List.dropWhile Bytes.isSpace (c :: w ++ spaced ws) = c :: w ++ spaced ws := by
      rw [List.cons_append, List.dropWhile_cons, hc]; rfl
    rw [hd]
    have hl0 : (l == 0) = false := by simp; lia
    show (if (l == 0) = true then _ else _) = _
    rw [hl0]
    simp only [Bool.false_eq_true, if_false]
    rw [List.filter_cons]
    simp only [List.isEmpty_cons, Bool.not_false, if_true]
    have ih := words_spaced ws f (l - 1) (fun w h => hw w (List.mem_cons_of_mem _ h)) (by simp at hf; lia) (by simp at hl; lia)
    have tw1 : List.takeWhile (fun x => !Bytes.isSpace x) (c :: w ++ spaced ws) = c :: w := tw.1
    have tw2 : List.dropWhile (fun x => !Bytes.isSpace x) (c :: w ++ spaced ws) = spaced ws := tw.2
    rw [tw1, tw2, ih]

theorem joined_list (w : Array UInt8) (ws : List (Array UInt8)) : (Bytes.joined #[32] (w :: ws)).toList = w.toList ++ spaced (ws.map Array.toList) := by
  have gen : ∀ (ws : List (Array UInt8)) (k : Nat) (acc : Array UInt8), 0 < k → ((ws.zipIdx k).foldl (fun out (x : Array UInt8 × Nat) => (if x.2 > 0 then out ++ #[32] else out) ++ x.1) acc).toList = acc.toList ++ spaced (ws.map Array.toList) := by
    intro ws
    induction ws with
    | nil => intro k acc hk; simp [spaced]
    | cons v ws ih =>
      intro k acc hk
      rw [List.zipIdx_cons, List.foldl_cons, ih (k + 1) _ (by lia)]
      simp only [gt_iff_lt, hk, if_true]
      simp [spaced]
  unfold Bytes.joined
  rw [List.zipIdx_cons, List.foldl_cons]
  show ((ws.zipIdx 1).foldl (fun out (x : Array UInt8 × Nat) => (if x.2 > 0 then out ++ #[32] else out) ++ x.1) (#[] ++ w)).toList = _
  rw [gen ws 1 _ (by lia)]
  simp

theorem spaced_length (ws : List (List UInt8)) (n : Nat) (h : ∀ w ∈ ws, w.length ≤ n) : (spaced ws).length ≤ ws.length * (n + 1) := by
  induction ws with
  | nil => simp [spaced]
  | cons w ws ih =>
    have h1 := h w List.mem_cons_self
    have h2 := ih fun v hv => h v (List.mem_cons_of_mem _ hv)
    have e : spaced (w :: ws) = 32 :: (w ++ spaced ws) := rfl
    rw [e, List.length_cons, List.length_append, List.length_cons, Nat.add_mul]
    lia
theorem spaced_mem (ws : List (List UInt8)) {c : UInt8} (h : c ∈ spaced ws) : c = 32 ∨ ∃ w ∈ ws, c ∈ w := by
  unfold spaced at h
  obtain ⟨l, hl, hc⟩ := List.mem_flatten.mp h
  obtain ⟨w, hw, rfl⟩ := List.mem_map.mp hl
  rcases List.mem_cons.mp hc with rfl | hc
  · exact .inl rfl
  · exact .inr ⟨w, hw, hc⟩

/-- what the reply tells -/
theorem split_joined {w v : Array UInt8} {ws : List (Array UInt8)} (h : ∀ u ∈ w :: v :: ws, ∀ c ∈ u.toList, Bytes.isSpace c = false) : splitW (Bytes.joined #[32] (w :: v :: ws)) = (w :: v :: ws).filter fun u => !u.isEmpty := by
  have jl := joined_list w (v :: ws)
  have hb : (!(Bytes.joined #[32] (w :: v :: ws)).isEmpty && !(Bytes.joined #[32] (w :: v :: ws)).any Bytes.isSpace) = false := by
    have : (Bytes.joined #[32] (w :: v :: ws)).any Bytes.isSpace = true := by
      rw [← Array.any_toList, jl, List.any_append]
      rw [show spaced ((v :: ws).map Array.toList) = 32 :: (v.toList ++ spaced (ws.map Array.toList)) from rfl, List.any_cons]
      simp [Bytes.isSpace]
    rw [this]; simp
  unfold splitW
  rw [if_neg (by rw [hb]; simp)]
  have sz : (Bytes.joined #[32] (w :: v :: ws)).size = (w.toList ++ spaced ((v :: ws).map Array.toList)).length := by rw [← jl]; simp
  have e := words_first w.toList ((v :: ws).map Array.toList) ((Bytes.joined #[32] (w :: v :: ws)).size + 1) ((Bytes.joined #[32] (w :: v :: ws)).size + 1) (fun u hu => by
    have hu' : u ∈ (w :: v :: ws).map Array.toList := hu
    obtain ⟨x, hx, rfl⟩ := List.mem_map.mp hu'
    exact h x hx) (by rw [← sz]; lia) (by rw [← sz]; lia)
  rw [jl, e]
  have : w.toList :: (v :: ws).map Array.toList = (w :: v :: ws).map Array.toList := rfl
  rw [this, List.filter_map, List.map_map]
  have hid : (List.toArray ∘ Array.toList : Array UInt8 → Array UInt8) = _root_.id := by funext x; simp
  rw [hid, List.map_id]
  congr 1
  funext u
  simp
end Mine
end

section
set_option Elab.async false
set_option maxRecDepth 100000
set_option autoImplicit false
set_option linter.unusedVariables false
namespace Mine
open PySem PySem.Calls PyProof.Rows PySem.W
open PySem.Builtin

/-- the word of a number, as it stands -/
noncomputable def wA (n : Int) : Array UInt8 := (word n.toNat).toArray
noncomputable def wordsOf (sc : List Int) : List (Array UInt8) := (nums sc).map wA
noncomputable def toldOf (sc : List Int) : List (Array UInt8) := (wordsOf sc).filter fun w => !w.isEmpty

theorem wordF_mem : ∀ (f n : Nat) (c : UInt8), c ∈ wordF f n → ∃ d, d < 16 ∧ c = apOf d
  | 0, n, c, h => by simp [wordF] at h
  | f + 1, n, c, h => by
    unfold wordF at h
    split at h
    · cases h
    · rcases List.mem_append.mp h with h | h
      · exact wordF_mem f _ c h
      · rw [List.mem_singleton.mp h]; exact ⟨n % 16, Nat.mod_lt _ (by decide), rfl⟩
theorem apOf_facts : ∀ d : Fin 16, (apOf d.val).toNat = 65 + d.val ∧ Bytes.isSpace (apOf d.val) = false ∧ apOf d.val ≠ 41 ∧ apOf d.val ≠ 10 ∧ apOf d.val ≠ 83 := by decide
theorem wA_mem {n : Int} {c : UInt8} (h : c ∈ (wA n).toList) : ∃ d, d < 16 ∧ c = apOf d := wordF_mem 8 n.toNat c (by simpa [wA, word] using h)
theorem wA_size (n : Int) : (wA n).size ≤ 8 := by
  have := wordF_len 8 n.toNat
  unfold wA word; rw [List.size_toArray]; exact this
theorem wordsOf_length (sc : List Int) : (wordsOf sc).length = 6 := by unfold wordsOf; rw [List.length_map, nums_length]

theorem six (sc : List Int) : ∃ a b c d e f, wordsOf sc = [a, b, c, d, e, f] := by
  have h := wordsOf_length sc
  generalize wordsOf sc = l at h
  match l, h with
  | [a, b, c, d, e, f], _ => exact ⟨a, b, c, d, e, f, rfl⟩

/-- the reply's inside -/
noncomputable def bodyOf (sc : List Int) : Array UInt8 := Bytes.joined #[32] (wordsOf sc)
theorem body_list (sc : List Int) : ∃ w ws, wordsOf sc = w :: ws ∧ (bodyOf sc).toList = w.toList ++ spaced (ws.map Array.toList) := by
  obtain ⟨a, b, c, d, e, f, h⟩ := six sc
  exact ⟨a, [b, c, d, e, f], h, by unfold bodyOf; rw [h]; exact joined_list _ _⟩
theorem body_size (sc : List Int) : (bodyOf sc).size ≤ 100 := by
  obtain ⟨w, ws, h, e⟩ := body_list sc
  have hl := wordsOf_length sc
  have hs : ∀ v ∈ wordsOf sc, v.size ≤ 8 := fun v hv => by obtain ⟨n, _, rfl⟩ := List.mem_map.mp hv; exact wA_size n
  rw [h] at hl hs
  have h1 := hs w List.mem_cons_self
  have h2 := spaced_length (ws.map Array.toList) 8 fun v hv => by obtain ⟨u, hu, rfl⟩ := List.mem_map.mp hv; simpa using hs u (List.mem_cons_of_mem _ hu)
  rw [List.length_map] at h2
  have : (bodyOf sc).size = (w.toList ++ spaced (ws.map Array.toList)).length := by rw [← e]; simp
  rw [this, List.length_append]
  simp at hl ⊢
  lia
theorem body_mem (sc : List Int) : ∀ x ∈ bodyOf sc, x ≠ 41 ∧ x ≠ 10 ∧ x ≠ 83 := by
  intro x hx
  obtain ⟨w, ws, h, e⟩ := body_list sc
  have hx' : x ∈ (bodyOf sc).toList := by simpa using hx
  have key : ∀ v ∈ wordsOf sc, x ∈ v.toList → x ≠ 41 ∧ x ≠ 10 ∧ x ≠ 83 := by
    intro v hv hxv
    obtain ⟨n, _, rfl⟩ := List.mem_map.mp hv
    obtain ⟨d, hd, rfl⟩ := wA_mem hxv
    exact (apOf_facts ⟨d, hd⟩).2.2
  rw [e] at hx'
  rw [h] at key
  rcases List.mem_append.mp hx' with hx' | hx'
  · exact key w List.mem_cons_self hx'
  · rcases spaced_mem _ hx' with rfl | ⟨v, hv, hxv⟩
    · decide
    · obtain ⟨u, hu, rfl⟩ := List.mem_map.mp hv
      exact key u (List.mem_cons_of_mem _ hu) hxv
theorem body_split (sc : List Int) : splitW (bodyOf sc) = toldOf sc := by
  obtain ⟨a, b, c, d, e, f, h⟩ := six sc
  unfold bodyOf toldOf
  have hm : ∀ v ∈ wordsOf sc, ∀ c ∈ v.toList, Bytes.isSpace c = false := by
    intro v hv c hc
    obtain ⟨n, _, rfl⟩ := List.mem_map.mp hv
    obtain ⟨d, hd, rfl⟩ := wA_mem hc
    exact (apOf_facts ⟨d, hd⟩).2.1
  rw [h] at hm ⊢
  exact split_joined hm
theorem told_size (sc : List Int) : (toldOf sc).length ≤ 6 ∧ ∀ w ∈ toldOf sc, w.size ≤ 8 := by
  refine ⟨?_, fun w hw => ?_⟩
  · have := List.length_filter_le (fun w : Array UInt8 => !w.isEmpty) (wordsOf sc)
    rw [wordsOf_length] at this; exact this
  · obtain ⟨n, _, rfl⟩ := List.mem_map.mp (List.mem_filter.mp hw).1
    exact wA_size n

/-- the sum of all: as many of each light -/
theorem nums_sum (sc : List Int) : (nums sc).sum = 273 * greyOf (sums (tin5 sc)) := by
  have add : ∀ l : List Tri, (l.map numI).sum = 256 * (sums l).1 + 16 * (sums l).2.1 + (sums l).2.2 := by
    intro l
    induction l with
    | nil => rfl
    | cons t l ih =>
      rw [List.map_cons, List.sum_cons, ih]
      unfold sums numI
      simp only [List.map_cons, List.sum_cons]
      lia
  unfold nums tin6
  rw [List.map_append, List.sum_append, add]
  unfold numI
  simp
  lia
theorem whole_fact : ∀ g : Fin 16, ((word (273 * g.val)).map fun c => (c.toNat : Int)) = if (0 : Int) < (g.val : Int) then [65 + (g.val : Int), 65 + g.val, 65 + g.val] else [] := by decide +kernel
end Mine
end

section
set_option Elab.async false
set_option maxRecDepth 100000
set_option autoImplicit false
set_option linter.unusedVariables false
namespace Mine
open PySem PySem.Calls PyProof.Rows PySem.W
open PySem.Builtin

/-- all module facts -/
structure Gx (c : Cx) extends Gl c where
  pf : Addr
  gF : c.mg (Str.ofString "Flags") = some (.ref pf)
  pat : PatOk c.prog c.w c.root pf
  nb : NoneBooked c.root

noncomputable def wordFn : D → Option D
  | .int n => some (.byt (wA n))
  | _ => none
noncomputable def fullF : D → Option D
  | .byt w => if w.isEmpty then none else some (.byt w)
  | _ => none

theorem full_map (l : List (Array UInt8)) : (l.map D.byt).filterMap fullF = (l.filter fun w => !w.isEmpty).map D.byt := by
  induction l with
  | nil => rfl
  | cons w l ih =>
    rw [List.map_cons, List.filterMap_cons, List.filter_cons]
    cases h : w.isEmpty with
    | true => simp [fullF, h, ih]
    | false => simp [fullF, h, ih]

set_option maxHeartbeats 8000000
theorem law_c1 {c : Cx} (G : Gx c) {q : Str} {L f : Addr} {cd : Value} {A : Around} {B : Heap} {mu : List Addr} {sc : List Int} {Q : Flow → Heap → Prop} (room : Room A 3) (hQ : ∀ g, ¬ Q .next g)
    (k : ST ⟨c, A, envLaw q L f cd, B⟩ (Sta ⟨c, A, envLaw q L f cd, B⟩ mu [("numbers", .lst ((nums sc).map .int)), ("draw", .lst ((drawOf sc).map .int))] []) (lawB 9) Q) :
    ST ⟨c, A, envLaw q L f cd, B⟩ (Sta ⟨c, A, envLaw q L f cd, B⟩ mu [("numbers", .lst ((nums sc).map .int)), ("grey", .int (greyOf (sums (tin5 sc)))), ("draw", .lst ((drawOf sc).map .int))] []) (lawB 7) Q := by
  have no : ∀ {x : Str}, ∀ p ∈ ([] : Owned), p.1 ≠ x := fun p hp => nomatch hp
  have hg := grey_range sc
  obtain ⟨g, hg'⟩ : ∃ g : Nat, greyOf (sums (tin5 sc)) = g := ⟨(greyOf (sums (tin5 sc))).toNat, by lia⟩
  have hs : (nums sc).sum = ((273 * g : Nat) : Int) := by rw [nums_sum, hg']; lia
  rw [hg']
  refine st_seq (st_assign (pe_def (fn_word (n := 273 * g) G.d3 G.n_abs G.n_int G.n_divmod (by lia)) G.d3 G.g3 (room.le (by decide)) (.cons (pe_conv (pe_blt blt_sum (.cons (pe_var rfl) .nil) G.n_sum (by decide +kernel)) (by rw [hs])) .nil)) (.inl rfl) no) ?_
  have wf := whole_fact ⟨g, by lia⟩
  have lw : (word (273 * g)).toArray.size ≤ 8 := by have := wordF_len 8 (273 * g); rw [List.size_toArray]; exact this
  refine st_if_ret (r := false) (pt_cmp (a := .lst ((((word (273 * g)).map fun c => (c.toNat : Int))).map .int)) (b := .lst ((if (0 : Int) < (g : Int) then [65 + (g : Int), 65 + g, 65 + g] else []).map .int)) (pe_conv (pe_typ (typ_list_byt (by lia)) (.cons (pe_var rfl) .nil) G.n_list (by decide +kernel)) (by rw [List.map_map]; rfl))
    (pe_ife (r := decide ((0 : Int) < (g : Int))) (pt_cmp (pe_var rfl) pe_int cmp_gt_int) (fun h => ?_) (fun h => ?_)) ?_) (fun h => nomatch h) (fun _ => ?_) hQ
  · have h' : (0 : Int) < (g : Int) := by simpa using h
    rw [if_pos h']
    exact pe_bin (pe_list (ds := [.int (65 + (g : Int))]) (.cons (pe_bin pe_int (pe_var rfl) op_add_int) .nil)) pe_int (op_mul_lst (by decide) (by simp))
  · have h' : ¬ (0 : Int) < (g : Int) := by simpa using h
    rw [if_neg h']
    exact pe_list .nil
  · have := cmp_ne_ints (F := ⟨c, A, envLaw q L f cd, B⟩) (mu := mu) (a := ((word (273 * g)).map fun c => (c.toNat : Int))) (b := (if (0 : Int) < (g : Int) then [65 + (g : Int), 65 + g, 65 + g] else [])) (by show A.units < cLine; have := room.2; lia)
    have e : (((word (273 * g)).map fun c => (c.toNat : Int)) != (if (0 : Int) < (g : Int) then [65 + (g : Int), 65 + g, 65 + g] else [])) = false := by rw [wf]; simp
    rw [e] at this
    exact this
  · exact k.pre fun g p => p.less (less_cons rfl (less_cons rfl less_nil))

theorem fold_size : ∀ (l : List (Array UInt8)), (∀ v ∈ l, v.size ≤ 8) → ∀ z, l.foldl (fun n b => n + b.size) z ≤ z + 8 * l.length
  | [], _, z => Nat.le_refl _
  | a :: l, h, z => by
    refine Nat.le_trans (fold_size l (fun v hv => h v (List.mem_cons_of_mem _ hv)) (z + a.size)) ?_
    rw [List.length_cons, Nat.mul_succ, Nat.add_assoc, Nat.add_comm (8 * l.length) 8]
    exact Nat.add_le_add_left (Nat.add_le_add_right (h a List.mem_cons_self) _) _
theorem words_sum (sc : List Int) : (wordsOf sc).foldl (fun n b => n + b.size) ((#[32] : Array UInt8).size * ((wordsOf sc).length - 1)) ≤ 10000 := by
  refine Nat.le_trans (fold_size (wordsOf sc) (fun v hv => by obtain ⟨n, _, rfl⟩ := List.mem_map.mp hv; exact wA_size n) _) ?_
  rw [wordsOf_length]; decide
theorem law_c2 {c : Cx} (G : Gx c) {q : Str} {L f : Addr} {cd : Value} {A : Around} {B : Heap} {mu : List Addr} {sc : List Int} {Q : Flow → Heap → Prop} (room : Room A 3) (hQ : ∀ g, ¬ Q .next g)
    (k : ST ⟨c, A, envLaw q L f cd, B⟩ (Sta ⟨c, A, envLaw q L f cd, B⟩ mu [("told", .tup ((toldOf sc).map .byt)), ("numbers", .lst ((nums sc).map .int)), ("draw", .lst ((drawOf sc).map .int))] []) (lawB 12) Q) :
    ST ⟨c, A, envLaw q L f cd, B⟩ (Sta ⟨c, A, envLaw q L f cd, B⟩ mu [("numbers", .lst ((nums sc).map .int)), ("draw", .lst ((drawOf sc).map .int))] []) (lawB 9) Q := by
  have no : ∀ {x : Str}, ∀ p ∈ ([] : Owned), p.1 ≠ x := fun p hp => nomatch hp
  refine st_seq (R := Sta ⟨c, A, envLaw q L f cd, B⟩ mu [("words", .lst ((wordsOf sc).map .byt)), ("numbers", .lst ((nums sc).map .int)), ("draw", .lst ((drawOf sc).map .int))] []) ?_ ?_
  · refine (st_assign_comp (f := wordFn) (bs := fun d => [("number", d)]) (ρ' := []) (own' := []) (it_list (ds := (nums sc).map .int) (pe_var rfl)).w (comp_ok rfl rfl (by decide +kernel) (fun _ => rfl) (fun _ => rfl)) (by rw [List.length_map, nums_length]; decide)
      rfl no rfl no_vis (List.Sublist.refl _) no_ownv no_bs no_bo (fun C B' d hd _ => tg_name (.inl rfl)) ?_).post fun fl g ⟨e1, e2⟩ => ⟨e1, ?_⟩
    · intro C B' mu' d hd
      obtain ⟨n, hn, rfl⟩ := List.mem_map.mp hd
      have b := nums_range sc n hn
      refine ⟨pif_nil, fun r hr => ?_⟩
      have : r = .byt (wA n) := (Option.some.inj hr).symm
      subst this
      exact pe_def (fn_word (n := n.toNat) G.d3 G.n_abs G.n_int G.n_divmod (by lia)) G.d3 G.g3 (room.le (by decide)) (.cons (pe_conv (pe_var rfl) (by congr 1; lia)) .nil)
    · rw [filterMap_map_some (f := wordFn) (g := D.int) (h := fun n => .byt (wA n)) (fun n => rfl)] at e2
      rw [show (wordsOf sc).map D.byt = (nums sc).map fun n => .byt (wA n) by unfold wordsOf; rw [List.map_map]; rfl]
      exact e2.less (less_cons rfl (less_cons rfl (less_cons rfl less_nil)))
  have hz : (bodyOf sc).size ≤ 100 := body_size sc
  have w6 : (wordsOf sc).length ≠ 1 := by rw [wordsOf_length]; decide
  have hsum := words_sum sc
  have tl := told_size sc
  have fp := fn_parse (b := bodyOf sc) G.d4 G.gF G.pat G.n_tuple (by lia) (body_mem sc) (by rw [body_split]; lia) (by rw [body_split]; intro w hw; have := tl.2 w hw; lia)
  rw [body_split] at fp
  refine st_seq (st_assign (pe_def fp G.d4 G.g4 (room.le (by decide)) (.cons (pe_conv (pe_bin (pe_bin pe_byt (pe_meth1 (mth_join w6 (by show (bodyOf sc).size ≤ _; lia) hsum) FB.plainAttrs_bytes RF.slot_join RF.entry_join RF.type_join RF.args_join is_byt pe_byt (pe_var rfl)) (op_add_byt ?_)) pe_byt (op_add_byt ?_)) rfl) .nil)) (.inl rfl) no) ?_
  · show 9 + (bodyOf sc).size ≤ 10000; lia
  · show (#[42, 32, 70, 76, 65, 71, 83, 32, 40] ++ bodyOf sc).size + 1 ≤ 10000
    rw [Array.size_append]
    show 9 + (bodyOf sc).size + 1 ≤ 10000; lia
  refine st_if_ret (r := false) (pt_cmp (a := .tup ((toldOf sc).map .byt)) (b := .tup ((toldOf sc).map .byt)) (pe_var rfl) (pe_conv (pe_typ (typ_tuple (ds := (toldOf sc).map .byt) (by rw [List.length_map]; lia)) (.cons (PN.pe (PN.conv (pn_comp (f := fullF) (bs := fun d => [("word", d)]) (ρ' := []) (own' := []) (cl := []) (jc := none) (it_list (ds := (wordsOf sc).map .byt) (pe_var rfl)).w (comp_ok rfl rfl (by decide +kernel) (fun _ => rfl) (fun _ => rfl)) (by rw [List.length_map, wordsOf_length]; decide) no_vis (List.Sublist.refl _) no_ownv no_bs no_bo
    (fun C B' d hd _ => tg_name (.inl rfl)) (fun C B' mu' d hd => ?bd)) (by rw [full_map]; rfl))) .nil) G.n_tuple (by decide +kernel)) rfl) ?cm) (fun h => nomatch h) (fun _ => ?_) hQ
  case bd =>
    obtain ⟨w, _, rfl⟩ := List.mem_map.mp hd
    have hf : (fullF (.byt w)).isSome = (w != #[]) := by
      unfold fullF
      cases h : w.isEmpty with
      | true => rw [Array.isEmpty_iff.mp h]; rfl
      | false =>
        have : w ≠ #[] := fun q => by rw [q] at h; cases h
        simp [this]
    refine ⟨?_, fun r hr => ?_⟩
    · rw [hf]
      exact pif_one (pt_cmp (pe_var rfl) pe_byt cmp_ne_byt)
    · have : r = .byt w := by
        unfold fullF at hr
        cases h : w.isEmpty with
        | true => simp [h] at hr
        | false => simp [h] at hr; exact hr.symm
      subst this
      exact pe_var rfl
  case cm =>
    have := cmp_ne_byts (F := ⟨c, A, envLaw q L f cd, B⟩) (mu := mu) (a := toldOf sc) (b := toldOf sc) (by show A.units < cLine; have := room.2; lia)
    rw [show (toldOf sc != toldOf sc) = false by simp] at this
    exact this
  · exact k.pre fun g p => p.less (less_cons rfl (less_cons rfl (less_cons rfl less_nil)))
end Mine
end

section
set_option Elab.async false
set_option maxRecDepth 100000
set_option autoImplicit false
set_option linter.unusedVariables false
namespace Mine
open PySem PySem.Calls PyProof.Rows PySem.W

/-- the letters of a word, as they stand in the text -/
noncomputable def sgLet (form : Int) (vs : List Nat) : List Sg := vs.zipIdx.flatMap fun p => [.let p.1 (signI p.1 (form + (p.2 : Nat))).toNat, .gap (65024 + (form + (p.2 : Nat)).fmod 16).toNat]
noncomputable def sgWord (form : Int) (vs : List Nat) : List Sg := sgLet form vs ++ [.stop (12272 + (form + (vs.length : Nat)).fmod 12).toNat]
noncomputable def digs (w : Array UInt8) : List Nat := w.toList.map fun c => c.toNat - 65
/-- the form of the j-th word -/
noncomputable def formOf (sc : List Int) (j : Nat) : Int := ((drawOf sc).getD (j % 5) 0).fdiv 64
noncomputable def sgAll (sc : List Int) (j : Nat) : List Sg := ((toldOf sc).take j).zipIdx.flatMap fun p => sgWord (formOf sc p.2) (digs p.1)

theorem sgLet_snoc (form : Int) (vs : List Nat) (v : Nat) : sgLet form (vs ++ [v]) = sgLet form vs ++ [.let v (signI v (form + (vs.length : Nat))).toNat, .gap (65024 + (form + (vs.length : Nat)).fmod 16).toNat] := by
  unfold sgLet
  rw [List.zipIdx_append, List.flatMap_append]
  simp
theorem sgAll_snoc (sc : List Int) (j : Nat) {w : Array UInt8} (h : (toldOf sc)[j]? = some w) : sgAll sc (j + 1) = sgAll sc j ++ sgWord (formOf sc j) (digs w) := by
  unfold sgAll
  rw [List.take_add_one, h, Option.toList_some, List.zipIdx_append, List.flatMap_append]
  have hl : ((toldOf sc).take j).length = j := by
    have : j < (toldOf sc).length := by
      rcases Nat.lt_or_ge j (toldOf sc).length with q | q
      · exact q
      · rw [List.getElem?_eq_none q] at h; cases h
    rw [List.length_take]; lia
  rw [hl]
  simp
theorem sgLet_ok {form : Int} : ∀ {vs : List Nat}, (∀ v ∈ vs, v < 16) → ∀ s ∈ sgLet form vs, s.Ok := by
  intro vs hv s hs
  unfold sgLet at hs
  obtain ⟨p, hp, hs⟩ := List.mem_flatMap.mp hs
  have hp1 : p.1 ∈ vs := (List.mem_zipIdx' hp).2 ▸ List.getElem_mem _
  have hv' := hv p.1 hp1
  rcases List.mem_cons.mp hs with rfl | hs
  · exact ⟨hv', sign_cases _ _ (by lia)⟩
  · rw [List.mem_singleton.mp hs]
    have h1 : (form + (p.2 : Nat)).fmod 16 < 16 := Int.fmod_lt_of_pos _ (by decide)
    obtain ⟨m, e⟩ := Int.eq_ofNat_of_zero_le (Int.fmod_nonneg_of_pos (form + (p.2 : Nat)) (show (0 : Int) < 16 by decide))
    rw [e] at h1 ⊢
    exact ⟨Nat.le_add_right 65024 m, Nat.add_lt_add_left (Int.ofNat_lt.mp h1) 65024⟩
theorem sgWord_ok {form : Int} {vs : List Nat} (hv : ∀ v ∈ vs, v < 16) : ∀ s ∈ sgWord form vs, s.Ok := by
  intro s hs
  unfold sgWord at hs
  rcases List.mem_append.mp hs with hs | hs
  · exact sgLet_ok hv s hs
  · rw [List.mem_singleton.mp hs]
    have h1 : (form + (vs.length : Nat)).fmod 12 < 12 := Int.fmod_lt_of_pos _ (by decide)
    obtain ⟨m, e⟩ := Int.eq_ofNat_of_zero_le (Int.fmod_nonneg_of_pos (form + (vs.length : Nat)) (show (0 : Int) < 12 by decide))
    rw [e] at h1 ⊢
    exact ⟨Nat.le_add_right 12272 m, Nat.add_lt_add_left (Int.ofNat_lt.mp h1) 12272⟩
theorem told_dig {sc : List Int} {w : Array UInt8} (h : w ∈ toldOf sc) : ∀ v ∈ digs w, v < 16 := by
  obtain ⟨n, _, rfl⟩ := List.mem_map.mp (List.mem_filter.mp h).1
  intro v hv
  obtain ⟨c, hc, rfl⟩ := List.mem_map.mp hv
  obtain ⟨d, hd, rfl⟩ := wA_mem hc
  have := (apOf_facts ⟨d, hd⟩).1
  dsimp only at this
  lia
theorem sgAll_ok (sc : List Int) (j : Nat) : ∀ s ∈ sgAll sc j, s.Ok := by
  intro s hs
  unfold sgAll at hs
  obtain ⟨p, hp, hs⟩ := List.mem_flatMap.mp hs
  have hp1 : p.1 ∈ (toldOf sc).take j := (List.mem_zipIdx' hp).2 ▸ List.getElem_mem _
  exact sgWord_ok (told_dig (List.mem_of_mem_take hp1)) s hs

/-! ## reading -/
noncomputable def valOf (x : Int) (vs : List Nat) : Int := vs.foldl (fun (a : Int) (v : Nat) => 16 * a + (v : Int)) x
theorem read_let (form : Int) (vs : List Nat) : ∀ (k : Nat) (rows : List Int) (x : Int), ((vs.zipIdx k).flatMap fun p => [Sg.let p.1 (signI p.1 (form + (p.2 : Nat))).toNat, .gap (65024 + (form + (p.2 : Nat)).fmod 16).toNat]).foldl readStep (rows ++ [x]) = rows ++ [valOf x vs] := by
  induction vs with
  | nil => intro k rows x; rfl
  | cons v vs ih =>
    intro k rows x
    rw [List.zipIdx_cons, List.flatMap_cons, List.foldl_append]
    have e : List.foldl readStep (rows ++ [x]) [Sg.let v (signI v (form + (k : Nat))).toNat, .gap (65024 + (form + (k : Nat)).fmod 16).toNat] = rows ++ [16 * x + (v : Int)] := by
      simp [readStep, List.getLastD_eq_getLast?]
    rw [e, ih]
    rfl
theorem read_word (form : Int) (vs : List Nat) (rows : List Int) (x : Int) : (sgWord form vs).foldl readStep (rows ++ [x]) = rows ++ [valOf x vs] ++ [0] := by
  unfold sgWord
  rw [List.foldl_append]
  have := read_let form vs 0 rows x
  unfold sgLet
  rw [this]; rfl
theorem read_all (sc : List Int) : ∀ j, j ≤ (toldOf sc).length → readAll (sgAll sc j) = ((toldOf sc).take j).map (fun w => valOf 0 (digs w)) ++ [0]
  | 0, _ => rfl
  | j + 1, h => by
    have hj : (toldOf sc)[j]? = some ((toldOf sc)[j]'(by lia)) := List.getElem?_eq_getElem _
    unfold readAll
    rw [sgAll_snoc sc j hj, List.foldl_append]
    have ih := read_all sc j (by lia)
    unfold readAll at ih
    rw [ih, read_word, List.take_add_one, hj, Option.toList_some, List.map_append]
    simp
theorem valOf_snoc (x : Int) (vs : List Nat) (v : Nat) : valOf x (vs ++ [v]) = 16 * valOf x vs + v := by unfold valOf; rw [List.foldl_append]; rfl
theorem val_wordF : ∀ (f n : Nat), n < 16 ^ f → valOf 0 ((wordF f n).map fun c => c.toNat - 65) = n
  | 0, n, h => by
    have : n = 0 := by simpa using h
    subst this; rfl
  | f + 1, n, h => by
    unfold wordF
    split
    · rename_i h0; subst h0; rfl
    · rw [List.map_append, List.map_singleton, valOf_snoc, val_wordF f (n / 16) (by rw [Nat.pow_succ] at h; lia)]
      have := (apOf_facts ⟨n % 16, Nat.mod_lt _ (by decide)⟩).1
      dsimp only at this
      rw [this]; lia
theorem val_wA {n : Int} (h0 : 0 ≤ n) (h1 : n < 4096) : valOf 0 (digs (wA n)) = n := by
  have := val_wordF 8 n.toNat (by lia)
  unfold digs wA word
  rw [show ((wordF 8 n.toNat).toArray).toList = wordF 8 n.toNat from rfl, this]; lia
theorem wA_empty {n : Int} (h0 : 0 ≤ n) (h1 : n < 4096) : (wA n).isEmpty = !decide (0 < n) := by
  by_cases h : n = 0
  · subst h; rfl
  · have e : word n.toNat = word (n.toNat / 16) ++ [apOf (n.toNat % 16)] := word_step (by lia) (by lia)
    unfold wA
    rw [e]
    have : 0 < n := by lia
    simp [this]
/-- the numbers that are told -/
noncomputable def toldN (sc : List Int) : List Int := (nums sc).filter fun n => decide (0 < n)
theorem told_vals (sc : List Int) : (toldOf sc).map (fun w => valOf 0 (digs w)) = toldN sc := by
  unfold toldOf wordsOf toldN
  have hr := nums_range sc
  generalize nums sc = l at hr
  induction l with
  | nil => rfl
  | cons n l ih =>
    have hn := hr n List.mem_cons_self
    have ih := ih fun m hm => hr m (List.mem_cons_of_mem _ hm)
    rw [List.map_cons, List.filter_cons, List.filter_cons, wA_empty hn.1 hn.2, Bool.not_not]
    cases h : decide (0 < n) with
    | true => simp only [if_true, List.map_cons]; rw [ih, val_wA hn.1 hn.2]
    | false => simp only [Bool.false_eq_true, if_false]; exact ih
theorem read_fact (sc : List Int) : readAll (sgAll sc (toldOf sc).length) = toldN sc ++ [0] := by
  rw [read_all sc _ (Nat.le_refl _), List.take_length, told_vals]
end Mine
end

section
set_option Elab.async false
set_option maxRecDepth 100000
set_option autoImplicit false
set_option linter.unusedVariables false
namespace Mine
open PySem PySem.Calls PyProof.Rows PySem.W

/-- a text of codes -/
noncomputable def strOf (l : List Nat) : Str := ⟨l.toArray⟩
theorem strOf_add (a b : List Nat) : strOf a ++ strOf b = strOf (a ++ b) := by
  show (⟨a.toArray ++ b.toArray⟩ : Str) = _
  unfold strOf; congr 1; simp
theorem strOf_len (a : List Nat) : (strOf a).length = a.length := by show a.toArray.size = _; simp

noncomputable def posF (n : Int) : Option D := if 0 < n then some (.int n) else none
noncomputable def posD : D → Option D
  | .int n => posF n
  | _ => none

theorem sgLet_len (form : Int) (vs : List Nat) : (sgLet form vs).length = 2 * vs.length := by
  unfold sgLet
  rw [List.length_flatMap]
  have : ∀ (l : List (Nat × Nat)), (l.map fun p => [Sg.let p.1 (signI p.1 (form + (p.2 : Nat))).toNat, .gap (65024 + (form + (p.2 : Nat)).fmod 16).toNat].length).sum = 2 * l.length := by
    intro l
    induction l with
    | nil => rfl
    | cons p l ih => rw [List.map_cons, List.sum_cons, ih, List.length_cons, List.length_cons]; simp; lia
  rw [this, List.length_zipIdx]
theorem sgAll_len (sc : List Int) : ∀ j, (sgAll sc j).length ≤ 17 * j
  | 0 => by simp [sgAll]
  | j + 1 => by
    have ih := sgAll_len sc j
    cases h : (toldOf sc)[j]? with
    | none =>
      have hj : (toldOf sc).length ≤ j := List.getElem?_eq_none_iff.mp h
      have : sgAll sc (j + 1) = sgAll sc j := by
        unfold sgAll
        rw [List.take_of_length_le (by lia), List.take_of_length_le hj]
      rw [this]; lia
    | some w =>
      rw [sgAll_snoc sc j h, List.length_append]
      unfold sgWord
      rw [List.length_append, sgLet_len, List.length_singleton]
      have : (digs w).length ≤ 8 := by
        unfold digs
        rw [List.length_map, Array.length_toList]
        exact (told_size sc).2 w (List.mem_of_getElem? h)
      lia

theorem seq_at {i n : Nat} (h : i < n) : seqIndex? (i : Int) n = some i := by
  unfold seqIndex?
  rw [if_neg (Int.not_lt.mpr (Int.natCast_nonneg i))]
  have h1 : (decide (0 ≤ (i : Int)) && decide ((i : Int) < (n : Int))) = true := by
    rw [decide_eq_true (Int.natCast_nonneg i), decide_eq_true (Int.ofNat_lt.mpr h)]; rfl
  rw [if_pos h1]; rfl
theorem draw_at (sc : List Int) (j : Nat) : (drawOf sc)[j % 5]? = some ((drawOf sc).getD (j % 5) 0) := by
  rw [List.getD_eq_getElem?_getD, List.getElem?_eq_getElem (by rw [drawOf_length]; exact Nat.mod_lt _ (by decide))]; rfl
theorem mod_five (j : Nat) : (j : Int).fmod 5 = ((j % 5 : Nat) : Int) := by rw [Int.fmod_eq_emod_of_nonneg _ (by decide)]; rfl
theorem octet_val {sc : List Int} {w : Array UInt8} (hwm : w ∈ toldOf sc) {i : Nat} {o : UInt8} (ho : w.toList[i]? = some o) : ∃ v : Nat, (o.toNat : Int) - 65 = (v : Int) ∧ (digs w)[i]? = some v ∧ v < 16 := by
  have hdi : (digs w)[i]? = some (o.toNat - 65) := by unfold digs; rw [List.getElem?_map, ho]; rfl
  refine ⟨o.toNat - 65, ?_, hdi, told_dig hwm _ (List.mem_of_getElem? hdi)⟩
  have hm : o ∈ w.toList := List.mem_of_getElem? ho
  obtain ⟨n, _, rfl⟩ := List.mem_map.mp (List.mem_filter.mp hwm).1
  obtain ⟨d, hd', rfl⟩ := wA_mem hm
  have := (apOf_facts ⟨d, hd'⟩).1
  dsimp only at this
  clear hdi ho hm hwm
  lia
theorem next_let {form : Int} {vs : List Nat} {i v : Nat} (h : vs[i]? = some v) : sgLet form (vs.take (i + 1)) = sgLet form (vs.take i) ++ [Sg.let v (signI v (form + (i : Nat))).toNat, Sg.gap (65024 + (form + (i : Nat)).fmod 16).toNat] := by
  have hi : i < vs.length := by
    rcases Nat.lt_or_ge i vs.length with q | q
    · exact q
    · rw [List.getElem?_eq_none q] at h; cases h
  rw [List.take_add_one, h, Option.toList_some, sgLet_snoc, List.length_take, Nat.min_eq_left (Nat.le_of_lt hi)]
theorem code_let (a b : List Sg) (v x y : Nat) : (a ++ (b ++ [Sg.let v x, Sg.gap y])).map Sg.code = (a ++ b).map Sg.code ++ [x, y] := by
  rw [← List.append_assoc, List.map_append]; rfl
theorem code_stop (a b : List Sg) (x : Nat) : (a ++ (b ++ [Sg.stop x])).map Sg.code = (a ++ b).map Sg.code ++ [x] := by
  rw [← List.append_assoc, List.map_append]; rfl
set_option maxHeartbeats 8000000
theorem law_e1 {c : Cx} (G : Gx c) {q : Str} {L f : Addr} {cd : Value} {A : Around} {B : Heap} {mu : List Addr} {sc : List Int} {Q : Flow → Heap → Prop} (room : Room A 3)
    (k : ST ⟨c, A, envLaw q L f cd, B⟩ (Sta ⟨c, A, envLaw q L f cd, B⟩ mu [("text", .str (strOf ((sgAll sc (toldOf sc).length).map Sg.code))), ("numbers", .lst ((nums sc).map .int))] []) (lawB 14) Q) :
    ST ⟨c, A, envLaw q L f cd, B⟩ (Sta ⟨c, A, envLaw q L f cd, B⟩ mu [("told", .tup ((toldOf sc).map .byt)), ("numbers", .lst ((nums sc).map .int)), ("draw", .lst ((drawOf sc).map .int))] []) (lawB 12) Q := by
  have no : ∀ {x : Str}, ∀ p ∈ ([] : Owned), p.1 ≠ x := fun p hp => nomatch hp
  have no2 : ∀ {bs : Vars}, ∀ p ∈ ([] : Owned), ∀ b ∈ bs, p.1 ≠ b.1 := fun p hp => nomatch hp
  have tl := told_size sc
  refine st_seq (st_assign pe_str (.inl rfl) no) ?_
  refine st_seq (R := Sta ⟨c, A, envLaw q L f cd, B⟩ mu [("text", .str (strOf ((sgAll sc (ups 0 ((toldOf sc).length : Int).toNat).length).map Sg.code))), ("told", .tup ((toldOf sc).map .byt)), ("numbers", .lst ((nums sc).map .int)), ("draw", .lst ((drawOf sc).map .int))] [])
    (st_for (it_range1 (b := ((toldOf sc).length : Int)) (pe_conv (pe_blt (blt_len_tup (by rw [List.length_map]; lia)) (.cons (pe_var rfl) .nil) G.n_len (by decide +kernel)) (by rw [List.length_map])) (by lia) G.n_range) (fun i d => [("j", d)]) (fun i d => no2)
      (fun i => [("text", .str (strOf ((sgAll sc i).map Sg.code))), ("told", .tup ((toldOf sc).map .byt)), ("numbers", .lst ((nums sc).map .int)), ("draw", .lst ((drawOf sc).map .int))]) (fun i => []) (less_cons rfl (less_cons rfl (less_cons rfl (less_cons rfl less_nil)))) rfl (fun i => rfl) (fun i d hd => tg_name (.inl rfl)) ?_) ?_
  · intro B' mu' j d hd
    obtain ⟨hj, rfl⟩ := ups_get hd
    have hj' : j < (toldOf sc).length := by lia
    obtain ⟨w, hw⟩ : ∃ w, (toldOf sc)[j]? = some w := ⟨_, List.getElem?_eq_getElem hj'⟩
    have hwm := List.mem_of_getElem? hw
    have hws := tl.2 w hwm
    rw [show (0 + (j : Nat) : Int) = (j : Int) by lia]
    have hdr := draw_at sc j
    have hmod := mod_five j
    have six1 : seqIndex? ((j : Int).fmod 5) ((drawOf sc).map D.int).length = some (j % 5) := by
      rw [hmod, List.length_map, drawOf_length]
      exact seq_at (Nat.mod_lt _ (by decide))
    refine st_seq (st_assign (d := .int (formOf sc j)) (pe_bin (pe_sub_lst (ds := (drawOf sc).map .int) (d := .int ((drawOf sc).getD (j % 5) 0)) (pe_var rfl) (pe_bin (pe_var rfl) pe_int (op_mod_int (by decide))) six1 (by rw [List.getElem?_map, hdr]; rfl) (by rw [hmod]; lia)) pe_int (op_fdiv_int (by decide) (PyProof.noPylong_small (by decide)))) (.inl rfl) no) ?_
    have six2 : seqIndex? (j : Int) ((toldOf sc).map D.byt).length = some j := by
      rw [List.length_map]; exact seq_at hj'
    have lenA := sgAll_len sc j
    have hj6 : j < 6 := Nat.lt_of_lt_of_le hj' tl.1
    refine st_seq (R := Sta ⟨c, A, envLaw q L f cd, B'⟩ mu' [("form", .int (formOf sc j + ((digs w).length : Nat))), ("text", .str (strOf ((sgAll sc j ++ sgLet (formOf sc j) (digs w)).map Sg.code))), ("told", .tup ((toldOf sc).map .byt)), ("numbers", .lst ((nums sc).map .int)), ("draw", .lst ((drawOf sc).map .int))] []) ?_ ?_
    · refine (st_for (it_byt (x := w) (pe_sub_tup (ds := (toldOf sc).map .byt) (d := .byt w) (pe_var rfl) (pe_var rfl) six2 (by rw [List.getElem?_map, hw]; rfl) (by lia))) (fun i d => [("octet", d)]) (fun i d => no2)
        (fun i => [("form", .int (formOf sc j + (i : Nat))), ("text", .str (strOf ((sgAll sc j ++ sgLet (formOf sc j) ((digs w).take i)).map Sg.code))), ("told", .tup ((toldOf sc).map .byt)), ("numbers", .lst ((nums sc).map .int)), ("draw", .lst ((drawOf sc).map .int))]) (fun i => [])
        (less_cons ?_ (less_cons ?_ (less_cons rfl (less_cons rfl (less_cons rfl less_nil))))) rfl (fun i => rfl) (fun i d hd => tg_name (.inl rfl)) ?_).post fun fl g ⟨e1, e2⟩ => ⟨e1, ?_⟩
      · show some (D.int (formOf sc j)) = some (D.int (formOf sc j + ((0 : Nat) : Int)))
        rw [show ((0 : Nat) : Int) = 0 from rfl, Int.add_zero]
      · show some _ = some (D.str (strOf ((sgAll sc j ++ sgLet (formOf sc j) ((digs w).take 0)).map Sg.code)))
        rw [List.take_zero, show sgLet (formOf sc j) [] = [] from rfl, List.append_nil]
      · intro B2 mu2 i d hd
        rw [List.getElem?_map] at hd
        obtain ⟨o, ho, rfl⟩ := Option.map_eq_some_iff.mp hd
        obtain ⟨v, ho65, hdi, hv16⟩ := octet_val hwm ho
        have hi8 : i < 8 := by
          have : i < (digs w).length := by
            rcases Nat.lt_or_ge i (digs w).length with h | h
            · exact h
            · rw [List.getElem?_eq_none h] at hdi; cases hdi
          have : (digs w).length ≤ 8 := by unfold digs; rw [List.length_map, Array.length_toList]; exact hws
          lia
        have next := next_let (form := formOf sc j) hdi
        have g0 : 0 ≤ (formOf sc j + (i : Nat)).fmod 16 := Int.fmod_nonneg_of_pos _ (by decide)
        have g1 : (formOf sc j + (i : Nat)).fmod 16 < 16 := Int.fmod_lt_of_pos _ (by decide)
        refine st_seq (st_aug (d := .str (strOf ((sgAll sc j ++ sgLet (formOf sc j) ((digs w).take (i + 1))).map Sg.code))) (a := .str (strOf ((sgAll sc j ++ sgLet (formOf sc j) ((digs w).take i)).map Sg.code))) (b := .str (strOf [(signI v (formOf sc j + (i : Nat))).toNat, (65024 + (formOf sc j + (i : Nat)).fmod 16).toNat])) rfl
          (pe_bin (pe_def (fn_sign (a := (v : Int)) (b := formOf sc j + (i : Nat)) G.d15 G.n_chr (by lia)) G.d15 G.g15 (room.le (by decide)) (.cons (pe_conv (pe_bin (pe_var rfl) pe_int op_sub_int) (by rw [ho65])) (.cons (pe_var rfl) .nil)))
            (pe_blt (blt_chr (a := 65024 + (formOf sc j + (i : Nat)).fmod 16) (by lia) (by lia)) (.cons (pe_bin pe_int (pe_bin (pe_var rfl) pe_int (op_mod_int (by decide))) op_add_int) .nil) G.n_chr (by decide +kernel)) (op_add_str (by show 1 + 1 ≤ sizeLine; rw [sizeLine_eq]; decide))) ?_ (.inl rfl) no) ?_
        · have := iop_add_str (F := ⟨c, A, envLaw q L f cd, B2⟩) (mu := mu2) (a := strOf ((sgAll sc j ++ sgLet (formOf sc j) ((digs w).take i)).map Sg.code)) (b := strOf [(signI v (formOf sc j + (i : Nat))).toNat, (65024 + (formOf sc j + (i : Nat)).fmod 16).toNat]) (by
            rw [strOf_len, strOf_len, List.length_map, List.length_append, sgLet_len, sizeLine_eq]
            have : ((digs w).take i).length ≤ i := by rw [List.length_take]; lia
            simp; lia)
          rw [strOf_add] at this
          rw [next]
          rw [code_let]
          exact this
        · refine (st_aug (d := .int (formOf sc j + ((i + 1 : Nat) : Int))) rfl pe_int (by have := iop_add_int (F := ⟨c, A, envLaw q L f cd, B2⟩) (mu := mu2) (a := formOf sc j + (i : Nat)) (b := 1); rw [show formOf sc j + (i : Nat) + 1 = formOf sc j + ((i + 1 : Nat) : Int) by lia] at this; exact this) (.inl rfl) no).post fun fl g ⟨e1, e2⟩ => ⟨.inl e1, e2.less (less_cons rfl (less_cons rfl (less_cons rfl (less_cons rfl (less_cons rfl less_nil)))))⟩
      · have hl : (w.toList.map fun c => D.int c.toNat).length = (digs w).length := by unfold digs; simp
        rw [hl, List.take_length] at e2
        exact e2
    · have g0 : 0 ≤ (formOf sc j + ((digs w).length : Nat)).fmod 12 := Int.fmod_nonneg_of_pos _ (by decide)
      have g1 : (formOf sc j + ((digs w).length : Nat)).fmod 12 < 12 := Int.fmod_lt_of_pos _ (by decide)
      refine (st_aug (d := .str (strOf ((sgAll sc (j + 1)).map Sg.code))) (b := .str (strOf [(12272 + (formOf sc j + ((digs w).length : Nat)).fmod 12).toNat])) rfl (pe_blt (blt_chr (a := 12272 + (formOf sc j + ((digs w).length : Nat)).fmod 12) (by lia) (by lia)) (.cons (pe_bin pe_int (pe_bin (pe_var rfl) pe_int (op_mod_int (by decide))) op_add_int) .nil) G.n_chr (by decide +kernel)) ?_ (.inl rfl) no).post fun fl g ⟨e1, e2⟩ => ⟨.inl e1, e2.less (less_cons rfl (less_cons rfl (less_cons rfl (less_cons rfl less_nil))))⟩
      have := iop_add_str (F := ⟨c, A, envLaw q L f cd, B'⟩) (mu := mu') (a := strOf ((sgAll sc j ++ sgLet (formOf sc j) (digs w)).map Sg.code)) (b := strOf [(12272 + (formOf sc j + ((digs w).length : Nat)).fmod 12).toNat]) (by
        rw [strOf_len, strOf_len, List.length_map, List.length_append, sgLet_len, sizeLine_eq]
        have : (digs w).length ≤ 8 := by unfold digs; rw [List.length_map, Array.length_toList]; exact hws
        simp; lia)
      rw [strOf_add] at this
      rw [sgAll_snoc sc j hw]
      unfold sgWord
      rw [code_stop]
      exact this
  · rw [ups_length]
    exact k.pre fun g p => p.less (less_cons rfl (less_cons rfl less_nil))
end Mine
end

section
set_option Elab.async false
set_option maxRecDepth 100000
set_option autoImplicit false
set_option linter.unusedVariables false
namespace Mine
open PySem PySem.Calls PyProof.Rows PySem.W

/-- the numbers that are read -/
noncomputable def readN (sc : List Int) : List Int := toldN sc ++ [0]
theorem pos_map (l : List Int) : (l.map D.int).filterMap posD = (l.filter fun n => decide (0 < n)).map D.int := by
  induction l with
  | nil => rfl
  | cons n l ih =>
    rw [List.map_cons, List.filterMap_cons, List.filter_cons]
    by_cases h : 0 < n
    · simp [posD, posF, h, ih]
    · simp [posD, posF, h, ih]

set_option maxHeartbeats 8000000
theorem law_e2 {c : Cx} (G : Gx c) {q : Str} {L f : Addr} {cd : Value} {A : Around} {B : Heap} {mu : List Addr} {sc : List Int} {Q : Flow → Heap → Prop} (room : Room A 3) (hQ : ∀ g, ¬ Q .next g)
    (k : ST ⟨c, A, envLaw q L f cd, B⟩ (Sta ⟨c, A, envLaw q L f cd, B⟩ mu [("read", .lst ((readN sc).map .int))] []) (lawB 16) Q) :
    ST ⟨c, A, envLaw q L f cd, B⟩ (Sta ⟨c, A, envLaw q L f cd, B⟩ mu [("text", .str (strOf ((sgAll sc (toldOf sc).length).map Sg.code))), ("numbers", .lst ((nums sc).map .int))] []) (lawB 14) Q := by
  have no : ∀ {x : Str}, ∀ p ∈ ([] : Owned), p.1 ≠ x := fun p hp => nomatch hp
  have tl := told_size sc
  have len := sgAll_len sc (toldOf sc).length
  have fr := fn_read (x := strOf ((sgAll sc (toldOf sc).length).map Sg.code)) (sg := sgAll sc (toldOf sc).length) G.toGl rfl (sgAll_ok sc _) (by lia)
  rw [read_fact] at fr
  refine st_seq (st_assign (pe_def fr G.d16 G.g16 (room.le (by decide)) (.cons (pe_var rfl) .nil)) (.inl rfl) no) ?_
  have hl : (toldN sc).length ≤ 6 := by
    have := List.length_filter_le (fun n => decide (0 < n)) (nums sc)
    rw [nums_length] at this; exact this
  refine st_if_ret (r := false) (pt_cmp (a := .lst ((readN sc).map .int)) (b := .lst ((readN sc).map .int)) (pe_var rfl) (pe_conv (pe_bin (PN.pe (PN.conv (pn_comp (f := posD) (bs := fun d => [("number", d)]) (ρ' := []) (own' := []) (cl := []) (jc := none) (it_list (ds := (nums sc).map .int) (pe_var rfl)).w (comp_ok rfl rfl (by decide +kernel) (fun _ => rfl) (fun _ => rfl)) (by rw [List.length_map, nums_length]; decide) no_vis (List.Sublist.refl _) no_ownv no_bs no_bo
    (fun C B' d hd _ => tg_name (.inl rfl)) (fun C B' mu' d hd => ?bd)) (pos_map _))) (pe_list (.cons pe_int .nil)) (op_add_lst (by rw [List.length_map]; show (toldN sc).length + 1 ≤ 1000; lia))) ?cv) ?cm) (fun h => nomatch h) (fun _ => ?_) hQ
  case bd =>
    obtain ⟨n, _, rfl⟩ := List.mem_map.mp hd
    refine ⟨?_, fun r hr => ?_⟩
    · have : (posD (.int n)).isSome = decide (0 < n) := by
        unfold posD posF
        by_cases h : 0 < n <;> simp [h]
      rw [this]
      exact pif_one (pt_cmp (pe_var rfl) pe_int cmp_gt_int)
    · have : r = .int n := by
        unfold posD posF at hr
        by_cases h : 0 < n
        · simp [h] at hr; exact hr.symm
        · simp [h] at hr
      subst this
      exact pe_var rfl
  case cv =>
    unfold readN
    rw [List.map_append]; rfl
  case cm =>
    have := cmp_ne_ints (F := ⟨c, A, envLaw q L f cd, B⟩) (mu := mu) (a := readN sc) (b := readN sc) (by show A.units < cLine; have := room.2; lia)
    rw [show (readN sc != readN sc) = false by simp] at this
    exact this
  · exact k.pre fun g p => p.less (less_cons rfl less_nil)
end Mine
end

section
set_option Elab.async false
set_option maxRecDepth 100000
set_option autoImplicit false
set_option linter.unusedVariables false
namespace Mine
open PySem

/-- k sixteenths -/
noncomputable def fl (k : Nat) : UInt64 := Float64.ofFrac false k 16

theorem fl_cmp : ∀ a b : Fin 16, Float64.cmp (fl a.val) (fl b.val) = some (compare a.val b.val) := by decide +kernel
theorem fl_sub : ∀ a b : Fin 16, b.val ≤ a.val → Float64.sub (fl a.val) (fl b.val) = fl (a.val - b.val) := by decide +kernel
theorem fl_zero : ∀ a : Fin 16, Float64.isZero (fl a.val) = decide (a.val = 0) := by decide +kernel
theorem fl_share : ∀ a b : Fin 16, 0 < a.val → a.val ≤ b.val → (Float64.cmp (Float64.div (fl a.val) (fl b.val)) 0 != some .eq) = true := by decide +kernel

theorem lt_fl {a b : Nat} (ha : a < 16) (hb : b < 16) : ltF (fl a) (fl b) = decide (a < b) := by
  unfold ltF
  have c := fl_cmp ⟨a, ha⟩ ⟨b, hb⟩
  dsimp only at c
  rw [c]
  by_cases h : a < b
  · rw [Nat.compare_eq_lt.mpr h, decide_eq_true h]; rfl
  · rw [decide_eq_false h]
    exact beq_eq_false_iff_ne.mpr fun q => h (Nat.compare_eq_lt.mp (Option.some.inj q))
theorem max_fl {a b : Nat} (ha : a < 16) (hb : b < 16) : (if ltF (fl a) (fl b) = true then fl b else fl a) = fl (max a b) := by
  rw [lt_fl ha hb]
  by_cases h : a < b
  · rw [decide_eq_true h, if_pos rfl, Nat.max_eq_right (Nat.le_of_lt h)]
  · rw [decide_eq_false h, if_neg (by decide), Nat.max_eq_left (Nat.le_of_not_lt h)]
theorem min_fl {a b : Nat} (ha : a < 16) (hb : b < 16) : (if ltF (fl b) (fl a) = true then fl b else fl a) = fl (min a b) := by
  rw [lt_fl hb ha]
  by_cases h : b < a
  · rw [decide_eq_true h, if_pos rfl, Nat.min_eq_right (Nat.le_of_lt h)]
  · rw [decide_eq_false h, if_neg (by decide), Nat.min_eq_left (Nat.le_of_not_lt h)]
theorem fl_max {r g b : Nat} (hr : r < 16) (hg : g < 16) (hb : b < 16) : maxF (fl r) (fl g) (fl b) = fl (max (max r g) b) := by
  have e : maxF (fl r) (fl g) (fl b) = (if ltF (if ltF (fl r) (fl g) = true then fl g else fl r) (fl b) = true then fl b else (if ltF (fl r) (fl g) = true then fl g else fl r)) := by
    unfold maxF
    cases ltF (fl r) (fl g) <;> rfl
  rw [e, max_fl hr hg, max_fl (Nat.max_lt.mpr ⟨hr, hg⟩) hb]
theorem fl_min {r g b : Nat} (hr : r < 16) (hg : g < 16) (hb : b < 16) : minF (fl r) (fl g) (fl b) = fl (min (min r g) b) := by
  have e : minF (fl r) (fl g) (fl b) = (if ltF (fl b) (if ltF (fl g) (fl r) = true then fl g else fl r) = true then fl b else (if ltF (fl g) (fl r) = true then fl g else fl r)) := by
    unfold minF
    cases ltF (fl g) (fl r) <;> rfl
  rw [e, min_fl hr hg, min_fl (Nat.lt_of_le_of_lt (Nat.min_le_right _ _) hg) hb]
theorem fl_eq {a b : Nat} (ha : a < 16) (hb : b < 16) : (Float64.cmp (fl a) (fl b) == some .eq) = decide (a = b) := by
  have := fl_cmp ⟨a, ha⟩ ⟨b, hb⟩
  dsimp only at this
  rw [this]
  by_cases h : a = b
  · rw [Nat.compare_eq_eq.mpr h]; simp [h]
  · rw [decide_eq_false h]
    exact beq_eq_false_iff_ne.mpr fun q => h (Nat.compare_eq_eq.mp (Option.some.inj q))
theorem max3 (r g b : Nat) : r ≤ max (max r g) b ∧ g ≤ max (max r g) b ∧ b ≤ max (max r g) b :=
  ⟨Nat.le_trans (Nat.le_max_left r g) (Nat.le_max_left _ b), Nat.le_trans (Nat.le_max_right r g) (Nat.le_max_left _ b), Nat.le_max_right _ b⟩
theorem min3 (r g b : Nat) : min (min r g) b ≤ r ∧ min (min r g) b ≤ g ∧ min (min r g) b ≤ b :=
  ⟨Nat.le_trans (Nat.min_le_left _ b) (Nat.min_le_left r g), Nat.le_trans (Nat.min_le_left _ b) (Nat.min_le_right r g), Nat.min_le_right _ b⟩
theorem max3_lt {r g b n : Nat} (hr : r < n) (hg : g < n) (hb : b < n) : max (max r g) b < n := Nat.max_lt.mpr ⟨Nat.max_lt.mpr ⟨hr, hg⟩, hb⟩
theorem mm_eq {r g b : Nat} (h : min (min r g) b = max (max r g) b) : r = g ∧ g = b := by
  have m := max3 r g b
  have n := min3 r g b
  rw [← h] at m
  exact ⟨Nat.le_antisymm (Nat.le_trans m.1 n.2.1) (Nat.le_trans m.2.1 n.1), Nat.le_antisymm (Nat.le_trans m.2.1 n.2.2) (Nat.le_trans m.2.2 n.2.1)⟩
theorem fl_grey {r g b : Nat} (hr : r < 16) (hg : g < 16) (hb : b < 16) : greyF (fl r) (fl g) (fl b) = decide (r = g ∧ g = b) := by
  unfold greyF
  have m := max3 r g b
  have n := min3 r g b
  rw [fl_max hr hg hb, fl_min hr hg hb, fl_eq (Nat.lt_of_le_of_lt n.2.2 hb) (max3_lt hr hg hb)]
  refine decide_eq_decide.mpr ⟨mm_eq, ?_⟩
  · rintro ⟨rfl, rfl⟩
    rw [Nat.max_self, Nat.max_self, Nat.min_self, Nat.min_self]

/-- the hue of a colour whose lights are k sixteenths -/
noncomputable def hueK (r g b : Nat) : UInt64 := hueF (fl r) (fl g) (fl b)
/-- by the share of the greatest light -/
noncomputable def qF (a d : Nat) : UInt64 := Float64.div (fl a) (fl d)
noncomputable def hueQ (r g b : Nat) : UInt64 :=
  let m := max (max r g) b
  let d := m - min (min r g) b
  let h := if r = m then Float64.sub (qF (m - b) d) (qF (m - g) d) else if g = m then Float64.sub (Float64.add 0x4000000000000000 (qF (m - r) d)) (qF (m - b) d) else Float64.sub (Float64.add 0x4010000000000000 (qF (m - g) d)) (qF (m - r) d)
  (Float64.divmod (Float64.div h 0x4018000000000000) 0x3FF0000000000000).snd
theorem hue_q {r g b : Nat} (hr : r < 16) (hg : g < 16) (hb : b < 16) : hueK r g b = hueQ r g b := by
  have s := fun (a b : Nat) (ha : a < 16) (hb : b < 16) (h : b ≤ a) => fl_sub ⟨a, ha⟩ ⟨b, hb⟩ h
  dsimp only at s
  unfold hueK hueF hueQ
  dsimp only
  rw [fl_max hr hg hb, fl_min hr hg hb]
  have m := max3 r g b
  have hM := max3_lt hr hg hb
  have hm : min (min r g) b < 16 := Nat.lt_of_le_of_lt (Nat.min_le_right _ _) hb
  rw [s (max (max r g) b) (min (min r g) b) hM hm (Nat.le_trans (Nat.min_le_right _ _) m.2.2), s (max (max r g) b) r hM hr m.1, s (max (max r g) b) g hM hg m.2.1, s (max (max r g) b) b hM hb m.2.2]
  rw [fl_eq hr hM, fl_eq hg hM]
  simp only [decide_eq_true_eq]
  rfl
/-- grey added changes no hue -/
theorem hue_shift {r g b k : Nat} : hueQ (r + k) (g + k) (b + k) = hueQ r g b := by
  unfold hueQ
  dsimp only
  have e1 : max (max (r + k) (g + k)) (b + k) = max (max r g) b + k := by rw [Nat.add_max_add_right, Nat.add_max_add_right]
  have e2 : min (min (r + k) (g + k)) (b + k) = min (min r g) b + k := by rw [Nat.add_min_add_right, Nat.add_min_add_right]
  rw [e1, e2]
  have e3 : ∀ x, max (max r g) b + k - (x + k) = max (max r g) b - x := fun x => Nat.add_sub_add_right _ _ _
  rw [e3, e3, e3, e3]
  have e4 : (r + k = max (max r g) b + k) = (r = max (max r g) b) := by rw [Nat.add_right_cancel_iff]
  have e5 : (g + k = max (max r g) b + k) = (g = max (max r g) b) := by rw [Nat.add_right_cancel_iff]
  simp only [e4, e5]

theorem int_cmp (a b : Nat) : compare (a : Int) (b : Int) = compare a b := by
  show compareOfLessAndEq (a : Int) (b : Int) = compareOfLessAndEq a b
  unfold compareOfLessAndEq
  by_cases h : a < b
  · rw [if_pos h, if_pos (by lia)]
  · rw [if_neg h, if_neg (by lia)]
    by_cases h2 : a = b
    · rw [if_pos h2, if_pos (by lia)]
    · rw [if_neg h2, if_neg (by lia)]
theorem cmp_lt {a b c d : Nat} (h : a < b) (g : c < d) : compare a b = compare c d := by rw [Nat.compare_eq_lt.mpr h, Nat.compare_eq_lt.mpr g]
theorem cmp_gt {a b c d : Nat} (h : b < a) (g : d < c) : compare a b = compare c d := by rw [Nat.compare_eq_gt.mpr h, Nat.compare_eq_gt.mpr g]
theorem cmp_iff {a b c d : Nat} (h : a < b ↔ c < d) (g : a = b ↔ c = d) : compare a b = compare c d := by
  rcases Nat.lt_trichotomy a b with q | q | q
  · exact cmp_lt q (h.mp q)
  · rw [Nat.compare_eq_eq.mpr q, Nat.compare_eq_eq.mpr (g.mp q)]
  · exact cmp_gt q (by
      rcases Nat.lt_trichotomy c d with p | p | p
      · exact absurd (h.mpr p) (by lia)
      · exact absurd (g.mpr p) (by lia)
      · exact p)

/-- a float that is not below nought, told by its bits -/
theorem dec_form {z : UInt64} (hz : z.toNat < 2047 * 2 ^ 52) : ∃ M E, Float64.decode z = .fin false M ((E : Nat) - 1074) ∧ z.toNat = E * 2 ^ 52 + M ∧ M < 2 ^ 53 ∧ (E = 0 ∨ 2 ^ 52 ≤ M) := by
  have h1 : z.toNat / 2 ^ 63 = 0 := Nat.div_eq_of_lt (Nat.lt_trans hz (by decide))
  have h3 : z.toNat / 2 ^ 52 < 2047 := Nat.div_lt_of_lt_mul (by rw [Nat.mul_comm]; exact hz)
  have h2 : z.toNat / 2 ^ 52 % 2048 = z.toNat / 2 ^ 52 := Nat.mod_eq_of_lt (Nat.lt_trans h3 (by decide))
  have ex : z.toNat = z.toNat / 2 ^ 52 * 2 ^ 52 + z.toNat % 2 ^ 52 := (Nat.div_add_mod' _ _).symm
  have fx : z.toNat % 2 ^ 52 < 2 ^ 52 := Nat.mod_lt _ (by decide)
  unfold Float64.decode
  simp only [h1, h2]
  clear h1 h2
  generalize z.toNat / 2 ^ 52 = A at *
  generalize z.toNat % 2 ^ 52 = F at *
  rw [ex]
  clear ex hz
  by_cases h4 : A = 0
  · subst h4
    exact ⟨F, 0, by simp, rfl, Nat.lt_trans fx (by decide), .inl rfl⟩
  · obtain ⟨E, rfl⟩ : ∃ E, A = E + 1 := ⟨A - 1, (Nat.succ_pred h4).symm⟩
    refine ⟨2 ^ 52 + F, E, ?_, ?_, Nat.add_lt_add_left fx _, .inr (Nat.le_add_right _ _)⟩
    · have e : ((E + 1 : Nat) : Int) - 1075 = (E : Int) - 1074 := by clear fx h4 h3; lia
      have e' : E ≠ 2046 := fun q => Nat.ne_of_lt h3 (by rw [q])
      rw [show ((E + 1 : Nat) : Int) = (E : Int) + 1 from rfl] at e
      simp [e', e]
    · rw [Nat.add_mul, Nat.one_mul, Nat.add_assoc]
theorem ex_sub (E K : Nat) : ((E : Int) - 1074 - min ((E : Int) - 1074) ((K : Int) - 1074)).toNat = E - K := by
  rcases Int.le_total (E : Int) K with q | q
  · rw [Int.min_eq_left (Int.sub_le_sub_right q _), Int.sub_self, Nat.sub_eq_zero_of_le (Int.ofNat_le.mp q)]; rfl
  · rw [Int.min_eq_right (Int.sub_le_sub_right q _), show (E : Int) - 1074 - ((K : Int) - 1074) = E - K by clear q; lia, Int.toNat_sub]
theorem cmp_dec {x y : UInt64} {m k : Nat} {e f : Int} (hx : Float64.decode x = .fin false m e) (hy : Float64.decode y = .fin false k f) : Float64.cmp x y = some (compare (m * 2 ^ (e - min e f).toNat) (k * 2 ^ (f - min e f).toNat)) := by
  unfold Float64.cmp
  rw [hx, hy]
  show some (compare (Float64.sgn false (m * 2 ^ (e - min e f).toNat)) (Float64.sgn false (k * 2 ^ (f - min e f).toNat))) = _
  unfold Float64.sgn
  simp only [Bool.false_eq_true, if_false]
  rw [int_cmp]
theorem scale_lt {M N E K : Nat} (hM : M < 2 ^ 53) (hN : 2 ^ 52 ≤ N) (q : E < K) : M * 2 ^ (E - K) < N * 2 ^ (K - E) ∧ E * 2 ^ 52 + M < K * 2 ^ 52 + N := by
  have h2 : 2 ^ 1 ≤ 2 ^ (K - E) := Nat.pow_le_pow_right (by decide) (Nat.sub_pos_of_lt q)
  constructor
  · rw [Nat.sub_eq_zero_of_le (Nat.le_of_lt q), Nat.pow_zero, Nat.mul_one]
    exact Nat.lt_of_lt_of_le hM (Nat.mul_le_mul hN h2)
  · have h3 : (E + 1) * 2 ^ 52 ≤ K * 2 ^ 52 := Nat.mul_le_mul_right _ q
    clear h2
    lia
/-- floats that are not below nought stand in their bits' order -/
theorem cmp_bits {x y : UInt64} (hx : x.toNat < 2047 * 2 ^ 52) (hy : y.toNat < 2047 * 2 ^ 52) : Float64.cmp x y = some (compare x.toNat y.toNat) := by
  obtain ⟨M, E, dx, ex, mx, lx⟩ := dec_form hx
  obtain ⟨N, K, dy, ey, my, ly⟩ := dec_form hy
  rw [cmp_dec dx dy, ex_sub, Int.min_comm, ex_sub, ex, ey]
  clear dx dy ex ey hx hy
  congr 1
  rcases Nat.lt_trichotomy E K with q | q | q
  · have h := scale_lt mx (ly.resolve_left (Nat.ne_of_gt (Nat.lt_of_le_of_lt (Nat.zero_le _) q))) q
    exact cmp_lt h.1 h.2
  · subst q
    rw [Nat.sub_self, Nat.pow_zero, Nat.mul_one, Nat.mul_one]
    exact cmp_iff (Nat.add_lt_add_iff_left).symm (Nat.add_left_cancel_iff).symm
  · have h := scale_lt my (lx.resolve_left (Nat.ne_of_gt (Nat.lt_of_le_of_lt (Nat.zero_le _) q))) q
    exact cmp_gt h.1 h.2
end Mine
end

section
set_option Elab.async false
set_option maxRecDepth 100000
set_option autoImplicit false
set_option linter.unusedVariables false
namespace Mine
open PySem

/-- a colour of the s-th sixth of the wheel -/
noncomputable def col (s a d : Nat) : Nat × Nat × Nat :=
  match s with
  | 0 => (d, a, 0)
  | 1 => (d - a, d, 0)
  | 2 => (0, d, a)
  | 3 => (0, d - a, d)
  | 4 => (a, 0, d)
  | _ => (d, 0, d - a)
noncomputable def hueS (s a d : Nat) : Nat := (hueQ (col s a d).1 (col s a d).2.1 (col s a d).2.2).toNat
/-- 2 ^ 75 times the float -/
noncomputable def scaled (n : Nat) : Nat := if n / 2 ^ 52 < 1000 then 0 else (2 ^ 52 + n % 2 ^ 52) * 2 ^ (n / 2 ^ 52 - 1000)

/-- the hue is the place on the wheel, but for little -/
noncomputable def hueGood (s a d : Nat) : Bool :=
  Nat.gcd a d != 1 || (match hueS s a d with
    | n => n < 2047 * 2 ^ 52 && 6 * d * scaled n ≤ (s * d + a) * 2 ^ 75 + d * 2 ^ 30 && (s * d + a) * 2 ^ 75 ≤ 6 * d * scaled n + d * 2 ^ 30)
noncomputable def hueRow (s d : Nat) : Bool := (List.range d).all fun a => hueGood s a d
theorem rows_0 : (List.range 16).all (hueRow 0) = true := by decide +kernel
theorem rows_1 : (List.range 16).all (hueRow 1) = true := by decide +kernel
theorem rows_2 : (List.range 16).all (hueRow 2) = true := by decide +kernel
theorem rows_3 : (List.range 16).all (hueRow 3) = true := by decide +kernel
theorem rows_4 : (List.range 16).all (hueRow 4) = true := by decide +kernel
theorem rows_5 : (List.range 16).all (hueRow 5) = true := by decide +kernel

theorem good {s a d : Nat} (hs : s < 6) (ha : a < d) (hd : d < 16) (hg : Nat.gcd a d = 1) : hueS s a d < 2047 * 2 ^ 52 ∧ 6 * d * scaled (hueS s a d) ≤ (s * d + a) * 2 ^ 75 + d * 2 ^ 30 ∧ (s * d + a) * 2 ^ 75 ≤ 6 * d * scaled (hueS s a d) + d * 2 ^ 30 := by
  have h : (List.range 16).all (hueRow s) = true := by
    have : s = 0 ∨ s = 1 ∨ s = 2 ∨ s = 3 ∨ s = 4 ∨ s = 5 := by lia
    rcases this with rfl | rfl | rfl | rfl | rfl | rfl
    · exact rows_0
    · exact rows_1
    · exact rows_2
    · exact rows_3
    · exact rows_4
    · exact rows_5
  have h2 := List.all_eq_true.mp h d (by simpa using hd)
  have h3 : hueGood s a d = true := List.all_eq_true.mp h2 a (by simpa using ha)
  unfold hueGood at h3
  rw [hg] at h3
  simp only [bne_self_eq_false, Bool.false_or, Bool.and_eq_true, decide_eq_true_eq] at h3
  exact ⟨h3.1.1, h3.1.2, h3.2⟩

theorem q_scale : ∀ c d a : Fin 16, 0 < c.val → 0 < d.val → a.val ≤ d.val → c.val * d.val < 16 → qF (c.val * a.val) (c.val * d.val) = qF a.val d.val := by decide +kernel
theorem hue_scale {c r g b : Nat} (hc : 0 < c) (hm : c * max (max r g) b < 16) (hd : 0 < max (max r g) b - min (min r g) b) : hueQ (c * r) (c * g) (c * b) = hueQ r g b := by
  unfold hueQ
  dsimp only
  have e1 : max (max (c * r) (c * g)) (c * b) = c * max (max r g) b := by rw [Nat.mul_max_mul_left, Nat.mul_max_mul_left]
  have e2 : min (min (c * r) (c * g)) (c * b) = c * min (min r g) b := by rw [Nat.mul_min_mul_left, Nat.mul_min_mul_left]
  rw [e1, e2, ← Nat.mul_sub, ← Nat.mul_sub, ← Nat.mul_sub, ← Nat.mul_sub]
  have hM : max (max r g) b < 16 := Nat.lt_of_le_of_lt (Nat.le_mul_of_pos_left _ hc) hm
  have hc16 : c < 16 := Nat.lt_of_le_of_lt (Nat.le_mul_of_pos_right c (Nat.lt_of_lt_of_le hd (Nat.sub_le _ _))) hm
  have q : ∀ x, min (min r g) b ≤ x → qF (c * (max (max r g) b - x)) (c * (max (max r g) b - min (min r g) b)) = qF (max (max r g) b - x) (max (max r g) b - min (min r g) b) := fun x h1 =>
    q_scale ⟨c, hc16⟩ ⟨max (max r g) b - min (min r g) b, Nat.lt_of_le_of_lt (Nat.sub_le _ _) hM⟩ ⟨max (max r g) b - x, Nat.lt_of_le_of_lt (Nat.sub_le _ _) hM⟩ hc hd (Nat.sub_le_sub_left h1 _)
      (Nat.lt_of_le_of_lt (Nat.mul_le_mul_left _ (Nat.sub_le _ _)) hm)
  have n := min3 r g b
  rw [q b n.2.2, q g n.2.1, q r n.1]
  have e3 : (c * r = c * max (max r g) b) = (r = max (max r g) b) := propext ⟨fun h => Nat.eq_of_mul_eq_mul_left hc h, fun h => by rw [← h]⟩
  have e4 : (c * g = c * max (max r g) b) = (g = max (max r g) b) := propext ⟨fun h => Nat.eq_of_mul_eq_mul_left hc h, fun h => by rw [← h]⟩
  simp only [e3, e4]
theorem col_mm {s a d : Nat} (hs : s < 6) (ha : a < d) : max (max (col s a d).1 (col s a d).2.1) (col s a d).2.2 = d ∧ min (min (col s a d).1 (col s a d).2.1) (col s a d).2.2 = 0 := by
  have hl := Nat.le_of_lt ha
  have hr : d - a ≤ d := Nat.sub_le _ _
  match s, hs with
  | 0, _ => exact ⟨(Nat.max_zero _).trans (Nat.max_eq_left hl), Nat.min_zero _⟩
  | 1, _ => exact ⟨(Nat.max_zero _).trans (Nat.max_eq_right hr), Nat.min_zero _⟩
  | 2, _ => exact ⟨(congrArg (max · a) (Nat.zero_max d)).trans (Nat.max_eq_left hl), (congrArg (min · a) (Nat.zero_min d)).trans (Nat.zero_min _)⟩
  | 3, _ => exact ⟨(congrArg (max · d) (Nat.zero_max (d - a))).trans (Nat.max_eq_right hr), (congrArg (min · d) (Nat.zero_min (d - a))).trans (Nat.zero_min _)⟩
  | 4, _ => exact ⟨(congrArg (max · d) (Nat.max_zero a)).trans (Nat.max_eq_right hl), (congrArg (min · d) (Nat.min_zero a)).trans (Nat.zero_min _)⟩
  | 5, _ => exact ⟨(congrArg (max · (d - a)) (Nat.max_zero d)).trans (Nat.max_eq_left hr), (congrArg (min · (d - a)) (Nat.min_zero d)).trans (Nat.zero_min _)⟩
theorem hueS_scale {c s a d : Nat} (hc : 0 < c) (ha : a < d) (hd : c * d < 16) (hs : s < 6) : hueS s (c * a) (c * d) = hueS s a d := by
  unfold hueS
  have e : col s (c * a) (c * d) = (c * (col s a d).1, c * (col s a d).2.1, c * (col s a d).2.2) := by
    match s, hs with
    | 0, _ => rfl
    | 1, _ => exact Prod.ext (Nat.mul_sub _ _ _).symm rfl
    | 2, _ => rfl
    | 3, _ => exact Prod.ext rfl (Prod.ext (Nat.mul_sub _ _ _).symm rfl)
    | 4, _ => rfl
    | 5, _ => exact Prod.ext rfl (Prod.ext rfl (Nat.mul_sub _ _ _).symm)
  have m := col_mm hs ha
  rw [e]
  dsimp only
  rw [hue_scale hc]
  · rw [m.1]; exact hd
  · rw [m.1, m.2]; exact Nat.lt_of_le_of_lt (Nat.zero_le _) ha
/-- in lowest terms -/
theorem lowest {s a d : Nat} (hs : s < 6) (ha : a < d) (hd : d < 16) : ∃ c p q, 0 < c ∧ a = c * p ∧ d = c * q ∧ p < q ∧ q < 16 ∧ Nat.gcd p q = 1 ∧ hueS s a d = hueS s p q := by
  have hg : 0 < Nat.gcd a d := Nat.gcd_pos_of_pos_right _ (by lia)
  obtain ⟨p, hp⟩ := Nat.gcd_dvd_left a d
  obtain ⟨q, hq⟩ := Nat.gcd_dvd_right a d
  generalize hc : Nat.gcd a d = c at *
  have hcop : Nat.gcd p q = 1 := by
    have e : Nat.gcd a d = c * Nat.gcd p q := by
      rw [hp, hq]; exact Nat.gcd_mul_left c p q
    rw [hc] at e
    have : c * 1 = c * Nat.gcd p q := by lia
    exact (Nat.eq_of_mul_eq_mul_left hg this).symm
  have hpq : p < q := by
    rw [hp, hq] at ha
    exact Nat.lt_of_mul_lt_mul_left ha
  have hq16 : q < 16 := by
    have : 1 * q ≤ c * q := Nat.mul_le_mul_right _ hg
    lia
  exact ⟨c, p, q, hg, hp, hq, hpq, hq16, hcop, by rw [hp, hq]; exact hueS_scale hg hpq (by lia) hs⟩

theorem scaled_mono {m n : Nat} (h : m ≤ n) : scaled m ≤ scaled n := by
  unfold scaled
  have em : m = m / 2 ^ 52 * 2 ^ 52 + m % 2 ^ 52 := by lia
  have en : n = n / 2 ^ 52 * 2 ^ 52 + n % 2 ^ 52 := by lia
  have fm : m % 2 ^ 52 < 2 ^ 52 := Nat.mod_lt _ (by decide)
  have fn : n % 2 ^ 52 < 2 ^ 52 := Nat.mod_lt _ (by decide)
  generalize m / 2 ^ 52 = A at *
  generalize n / 2 ^ 52 = B at *
  generalize m % 2 ^ 52 = F at *
  generalize n % 2 ^ 52 = G at *
  by_cases hA : A < 1000
  · rw [if_pos hA]; exact Nat.zero_le _
  · have hAB : A ≤ B := by lia
    rw [if_neg hA, if_neg (by lia)]
    rcases Nat.lt_or_ge A B with q | q
    · have e : B - 1000 = (A - 1000) + (B - A - 1 + 1) := by lia
      rw [e, Nat.pow_add]
      have h1 : 2 ≤ 2 ^ (B - A - 1 + 1) := by have := Nat.pow_le_pow_right (n := 2) (by decide) (show 1 ≤ B - A - 1 + 1 by lia); simpa using this
      have h2 : 2 ^ (A - 1000) * 2 ≤ 2 ^ (A - 1000) * 2 ^ (B - A - 1 + 1) := Nat.mul_le_mul_left _ h1
      have h3 : (2 ^ 52 + G) * (2 ^ (A - 1000) * 2) ≤ (2 ^ 52 + G) * (2 ^ (A - 1000) * 2 ^ (B - A - 1 + 1)) := Nat.mul_le_mul_left _ h2
      have h4 : (2 ^ 52 + F) * 2 ^ (A - 1000) ≤ (2 ^ 52 * 2) * 2 ^ (A - 1000) := Nat.mul_le_mul_right _ (by lia)
      have h5 : (2 ^ 52 * 2) * 2 ^ (A - 1000) ≤ (2 ^ 52 + G) * (2 ^ (A - 1000) * 2) := by
        rw [Nat.mul_comm (2 ^ (A - 1000)) 2, ← Nat.mul_assoc]
        exact Nat.mul_le_mul_right _ (Nat.mul_le_mul_right _ (by lia))
      exact Nat.le_trans h4 (Nat.le_trans h5 h3)
    · have : A = B := by lia
      subst this
      exact Nat.mul_le_mul_right _ (by lia)


/-- the hues' order is the order on the wheel -/
theorem hue_lt' {s a d s' a' d' : Nat} (hs : s < 6) (ha : a < d) (hd : d < 16) (hc : Nat.gcd a d = 1) (hs' : s' < 6) (ha' : a' < d') (hd' : d' < 16) (hc' : Nat.gcd a' d' = 1) (h : (s * d + a) * d' < (s' * d' + a') * d) : hueS s a d < hueS s' a' d' := by
  obtain ⟨_, u1, u2⟩ := good hs ha hd hc
  obtain ⟨_, u3, u4⟩ := good hs' ha' hd' hc'
  rcases Nat.lt_or_ge (hueS s a d) (hueS s' a' d') with q | q
  · exact q
  · exfalso
    have m := scaled_mono q
    generalize scaled (hueS s a d) = V at *
    generalize scaled (hueS s' a' d') = V' at *
    generalize s * d + a = k at *
    generalize s' * d' + a' = k' at *
    have v1 : 6 * d * V * d' ≤ (k * 2 ^ 75 + d * 2 ^ 30) * d' := Nat.mul_le_mul_right _ u1
    have v2 : k * 2 ^ 75 * d' ≤ (6 * d * V + d * 2 ^ 30) * d' := Nat.mul_le_mul_right _ u2
    have v3 : 6 * d' * V' * d ≤ (k' * 2 ^ 75 + d' * 2 ^ 30) * d := Nat.mul_le_mul_right _ u3
    have v4 : k' * 2 ^ 75 * d ≤ (6 * d' * V' + d' * 2 ^ 30) * d := Nat.mul_le_mul_right _ u4
    have w : 6 * d' * V' * d ≤ 6 * d * V * d' := by
      have : V' * (6 * d * d') ≤ V * (6 * d * d') := Nat.mul_le_mul_right _ m
      calc 6 * d' * V' * d = V' * (6 * d * d') := by ac_rfl
        _ ≤ V * (6 * d * d') := this
        _ = 6 * d * V * d' := by ac_rfl
    rw [Nat.add_mul] at v1 v2 v3 v4
    have dd : d * d' ≤ 225 := by
      have := Nat.mul_le_mul (show d ≤ 15 by lia) (show d' ≤ 15 by lia)
      simpa using this
    have z1 : d * 2 ^ 30 * d' = d * d' * 2 ^ 30 := by ac_rfl
    have z2 : d' * 2 ^ 30 * d = d * d' * 2 ^ 30 := by ac_rfl
    have z3 : k * 2 ^ 75 * d' = k * d' * 2 ^ 75 := by ac_rfl
    have z4 : k' * 2 ^ 75 * d = k' * d * 2 ^ 75 := by ac_rfl
    rw [z1] at v1 v2
    rw [z2] at v3 v4
    rw [z3] at v1 v2
    rw [z4] at v3 v4
    generalize k * d' = X at *
    generalize k' * d = Y at *
    generalize d * d' = Z at *
    lia
theorem hue_lt {s a d s' a' d' : Nat} (hs : s < 6) (ha : a < d) (hd : d < 16) (hs' : s' < 6) (ha' : a' < d') (hd' : d' < 16) (h : (s * d + a) * d' < (s' * d' + a') * d) : hueS s a d < hueS s' a' d' := by
  obtain ⟨c, p, q, c0, rfl, rfl, hpq, hq, hg, e⟩ := lowest hs ha hd
  obtain ⟨c', p', q', c0', rfl, rfl, hpq', hq', hg', e'⟩ := lowest hs' ha' hd'
  rw [e, e']
  refine hue_lt' hs hpq hq hg hs' hpq' hq' hg' ?_
  have l : (s * (c * q) + c * p) * (c' * q') = c * c' * ((s * q + p) * q') := by
    rw [show s * (c * q) + c * p = c * (s * q + p) by rw [Nat.mul_add]; ac_rfl]; ac_rfl
  have r : (s' * (c' * q') + c' * p') * (c * q) = c * c' * ((s' * q' + p') * q) := by
    rw [show s' * (c' * q') + c' * p' = c' * (s' * q' + p') by rw [Nat.mul_add]; ac_rfl]; ac_rfl
  rw [l, r] at h
  exact Nat.lt_of_mul_lt_mul_left h
theorem hue_eq {s a d a' d' : Nat} (hs : s < 6) (ha : a < d) (hd : d < 16) (ha' : a' < d') (hd' : d' < 16) (h : a * d' = a' * d) : hueS s a d = hueS s a' d' := by
  obtain ⟨c, p, q, c0, rfl, rfl, hpq, hq, hg, e⟩ := lowest hs ha hd
  obtain ⟨c', p', q', c0', rfl, rfl, hpq', hq', hg', e'⟩ := lowest hs ha' hd'
  rw [e, e']
  have l : c * p * (c' * q') = c * c' * (p * q') := by ac_rfl
  have r : c' * p' * (c * q) = c * c' * (p' * q) := by ac_rfl
  rw [l, r] at h
  have h := Nat.eq_of_mul_eq_mul_left (Nat.mul_pos c0 c0') h
  have d1 : q ∣ q' := (Nat.Coprime.symm hg).dvd_of_dvd_mul_left (by rw [h]; exact Nat.dvd_mul_left _ _)
  have d2 : q' ∣ q := (Nat.Coprime.symm hg').dvd_of_dvd_mul_left (by rw [← h]; exact Nat.dvd_mul_left _ _)
  have eq : q = q' := Nat.dvd_antisymm d1 d2
  subst eq
  have : p = p' := Nat.eq_of_mul_eq_mul_right (by lia) h
  rw [this]
theorem hue_fin {s a d : Nat} (hs : s < 6) (ha : a < d) (hd : d < 16) : hueS s a d < 2047 * 2 ^ 52 := by
  obtain ⟨c, p, q, c0, rfl, rfl, hpq, hq, hg, e⟩ := lowest hs ha hd
  rw [e]
  exact (good hs hpq hq hg).1

/-- the sixth of the wheel -/
noncomputable def sixOf (r g b : Nat) : Nat × Nat × Nat × Nat :=
  if b ≤ g ∧ g < r then (0, g - b, r - b, b) else if b < r ∧ r ≤ g then (1, g - r, g - b, b) else if r ≤ b ∧ b < g then (2, b - r, g - r, r)
  else if r < g ∧ g ≤ b then (3, b - g, b - r, r) else if g ≤ r ∧ r < b then (4, r - g, b - g, g) else (5, r - b, r - g, g)
structure Sixth (r g b s a d k : Nat) : Prop where
  hs : s < 6
  ha : a < d
  hd : d < 16
  c1 : r = (col s a d).1 + k
  c2 : g = (col s a d).2.1 + k
  c3 : b = (col s a d).2.2 + k
noncomputable def sixOk (r g b : Nat) : Bool :=
  (Nat.beq r g && Nat.beq g b) || (match sixOf r g b with
    | (s, a, d, k) => Nat.blt s 6 && (Nat.blt a d && (Nat.blt d 16 && (Nat.beq r ((col s a d).1 + k) && (Nat.beq g ((col s a d).2.1 + k) && Nat.beq b ((col s a d).2.2 + k))))))
theorem six_all : ((List.range 16).all fun r => (List.range 16).all fun g => (List.range 16).all fun b => sixOk r g b) = true := by decide +kernel
theorem sixth {r g b : Nat} (hr : r < 16) (hg : g < 16) (hb : b < 16) (hn : ¬ (r = g ∧ g = b)) : ∃ s a d k, Sixth r g b s a d k := by
  have h := List.all_eq_true.mp (List.all_eq_true.mp (List.all_eq_true.mp six_all r (List.mem_range.mpr hr)) g (List.mem_range.mpr hg)) b (List.mem_range.mpr hb)
  unfold sixOk at h
  rcases Bool.or_eq_true_iff.mp h with h | h
  · have := Bool.and_eq_true_iff.mp h
    exact absurd ⟨Nat.eq_of_beq_eq_true this.1, Nat.eq_of_beq_eq_true this.2⟩ hn
  · obtain ⟨h1, h⟩ := Bool.and_eq_true_iff.mp h
    obtain ⟨h2, h⟩ := Bool.and_eq_true_iff.mp h
    obtain ⟨h3, h⟩ := Bool.and_eq_true_iff.mp h
    obtain ⟨h4, h⟩ := Bool.and_eq_true_iff.mp h
    obtain ⟨h5, h6⟩ := Bool.and_eq_true_iff.mp h
    exact ⟨_, _, _, _, Nat.le_of_ble_eq_true h1, Nat.le_of_ble_eq_true h2, Nat.le_of_ble_eq_true h3, Nat.eq_of_beq_eq_true h4, Nat.eq_of_beq_eq_true h5, Nat.eq_of_beq_eq_true h6⟩
theorem hue_col {r g b s a d k : Nat} (hr : r < 16) (hg : g < 16) (hb : b < 16) (e1 : r = (col s a d).1 + k) (e2 : g = (col s a d).2.1 + k) (e3 : b = (col s a d).2.2 + k) : (hueK r g b).toNat = hueS s a d := by
  rw [hue_q hr hg hb, e1, e2, e3, hue_shift]; rfl
end Mine
end

section
set_option Elab.async false
set_option maxRecDepth 100000
set_option autoImplicit false
set_option linter.unusedVariables false
namespace Mine
open PySem PySem.Calls PyProof.Rows PySem.W

/-- the lights of a number -/
noncomputable def rI (n : Int) : Int := n.fdiv 256
noncomputable def gI (n : Int) : Int := (n.fdiv 16).fmod 16
noncomputable def bI (n : Int) : Int := n.fmod 16
/-- an edge: its hue, its way across and up -/
noncomputable def laidItem (n : Int) : Option (UInt64 × Int × Int) :=
  if rI n = gI n ∧ gI n = bI n then none else some (hueK (rI n).toNat (gI n).toNat (bI n).toNat, rI n - bI n, gI n - bI n)
noncomputable def laidL (sc : List Int) : List (UInt64 × Int × Int) := (readN sc).filterMap laidItem

theorem lights {n : Int} (h0 : 0 ≤ n) (h1 : n < 4096) : (0 ≤ rI n ∧ rI n < 16) ∧ (0 ≤ gI n ∧ gI n < 16) ∧ (0 ≤ bI n ∧ bI n < 16) := by
  unfold rI gI bI
  rw [Int.fdiv_eq_ediv_of_nonneg _ (by decide), Int.fdiv_eq_ediv_of_nonneg _ (by decide), Int.fmod_eq_emod_of_nonneg _ (by decide), Int.fmod_eq_emod_of_nonneg _ (by decide)]
  lia
theorem readN_range (sc : List Int) : ∀ n ∈ readN sc, 0 ≤ n ∧ n < 4096 := by
  intro n hn
  unfold readN toldN at hn
  rcases List.mem_append.mp hn with h | h
  · exact nums_range sc n (List.mem_filter.mp h).1
  · rw [List.mem_singleton.mp h]; decide
theorem readN_length (sc : List Int) : (readN sc).length ≤ 7 := by
  have := List.length_filter_le (fun n => decide (0 < n)) (nums sc)
  rw [nums_length] at this
  unfold readN toldN
  rw [List.length_append]; simp; lia

theorem toNat_16 {x : Int} (h : 0 ≤ x ∧ x < 16) : x.toNat < 16 := by lia
theorem item_wheel {n : Int} (h : 0 ≤ n ∧ n < 4096) {r : UInt64 × Int × Int} (e : laidItem n = some r) :
    r = (hueK (rI n).toNat (gI n).toNat (bI n).toNat, rI n - bI n, gI n - bI n) ∧ ∃ s a d k, Sixth (rI n).toNat (gI n).toNat (bI n).toNat s a d k := by
  have l := lights h.1 h.2
  unfold laidItem at e
  split at e
  · cases e
  · rename_i hng
    refine ⟨(Option.some.inj e).symm, ?_⟩
    refine sixth (toNat_16 l.1) (toNat_16 l.2.1) (toNat_16 l.2.2) fun q => hng ⟨?_, ?_⟩
    · rw [← Int.toNat_of_nonneg l.1.1, q.1, Int.toNat_of_nonneg l.2.1.1]
    · rw [← Int.toNat_of_nonneg l.2.1.1, q.2, Int.toNat_of_nonneg l.2.2.1]
theorem col_lt {s a d k r g b : Nat} (h : Sixth r g b s a d k) (hr : r < 16) (hg : g < 16) (hb : b < 16) : (hueK r g b).toNat = hueS s a d := hue_col hr hg hb h.c1 h.c2 h.c3
/-- what stands of the laid ones after i of the numbers -/
structure LaidR (sc : List Int) (i : Nat) (ts : List T3) (tk : Nat) : Prop where
  tok : ∀ p ∈ ts, 0 < p.t ∧ p.t < tk
  nd : (ts.map (·.t)).Nodup
  items : ts.map (fun p => (p.b, p.x, p.y)) = ((readN sc).take i).filterMap laidItem
theorem LaidR.mono {sc : List Int} {i : Nat} {ts : List T3} {t t' : Nat} (h : t ≤ t') (r : LaidR sc i ts t) : LaidR sc i ts t' :=
  ⟨fun p hp => ⟨(r.tok p hp).1, Nat.lt_of_lt_of_le (r.tok p hp).2 h⟩, r.nd, r.items⟩
theorem item_hue {n : Int} (h : 0 ≤ n ∧ n < 4096) {r : UInt64 × Int × Int} (e : laidItem n = some r) {s a d k : Nat} (w : Sixth (rI n).toNat (gI n).toNat (bI n).toNat s a d k) : r.1.toNat = hueS s a d := by
  have l := lights h.1 h.2
  rw [(item_wheel h e).1]
  exact col_lt w (toNat_16 l.1) (toNat_16 l.2.1) (toNat_16 l.2.2)
theorem laid_hue {sc : List Int} {i : Nat} {ts : List T3} {t : Nat} (r : LaidR sc i ts t) : ∀ p ∈ ts, p.b.toNat < 2047 * 2 ^ 52 := by
  intro p hp
  have h1 : (p.b, p.x, p.y) ∈ ts.map fun p => (p.b, p.x, p.y) := List.mem_map.mpr ⟨p, hp, rfl⟩
  rw [r.items] at h1
  obtain ⟨n, hn, e⟩ := List.mem_filterMap.mp h1
  have hr := readN_range sc n (List.mem_of_mem_take hn)
  obtain ⟨_, s, a, d, k, w⟩ := item_wheel hr e
  have := item_hue hr e w
  dsimp only at this
  rw [this]
  exact hue_fin w.hs w.ha w.hd
theorem laid_ok {sc : List Int} {i : Nat} {ts : List T3} {t : Nat} (r : LaidR sc i ts t) : T3.Ok ts := by
  refine ⟨fun p hp => by have := (r.tok p hp).1; lia, fun p hp q hq e => ?_, fun p hp q hq => cmp_bits (laid_hue r p hp) (laid_hue r q hq)⟩
  obtain ⟨i, hi, rfl⟩ := List.getElem_of_mem hp
  obtain ⟨j, hj, rfl⟩ := List.getElem_of_mem hq
  have nd := r.nd
  have : i = j := by
    refine (List.getElem_inj (xs := ts.map (·.t)) (h₀ := by rw [List.length_map]; exact hi) (h₁ := by rw [List.length_map]; exact hj) nd).mp ?_
    rw [List.getElem_map, List.getElem_map]; exact e
  subst this; rfl

theorem take_filterMap {α β : Type} {f : α → Option β} {l : List α} {i : Nat} {x : α} (h : l[i]? = some x) : (l.take (i + 1)).filterMap f = (l.take i).filterMap f ++ (f x).toList := by
  rw [List.take_add_one, h, List.filterMap_append]
  cases hx : f x <;> simp [hx]

theorem ofFrac_nat {a : Int} (h0 : 0 ≤ a) (h1 : a < 16) : Float64.ofFrac (decide (a < 0) != decide ((16 : Int) < 0)) a.natAbs (16 : Int).natAbs = fl a.toNat := by
  have e1 : decide (a < 0) = false := by rw [decide_eq_false_iff_not]; lia
  have e2 : a.natAbs = a.toNat := by lia
  rw [e1, e2]; rfl
theorem fl_inf : ∀ a : Fin 16, Float64.isInf (fl a.val) = false := by decide +kernel

section
variable {F : Fx} {mu : List Addr} {ρ : Vars} {own : Owned}
theorem sts_at {P : Heap → Nat → Prop} {ss : List Stmt} {Q : Flow → Heap → Nat → Prop} (h : ∀ k, STs F (fun g tk => P g k ∧ k ≤ tk) ss Q) : STs F P ss Q := fun s Φ E p kk => h s.toks s Φ E ⟨p, Nat.le_refl _⟩ kk
theorem sts_fact {p : Prop} {P : Heap → Nat → Prop} {ss : List Stmt} {Q : Flow → Heap → Nat → Prop} (h : p → STs F P ss Q) : STs F (fun g t => p ∧ P g t) ss Q := fun s Φ E ⟨q, r⟩ k => h q s Φ E r k
end

noncomputable def forB : List Stmt → List Stmt
  | .For _ _ b _ _ :: _ => b
  | _ => []
/-- a loop's body in the law -/
noncomputable def loopB (k n : Nat) : List Stmt := (forB (lawB k)).drop n

section
variable {F : Fx} {mu : List Addr} {ρ : Vars} {own : Owned}
theorem sts_go {P P' : Heap → Prop} {R : Nat → Prop} (hR : ∀ t t', t ≤ t' → R t → R t') {st : Stmt} {ss : List Stmt} {Q : Flow → Heap → Nat → Prop} (h : ST F P [st] fun f g => f = .next ∧ P' g) (k : STs F (fun g tk => P' g ∧ R tk) ss Q) : STs F (fun g tk => P g ∧ R tk) (st :: ss) Q :=
  sts_seq ((sts_lift h R hR).post fun fl g tk q => ⟨q.1.1, q.1.2, q.2⟩) k
end

noncomputable abbrev rgbV (sc : List Int) (n : Int) : Vars := [("red", .int (rI n)), ("green", .int (gI n)), ("blue", .int (bI n)), ("read", .lst ((readN sc).map .int))]

set_option maxHeartbeats 8000000
theorem law_rgb {c : Cx} {q : Str} {L f : Addr} {cd : Value} {A : Around} {B' : Heap} {mu' : List Addr} {sc : List Int} {a : Addr} {n : Int} {ls : List D} {R : Nat → Prop} (hR : ∀ t t', t ≤ t' → R t → R t') {Q : Flow → Heap → Nat → Prop}
    (k : STs ⟨c, A, envLaw q L f cd, B'⟩ (fun g tk => Sta ⟨c, A, envLaw q L f cd, B'⟩ mu' (rgbV sc n) [("laid", a, ls)] g ∧ R tk) (loopB 17 1) Q) :
    STs ⟨c, A, envLaw q L f cd, B'⟩ (fun g tk => Sta ⟨c, A, envLaw q L f cd, B'⟩ mu' [("number", .int n), ("read", .lst ((readN sc).map .int))] [("laid", a, ls)] g ∧ R tk) (loopB 17 0) Q := by
  refine sts_go hR ((st_assign_swap (names := ["red", "green", "blue"]) (ds := [.int (rI n), .int (gI n), .int (bI n)]) (pe_tuple (.cons (pe_bin (pe_var rfl) pe_int (op_fdiv_int (by decide) (PyProof.noPylong_small (by decide)))) (.cons (pe_bin (pe_bin (pe_var rfl) pe_int (op_fdiv_int (by decide) (PyProof.noPylong_small (by decide)))) pe_int (op_mod_int (by decide))) (.cons (pe_bin (pe_var rfl) pe_int (op_mod_int (by decide))) .nil))))
      (.cons (tgt_bind (.inl rfl)) (.cons (tgt_bind (.inl rfl)) (.cons (tgt_bind (.inl rfl)) .nil))) ?_).post fun fl g ⟨e1, e2⟩ => ⟨e1, e2.less (less_cons rfl (less_cons rfl (less_cons rfl (less_cons rfl less_nil))))⟩) k
  intro p hp b hb
  rw [List.mem_singleton.mp hp]
  simp only [List.mem_append, List.mem_singleton, List.nil_append] at hb
  rcases hb with (rfl | rfl) | rfl
  · show Str.ofString "laid" ≠ Str.ofString "red"; decide
  · show Str.ofString "laid" ≠ Str.ofString "green"; decide
  · show Str.ofString "laid" ≠ Str.ofString "blue"; decide

theorem fl_arg {c : Cx} {q : Str} {L f : Addr} {cd : Value} {A : Around} {B' : Heap} {mu' : List Addr} {ρ : Vars} {own : Owned} {e : Expr} {x : Int} {kk : Nat} {p1 p2 : Pos} (y : PE ⟨c, A, envLaw q L f cd, B'⟩ mu' ρ own e (.int x)) (h0 : 0 ≤ x) (h1 : x < 16) :
    PE ⟨c, A, envLaw q L f cd, B'⟩ mu' ρ own (.BinOp e .Div (.Constant (.int 16) kk p1) p2) (.flt (fl x.toNat)) := by
  have fi := fl_inf ⟨x.toNat, by lia⟩
  dsimp only at fi
  refine pe_conv (pe_bin y pe_int (op_div_int (by decide) (by rw [ofFrac_nat h0 h1]; exact fi))) ?_
  rw [ofFrac_nat h0 h1]

/-- a number of no hue -/
theorem law_grey {c : Cx} (G : Gx c) {q : Str} {L f : Addr} {cd : Value} {A : Around} {B' : Heap} {mu' : List Addr} {sc : List Int} (room : Room A 3) {a : Addr} {n : Int} (hr : 0 ≤ n ∧ n < 4096) (hg : rI n = gI n ∧ gI n = bI n) {ls : List D} {R : Nat → Prop} (hR : ∀ t t', t ≤ t' → R t → R t') :
    STs ⟨c, A, envLaw q L f cd, B'⟩ (fun g tk => Sta ⟨c, A, envLaw q L f cd, B'⟩ mu' (rgbV sc n) [("laid", a, ls)] g ∧ R tk) (loopB 17 1) fun fl g tk => fl = .next ∧ Sta ⟨c, A, envLaw q L f cd, B'⟩ mu' [("read", .lst ((readN sc).map .int))] [("laid", a, ls)] g ∧ R tk := by
  have l := lights hr.1 hr.2
  have eg := fl_grey (r := (rI n).toNat) (g := (gI n).toNat) (b := (bI n).toNat) (by lia) (by lia) (by lia)
  have eg1 : greyF (fl (rI n).toNat) (fl (gI n).toNat) (fl (bI n).toNat) = true := by rw [eg]; exact decide_eq_true (by lia)
  have fn := fn_hsv (r := fl (rI n).toNat) (g := fl (gI n).toNat) (b := fl (bI n).toNat) G.toGl (fun h => by rw [eg1] at h; cases h) (fun h => by rw [eg1] at h; cases h)
  have hd : hsvD (fl (rI n).toNat) (fl (gI n).toNat) (fl (bI n).toNat) = .tup [.flt 0, .flt 0, .flt (maxF (fl (rI n).toNat) (fl (gI n).toNat) (fl (bI n).toNat))] := by unfold hsvD; rw [if_pos eg1]
  rw [hd] at fn
  refine sts_go hR (P' := Sta ⟨c, A, envLaw q L f cd, B'⟩ mu' [("share", .flt 0), ("read", .lst ((readN sc).map .int))] [("laid", a, ls)]) ((st_assign_tup (bs := [(Str.ofString "value", D.flt (maxF (fl (rI n).toNat) (fl (gI n).toNat) (fl (bI n).toNat))), (Str.ofString "share", .flt 0), (Str.ofString "hue", .flt 0)]) (pe_def fn G.d6 G.g6 (room.le (by decide)) (.cons (fl_arg (pe_var rfl) l.1.1 l.1.2) (.cons (fl_arg (pe_var rfl) l.2.1.1 l.2.1.2) (.cons (fl_arg (pe_var rfl) l.2.2.1 l.2.2.2) .nil))))
    (.cons (tgt_name (.inl rfl)) (.cons (tgt_name (.inl rfl)) (.cons (tgt_name (.inl rfl)) .nil))) ?_).post fun fl g ⟨e1, e2⟩ => ⟨e1, e2.less (less_cons rfl (less_cons rfl less_nil))⟩) ?_
  · intro p hp b hb
    rw [List.mem_singleton.mp hp]
    simp only [List.mem_cons, List.not_mem_nil, or_false] at hb
    rcases hb with rfl | rfl | rfl
    · show Str.ofString "laid" ≠ Str.ofString "value"; decide
    · show Str.ofString "laid" ≠ Str.ofString "share"; decide
    · show Str.ofString "laid" ≠ Str.ofString "hue"; decide
  · refine (sts_lift (st_if (r := (Float64.cmp 0 0 != some .eq)) (pt_cmp (pe_var rfl) pe_flt cmp_ne_flt) (fun h => absurd h (by decide +kernel)) (fun _ => st_nil (Q := fun fl g => fl = .next ∧ Sta ⟨c, A, envLaw q L f cd, B'⟩ mu' [("read", .lst ((readN sc).map .int))] [("laid", a, ls)] g) fun g p => ⟨rfl, p.less (less_cons rfl less_nil)⟩)) R hR).post fun fl g tk q => ⟨q.1.1, q.1.2, q.2⟩
end Mine
end

section
set_option Elab.async false
set_option maxRecDepth 100000
set_option autoImplicit false
set_option linter.unusedVariables false
namespace Mine
open PySem PySem.Calls PyProof.Rows PySem.W

set_option maxHeartbeats 8000000
theorem hue_facts {r g b : Nat} (hr : r < 16) (hg : g < 16) (hb : b < 16) (hn : ¬ (r = g ∧ g = b)) :
    greyF (Mine.fl r) (Mine.fl g) (Mine.fl b) = false ∧ Float64.isZero (maxF (Mine.fl r) (Mine.fl g) (Mine.fl b)) = false ∧ Float64.isZero (Float64.sub (maxF (Mine.fl r) (Mine.fl g) (Mine.fl b)) (minF (Mine.fl r) (Mine.fl g) (Mine.fl b))) = false ∧
    (Float64.cmp (shareF (Mine.fl r) (Mine.fl g) (Mine.fl b)) 0 != some .eq) = true := by
  have eg := fl_grey hr hg hb
  unfold shareF
  rw [eg, fl_max hr hg hb, fl_min hr hg hb]
  obtain ⟨m, M, e1, e2, h1, h2⟩ : ∃ m M, min (min r g) b = m ∧ max (max r g) b = M ∧ m < M ∧ M < 16 := ⟨_, _, rfl, rfl, Nat.lt_of_le_of_ne (Nat.le_trans (min3 r g b).1 (max3 r g b).1) (fun q => hn (mm_eq q)), max3_lt hr hg hb⟩
  rw [e1, e2]
  clear e1 e2 eg
  have hm : m < 16 := Nat.lt_trans h1 h2
  have hp : 0 < M - m := Nat.sub_pos_of_lt h1
  have hd : M - m < 16 := Nat.lt_of_le_of_lt (Nat.sub_le _ _) h2
  have q1 := fl_zero ⟨M, h2⟩
  have q2 := fl_sub ⟨M, h2⟩ ⟨m, hm⟩ (Nat.le_of_lt h1)
  have q3 := fl_zero ⟨M - m, hd⟩
  have q4 := fl_share ⟨M - m, hd⟩ ⟨M, h2⟩ hp (Nat.sub_le _ _)
  dsimp only at q1 q2 q3 q4
  rw [q1, q2, q3, q4]
  refine ⟨decide_eq_false hn, decide_eq_false (Nat.ne_of_gt (Nat.lt_of_le_of_lt (Nat.zero_le _) h1)), decide_eq_false (Nat.ne_of_gt hp), rfl⟩
/-- a number of a hue -/
theorem law_hue {c : Cx} (G : Gx c) {q : Str} {L f : Addr} {cd : Value} {A : Around} {B' : Heap} {mu' : List Addr} {sc : List Int} (room : Room A 3) {a : Addr} {n : Int} (hr : 0 ≤ n ∧ n < 4096) (hg : ¬ (rI n = gI n ∧ gI n = bI n)) {ls : List D} (hls : ls.length ≤ 100) {k : Nat} :
    STs ⟨c, A, envLaw q L f cd, B'⟩ (fun g tk => Sta ⟨c, A, envLaw q L f cd, B'⟩ mu' (rgbV sc n) [("laid", a, ls)] g ∧ k ≤ tk) (loopB 17 1) fun fl g tk => fl = .next ∧ ∃ t, k ≤ t ∧ 0 < t ∧ t < tk ∧
      Sta ⟨c, A, envLaw q L f cd, B'⟩ mu' [("read", .lst ((readN sc).map .int))] [("laid", a, ls ++ [T3.d ⟨hueK (rI n).toNat (gI n).toNat (bI n).toNat, t, rI n - bI n, gI n - bI n⟩])] g := by
  have l := lights hr.1 hr.2
  obtain ⟨eg1, z1, z2, hsh⟩ := hue_facts (toNat_16 l.1) (toNat_16 l.2.1) (toNat_16 l.2.2) fun q => hg ⟨by rw [← Int.toNat_of_nonneg l.1.1, q.1, Int.toNat_of_nonneg l.2.1.1], by rw [← Int.toNat_of_nonneg l.2.1.1, q.2, Int.toNat_of_nonneg l.2.2.1]⟩
  have fn := fn_hsvT (c := c) G.toGl eg1 z1 z2
  refine sts_seq (sts_assign_hsv (bs := fun t => [(Str.ofString "value", .flt (maxF (Mine.fl (rI n).toNat) (Mine.fl (gI n).toNat) (Mine.fl (bI n).toNat))), (Str.ofString "share", .flt (shareF (Mine.fl (rI n).toNat) (Mine.fl (gI n).toNat) (Mine.fl (bI n).toNat))), (Str.ofString "hue", .fltT (hueK (rI n).toNat (gI n).toNat (bI n).toNat) t)])
    (pe_callR fn G.d6 G.g6 (room.le (by decide)) (.cons (fl_arg (pe_var rfl) l.1.1 l.1.2) (.cons (fl_arg (pe_var rfl) l.2.1.1 l.2.1.2) (.cons (fl_arg (pe_var rfl) l.2.2.1 l.2.2.2) .nil))) ?mono)
    (fun t => .cons (tgt_name (.inl rfl)) (.cons (tgt_name (.inl rfl)) (.cons (tgt_name (.inl rfl)) .nil))) ?no) ?_
  case mono =>
    rintro k k₁ k' d hk ⟨t, t1, t2, e⟩
    exact ⟨t, Nat.le_trans hk t1, t2, e⟩
  case no =>
    intro t p hp b hb
    rw [List.mem_singleton.mp hp]
    simp only [List.mem_cons, List.not_mem_nil, or_false] at hb
    rcases hb with rfl | rfl | rfl
    · show Str.ofString "laid" ≠ Str.ofString "value"; decide
    · show Str.ofString "laid" ≠ Str.ofString "share"; decide
    · show Str.ofString "laid" ≠ Str.ofString "hue"; decide
  refine sts_exi fun t => ?_
  refine STs.pre (P := fun g' tk => Sta ⟨c, A, envLaw q L f cd, B'⟩ mu' _ [("laid", a, ls)] g' ∧ (k ≤ t ∧ 0 < t ∧ t < tk)) ?_ fun g' tk p => ⟨p.2.2.2, p.1, p.2.1, p.2.2.1⟩
  refine (sts_lift (st_if (r := true) (Q := fun fl g => fl = .next ∧ Sta ⟨c, A, envLaw q L f cd, B'⟩ mu' [("read", .lst ((readN sc).map .int))] [("laid", a, ls ++ [T3.d ⟨hueK (rI n).toNat (gI n).toNat (bI n).toNat, t, rI n - bI n, gI n - bI n⟩])] g)
    (pt_cmp (pe_var rfl) pe_flt ?_) (fun _ => ?_) (fun h => nomatch h)) (fun tk => k ≤ t ∧ 0 < t ∧ t < tk) fun _ _ h r => ⟨r.1, r.2.1, Nat.lt_of_lt_of_le r.2.2 h⟩).post fun fl g tk q => ⟨q.1.1, t, q.2.1, q.2.2.1, q.2.2.2, q.1.2⟩
  · have := cmp_ne_flt (F := ⟨c, A, envLaw q L f cd, B'⟩) (mu := mu') (a := shareF (Mine.fl (rI n).toNat) (Mine.fl (gI n).toNat) (Mine.fl (bI n).toNat)) (b := 0)
    rw [hsh] at this
    exact this
  · exact (st_append (pe_tuple (ds := [.fltT (hueK (rI n).toNat (gI n).toNat (bI n).toNat) t, .int (rI n - bI n), .int (gI n - bI n)]) (.cons (pe_var rfl) (.cons (pe_bin (pe_var rfl) (pe_var rfl) op_sub_int) (.cons (pe_bin (pe_var rfl) (pe_var rfl) op_sub_int) .nil)))) (by lia)).post fun fl g ⟨e1, e2⟩ => ⟨e1, e2.less (less_cons rfl less_nil)⟩

theorem law_turn {c : Cx} (G : Gx c) {q : Str} {L f : Addr} {cd : Value} {A : Around} {B' : Heap} {mu' : List Addr} {sc : List Int} (room : Room A 3) {a : Addr} {i : Nat} {n : Int} (hn : (readN sc)[i]? = some n) {ts : List T3} :
    STs ⟨c, A, envLaw q L f cd, B'⟩ (fun g tk => Sta ⟨c, A, envLaw q L f cd, B'⟩ mu' [("number", .int n), ("read", .lst ((readN sc).map .int))] [("laid", a, ts.map T3.d)] g ∧ LaidR sc i ts tk)
      (loopB 17 0) fun fl g tk => (fl = .next ∨ fl = .cont) ∧ ∃ ts', Sta ⟨c, A, envLaw q L f cd, B'⟩ mu' [("read", .lst ((readN sc).map .int))] [("laid", a, ts'.map T3.d)] g ∧ LaidR sc (i + 1) ts' tk := by
  have hr := readN_range sc n (List.mem_of_getElem? hn)
  have hi7 : i < 7 := by
    have := readN_length sc
    rcases Nat.lt_or_ge i (readN sc).length with h | h
    · omega
    · rw [List.getElem?_eq_none h] at hn; cases hn
  by_cases hg : rI n = gI n ∧ gI n = bI n
  · refine law_rgb (R := LaidR sc i ts) (fun _ _ h r => r.mono h) ((law_grey G room hr hg (fun _ _ h r => LaidR.mono h r)).post fun fl g tk ⟨e1, e2, e3⟩ => ⟨.inl e1, ts, e2, ?_⟩)
    refine ⟨e3.tok, e3.nd, ?_⟩
    rw [take_filterMap hn, e3.items]
    have : laidItem n = none := by unfold laidItem; rw [if_pos hg]
    rw [this]; simp
  · refine law_rgb (R := LaidR sc i ts) (fun _ _ h r => r.mono h) (sts_at fun k => ?_)
    refine STs.pre (P := fun g tk => LaidR sc i ts k ∧ (Sta ⟨c, A, envLaw q L f cd, B'⟩ mu' (rgbV sc n) [("laid", a, ts.map T3.d)] g ∧ k ≤ tk)) (sts_fact fun hR => ?_) fun g tk p => ⟨p.1.2, p.1.1, p.2⟩
    have hl : (ts.map T3.d).length ≤ 100 := by
      have h1 := congrArg List.length hR.items
      rw [List.length_map] at h1
      have h2 := List.length_filterMap_le laidItem ((readN sc).take i)
      rw [List.length_take] at h2
      rw [List.length_map]; omega
    refine (law_hue G room hr hg hl).post fun fl g tk ⟨e1, t, k1, k2, k3, e2⟩ => ⟨.inl e1, ts ++ [⟨hueK (rI n).toNat (gI n).toNat (bI n).toNat, t, rI n - bI n, gI n - bI n⟩], ?_, ?_, ?_, ?_⟩
    · rw [List.map_append]; exact e2
    · intro p hp
      rcases List.mem_append.mp hp with hp | hp
      · have := hR.tok p hp; omega
      · rw [List.mem_singleton.mp hp]; exact ⟨k2, k3⟩
    · rw [List.map_append, List.nodup_append]
      refine ⟨hR.nd, by simp, ?_⟩
      intro x hx y hy
      obtain ⟨p, hp, rfl⟩ := List.mem_map.mp hx
      rw [List.map_singleton] at hy
      rw [List.mem_singleton.mp hy]
      have := (hR.tok p hp).2
      show p.t ≠ t
      lia
    · rw [take_filterMap hn, List.map_append, hR.items]
      have : laidItem n = some (hueK (rI n).toNat (gI n).toNat (bI n).toNat, rI n - bI n, gI n - bI n) := by unfold laidItem; rw [if_neg hg]
      rw [this]; rfl
end Mine
end

section
set_option Elab.async false
set_option maxRecDepth 100000
set_option autoImplicit false
set_option linter.unusedVariables false
namespace Mine
open PySem PySem.Calls PyProof.Rows PySem.W

set_option maxHeartbeats 8000000
theorem law_h1 {c : Cx} (G : Gx c) {q : Str} {L f : Addr} {cd : Value} {A : Around} {B : Heap} {mu : List Addr} {sc : List Int} {Q : Flow → Heap → Prop} (room : Room A 3) (hB2 : B.get? (L + 1 + 1) = none)
    (k : ∀ ts : List T3, T3.Ok ts → ts.map (fun p => (p.b, p.x, p.y)) = laidL sc → ST ⟨c, A, envLaw q L f cd, B⟩ (Sta ⟨c, A, envLaw q L f cd, B⟩ mu [("laid", .lst ((sortT ts).map T3.d))] []) (lawB 19) Q) :
    ST ⟨c, A, envLaw q L f cd, B⟩ (Sta ⟨c, A, envLaw q L f cd, B⟩ mu [("read", .lst ((readN sc).map .int))] []) (lawB 16) Q := by
  have no : ∀ {x : Str}, ∀ p ∈ ([] : Owned), p.1 ≠ x := fun p hp => nomatch hp
  refine st_seq (st_own (pn_list .nil) (.inr ⟨rfl, L + 1 + 1, rfl, hB2⟩) no rfl) (st_exi fun a => st_fact fun ham => st_fact fun okF => ?_)
  refine STs.st ?_
  refine STs.pre (P := fun g tk => Sta ⟨c, A, envLaw q L f cd, B⟩ (a :: mu) [("read", .lst ((readN sc).map .int))] [("laid", a, [])] g ∧ LaidR sc 0 [] tk) ?_ fun g tk p => ⟨p, ⟨(fun p hp => nomatch hp), List.Pairwise.nil, rfl⟩⟩
  have hlen : ((readN sc).map D.int).length = (readN sc).length := List.length_map ..
  refine sts_seq (st_forS (it_list (ds := (readN sc).map .int) (pe_var rfl)) (fun i d => [("number", d)]) (fun i d p hp b hb => ?no) (fun i => [("read", .lst ((readN sc).map .int))]) (fun i (ts : List T3) => [("laid", a, ts.map T3.d)]) (LaidR sc) [] (fun i γ t t' h r => r.mono h)
    (less_cons rfl less_nil) rfl (fun i γ => rfl) (fun i d hd => tg_name (.inl rfl)) (fun B' mu' i d ts hd => ?turn)) ?rest
  case no =>
    rw [List.mem_singleton.mp hp, List.mem_singleton.mp hb]
    show Str.ofString "laid" ≠ Str.ofString "number"; decide
  case turn =>
    rw [List.getElem?_map] at hd
    obtain ⟨n, hn, rfl⟩ := Option.map_eq_some_iff.mp hd
    exact law_turn G room hn
  case rest =>
    rw [hlen]
    refine sts_exi fun ts => ?_
    have main : ∀ tk, LaidR sc (readN sc).length ts tk → ST ⟨c, A, envLaw q L f cd, B⟩ (Sta ⟨c, A, envLaw q L f cd, B⟩ (a :: mu) [("read", .lst ((readN sc).map .int))] [("laid", a, ts.map T3.d)]) (lawB 18) Q := by
      intro tk hR
      have items := hR.items
      rw [List.take_length] at items
      have hl : ts.length ≤ 7 := by
        have h1 := congrArg List.length items
        rw [List.length_map] at h1
        have h2 := List.length_filterMap_le laidItem (readN sc)
        have := readN_length sc
        lia
      refine ST.pre (P := Sta ⟨c, A, envLaw q L f cd, B⟩ mu [("laid", .lst (ts.map T3.d))] []) ?_ fun g p => (p.freeze ham okF).less (less_cons rfl less_nil)
      refine st_seq (st_assign (pe_sorted (laid_ok hR) (by lia) G.nb (pe_var rfl) G.n_sorted (by decide +kernel)) (.inr ⟨rfl, L + 1 + 1, rfl, hB2⟩) no) ?_
      exact (k ts (laid_ok hR) items).pre fun g p => p.less (less_cons rfl less_nil)
    exact fun s Φ E p kk => main s.toks p.2 s Φ E p.1 fun f h' tk q => kk f h' tk q
end Mine
end

section
set_option autoImplicit false
set_option linter.unusedVariables false
namespace Mine
/-! the outline, plain -/
noncomputable abbrev Ed := Int × Int
noncomputable def cr (p q : Ed) : Int := p.1 * q.2 - p.2 * q.1
noncomputable def posOf (es : List Ed) (j : Nat) : Ed := (((es.take j).map (·.1)).sum, ((es.take j).map (·.2)).sum)
noncomputable def spotsOf (es : List Ed) : List Ed := (List.range es.length).map (posOf es)
noncomputable def areaUp (es : List Ed) : Nat → Int
  | 0 => 0
  | j + 1 => areaUp es j + (posOf es j).1 * (es.getD j (0, 0)).2 - (posOf es j).2 * (es.getD j (0, 0)).1
noncomputable def rimUp (es : List Ed) : Nat → Int
  | 0 => 0
  | j + 1 => rimUp es j + (Int.gcd (es.getD j (0, 0)).1 (es.getD j (0, 0)).2 : Nat)
theorem posOf_succ (es : List Ed) (j : Nat) (h : j < es.length) : posOf es (j + 1) = ((posOf es j).1 + (es.getD j (0, 0)).1, (posOf es j).2 + (es.getD j (0, 0)).2) := by
  unfold posOf
  have e : es[j]? = some (es.getD j (0, 0)) := by rw [List.getD_eq_getElem?_getD, List.getElem?_eq_getElem h]; rfl
  rw [List.take_add_one, e]
  simp
end Mine
end

section
set_option Elab.async false
set_option maxRecDepth 100000
set_option autoImplicit false
set_option linter.unusedVariables false
namespace Mine
open PySem PySem.Calls PyProof.Rows PySem.W

noncomputable def edOf (p : T3) : Ed := (p.x, p.y)
noncomputable def edF : D → Option D
  | .tup [_, x, y] => some (.tup [x, y])
  | _ => none
/-- a new hue at the j-th -/
noncomputable def newHue (us : List T3) (j : Nat) : Bool := j == 0 || (us.getD j ⟨0, 0, 0, 0⟩).b != (us.getD (j - 1) ⟨0, 0, 0, 0⟩).b
noncomputable def hueF' (us : List T3) : D → Option D
  | .int j => if newHue us j.toNat then some (.int j) else none
  | _ => none
noncomputable def hueN (us : List T3) : Nat := ((List.range us.length).filter (newHue us)).length

theorem cmp_ne_fltT {F : Fx} {mu : List Addr} {a b : UInt64} {t u : Nat} : Cmp F mu .NotEq (.fltT a t) (.fltT b u) (Float64.cmp a b != some .eq) := fun s v w Q E x y h => by
  rw [x.fltT_inv, y.fltT_inv]
  exact AutoFloatOps.ne_0 (h s (krefl s))
theorem ne_bits {a b : UInt64} (h : Float64.cmp a b = some (compare a.toNat b.toNat)) : (Float64.cmp a b != some .eq) = (a != b) := by
  rw [h]
  by_cases e : a = b
  · subst e
    rw [Nat.compare_eq_eq.mpr rfl, bne_self_eq_false, bne_self_eq_false]
  · have hn : a.toNat ≠ b.toNat := fun q => e (UInt64.toNat_inj.mp q)
    have hc : compare a.toNat b.toNat ≠ .eq := fun q => hn (Nat.compare_eq_eq.mp q)
    rw [bne_iff_ne.mpr e]
    exact bne_iff_ne.mpr fun q => hc (Option.some.inj q)
theorem hue_len (us : List T3) : ((ups 0 us.length).filterMap (hueF' us)).length = hueN us := by
  unfold ups hueN
  rw [List.filterMap_map]
  have : ∀ l : List Nat, (l.filterMap (hueF' us ∘ fun i => D.int (0 + (i : Nat)))).length = (l.filter (newHue us)).length := by
    intro l
    induction l with
    | nil => rfl
    | cons i l ih =>
      rw [List.filterMap_cons, List.filter_cons]
      have e : (hueF' us ∘ fun i => D.int (0 + (i : Nat))) i = if newHue us i then some (.int (i : Int)) else none := by
        show hueF' us (.int (0 + (i : Nat))) = _
        unfold hueF'
        rw [show (0 + (i : Nat) : Int) = (i : Int) by lia]; rfl
      rw [e]
      cases h : newHue us i with
      | true =>
        rw [if_pos rfl, if_pos rfl]
        show (D.int (i : Int) :: List.filterMap (hueF' us ∘ fun i => D.int (0 + (i : Nat))) l).length = (i :: List.filter (newHue us) l).length
        rw [List.length_cons, List.length_cons, ih]
      | false =>
        rw [if_neg (by simp), if_neg (by simp)]
        exact ih
  exact this _

theorem ix {n i : Nat} (h : i < n) (hn : n ≤ 100) : seqIndex? (i : Int) n = some i := by
  unfold seqIndex?
  have h0 : ¬ ((i : Int) < 0) := by omega
  simp only [h0, if_false]
  have h1 : (decide (0 ≤ (i : Int)) && decide ((i : Int) < (n : Int))) = true := by simp; omega
  rw [if_pos h1]
  congr 1

theorem hueF_some (us : List T3) (j : Nat) : (hueF' us (.int (j : Int))).isSome = newHue us j := by
  show (if newHue us j = true then some (D.int (j : Int)) else none).isSome = newHue us j
  cases newHue us j <;> rfl
theorem hueF_val {us : List T3} {j : Nat} {r : D} (h : hueF' us (.int (j : Int)) = some r) : r = .int (j : Int) := by
  have h : (if newHue us j = true then some (D.int (j : Int)) else none) = some r := h
  cases hn : newHue us j with
  | true => rw [hn, if_pos rfl] at h; exact (Option.some.inj h).symm
  | false => rw [hn] at h; cases h
theorem newHue_or (us : List T3) (j : Nat) : newHue us j = (((j : Int) == 0) || (((us.getD j ⟨0, 0, 0, 0⟩).b != (us.getD (j - 1) ⟨0, 0, 0, 0⟩).b) || false)) := by
  unfold newHue
  rw [Bool.or_false]
  cases j <;> rfl
theorem item_at {us : List T3} {i : Nat} (hi : i < us.length) : (us.map T3.d)[i]? = some (us.getD i ⟨0, 0, 0, 0⟩).d := by
  rw [List.getElem?_map, List.getD_eq_getElem?_getD, List.getElem?_eq_getElem hi]; rfl
theorem mem_at {us : List T3} {i : Nat} (hi : i < us.length) : us.getD i ⟨0, 0, 0, 0⟩ ∈ us := by
  rw [List.getD_eq_getElem?_getD, List.getElem?_eq_getElem hi]; exact List.getElem_mem hi
set_option maxHeartbeats 8000000
theorem law_k1 {c : Cx} (G : Gx c) {q : Str} {L f : Addr} {cd : Value} {A : Around} {B : Heap} {mu : List Addr} {Q : Flow → Heap → Prop} (room : Room A 3) {us : List T3} (ok : T3.Ok us) (hn : us.length ≤ 7)
    (k : ST ⟨c, A, envLaw q L f cd, B⟩ (Sta ⟨c, A, envLaw q L f cd, B⟩ mu [("hues", .int (hueN us)), ("edges", .lst ((us.map edOf).map pD))] []) (lawB 21) Q) :
    ST ⟨c, A, envLaw q L f cd, B⟩ (Sta ⟨c, A, envLaw q L f cd, B⟩ mu [("laid", .lst (us.map T3.d))] []) (lawB 19) Q := by
  have no : ∀ {x : Str}, ∀ p ∈ ([] : Owned), p.1 ≠ x := fun p hp => nomatch hp
  refine st_seq (R := Sta ⟨c, A, envLaw q L f cd, B⟩ mu [("edges", .lst ((us.map edOf).map pD)), ("laid", .lst (us.map T3.d))] []) ?_ ?_
  · refine (st_assign_comp (f := edF) (bs := fun d => match d with | .tup [h, x, y] => [("y", y), ("x", x), ("hue", h)] | _ => []) (ρ' := []) (own' := []) (it_list (ds := us.map T3.d) (pe_var rfl)).w (comp_ok rfl rfl (by decide +kernel) (fun _ => rfl) (fun _ => rfl)) (by rw [List.length_map]; omega)
      rfl no rfl no_vis (List.Sublist.refl _) no_ownv no_bs no_bo ?_ ?_).post fun fl g ⟨e1, e2⟩ => ⟨e1, ?_⟩
    · intro C B' d hd _
      obtain ⟨p, hp, rfl⟩ := List.mem_map.mp hd
      exact tg_tuple (.cons (tgt_name (.inl rfl)) (.cons (tgt_name (.inl rfl)) (.cons (tgt_name (.inl rfl)) .nil)))
    · intro C B' mu' d hd
      obtain ⟨p, hp, rfl⟩ := List.mem_map.mp hd
      refine ⟨pif_nil, fun r hr => ?_⟩
      have : r = .tup [.int p.x, .int p.y] := (Option.some.inj hr).symm
      subst this
      exact pe_tuple (.cons (pe_var rfl) (.cons (pe_var rfl) .nil))
    · rw [filterMap_map_some (f := edF) (g := T3.d) (h := fun p => .tup [.int p.x, .int p.y]) (fun p => rfl)] at e2
      rw [show (us.map edOf).map pD = us.map fun p => .tup [.int p.x, .int p.y] by rw [List.map_map]; rfl]
      exact e2.less (less_cons rfl (less_cons rfl less_nil))
  refine st_seq (st_assign (d := .int (hueN us)) (pe_conv (pe_blt (blt_len_lst (ds := (ups 0 us.length).filterMap (hueF' us)) (by rw [hue_len]; unfold hueN; have := List.length_filter_le (newHue us) (List.range us.length); rw [List.length_range] at this; omega)) (.cons (pn_comp (f := hueF' us) (bs := fun d => [("j", d)]) (ρ' := [("laid", .lst (us.map T3.d))]) (own' := []) (cl := [("laid", L + 1 + 1)]) (jc := none)
    (it_range1 (b := (us.length : Int)) (pe_conv (pe_blt (blt_len_lst (by rw [List.length_map]; omega)) (.cons (pe_var rfl) .nil) G.n_len (by decide +kernel)) (by rw [List.length_map])) (by omega) G.n_range).w
      ⟨rfl, rfl, by decide +kernel, fun _ => rfl, fun _ => rfl, fun x a h => ?s1, fun x a h => ?s2, fun j h => nomatch h⟩ (by rw [ups_length]; omega) (fun x d h => ?s3) (List.Sublist.refl _) no_ownv (fun d y e h => ?s4) no_bo
      (fun C B' d hd _ => tg_name (.inl rfl)) (fun C B' mu' d hd => ?bd)).pe .nil) G.n_len (by decide +kernel)) (by rw [hue_len])) (.inl rfl) no) (k.pre fun g p => p.less (less_cons rfl (less_cons rfl less_nil)))
  case s1 =>
    obtain ⟨rfl, rfl⟩ := look1 h
    rfl
  case s2 => cases List.mem_singleton.mp h; rfl
  case s3 =>
    obtain ⟨rfl, rfl⟩ := look1 h
    exact ⟨rfl, rfl, by first | exact .inl rfl | exact .inr rfl, by first | exact .inl rfl | exact .inr rfl⟩
  case s4 =>
    obtain ⟨rfl, rfl⟩ := look1 h
    rfl
  case bd =>
    obtain ⟨j, hj⟩ := List.getElem?_of_mem hd
    obtain ⟨hjn, rfl⟩ := ups_get hj
    have hjn' : j < us.length := by omega
    rw [show (0 + (j : Nat) : Int) = (j : Int) by lia]
    refine ⟨?_, fun r hr => ?_⟩
    · rw [hueF_some]
      refine pif_one ?_
      rw [newHue_or]
      refine pt_or (pt_cmp (pe_var rfl) pe_int cmp_eq_int) fun h0 => pt_or ?_ fun _ => pt_or_nil
      have j0 : j ≠ 0 := by simpa using h0
      have item : ∀ i, i < us.length → (us.map T3.d)[i]? = some (us.getD i ⟨0, 0, 0, 0⟩).d := fun i hi => item_at hi
      have mem : ∀ i, i < us.length → us.getD i ⟨0, 0, 0, 0⟩ ∈ us := fun i hi => mem_at hi
      have cm := cmp_ne_fltT (F := ⟨c, A, cEnv ⟨c, A, envLaw q L f cd, B⟩ (match lawB 20 with | .Assign _ (.Call _ [.ListComp _ _ sc _] _ _) _ :: _ => sc | _ => { kind := .module, names := [], isGenerator := false, isCoroutine := false, more := [] }) [("laid", L + 1 + 1)] none C, B'⟩) (mu := mu') (a := (us.getD j ⟨0, 0, 0, 0⟩).b) (b := (us.getD (j - 1) ⟨0, 0, 0, 0⟩).b) (t := (us.getD j ⟨0, 0, 0, 0⟩).t) (u := (us.getD (j - 1) ⟨0, 0, 0, 0⟩).t)
      rw [ne_bits (ok.cmp _ (mem j hjn') _ (mem (j - 1) (by omega)))] at cm
      refine pt_cmp (pe_sub_tup (ds := [.fltT (us.getD j ⟨0, 0, 0, 0⟩).b (us.getD j ⟨0, 0, 0, 0⟩).t, .int (us.getD j ⟨0, 0, 0, 0⟩).x, .int (us.getD j ⟨0, 0, 0, 0⟩).y]) (pe_sub_lst (ds := us.map T3.d) (d := (us.getD j ⟨0, 0, 0, 0⟩).d) (pe_var rfl) (pe_var rfl) (by rw [List.length_map]; exact ix hjn' (by omega)) (item j hjn') (by omega)) pe_int rfl rfl (by decide))
        (pe_sub_tup (ds := [.fltT (us.getD (j - 1) ⟨0, 0, 0, 0⟩).b (us.getD (j - 1) ⟨0, 0, 0, 0⟩).t, .int (us.getD (j - 1) ⟨0, 0, 0, 0⟩).x, .int (us.getD (j - 1) ⟨0, 0, 0, 0⟩).y]) (pe_sub_lst (ds := us.map T3.d) (i := ((j - 1 : Nat) : Int)) (d := (us.getD (j - 1) ⟨0, 0, 0, 0⟩).d) (pe_var rfl) (pe_conv (pe_bin (pe_var rfl) pe_int op_sub_int) (by congr 1; omega)) (by rw [List.length_map]; exact ix (by omega) (by omega)) (item (j - 1) (by omega)) (by omega)) pe_int rfl rfl (by decide)) cm
    · have := hueF_val hr
      subst this
      exact pe_var rfl
end Mine
end

section
set_option Elab.async false
set_option maxRecDepth 100000
set_option autoImplicit false
set_option linter.unusedVariables false
namespace Mine
open PySem PySem.Calls PyProof.Rows PySem.W

noncomputable def prevIx (n j : Nat) : Nat := if j = 0 then n - 1 else j - 1
theorem posOf_bound {es : List Ed} (h : ∀ e ∈ es, e.1.natAbs ≤ 15 ∧ e.2.natAbs ≤ 15) : ∀ j, j ≤ es.length → (posOf es j).1.natAbs ≤ 15 * j ∧ (posOf es j).2.natAbs ≤ 15 * j
  | 0, _ => by simp [posOf]
  | j + 1, hj => by
    have ih := posOf_bound h j (by omega)
    rw [posOf_succ es j (by omega)]
    have hm : es.getD j (0, 0) ∈ es := by rw [List.getD_eq_getElem?_getD, List.getElem?_eq_getElem (by omega : j < es.length)]; exact List.getElem_mem _
    have := h _ hm
    exact ⟨Nat.le_trans (Int.natAbs_add_le _ _) (Nat.add_le_add ih.1 this.1), Nat.le_trans (Int.natAbs_add_le _ _) (Nat.add_le_add ih.2 this.2)⟩
theorem ixm {n : Nat} (h : 0 < n) (hn : n ≤ 100) : seqIndex? (-1) n = some (n - 1) := by
  obtain ⟨m, rfl⟩ : ∃ m, n = m + 1 := ⟨n - 1, (Nat.sub_add_cancel h).symm⟩
  rw [seqIndex_neg (by decide) (by clear hn; lia)]
  exact congrArg some (show (-1 + ((m + 1 : Nat) : Int)).toNat = m by clear h hn; lia)

theorem prev_lt {n j : Nat} (h : j < n) : prevIx n j < n := by unfold prevIx; split <;> omega
theorem prev_ix {n j : Nat} (h : j < n) (hn : n ≤ 7) : seqIndex? ((j : Int) - 1) n = some (prevIx n j) := by
  unfold prevIx
  cases j with
  | zero => exact ixm h (Nat.le_trans hn (by decide))
  | succ j =>
    rw [if_neg (Nat.succ_ne_zero j), show ((j + 1 : Nat) : Int) - 1 = (j : Int) by rw [Int.natCast_add]; exact Int.add_sub_cancel _ _]
    exact seq_at (Nat.lt_of_succ_lt h)
theorem idx_in {j : Nat} (h : j ≤ 7) : -100000 ≤ (j : Int) ∧ (j : Int) ≤ 100000 := by lia
theorem idx_in' {j : Nat} (h : j ≤ 7) : -100000 ≤ (j : Int) - 1 ∧ (j : Int) - 1 ≤ 100000 := by lia
theorem small40 {a : Nat} (h : a ≤ 15) : a < 2 ^ 40 := Nat.lt_of_le_of_lt h (by decide)
theorem pb40 {a j : Nat} (h : a ≤ 15 * j) (hj : j ≤ 7) : a < 2 ^ 40 := Nat.lt_of_le_of_lt (Nat.le_trans h (Nat.mul_le_mul_left 15 hj)) (by decide)
theorem ed_item {es : List Ed} {i : Nat} (hi : i < es.length) : (es.map pD)[i]? = some (pD (es.getD i (0, 0))) := by
  rw [List.getElem?_map, List.getD_eq_getElem?_getD, List.getElem?_eq_getElem hi]; rfl
theorem ed_bnd {es : List Ed} (hb : ∀ e ∈ es, e.1.natAbs ≤ 15 ∧ e.2.natAbs ≤ 15) {i : Nat} (hi : i < es.length) : (es.getD i (0, 0)).1.natAbs ≤ 15 ∧ (es.getD i (0, 0)).2.natAbs ≤ 15 := by
  refine hb _ ?_
  rw [List.getD_eq_getElem?_getD, List.getElem?_eq_getElem hi]; exact List.getElem_mem hi
theorem spots_snoc {es : List Ed} {j : Nat} (hj : j < es.length) : ((spotsOf es).take j).map pD ++ [D.tup [.int (posOf es j).1, .int (posOf es j).2]] = ((spotsOf es).take (j + 1)).map pD := by
  have h1 : (spotsOf es)[j]? = some (posOf es j) := by
    unfold spotsOf
    rw [List.getElem?_map, List.getElem?_range hj]; rfl
  rw [List.take_add_one, h1, List.map_append]; rfl
theorem spots_len {es : List Ed} {j : Nat} (hn : es.length ≤ 7) : (((spotsOf es).take j).map pD).length ≤ 100000 := by
  rw [List.length_map, List.length_take]
  refine Nat.le_trans (Nat.min_le_right _ _) ?_
  unfold spotsOf
  rw [List.length_map, List.length_range]
  exact Nat.le_trans hn (by decide)
theorem area_step (es : List Ed) (j : Nat) : areaUp es (j + 1) = areaUp es j + ((posOf es j).1 * (es.getD j (0, 0)).2 - (posOf es j).2 * (es.getD j (0, 0)).1) := Int.add_sub_assoc _ _ _
set_option maxHeartbeats 8000000
theorem law_l1 {c : Cx} (G : Gx c) {q : Str} {L f : Addr} {cd : Value} {A : Around} {B : Heap} {mu : List Addr} {Q : Flow → Heap → Prop} (room : Room A 3) {es : List Ed} {hN : Nat} (hn : es.length ≤ 7) (hb : ∀ e ∈ es, e.1.natAbs ≤ 15 ∧ e.2.natAbs ≤ 15)
    (hc : ∀ j, j < es.length → 0 ≤ cr (es.getD (prevIx es.length j) (0, 0)) (es.getD j (0, 0)))
    (k : ST ⟨c, A, envLaw q L f cd, B⟩ (Sta ⟨c, A, envLaw q L f cd, B⟩ mu [("spots", .lst ((spotsOf es).map pD)), ("x", .int (posOf es es.length).1), ("y", .int (posOf es es.length).2), ("area", .int (areaUp es es.length)), ("rim", .int (rimUp es es.length)), ("hues", .int hN), ("edges", .lst (es.map pD))] []) (lawB 24) Q) :
    ST ⟨c, A, envLaw q L f cd, B⟩ (Sta ⟨c, A, envLaw q L f cd, B⟩ mu [("hues", .int hN), ("edges", .lst (es.map pD))] []) (lawB 21) Q := by
  have no : ∀ {x : Str}, ∀ p ∈ ([] : Owned), p.1 ≠ x := fun p hp => nomatch hp
  refine st_seq (st_own (pn_list .nil) (.inl rfl) no rfl) (st_exi fun a => st_fact fun ham => st_fact fun okF => ?_)
  refine st_seq (R := Sta ⟨c, A, envLaw q L f cd, B⟩ (a :: mu) [("x", .int 0), ("y", .int 0), ("area", .int 0), ("rim", .int 0), ("hues", .int hN), ("edges", .lst (es.map pD))] [("spots", a, [])]) ?_ ?_
  · refine (st_assign_tup (ds := [.int 0, .int 0, .int 0, .int 0]) (bs := [(Str.ofString "rim", .int 0), (Str.ofString "area", .int 0), (Str.ofString "y", .int 0), (Str.ofString "x", .int 0)]) (pe_tuple (.cons pe_int (.cons pe_int (.cons pe_int (.cons pe_int .nil)))))
      (.cons (tgt_name (.inl rfl)) (.cons (tgt_name (.inl rfl)) (.cons (tgt_name (.inl rfl)) (.cons (tgt_name (.inl rfl)) .nil)))) ?_).post fun fl g ⟨e1, e2⟩ => ⟨e1, e2.less (less_cons rfl (less_cons rfl (less_cons rfl (less_cons rfl (less_cons rfl (less_cons rfl less_nil))))))⟩
    intro p hp b hb
    rw [List.mem_singleton.mp hp]
    simp only [List.mem_cons, List.not_mem_nil, or_false] at hb
    rcases hb with rfl | rfl | rfl | rfl <;> (show Str.ofString "spots" ≠ Str.ofString _; decide)
  have hlen : (ups 0 (es.length : Int).toNat).length = es.length := by rw [ups_length]; lia
  refine st_seq (R := Sta ⟨c, A, envLaw q L f cd, B⟩ (a :: mu) [("x", .int (posOf es es.length).1), ("y", .int (posOf es es.length).2), ("area", .int (areaUp es es.length)), ("rim", .int (rimUp es es.length)), ("hues", .int hN), ("edges", .lst (es.map pD))] [("spots", a, ((spotsOf es).take es.length).map pD)]) ?_ ?_
  · refine (st_for (it_range1 (b := (es.length : Int)) (pe_conv (pe_blt (blt_len_lst (by rw [List.length_map]; omega)) (.cons (pe_var rfl) .nil) G.n_len (by decide +kernel)) (by rw [List.length_map])) (by omega) G.n_range) (fun i d => [("j", d)]) (fun i d p hp b hb => ?no)
      (fun j => [("x", .int (posOf es j).1), ("y", .int (posOf es j).2), ("area", .int (areaUp es j)), ("rim", .int (rimUp es j)), ("hues", .int hN), ("edges", .lst (es.map pD))]) (fun j => [("spots", a, ((spotsOf es).take j).map pD)])
      (less_cons rfl (less_cons rfl (less_cons rfl (less_cons rfl (less_cons rfl (less_cons rfl less_nil)))))) rfl (fun i => rfl) (fun i d hd => tg_name (.inl rfl)) (fun B' mu' j d hd => ?turn)).post fun fl g ⟨e1, e2⟩ => ⟨e1, by rw [hlen] at e2; exact e2⟩
    case no =>
      rw [List.mem_singleton.mp hp, List.mem_singleton.mp hb]
      show Str.ofString "spots" ≠ Str.ofString "j"; decide
    case turn =>
      obtain ⟨hj, rfl⟩ := ups_get hd
      have hj' : j < es.length := by omega
      rw [show (0 + (j : Nat) : Int) = (j : Int) by lia]
      have hno : ∀ {x : Str} {ls : List D}, Str.ofString "spots" ≠ x → ∀ p ∈ ([("spots", a, ls)] : Owned), p.1 ≠ x := fun h p hp => by rw [List.mem_singleton.mp hp]; exact h
      have hj7 : j ≤ 7 := Nat.le_trans (Nat.le_of_lt hj') hn
      have pb := posOf_bound hb j (Nat.le_of_lt hj')
      have b1 := ed_bnd hb hj'
      have hp : prevIx es.length j < es.length := prev_lt hj'
      have b2 := ed_bnd hb hp
      have si1 : seqIndex? (j : Int) (es.map pD).length = some j := by rw [List.length_map]; exact seq_at hj'
      have si2 : seqIndex? ((j : Int) - 1) (es.map pD).length = some (prevIx es.length j) := by rw [List.length_map]; exact prev_ix hj' hn
      have hbj := idx_in hj7
      have hbm := idx_in' hj7
      have it1 : (es.map pD)[j]? = some (pD (es.getD j (0, 0))) := ed_item hj'
      have it2 : (es.map pD)[prevIx es.length j]? = some (pD (es.getD (prevIx es.length j) (0, 0))) := ed_item hp
      obtain ⟨e, he⟩ : ∃ e, e = es.getD j (0, 0) := ⟨_, rfl⟩
      obtain ⟨p, hpp⟩ : ∃ p, p = es.getD (prevIx es.length j) (0, 0) := ⟨_, rfl⟩
      have hcj := hc j hj'
      rw [← he] at b1 it1 hcj
      rw [← hpp] at b2 it2 hcj
      have snoc := spots_snoc hj'
      have ls := spots_len (j := j) hn
      refine st_seq (st_append (pe_tuple (ds := [.int (posOf es j).1, .int (posOf es j).2]) (.cons (pe_var rfl) (.cons (pe_var rfl) .nil))) ls) ?_
      rw [snoc]
      refine st_seq (R := Sta ⟨c, A, envLaw q L f cd, B'⟩ mu' [("j", .int (j : Int)), ("x", .int (posOf es j).1), ("y", .int (posOf es j).2), ("area", .int (areaUp es j)), ("rim", .int (rimUp es j)), ("hues", .int hN), ("edges", .lst (es.map pD))] [("spots", a, ((spotsOf es).take (j + 1)).map pD)])
        (st_if (r := decide (p.1 * e.2 - p.2 * e.1 < 0)) (pt_cmp (pe_bin (pe_bin (pe_sub_tup (ds := [.int p.1, .int p.2]) (pe_sub_lst (ds := es.map pD) (d := pD p) (pe_var rfl) (pe_bin (pe_var rfl) pe_int op_sub_int) si2 it2 hbm) pe_int rfl rfl (by decide)) (pe_sub_tup (ds := [.int e.1, .int e.2]) (pe_sub_lst (ds := es.map pD) (d := pD e) (pe_var rfl) (pe_var rfl) si1 it1 hbj) pe_int rfl rfl (by decide)) (op_mul_int (mul_ok (by first | exact small40 b2.1 | exact small40 b2.2 | exact pb40 pb.1 hj7 | exact pb40 pb.2 hj7)))) (pe_bin (pe_sub_tup (ds := [.int p.1, .int p.2]) (pe_sub_lst (ds := es.map pD) (d := pD p) (pe_var rfl) (pe_bin (pe_var rfl) pe_int op_sub_int) si2 it2 hbm) pe_int rfl rfl (by decide)) (pe_sub_tup (ds := [.int e.1, .int e.2]) (pe_sub_lst (ds := es.map pD) (d := pD e) (pe_var rfl) (pe_var rfl) si1 it1 hbj) pe_int rfl rfl (by decide)) (op_mul_int (mul_ok (by first | exact small40 b2.1 | exact small40 b2.2 | exact pb40 pb.1 hj7 | exact pb40 pb.2 hj7)))) op_sub_int) pe_int cmp_lt_int) (fun h => ?_) (fun _ => st_nil fun g p => ⟨rfl, p⟩)) ?_
      · exfalso
        exact absurd (of_decide_eq_true h) (Int.not_lt.mpr hcj)
      have s1 := posOf_succ es j hj'
      rw [← he] at s1
      have s2 := area_step es j
      have s3 : rimUp es (j + 1) = rimUp es j + (Int.gcd (es.getD j (0, 0)).1 (es.getD j (0, 0)).2 : Nat) := rfl
      rw [← he] at s2 s3
      rw [s1, s2, s3]
      generalize posOf es j = w at pb
      refine st_seq (st_aug (d := .int (areaUp es j + (w.1 * e.2 - w.2 * e.1))) rfl (pe_bin (pe_bin (pe_var rfl) (pe_sub_tup (ds := [.int e.1, .int e.2]) (pe_sub_lst (ds := es.map pD) (d := pD e) (pe_var rfl) (pe_var rfl) si1 it1 hbj) pe_int rfl rfl (by decide)) (op_mul_int (mul_ok (by first | exact small40 b2.1 | exact small40 b2.2 | exact pb40 pb.1 hj7 | exact pb40 pb.2 hj7)))) (pe_bin (pe_var rfl) (pe_sub_tup (ds := [.int e.1, .int e.2]) (pe_sub_lst (ds := es.map pD) (d := pD e) (pe_var rfl) (pe_var rfl) si1 it1 hbj) pe_int rfl rfl (by decide)) (op_mul_int (mul_ok (by first | exact small40 b2.1 | exact small40 b2.2 | exact pb40 pb.1 hj7 | exact pb40 pb.2 hj7)))) op_sub_int) iop_add_int (.inl rfl) (hno (by decide))) ?_
      refine st_seq (R := Sta ⟨c, A, envLaw q L f cd, B'⟩ mu' [("x", .int (w.1 + e.1)), ("y", .int (w.2 + e.2)), ("area", .int (areaUp es j + (w.1 * e.2 - w.2 * e.1))), ("j", .int (j : Int)), ("rim", .int (rimUp es j)), ("hues", .int hN), ("edges", .lst (es.map pD))] [("spots", a, ((spotsOf es).take (j + 1)).map pD)])
        ((st_assign_swap (names := ["x", "y"]) (ds := [.int (w.1 + e.1), .int (w.2 + e.2)]) (bs := [(Str.ofString "x", .int (w.1 + e.1)), (Str.ofString "y", .int (w.2 + e.2))]) (pe_tuple (.cons (pe_bin (pe_var rfl) (pe_sub_tup (ds := [.int e.1, .int e.2]) (pe_sub_lst (ds := es.map pD) (d := pD e) (pe_var rfl) (pe_var rfl) si1 it1 hbj) pe_int rfl rfl (by decide)) op_add_int) (.cons (pe_bin (pe_var rfl) (pe_sub_tup (ds := [.int e.1, .int e.2]) (pe_sub_lst (ds := es.map pD) (d := pD e) (pe_var rfl) (pe_var rfl) si1 it1 hbj) pe_int rfl rfl (by decide)) op_add_int) .nil)))
          (.cons (tgt_bind (.inl rfl)) (.cons (tgt_bind (.inl rfl)) .nil)) ?_).post fun fl g ⟨e1, e2⟩ => ⟨e1, e2.less (less_cons rfl (less_cons rfl (less_cons rfl (less_cons rfl (less_cons rfl (less_cons rfl (less_cons rfl less_nil)))))))⟩) ?_
      · intro p hp b hb
        rw [List.mem_singleton.mp hp]
        simp only [List.mem_cons, List.not_mem_nil, or_false] at hb
        rcases hb with rfl | rfl <;> (show Str.ofString "spots" ≠ Str.ofString _; decide)
      · exact (st_aug (d := .int (rimUp es j + (Int.gcd e.1 e.2 : Nat))) rfl (pe_def (fn_common G.d17 G.n_abs) G.d17 G.g17 (room.le (by decide)) (.cons (pe_sub_tup (ds := [.int e.1, .int e.2]) (pe_sub_lst (ds := es.map pD) (d := pD e) (pe_var rfl) (pe_var rfl) si1 it1 hbj) pe_int rfl rfl (by decide)) (.cons (pe_sub_tup (ds := [.int e.1, .int e.2]) (pe_sub_lst (ds := es.map pD) (d := pD e) (pe_var rfl) (pe_var rfl) si1 it1 hbj) pe_int rfl rfl (by decide)) .nil))) iop_add_int (.inl rfl) (hno (by decide))).post fun fl g ⟨e1, e2⟩ => ⟨.inl e1, e2.less (less_cons rfl (less_cons rfl (less_cons rfl (less_cons rfl (less_cons rfl (less_cons rfl less_nil))))))⟩
  · refine ST.pre (P := Sta ⟨c, A, envLaw q L f cd, B⟩ mu [("spots", .lst ((spotsOf es).map pD)), ("x", .int (posOf es es.length).1), ("y", .int (posOf es es.length).2), ("area", .int (areaUp es es.length)), ("rim", .int (rimUp es es.length)), ("hues", .int hN), ("edges", .lst (es.map pD))] []) k fun g p => ?_
    have e : (spotsOf es).take es.length = spotsOf es := List.take_of_length_le (by unfold spotsOf; simp)
    rw [e] at p
    exact p.freeze ham okF
end Mine
end

section
set_option Elab.async false
set_option maxRecDepth 100000
set_option autoImplicit false
set_option linter.unusedVariables false
namespace Mine
open PySem PySem.Calls PyProof.Rows PySem.W

/-- the spots inside, counted row by row -/
noncomputable def innerOf (es : List Ed) (lo hi : Int) : Int := countUp ((spotsOf es).zip es) (lo + 1) (hi - (lo + 1)).toNat
/-- what the outline is said to be -/
structure Outline (es : List Ed) (hN : Nat) : Prop where
  cross : ∀ j, j < es.length → 0 ≤ cr (es.getD (prevIx es.length j) (0, 0)) (es.getD j (0, 0))
  home : posOf es es.length = (0, 0)
  hues : decide (hN ≤ 2) = decide (areaUp es es.length = 0)
  pick : areaUp es es.length ≠ 0 → ∃ lo hi, lo ∈ (spotsOf es).map (·.2) ∧ (∀ y ∈ (spotsOf es).map (·.2), lo ≤ y) ∧ hi ∈ (spotsOf es).map (·.2) ∧ (∀ y ∈ (spotsOf es).map (·.2), y ≤ hi) ∧
    areaUp es es.length = 2 * innerOf es lo hi + rimUp es es.length - 2 ∧ (innerOf es lo hi = 0 ∨ rimUp es es.length ≤ 2 * innerOf es lo hi + 6 ∨ (rimUp es es.length = 9 ∧ innerOf es lo hi = 1))

set_option maxHeartbeats 8000000
theorem law_m1 {c : Cx} (G : Gx c) {q : Str} {L f : Addr} {cd : Value} {A : Around} {B : Heap} {mu : List Addr} (room : Room A 3) {es : List Ed} {hN : Nat} (hn : es.length ≤ 7) (hb : ∀ e ∈ es, e.1.natAbs ≤ 15 ∧ e.2.natAbs ≤ 15) (O : Outline es hN) :
    ST ⟨c, A, envLaw q L f cd, B⟩ (Sta ⟨c, A, envLaw q L f cd, B⟩ mu [("spots", .lst ((spotsOf es).map pD)), ("x", .int (posOf es es.length).1), ("y", .int (posOf es es.length).2), ("area", .int (areaUp es es.length)), ("rim", .int (rimUp es es.length)), ("hues", .int hN), ("edges", .lst (es.map pD))] []) (lawB 24)
      fun fl g => ∃ v, fl = .ret v ∧ Sta ⟨c, A, envLaw q L f cd, B⟩ mu [] [] g ∧ At g mu v (.bool true) := by
  have no : ∀ {x : Str}, ∀ p ∈ ([] : Owned), p.1 ≠ x := fun p hp => nomatch hp
  have hQ : ∀ g, ¬ (∃ v, Flow.next = .ret v ∧ Sta ⟨c, A, envLaw q L f cd, B⟩ mu [] [] g ∧ At g mu v (.bool true)) := fun g ⟨v, e, _⟩ => nomatch e
  have h1 : (posOf es es.length).1 = 0 := by rw [O.home]
  have h2 : (posOf es es.length).2 = 0 := by rw [O.home]
  have hpicks := O.pick
  have hhues := O.hues
  have pbs := posOf_bound hb
  have sl : (spotsOf es).length ≤ 1000 := by unfold spotsOf; simp; lia
  have sb : ∀ p ∈ spotsOf es, p.1.natAbs < 10000 ∧ p.2.natAbs < 10000 := by
    intro p hp
    obtain ⟨j, hj, rfl⟩ := List.mem_map.mp hp
    have hj' : j < es.length := by simpa using hj
    have := pbs j (by lia)
    lia
  have fi := fun lo hi a1 a2 a3 a4 => fn_inside (c := c) G.toGl (sp := spotsOf es) (ed := es) (lo := lo) (hi := hi) a1 a2 a3 a4 sb (fun e he => by have := hb e he; lia) sl
  rw [h1, h2]
  unfold innerOf at hpicks
  generalize areaUp es es.length = area at *
  generalize rimUp es es.length = rim at *
  refine st_if_ret (r := ((0 : Int) != 0 || (((0 : Int) != 0) || ((decide ((hN : Int) ≤ 2) != (area == 0)) || false)))) (pt_or (pt_cmp (pe_var rfl) pe_int cmp_ne_int) fun _ => pt_or (pt_cmp (pe_var rfl) pe_int cmp_ne_int) fun _ => pt_or (pt_cmp (pe_cmp (pe_var rfl) pe_int cmp_le_int) (pe_cmp (pe_var rfl) pe_int cmp_eq_int) cmp_ne_bool) fun _ => pt_or_nil) (fun h => ?_) (fun _ => ?_) hQ
  · exfalso
    have e1 : decide ((hN : Int) ≤ 2) = decide (hN ≤ 2) := decide_eq_decide.mpr (by lia)
    have e2 : (area == 0) = decide (area = 0) := rfl
    rw [e1, e2, hhues] at h
    simp at h
  refine st_if_ret (r := area == 0) (pt_cmp (pe_var rfl) pe_int cmp_eq_int) (fun h => ?_) (fun h => ?_) hQ
  · exact (st_ret pe_bool).post fun fl g ⟨v, e1, e2, e3⟩ => ⟨v, e1, e2.less less_nil, e3⟩
  have hne : area ≠ 0 := by simpa using h
  obtain ⟨lo, hi, a1, a2, a3, a4, pk, sc⟩ := hpicks hne
  have fi' := fi lo hi a1 a2 a3 a4
  generalize countUp ((spotsOf es).zip es) (lo + 1) (hi - (lo + 1)).toNat = inner at *
  refine st_seq (st_assign (pe_def fi' G.d18 G.g18 (room.le (by decide)) (.cons (pe_var rfl) (.cons (pe_var rfl) .nil))) (.inl rfl) no) ?_
  refine st_if_ret (r := area != 2 * inner + rim - 2) (pt_cmp (pe_var rfl) (pe_bin (pe_bin (pe_bin pe_int (pe_var rfl) (op_mul_int (mul_ok (by decide)))) (pe_var rfl) op_add_int) pe_int op_sub_int) cmp_ne_int) (fun h => ?_) (fun _ => ?_) hQ
  · exfalso
    rw [pk] at h
    simp at h
  refine (st_ret (d := .bool true) (pe_or (r := inner == 0) (pe_cmp (pe_var rfl) pe_int cmp_eq_int) (fun h0 => pe_or (r := decide (rim ≤ 2 * inner + 6)) (pe_cmp (pe_var rfl) (pe_bin (pe_bin pe_int (pe_var rfl) (op_mul_int (mul_ok (by decide)))) pe_int op_add_int) cmp_le_int)
    (fun h1 => pe_bool_one (pe_and (r := rim == 9) (pe_cmp (pe_var rfl) pe_int cmp_eq_int) (fun h9 => pe_bool_one (pe_conv (pe_cmp (pe_var rfl) pe_int cmp_eq_int) ?_)) ?_)) (fun _ => rfl)) (fun _ => rfl))).post fun fl g ⟨v, e1, e2, e3⟩ => ⟨v, e1, e2.less less_nil, e3⟩
  · have i0 : inner ≠ 0 := by simpa using h0
    have i1 : ¬ rim ≤ 2 * inner + 6 := by simpa using h1
    have : inner = 1 := by lia
    rw [this]; rfl
  · intro h9
    have i0 : inner ≠ 0 := by simpa using h0
    have i1 : ¬ rim ≤ 2 * inner + 6 := by simpa using h1
    have i9 : rim ≠ 9 := by simpa using h9
    lia
end Mine
end

section
set_option Elab.async false
set_option maxRecDepth 100000
set_option autoImplicit false
set_option linter.unusedVariables false
namespace Mine
open PySem PySem.Calls PyProof.Rows PySem.W

/-- the plain law: what is laid is an outline as it is said -/
noncomputable def PlainLaw : Prop := ∀ (sc : List Int) (ts : List T3), ts.map (fun p => (p.b, p.x, p.y)) = laidL sc → ∀ us : List T3, us.Perm ts → (us.Pairwise fun a b => b.lt a = false) → Outline (us.map edOf) (hueN us)

theorem sub_15 {a b : Int} (h : 0 ≤ a ∧ a < 16) (h' : 0 ≤ b ∧ b < 16) : (a - b).natAbs ≤ 15 := by lia
theorem laid_item_bound {n : Int} (h : 0 ≤ n ∧ n < 4096) {r : UInt64 × Int × Int} (e : laidItem n = some r) : r.2.1.natAbs ≤ 15 ∧ r.2.2.natAbs ≤ 15 := by
  have l := lights h.1 h.2
  rw [(item_wheel h e).1]
  exact ⟨sub_15 l.1 l.2.2, sub_15 l.2.1 l.2.2⟩
theorem laid_bound {sc : List Int} {ts : List T3} (h : ts.map (fun p => (p.b, p.x, p.y)) = laidL sc) : ∀ p ∈ ts, p.x.natAbs ≤ 15 ∧ p.y.natAbs ≤ 15 := by
  intro p hp
  have h1 : (p.b, p.x, p.y) ∈ ts.map fun p => (p.b, p.x, p.y) := List.mem_map.mpr ⟨p, hp, rfl⟩
  rw [h] at h1
  obtain ⟨n, hn, e⟩ := List.mem_filterMap.mp h1
  exact laid_item_bound (readN_range sc n hn) e
theorem laid_len {sc : List Int} {ts : List T3} (h : ts.map (fun p => (p.b, p.x, p.y)) = laidL sc) : ts.length ≤ 7 := by
  have h1 := congrArg List.length h
  rw [List.length_map] at h1
  have h2 := List.length_filterMap_le laidItem (readN sc)
  have := readN_length sc
  unfold laidL at h1
  omega

set_option maxHeartbeats 4000000
theorem fn_law {c : Cx} (G : Gx c) {f : Addr} (hl : LawAt c f) (P : PlainLaw) {sc : List Int} (hn : sc.length ≤ 63) : Fn c 4 f [.lst (sc.map .int)] (.bool true) := by
  refine law_entry (lim := 3) hl fun F mu L hc room hE hB1 hB2 => ?_
  obtain ⟨q, cd, he⟩ := hE
  obtain ⟨c', A, env, B⟩ := F
  dsimp only at hc he hB1 hB2
  subst hc
  subst he
  have hQ : ∀ g, ¬ (∃ v, Flow.next = .ret v ∧ Sta ⟨c', A, envLaw q L f cd, B⟩ mu [] [] g ∧ At g mu v (.bool true)) := fun g ⟨v, e, _⟩ => nomatch e
  have go : ST ⟨c', A, envLaw q L f cd, B⟩ (Sta ⟨c', A, envLaw q L f cd, B⟩ mu [("script", .lst (sc.map .int))] []) (lawB 0) fun fl g => ∃ v, fl = .ret v ∧ Sta ⟨c', A, envLaw q L f cd, B⟩ mu [] [] g ∧ At g mu v (.bool true) := by
    refine law_a1 G.toGl hn hB1 ?_
    refine law_a2 G.toGl hB1 ?_
    refine law_c1 G room hQ ?_
    refine law_c2 G room hQ ?_
    refine law_e1 G room ?_
    refine law_e2 G room hQ ?_
    refine law_h1 G room hB2 fun ts ok items => ?_
    have hlen := laid_len items
    have pm := sortT_perm ts
    have ok' : T3.Ok (sortT ts) := ⟨fun p hp => ok.nz p (pm.mem_iff.mp hp), fun p hp q hq => ok.one p (pm.mem_iff.mp hp) q (pm.mem_iff.mp hq), fun p hp q hq => ok.cmp p (pm.mem_iff.mp hp) q (pm.mem_iff.mp hq)⟩
    have hl7 : (sortT ts).length ≤ 7 := by rw [pm.length_eq]; exact hlen
    have hb : ∀ e ∈ (sortT ts).map edOf, e.1.natAbs ≤ 15 ∧ e.2.natAbs ≤ 15 := by
      intro e he
      obtain ⟨p, hp, rfl⟩ := List.mem_map.mp he
      exact laid_bound items p (pm.mem_iff.mp hp)
    have O := P sc ts items (sortT ts) pm (sortT_sorted c'.prog c'.w ts (by omega))
    refine law_k1 G room ok' hl7 ?_
    refine law_l1 G room (by rw [List.length_map]; exact hl7) hb O.cross ?_
    exact law_m1 G room (by rw [List.length_map]; exact hl7) hb O
  exact go
end Mine
end

section
set_option Elab.async false
set_option autoImplicit false
set_option linter.unusedVariables false
namespace Mine
/-! edges, their turns, their sums -/
noncomputable def upE (e : Ed) : Prop := 0 < e.2 ∨ (e.2 = 0 ∧ 0 < e.1)
noncomputable def vsum (l : List Ed) : Ed := ((l.map (·.1)).sum, (l.map (·.2)).sum)
noncomputable def psum : List Ed → Int
  | [] => 0
  | e :: l => cr e (vsum l) + psum l
noncomputable def gE (e : Ed) : Int := (Int.gcd e.1 e.2 : Nat)
noncomputable def gsum : List Ed → Int
  | [] => 0
  | e :: l => gE e + gsum l
noncomputable def addE (p q : Ed) : Ed := (p.1 + q.1, p.2 + q.2)
noncomputable def negE (p : Ed) : Ed := (-p.1, -p.2)

theorem vsum_nil : vsum [] = (0, 0) := rfl
theorem vsum_cons (e : Ed) (l : List Ed) : vsum (e :: l) = addE e (vsum l) := by unfold vsum addE; simp
theorem vsum_append (a b : List Ed) : vsum (a ++ b) = addE (vsum a) (vsum b) := by unfold vsum addE; simp
theorem vsum_neg (a : List Ed) : vsum (a.map negE) = negE (vsum a) := by
  induction a with
  | nil => rfl
  | cons e l ih => rw [List.map_cons, vsum_cons, ih, vsum_cons]; unfold addE negE; simp; omega
theorem cr_add_r (a b c : Ed) : cr a (addE b c) = cr a b + cr a c := by unfold cr addE; grind
theorem cr_add_l (a b c : Ed) : cr (addE a b) c = cr a c + cr b c := by unfold cr addE; grind
theorem cr_neg_r (a b : Ed) : cr a (negE b) = - cr a b := by unfold cr negE; grind
theorem cr_neg_l (a b : Ed) : cr (negE a) b = - cr a b := by unfold cr negE; grind
theorem cr_anti (a b : Ed) : cr a b = - cr b a := by unfold cr; grind
theorem cr_self (a : Ed) : cr a a = 0 := by unfold cr; grind
theorem cr_zero_r (a : Ed) : cr a (0, 0) = 0 := by unfold cr; simp
theorem cr_zero_l (a : Ed) : cr (0, 0) a = 0 := by unfold cr; simp
theorem psum_append (a b : List Ed) : psum (a ++ b) = psum a + psum b + cr (vsum a) (vsum b) := by
  induction a with
  | nil => rw [List.nil_append, vsum_nil, cr_zero_l]; unfold psum; omega
  | cons e l ih =>
    rw [List.cons_append]
    show cr e (vsum (l ++ b)) + psum (l ++ b) = cr e (vsum l) + psum l + psum b + _
    rw [ih, vsum_append, cr_add_r, vsum_cons, cr_add_l]; omega
theorem gsum_append (a b : List Ed) : gsum (a ++ b) = gsum a + gsum b := by
  induction a with
  | nil => rw [List.nil_append]; unfold gsum; omega
  | cons e l ih =>
    show gE e + gsum (l ++ b) = gE e + gsum l + gsum b
    rw [ih]; omega
theorem cr_vsum_nonneg {e : Ed} {l : List Ed} (h : ∀ f ∈ l, 0 ≤ cr e f) : 0 ≤ cr e (vsum l) := by
  induction l with
  | nil => rw [vsum_nil, cr_zero_r]; omega
  | cons f l ih =>
    rw [vsum_cons, cr_add_r]
    have := h f List.mem_cons_self
    have := ih fun g hg => h g (List.mem_cons_of_mem _ hg)
    omega
theorem cr_vsum_neg {e : Ed} {l : List Ed} (h : ∀ f ∈ l, cr e f < 0) (hl : l ≠ []) : cr e (vsum l) < 0 := by
  induction l with
  | nil => exact absurd rfl hl
  | cons f l ih =>
    rw [vsum_cons, cr_add_r]
    have h1 := h f List.mem_cons_self
    by_cases hl' : l = []
    · subst hl'; rw [vsum_nil, cr_zero_r]; omega
    · have := ih (fun g hg => h g (List.mem_cons_of_mem _ hg)) hl'
      omega
/-- all none when the sum is none -/
theorem cr_vsum_zero {e : Ed} {l : List Ed} (h : ∀ f ∈ l, 0 ≤ cr e f) (hz : cr e (vsum l) = 0) : ∀ f ∈ l, cr e f = 0 := by
  induction l with
  | nil => intro f hf; cases hf
  | cons f l ih =>
    rw [vsum_cons, cr_add_r] at hz
    have h1 := h f List.mem_cons_self
    have h2 := cr_vsum_nonneg fun g hg => h g (List.mem_cons_of_mem _ hg)
    intro g hg
    rcases List.mem_cons.mp hg with rfl | hg
    · omega
    · exact ih (fun g hg => h g (List.mem_cons_of_mem _ hg)) (by omega) g hg
theorem cr_vsum_l_nonneg {e : Ed} {l : List Ed} (h : ∀ f ∈ l, 0 ≤ cr f e) : 0 ≤ cr (vsum l) e := by
  have : 0 ≤ cr (negE e) (vsum l) := cr_vsum_nonneg fun f hf => by rw [cr_neg_l]; have := h f hf; rw [cr_anti] at this; exact this
  rw [cr_neg_l] at this
  rw [cr_anti]; exact this
theorem cr_vsum_both {a b : List Ed} (h : ∀ e ∈ a, ∀ f ∈ b, 0 ≤ cr e f) : 0 ≤ cr (vsum a) (vsum b) :=
  cr_vsum_l_nonneg fun e he => cr_vsum_nonneg fun f hf => h e he f hf

/-! the upper half -/
theorem pos_right {a b : Int} (ha : 0 < a) (h : 0 < a * b) : 0 < b := by
  refine Int.not_le.mp fun q => ?_
  have := Int.mul_nonneg (Int.le_of_lt ha) (show 0 ≤ -b by omega)
  rw [Int.mul_neg] at this
  omega
theorem up_mid (a b c : Ed) : b.2 * cr a c = a.2 * cr b c + c.2 * cr a b := by unfold cr; grind
theorem up_tr {a b c : Ed} (ha : upE a) (hb : upE b) (hc : upE c) (h1 : 0 ≤ cr a b) (h2 : 0 ≤ cr b c) : 0 ≤ cr a c ∧ ((0 < cr a b ∨ 0 < cr b c) → 0 < cr a c) := by
  have m := up_mid a b c
  rcases hb with hb | ⟨hb, hb1⟩
  · have a2 : 0 ≤ a.2 := by rcases ha with h | h <;> omega
    have c2 : 0 < c.2 := by
      rcases hc with h | ⟨h, h'⟩
      · exact h
      · exfalso
        have : cr b c = - (b.2 * c.1) := by unfold cr; rw [h]; grind
        have := Int.mul_pos hb h'
        omega
    have p1 := Int.mul_nonneg a2 h2
    have p2 := Int.mul_nonneg (Int.le_of_lt c2) h1
    refine ⟨?_, fun h => ?_⟩
    · refine Int.not_lt.mp fun q => ?_
      have := Int.mul_neg_of_pos_of_neg hb q
      omega
    · have pos : 0 < a.2 * cr b c + c.2 * cr a b := by
        rcases h with h | h
        · have := Int.mul_pos c2 h; omega
        · rcases ha with k | ⟨k, k'⟩
          · have := Int.mul_pos k h; omega
          · have e : cr a b = a.1 * b.2 := by unfold cr; rw [k]; grind
            have := Int.mul_pos k' hb
            have := Int.mul_pos c2 (show 0 < cr a b by omega)
            omega
      rw [← m] at pos
      exact pos_right hb pos
  · have e1 : cr a b = - (a.2 * b.1) := by unfold cr; rw [hb]; grind
    have a2 : a.2 = 0 := by
      rcases ha with h | h
      · have := Int.mul_pos h hb1; omega
      · exact h.1
    have a1 : 0 < a.1 := by rcases ha with h | h <;> omega
    have e2 : cr b c = b.1 * c.2 := by unfold cr; rw [hb]; grind
    have e3 : cr a c = a.1 * c.2 := by unfold cr; rw [a2]; grind
    have c2 : 0 ≤ c.2 := by rcases hc with h | h <;> omega
    rw [e3]
    refine ⟨Int.mul_nonneg (Int.le_of_lt a1) c2, fun h => ?_⟩
    have : 0 < c.2 := by
      rcases h with h | h
      · rw [e1, a2] at h; omega
      · rw [e2] at h; exact pos_right hb1 h
    exact Int.mul_pos a1 this
theorem up_add {a b : Ed} (ha : upE a) (hb : upE b) : upE (addE a b) := by
  rcases ha with ha | ⟨ha, ha'⟩ <;> rcases hb with hb | ⟨hb, hb'⟩
  · exact .inl (Int.add_pos ha hb)
  · exact .inl (by show 0 < a.2 + b.2; rw [hb, Int.add_zero]; exact ha)
  · exact .inl (by show 0 < a.2 + b.2; rw [ha, Int.zero_add]; exact hb)
  · exact .inr ⟨by show a.2 + b.2 = 0; rw [ha, hb]; rfl, Int.add_pos ha' hb'⟩
theorem up_gE {a : Ed} (ha : upE a) : 1 ≤ gE a := by
  have : Int.gcd a.1 a.2 ≠ 0 := by
    intro h
    have := Int.gcd_eq_zero_iff.mp h
    unfold upE at ha; omega
  unfold gE; omega
/-- both lengths go into the turn -/
theorem gE_mul_le {a b : Ed} (h : 0 < cr a b) : gE a * gE b ≤ cr a b := by
  have d : (gE a * gE b) ∣ cr a b := by
    obtain ⟨x, hx⟩ := Int.gcd_dvd_left (a := a.1) (b := a.2)
    obtain ⟨y, hy⟩ := Int.gcd_dvd_right (a := a.1) (b := a.2)
    obtain ⟨z, hz⟩ := Int.gcd_dvd_left (a := b.1) (b := b.2)
    obtain ⟨w, hw⟩ := Int.gcd_dvd_right (a := b.1) (b := b.2)
    refine ⟨x * w - y * z, ?_⟩
    have : cr a b = (↑(Int.gcd a.1 a.2) * x) * (↑(Int.gcd b.1 b.2) * w) - (↑(Int.gcd a.1 a.2) * y) * (↑(Int.gcd b.1 b.2) * z) := by
      rw [← hx, ← hy, ← hz, ← hw]; rfl
    rw [this]
    unfold gE
    grind
  exact Int.le_of_dvd h d

/-! the walk's sums are these -/
theorem posOf_take (es : List Ed) (j : Nat) : posOf es j = vsum (es.take j) := rfl
theorem areaUp_take (es : List Ed) : ∀ j, j ≤ es.length → areaUp es j = psum (es.take j)
  | 0, _ => rfl
  | j + 1, h => by
    have e : es[j]? = some (es.getD j (0, 0)) := by rw [List.getD_eq_getElem?_getD, List.getElem?_eq_getElem (by omega)]; rfl
    rw [List.take_add_one, e, Option.toList_some, psum_append, ← areaUp_take es j (by omega)]
    show areaUp es j + (posOf es j).1 * _ - (posOf es j).2 * _ = _
    rw [posOf_take, vsum_cons, vsum_nil]
    generalize es.getD j (0, 0) = x
    unfold psum cr addE
    rw [vsum_nil]
    unfold psum
    simp
    omega
theorem rimUp_take (es : List Ed) : ∀ j, j ≤ es.length → rimUp es j = gsum (es.take j)
  | 0, _ => rfl
  | j + 1, h => by
    have e : es[j]? = some (es.getD j (0, 0)) := by rw [List.getD_eq_getElem?_getD, List.getElem?_eq_getElem (by omega)]; rfl
    rw [List.take_add_one, e, Option.toList_some, gsum_append, ← rimUp_take es j (by omega)]
    show rimUp es j + _ = _ + (_ + 0)
    unfold gE; omega
theorem areaUp_all (es : List Ed) : areaUp es es.length = psum es := by rw [areaUp_take es _ (Nat.le_refl _), List.take_length]
theorem rimUp_all (es : List Ed) : rimUp es es.length = gsum es := by rw [rimUp_take es _ (Nat.le_refl _), List.take_length]
end Mine
end

section
set_option Elab.async false
set_option autoImplicit false
set_option linter.unusedVariables false
namespace Mine
/-! chains: edges of the upper half in their order -/
structure Chain (l : List Ed) : Prop where
  up : ∀ e ∈ l, upE e
  ord : l.Pairwise fun a b => 0 ≤ cr a b
structure SChain (l : List Ed) : Prop where
  up : ∀ e ∈ l, upE e
  ord : l.Pairwise fun a b => 0 < cr a b
theorem Chain.tail {e : Ed} {l : List Ed} (h : Chain (e :: l)) : Chain l := ⟨fun f hf => h.up f (List.mem_cons_of_mem _ hf), (List.pairwise_cons.mp h.ord).2⟩
theorem SChain.tail {e : Ed} {l : List Ed} (h : SChain (e :: l)) : SChain l := ⟨fun f hf => h.up f (List.mem_cons_of_mem _ hf), (List.pairwise_cons.mp h.ord).2⟩
theorem SChain.weak {l : List Ed} (h : SChain l) : Chain l := ⟨h.up, h.ord.imp fun h => Int.le_of_lt h⟩
theorem SChain.app {a b : List Ed} (h : SChain (a ++ b)) : SChain a ∧ SChain b ∧ ∀ e ∈ a, ∀ f ∈ b, 0 < cr e f := by
  have := List.pairwise_append.mp h.ord
  exact ⟨⟨fun e he => h.up e (List.mem_append_left _ he), this.1⟩, ⟨fun e he => h.up e (List.mem_append_right _ he), this.2.1⟩, this.2.2⟩
theorem Chain.psum_nonneg {l : List Ed} (h : Chain l) : 0 ≤ psum l := by
  induction l with
  | nil => exact Int.le_refl _
  | cons e l ih =>
    have h1 := ih h.tail
    have h2 : 0 ≤ cr e (vsum l) := cr_vsum_nonneg (List.pairwise_cons.mp h.ord).1
    show 0 ≤ cr e (vsum l) + psum l
    lia
theorem Chain.psum_zero {l : List Ed} (h : Chain l) (hz : psum l = 0) : l.Pairwise fun a b => cr a b = 0 := by
  induction l with
  | nil => exact .nil
  | cons e l ih =>
    have h1 := h.tail.psum_nonneg
    have h3 := (List.pairwise_cons.mp h.ord).1
    have h2 : 0 ≤ cr e (vsum l) := cr_vsum_nonneg h3
    have hz : cr e (vsum l) + psum l = 0 := hz
    exact List.pairwise_cons.mpr ⟨cr_vsum_zero h3 (by lia), ih h.tail (by lia)⟩
theorem psum_of_zero {l : List Ed} (h : l.Pairwise fun a b => cr a b = 0) : psum l = 0 := by
  induction l with
  | nil => rfl
  | cons e l ih =>
    have h3 := (List.pairwise_cons.mp h)
    have : ∀ l : List Ed, (∀ f ∈ l, cr e f = 0) → cr e (vsum l) = 0 := by
      intro l
      induction l with
      | nil => intro _; rw [vsum_nil, cr_zero_r]
      | cons f l ih => intro h; rw [vsum_cons, cr_add_r, h f List.mem_cons_self, ih fun g hg => h g (List.mem_cons_of_mem _ hg)]; rfl
    show cr e (vsum l) + psum l = 0
    rw [this l h3.1, ih h3.2]; rfl
theorem gsum_len {l : List Ed} (h : ∀ e ∈ l, upE e) : (l.length : Int) ≤ gsum l := by
  induction l with
  | nil => exact Int.le_refl _
  | cons e l ih =>
    have := up_gE (h e List.mem_cons_self)
    have := ih fun f hf => h f (List.mem_cons_of_mem _ hf)
    show _ ≤ gE e + gsum l
    rw [List.length_cons]; lia

/-! directions -/
noncomputable def mulE (k : Int) (u : Ed) : Ed := (k * u.1, k * u.2)
theorem cr_mul_l (k : Int) (a b : Ed) : cr (mulE k a) b = k * cr a b := by unfold cr mulE; grind
theorem cr_mul_r (k : Int) (a b : Ed) : cr a (mulE k b) = k * cr a b := by unfold cr mulE; grind
theorem gE_mul (k : Int) (u : Ed) (hk : 0 ≤ k) : gE (mulE k u) = k * gE u := by
  unfold gE mulE
  dsimp only
  rw [Int.gcd_mul_left]
  have : (k.natAbs : Int) = k := by lia
  rw [Int.natCast_mul, this]
theorem prim {e : Ed} (h : upE e) : ∃ u, upE u ∧ gE u = 1 ∧ e = mulE (gE e) u := by
  obtain ⟨x, hx⟩ := Int.gcd_dvd_left (a := e.1) (b := e.2)
  obtain ⟨y, hy⟩ := Int.gcd_dvd_right (a := e.1) (b := e.2)
  have g1 := up_gE h
  have ee : e = mulE (gE e) (x, y) := by
    unfold mulE gE
    exact Prod.ext hx hy
  have gg : gE e = gE e * gE (x, y) := by
    have := gE_mul (gE e) (x, y) (by lia)
    rw [← ee] at this; exact this
  have g2 : gE (x, y) = 1 := by
    have : gE e * 1 = gE e * gE (x, y) := by lia
    exact (Int.eq_of_mul_eq_mul_left (by lia) this).symm
  refine ⟨(x, y), ?_, g2, ee⟩
  have e1 : e.1 = gE e * x := hx
  have e2 : e.2 = gE e * y := hy
  generalize gE e = g at *
  unfold upE at *
  dsimp only
  rcases h with h | ⟨h, h'⟩
  · exact .inl (pos_right (by lia) (e2 ▸ h))
  · refine .inr ⟨?_, pos_right (by lia) (e1 ▸ h')⟩
    rw [e2] at h
    rcases Int.mul_eq_zero.mp h with q | q
    · lia
    · exact q
theorem par {u a : Ed} (hu : upE u) (gu : gE u = 1) (ha : upE a) (h : cr u a = 0) : a = mulE (gE a) u := by
  have g1 := up_gE ha
  have hh : u.1 * a.2 = u.2 * a.1 := by unfold cr at h; lia
  have q1 : (a.1.natAbs : Int) = u.1.natAbs * gE a := by
    have e1 : Int.gcd (a.1 * u.1) (a.1 * u.2) = a.1.natAbs * Int.gcd u.1 u.2 := Int.gcd_mul_left ..
    have e2 : Int.gcd (u.1 * a.1) (u.1 * a.2) = u.1.natAbs * Int.gcd a.1 a.2 := Int.gcd_mul_left ..
    rw [hh, Int.mul_comm u.1 a.1, Int.mul_comm u.2 a.1, e1] at e2
    have gu' : Int.gcd u.1 u.2 = 1 := by unfold gE at gu; lia
    rw [gu', Nat.mul_one] at e2
    rw [e2]; rfl
  have q2 : (a.2.natAbs : Int) = u.2.natAbs * gE a := by
    have e1 : Int.gcd (a.2 * u.1) (a.2 * u.2) = a.2.natAbs * Int.gcd u.1 u.2 := Int.gcd_mul_left ..
    have e2 : Int.gcd (u.2 * a.1) (u.2 * a.2) = u.2.natAbs * Int.gcd a.1 a.2 := Int.gcd_mul_left ..
    rw [← hh, Int.mul_comm u.1 a.2, Int.mul_comm u.2 a.2, e1] at e2
    have gu' : Int.gcd u.1 u.2 = 1 := by unfold gE at gu; lia
    rw [gu', Nat.mul_one] at e2
    rw [e2]; rfl
  have p2 : 0 ≤ u.2 := by unfold upE at hu; lia
  have p3 : 0 ≤ a.2 := by unfold upE at ha; lia
  have r2 : a.2 = u.2 * gE a := by
    rw [show (a.2.natAbs : Int) = a.2 by lia, show (u.2.natAbs : Int) = u.2 by lia] at q2; exact q2
  have r1 : a.1 = u.1 * gE a := by
    rcases hu with k | ⟨k, k'⟩
    · refine Int.eq_of_mul_eq_mul_left (a := u.2) (by lia) ?_
      rw [← hh, r2]; grind
    · have : a.2 = 0 := by rw [r2, k]; simp
      have k3 : 0 < a.1 := by unfold upE at ha; lia
      rw [show (a.1.natAbs : Int) = a.1 by lia, show (u.1.natAbs : Int) = u.1 by lia] at q1; exact q1
  unfold mulE
  refine Prod.ext ?_ ?_
  · dsimp only; rw [Int.mul_comm]; exact r1
  · dsimp only; rw [Int.mul_comm]; exact r2
theorem gE_add {a b : Ed} (ha : upE a) (hb : upE b) (h : cr a b = 0) : gE (addE a b) = gE a + gE b := by
  obtain ⟨u, hu, gu, e⟩ := prim ha
  have g1 := up_gE ha
  have g2 := up_gE hb
  have hz : cr u b = 0 := by
    rw [e, cr_mul_l] at h
    rcases Int.mul_eq_zero.mp h with q | q
    · lia
    · exact q
  have e2 := par hu gu hb hz
  have : addE a b = mulE (gE a + gE b) u := by
    generalize gE a = x at *
    generalize gE b = y at *
    rw [e, e2]; unfold addE mulE; dsimp only; rw [Int.add_mul, Int.add_mul]
  rw [this, gE_mul _ _ (by lia), gu]; lia

/-- edges of one direction made one -/
theorem merge : ∀ {l : List Ed}, Chain l → ∃ m, SChain m ∧ psum m = psum l ∧ vsum m = vsum l ∧ gsum m = gsum l ∧ ∀ v, upE v → (∀ f ∈ l, 0 ≤ cr v f) → ∀ f ∈ m, 0 ≤ cr v f
  | [], _ => ⟨[], ⟨fun e he => (nomatch he), .nil⟩, rfl, rfl, rfl, fun v _ _ f hf => (nomatch hf)⟩
  | e :: l, h => by
    obtain ⟨m, sm, pm, vm, gm, om⟩ := merge h.tail
    have eu := h.up e List.mem_cons_self
    have oe := om e eu (List.pairwise_cons.mp h.ord).1
    have pl : psum (e :: l) = cr e (vsum m) + psum m := by rw [vm, pm]; rfl
    have gl : gsum (e :: l) = gE e + gsum m := by rw [gm]; rfl
    rw [pl, gl, vsum_cons, ← vm]
    cases m with
    | nil =>
      refine ⟨[e], ⟨fun f hf => by rw [List.mem_singleton.mp hf]; exact eu, List.pairwise_singleton _ _⟩, rfl, rfl, rfl, fun v hv hf f hf' => ?_⟩
      rw [List.mem_singleton.mp hf']; exact hf e List.mem_cons_self
    | cons a m =>
      have au := sm.up a List.mem_cons_self
      have am := (List.pairwise_cons.mp sm.ord).1
      have ea := oe a List.mem_cons_self
      by_cases hz : cr e a = 0
      · refine ⟨addE e a :: m, ⟨fun f hf => ?_, List.pairwise_cons.mpr ⟨fun f hf => ?_, sm.tail.ord⟩⟩, ?_, ?_, ?_, fun v hv hf f hf' => ?_⟩
        · rcases List.mem_cons.mp hf with rfl | hf
          · exact up_add eu au
          · exact sm.up f (List.mem_cons_of_mem _ hf)
        · rw [cr_add_l]
          have := am f hf
          have := oe f (List.mem_cons_of_mem _ hf)
          lia
        · show cr (addE e a) (vsum m) + psum m = cr e (vsum (a :: m)) + (cr a (vsum m) + psum m)
          rw [cr_add_l, vsum_cons, cr_add_r]; lia
        · rw [vsum_cons, vsum_cons]; unfold addE; simp; lia
        · show gE (addE e a) + gsum m = gE e + (gE a + gsum m)
          rw [gE_add eu au hz]; lia
        · have o2 := om v hv fun f hf' => hf f (List.mem_cons_of_mem _ hf')
          rcases List.mem_cons.mp hf' with rfl | hf'
          · rw [cr_add_r]
            have := hf e List.mem_cons_self
            have := o2 a List.mem_cons_self
            lia
          · exact o2 f (List.mem_cons_of_mem _ hf')
      · refine ⟨e :: a :: m, ⟨fun f hf => ?_, List.pairwise_cons.mpr ⟨fun f hf => ?_, sm.ord⟩⟩, rfl, ?_, rfl, fun v hv hf f hf' => ?_⟩
        · rcases List.mem_cons.mp hf with rfl | hf
          · exact eu
          · exact sm.up f hf
        · rcases List.mem_cons.mp hf with rfl | hf
          · lia
          · exact (up_tr eu au (sm.up f (List.mem_cons_of_mem _ hf)) ea (Int.le_of_lt (am f hf))).2 (.inr (am f hf))
        · rw [vsum_cons e]
        · rcases List.mem_cons.mp hf' with rfl | hf'
          · exact hf _ List.mem_cons_self
          · exact om v hv (fun f hf' => hf f (List.mem_cons_of_mem _ hf')) f hf'

/-- a chain told apart by a direction -/
theorem parted {u : Ed} (hu : upE u) (gu : gE u = 1) : ∀ {m : List Ed}, SChain m → ∃ A B C d, m = A ++ B ++ C ∧ (∀ e ∈ A, 0 < cr e u) ∧ (∀ e ∈ C, 0 < cr u e) ∧ vsum B = mulE d u ∧ gsum B = d ∧ psum B = 0 ∧ 0 ≤ d ∧ ∀ e ∈ B, gE e ≤ d
  | [], _ => ⟨[], [], [], 0, rfl, fun e he => (nomatch he), fun e he => (nomatch he), by unfold mulE; simp [vsum_nil], rfl, rfl, by decide, fun e he => (nomatch he)⟩
  | e :: l, h => by
    have eu := h.up e List.mem_cons_self
    have ef := (List.pairwise_cons.mp h.ord).1
    by_cases h1 : 0 < cr e u
    · obtain ⟨A, B, C, d, e1, e2, e3, e4, e5, e6, e7, e8⟩ := parted hu gu h.tail
      refine ⟨e :: A, B, C, d, by rw [e1]; rfl, fun f hf => ?_, e3, e4, e5, e6, e7, e8⟩
      rcases List.mem_cons.mp hf with rfl | hf
      · exact h1
      · exact e2 f hf
    have h1' : 0 ≤ cr u e := by rw [cr_anti]; lia
    have hl : ∀ f ∈ l, 0 < cr u f := fun f hf => (up_tr hu eu (h.up f (List.mem_cons_of_mem _ hf)) h1' (Int.le_of_lt (ef f hf))).2 (.inr (ef f hf))
    by_cases h2 : cr u e = 0
    · have e1 := par hu gu eu h2
      have g1 := up_gE eu
      refine ⟨[], [e], l, gE e, rfl, fun e he => (nomatch he), hl, ?_, ?_, ?_, by lia, fun f hf => ?_⟩
      · rw [vsum_cons, vsum_nil]
        rw [← e1]
        unfold addE; simp
      · show gE e + 0 = gE e
        lia
      · show cr e (0, 0) + 0 = 0
        rw [cr_zero_r]; rfl
      · rw [List.mem_singleton.mp hf]; exact Int.le_refl _
    · refine ⟨[], [], e :: l, 0, rfl, fun e he => (nomatch he), fun f hf => ?_, by unfold mulE; simp [vsum_nil], rfl, rfl, by decide, fun e he => (nomatch he)⟩
      rcases List.mem_cons.mp hf with rfl | hf
      · lia
      · exact hl f hf

theorem gsum_le_r {u : Ed} (gu : 0 ≤ gE u) : ∀ {l : List Ed}, (∀ e ∈ l, 0 < cr u e) → gE u * gsum l ≤ cr u (vsum l)
  | [], _ => by rw [vsum_nil, cr_zero_r]; unfold gsum; simp
  | e :: l, h => by
    have h1 := gsum_le_r gu fun f hf => h f (List.mem_cons_of_mem _ hf)
    have h2 := gE_mul_le (h e List.mem_cons_self)
    rw [vsum_cons, cr_add_r]
    show gE u * (gE e + gsum l) ≤ _
    rw [Int.mul_add]; lia
theorem gE_neg (u : Ed) : gE (negE u) = gE u := by unfold gE negE; simp
theorem gsum_le_l {u : Ed} (gu : 0 ≤ gE u) {l : List Ed} (h : ∀ e ∈ l, 0 < cr e u) : gE u * gsum l ≤ cr (vsum l) u := by
  have := gsum_le_r (u := negE u) (by rw [gE_neg]; exact gu) (l := l) fun e he => by
    rw [cr_neg_l]
    have := h e he
    rw [cr_anti] at this; exact this
  rw [gE_neg, cr_neg_l] at this
  rw [cr_anti]; exact this
end Mine
end

section
set_option Elab.async false
set_option autoImplicit false
set_option linter.unusedVariables false
namespace Mine
/-! Scott's bound, by two chains of one sum -/
theorem scott_alg (k l : Int) (u a c b f : Ed) (h1 : a.1 + k * u.1 + c.1 = b.1 + l * u.1 + f.1) (h2 : a.2 + k * u.2 + c.2 = b.2 + l * u.2 + f.2) :
    k * cr a u + (cr a c + k * cr u c) + (l * cr b u + (cr b f + l * cr u f)) = (k + l) * (cr u c + cr b u) + cr b c + cr a f ∧ cr u c + cr b u = cr u f + cr a u := by
  have e1 : f.1 = a.1 + k * u.1 + c.1 - b.1 - l * u.1 := by lia
  have e2 : f.2 = a.2 + k * u.2 + c.2 - b.2 - l * u.2 := by lia
  unfold cr
  rw [e1, e2]
  constructor <;> grind

theorem psum_short {l : List Ed} (h : l.length ≤ 1) : psum l = 0 := by
  cases l with
  | nil => rfl
  | cons e l =>
    have : l = [] := List.eq_nil_of_length_eq_zero (Nat.le_zero.mp (Nat.le_of_succ_le_succ h))
    subst this
    show cr e (0, 0) + 0 = 0
    rw [cr_zero_r]; rfl
theorem len_le_gsum {l : List Ed} (h : ∀ e ∈ l, upE e) : (l.length : Int) ≤ gsum l := gsum_len h

theorem big_sort (a b c d x y z v w : Int) : a + 0 + x + b + (y + z) + (c + 0 + v + d + w) = (a + b + c + d) + (x + (y + z) + (v + w)) := by lia
theorem big_sort' (a b c d n y z : Int) : (a + b + c + d) + (n + y + z) = n + (b + c + y) + (d + a + z) := by lia
theorem big_gs (a b c d k l : Int) : a + k + b + (c + l + d) = k + l + (b + c) + (d + a) := by lia
theorem big_end {N p G R L : Int} (hb : G ≤ N + 2 * p) (r0 : 0 ≤ R) (l0 : 0 ≤ L) (m : 0 ≤ (N - 4) * (p - 2)) : 2 * G - 8 ≤ N * p + R + L := by
  have e : (N - 4) * (p - 2) = N * p - 2 * N - 4 * p + 8 := by clear m hb r0 l0; grind
  rw [e] at m
  generalize N * p = X at *
  clear e
  lia
theorem big_fin {N p R L g1 g2 : Int} (h4 : 4 ≤ N) (a1 : g1 ≤ p) (a2 : g2 ≤ p) (r0 : 0 ≤ R) (l0 : 0 ≤ L) (hp : 0 ≤ p) (s1 : p ≤ 1 → R = 0 ∧ g1 = p) (s2 : p ≤ 1 → L = 0 ∧ g2 = p) :
    N * p + R + L = 0 ∨ N * p + R + L = N + g1 + g2 - 2 ∨ 2 * (N + g1 + g2) - 8 ≤ N * p + R + L := by
  rcases Int.lt_or_le p 2 with q | q
  · obtain ⟨rfl, e1⟩ := s1 (Int.le_of_lt_add_one q)
    obtain ⟨rfl, e2⟩ := s2 (Int.le_of_lt_add_one q)
    subst e1
    rcases Int.lt_or_le 0 g1 with k | k
    · have : g1 = 1 := Int.le_antisymm (Int.le_of_lt_add_one q) k
      subst this
      refine .inr (.inl ?_)
      rw [e2, Int.mul_one]; clear s1 s2 a1 a2 r0 l0 hp h4 q k e2; lia
    · have : g1 = 0 := Int.le_antisymm k hp
      subst this
      exact .inl (by rw [Int.mul_zero]; rfl)
  · exact .inr (.inr (big_end (by clear s1 s2 r0 l0 h4 q hp; lia) r0 l0 (Int.mul_nonneg (Int.sub_nonneg_of_le h4) (Int.sub_nonneg_of_le q))))
theorem side {u : Ed} {D C : List Ed} (hu : upE u) (gu : gE u = 1) (SD : SChain D) (SC : SChain C) (hD : ∀ e ∈ D, 0 < cr e u) (hC : ∀ e ∈ C, 0 < cr u e) :
    0 ≤ psum C + psum D + cr (vsum D) (vsum C) ∧ gsum C + gsum D ≤ cr u (vsum C) + cr (vsum D) u ∧ 0 ≤ gsum C + gsum D ∧ (cr u (vsum C) + cr (vsum D) u ≤ 1 → psum C + psum D + cr (vsum D) (vsum C) = 0 ∧ gsum C + gsum D = cr u (vsum C) + cr (vsum D) u) := by
  have g1 : (0 : Int) ≤ gE u := by rw [gu]; decide
  have q2 := gsum_le_r g1 hC
  have q3 := gsum_le_l g1 hD
  rw [gu, Int.one_mul] at q2 q3
  have x1 : 0 ≤ cr (vsum D) (vsum C) := cr_vsum_both fun e he f hf => (up_tr (SD.up e he) hu (SC.up f hf) (Int.le_of_lt (hD e he)) (Int.le_of_lt (hC f hf))).1
  have lC := len_le_gsum SC.up
  have lD := len_le_gsum SD.up
  have q := Int.add_le_add q2 q3
  have ll := Int.add_le_add lC lD
  refine ⟨Int.add_nonneg (Int.add_nonneg SC.weak.psum_nonneg SD.weak.psum_nonneg) x1, q, Int.le_trans (Int.add_nonneg (Int.natCast_nonneg _) (Int.natCast_nonneg _)) ll, fun h => ?_⟩
  have h1 : C.length + D.length ≤ 1 := Int.ofNat_le.mp (Int.le_trans ll (Int.le_trans q h))
  rw [psum_short (Nat.le_trans (Nat.le_add_right _ _) h1), psum_short (Nat.le_trans (Nat.le_add_left _ _) h1), Int.add_zero, Int.zero_add]
  have one : ∀ {x : Int}, 1 ≤ gsum C + gsum D → x = 0 → x = 0 ∧ gsum C + gsum D = cr u (vsum C) + cr (vsum D) u := fun k e => ⟨e, Int.le_antisymm q (Int.le_trans h k)⟩
  cases C with
  | nil =>
    cases D with
    | nil => rw [vsum_nil, cr_zero_r, cr_zero_r, cr_zero_l]; exact ⟨rfl, rfl⟩
    | cons d D => exact one (Int.le_trans (Int.ofNat_le.mpr (show 1 ≤ 0 + (D.length + 1) by rw [Nat.zero_add]; exact Nat.succ_pos _)) ll) (by rw [vsum_nil, cr_zero_r])
  | cons c C =>
    have e : D = [] := List.eq_nil_of_length_eq_zero (Nat.le_zero.mp (Nat.le_of_add_le_add_left (a := 1) (Nat.le_trans (Nat.add_le_add_right (Nat.succ_pos C.length) _) h1)))
    subst e
    exact one (Int.le_trans (Int.ofNat_le.mpr (show 1 ≤ C.length + 1 + 0 from Nat.succ_pos _)) ll) (by rw [vsum_nil, cr_zero_l])
theorem scott_big {m m' : List Ed} (S : SChain m) (S' : SChain m') (hv : vsum m = vsum m') {u0 : Ed} (h0 : u0 ∈ m) (h4 : 4 ≤ gE u0) :
    psum m + psum m' = 0 ∨ psum m + psum m' = gsum m + gsum m' - 2 ∨ 2 * (gsum m + gsum m') - 8 ≤ psum m + psum m' := by
  obtain ⟨u, hu, gu, eu⟩ := prim (S.up u0 h0)
  obtain ⟨A, B, C, k, rfl, hA, hC, vB, gB, pB, k0, hk⟩ := parted hu gu S
  obtain ⟨D, E, F, l, rfl, hD, hF, vE, gE', pE, l0, hl⟩ := parted hu gu S'
  have k4 : 4 ≤ k := by
    have hz : cr u0 u = 0 := by rw [eu, cr_mul_l, cr_self, Int.mul_zero]
    rcases List.mem_append.mp h0 with h | h
    · rcases List.mem_append.mp h with h | h
      · exact absurd hz (Int.ne_of_gt (hA u0 h))
      · exact Int.le_trans h4 (hk u0 h)
    · have := hC u0 h
      rw [cr_anti, hz] at this
      exact absurd this (by decide)
  have sAB := S.app
  have sAB2 := sAB.1.app
  have sDE := S'.app
  have sDE2 := sDE.1.app
  have s1 := side hu gu sDE2.1 sAB.2.1 hD hC
  have s2 := side hu gu sAB2.1 sDE.2.1 hA hF
  rw [vsum_append, vsum_append, vsum_append, vsum_append, vB, vE] at hv
  obtain ⟨alg1, alg2⟩ := scott_alg k l u (vsum A) (vsum C) (vsum D) (vsum F) (congrArg Prod.fst hv) (congrArg Prod.snd hv)
  clear hv h0 hA hC hD hF hk hl S S' sAB sAB2 sDE sDE2 eu h4 k0
  rw [← alg2] at s2
  have f := big_fin (N := k + l) (Int.le_trans k4 (Int.le_add_of_nonneg_right l0)) s1.2.1 s2.2.1 s1.1 s2.1 (Int.le_trans s1.2.2.1 s1.2.1) s1.2.2.2 s2.2.2.2
  clear s1 s2
  rw [psum_append, psum_append, psum_append, psum_append, gsum_append, gsum_append, gsum_append, gsum_append, vsum_append, vsum_append, cr_add_l, cr_add_l, vB, vE, gB, gE', pB, pE, cr_mul_l, cr_mul_r, cr_mul_l, cr_mul_r]
  have ea : psum A + 0 + k * cr (vsum A) u + psum C + (cr (vsum A) (vsum C) + k * cr u (vsum C)) + (psum D + 0 + l * cr (vsum D) u + psum F + (cr (vsum D) (vsum F) + l * cr u (vsum F))) =
      (k + l) * (cr u (vsum C) + cr (vsum D) u) + (psum C + psum D + cr (vsum D) (vsum C)) + (psum F + psum A + cr (vsum A) (vsum F)) := by
    rw [big_sort, alg1]; exact big_sort' _ _ _ _ _ _ _
  rw [ea, big_gs]
  exact f

/-- the most that the squares of classes of at most three make -/
noncomputable def d3 (g : Int) : Int := if g % 3 = 0 then 0 else 2
noncomputable def f3 (g : Int) : Int := 3 * g - d3 g
theorem d3_in (g : Int) : 0 ≤ d3 g ∧ d3 g ≤ 2 := by unfold d3; split <;> decide
theorem f3_step (g c : Int) (h1 : 1 ≤ c) (h3 : c ≤ 3) : f3 g + c * c ≤ f3 (g + c) := by
  unfold f3
  have a := d3_in g
  have b := d3_in (g + c)
  have hc : c = 1 ∨ c = 2 ∨ c = 3 := by clear a b; lia
  rcases hc with rfl | rfl | rfl
  · clear h1 h3; lia
  · clear h1 h3; lia
  · have : d3 (g + 3) = d3 g := by unfold d3; rw [Int.add_emod_right]
    rw [this]; clear h1 h3 a b; lia
theorem f3_le (g : Int) : f3 g ≤ 3 * g := Int.sub_le_self _ (d3_in g).1
theorem scott_small : ∀ {m : List Ed}, SChain m → (∀ e ∈ m, gE e ≤ 3) → gsum m * gsum m ≤ 2 * psum m + f3 (gsum m)
  | [], _, _ => by decide
  | e :: l, S, h => by
    have ih := scott_small S.tail fun f hf => h f (List.mem_cons_of_mem _ hf)
    have g1 := up_gE (S.up e List.mem_cons_self)
    have g3 := h e List.mem_cons_self
    have g0 := len_le_gsum S.tail.up
    have q := gsum_le_r (u := e) (by lia) (List.pairwise_cons.mp S.ord).1
    have st := f3_step (gsum l) (gE e) g1 g3
    show (gE e + gsum l) * (gE e + gsum l) ≤ 2 * (cr e (vsum l) + psum l) + f3 (gE e + gsum l)
    rw [Int.add_comm (gE e) (gsum l)]
    have e1 : (gsum l + gE e) * (gsum l + gE e) = gsum l * gsum l + 2 * (gE e * gsum l) + gE e * gE e := by grind
    rw [e1]; lia
theorem sq_nonneg' (a : Int) : 0 ≤ a * a := by
  rcases Int.le_total 0 a with q | q
  · exact Int.mul_nonneg q q
  · exact Int.mul_nonneg_of_nonpos_of_nonpos q q
theorem small_key : ∀ a b : Fin 12, 10 ≤ (a.val : Int) + b.val → (a.val : Int) + b.val < 12 → 4 * ((a.val : Int) + b.val) - 16 + (f3 a.val + f3 b.val) ≤ (a.val : Int) * a.val + (b.val : Int) * b.val := by decide +kernel
theorem small_big {x y A f g : Int} (hb : 12 ≤ x + y) (h : x * x + y * y ≤ 2 * A + f + g) (f1 : f ≤ 3 * x) (f2 : g ≤ 3 * y) : 2 * (x + y) - 8 ≤ A := by
  have s1 := Int.mul_nonneg (Int.sub_nonneg_of_le hb) (Int.sub_nonneg_of_le (Int.le_trans (show (2 : Int) ≤ 12 by decide) hb))
  have s2 := sq_nonneg' (x - y)
  have i1 : (x + y - 12) * (x + y - 2) + (x - y) * (x - y) = 2 * (x * x + y * y) - 14 * (x + y) + 24 := by clear h f1 f2 hb s1 s2; grind
  have s3 := Int.add_nonneg s1 s2
  rw [i1] at s3
  clear s1 s2 i1 hb
  generalize x * x + y * y = z at *
  lia
theorem small_fin {x A f g : Int} (h : 4 * x - 16 + (f + g) ≤ 2 * A + f + g) : 2 * x - 8 ≤ A := by lia
theorem four_sum (a b c d : Int) : 2 * a + b + (2 * c + d) = 2 * (a + c) + b + d := by lia
theorem small_num (x y A : Int) (x0 : 0 ≤ x) (y0 : 0 ≤ y) (hb : 10 ≤ x + y) (h : x * x + y * y ≤ 2 * A + f3 x + f3 y) : 2 * (x + y) - 8 ≤ A := by
  rcases Int.lt_or_le (x + y) 12 with q | q
  · obtain ⟨a, rfl⟩ := Int.eq_ofNat_of_zero_le x0
    obtain ⟨b, rfl⟩ := Int.eq_ofNat_of_zero_le y0
    exact small_fin (Int.le_trans (small_key ⟨a, by clear h hb x0 y0; lia⟩ ⟨b, by clear h hb x0 y0; lia⟩ hb q) h)
  · exact small_big q h (f3_le x) (f3_le y)
theorem scott_pair {G A : Int} (h : A = 0 ∨ A = G - 2 ∨ 2 * G - 8 ≤ A) : A = 0 ∨ G ≤ 9 ∨ A = G - 2 ∨ 2 * G - 8 ≤ A := h.elim .inl fun h => .inr (.inr h)
theorem scott {U D : List Ed} (hU : Chain U) (hD : Chain D) (hv : vsum U = vsum D) :
    psum U + psum D = 0 ∨ gsum U + gsum D ≤ 9 ∨ psum U + psum D = gsum U + gsum D - 2 ∨ 2 * (gsum U + gsum D) - 8 ≤ psum U + psum D := by
  obtain ⟨m, S, pm, vm, gm, _⟩ := merge hU
  obtain ⟨m', S', pm', vm', gm', _⟩ := merge hD
  rw [← pm, ← pm', ← gm, ← gm']
  rw [← vm, ← vm'] at hv
  by_cases h1 : ∃ u0 ∈ m, 4 ≤ gE u0
  · obtain ⟨u0, h0, h4⟩ := h1
    exact scott_pair (scott_big S S' hv h0 h4)
  by_cases h2 : ∃ u0 ∈ m', 4 ≤ gE u0
  · obtain ⟨u0, h0, h4⟩ := h2
    have := scott_pair (scott_big S' S hv.symm h0 h4)
    rw [Int.add_comm (psum m'), Int.add_comm (gsum m')] at this; exact this
  have s1 := scott_small S fun e he => Int.le_of_lt_add_one (Int.not_le.mp fun q => h1 ⟨e, he, q⟩)
  have s2 := scott_small S' fun e he => Int.le_of_lt_add_one (Int.not_le.mp fun q => h2 ⟨e, he, q⟩)
  rcases Int.lt_or_le (gsum m + gsum m') 10 with hb | hb
  · exact .inr (.inl (Int.le_of_lt_add_one hb))
  · have l1 := Int.le_trans (Int.natCast_nonneg _) (len_le_gsum S.up)
    have l2 := Int.le_trans (Int.natCast_nonneg _) (len_le_gsum S'.up)
    refine .inr (.inr (.inr (small_num _ _ _ l1 l2 hb ?_)))
    exact Int.le_trans (Int.add_le_add s1 s2) (Int.le_of_eq (four_sum _ _ _ _))
end Mine
end

section
set_option Elab.async false
set_option autoImplicit false
set_option linter.unusedVariables false
namespace Mine
/-! a chain's rows -/
noncomputable def walkC : Ed → List Ed → List (Ed × Ed)
  | _, [] => []
  | s, e :: l => (s, e) :: walkC (addE s e) l
noncomputable def vtx : Ed → List Ed → List Ed
  | s, [] => [s]
  | s, e :: l => s :: vtx (addE s e) l
noncomputable def valA (y : Int) (p : Ed × Ed) : Int := p.2.2 * p.1.1 + p.2.1 * (y - p.1.2)
noncomputable def valC (y : Int) (p : Ed × Ed) : Int := (valA y p - 1).fdiv p.2.2
noncomputable def hiF (y b : Int) (p : Ed × Ed) : Int := if 0 < p.2.2 then min b (valC y p) else b
noncomputable def hiOf (y b : Int) (w : List (Ed × Ed)) : Int := w.foldl (hiF y) b
noncomputable def subE (p q : Ed) : Ed := (p.1 - q.1, p.2 - q.2)

theorem fdiv_lo {a q : Int} (h : 0 < q) : a.fdiv q * q ≤ a := by
  rw [Int.fdiv_eq_ediv_of_nonneg _ (by lia)]
  exact Int.ediv_mul_le _ (by lia)
theorem fdiv_hi {a q : Int} (h : 0 < q) : a < (a.fdiv q + 1) * q := by
  rw [Int.fdiv_eq_ediv_of_nonneg _ (by lia)]
  exact Int.lt_ediv_add_one_mul_self _ h
theorem fdiv_is {a q v : Int} (h : 0 < q) (h1 : v * q ≤ a) (h2 : a < (v + 1) * q) : a.fdiv q = v := by
  have l := fdiv_lo (a := a) h
  have u := fdiv_hi (a := a) h
  have a1 : a.fdiv q < v + 1 := Int.lt_of_mul_lt_mul_right (a := q) (by lia) (by lia)
  have a2 : v < a.fdiv q + 1 := Int.lt_of_mul_lt_mul_right (a := q) (by lia) (by lia)
  lia

theorem hiF_spec (y b : Int) (p : Ed × Ed) : hiF y b p ≤ b ∧ (0 < p.2.2 → hiF y b p ≤ valC y p) ∧ (hiF y b p = b ∨ (0 < p.2.2 ∧ hiF y b p = valC y p)) := by
  unfold hiF
  by_cases h : 0 < p.2.2
  · rw [if_pos h]
    refine ⟨Int.min_le_left _ _, fun _ => Int.min_le_right _ _, ?_⟩
    rcases Int.le_total b (valC y p) with q | q
    · exact .inl (Int.min_eq_left q)
    · exact .inr ⟨h, Int.min_eq_right q⟩
  · rw [if_neg h]
    exact ⟨Int.le_refl _, fun k => absurd k h, .inl rfl⟩
theorem hiOf_spec (y : Int) : ∀ (w : List (Ed × Ed)) (b : Int), hiOf y b w ≤ b ∧ (∀ p ∈ w, 0 < p.2.2 → hiOf y b w ≤ valC y p) ∧ (hiOf y b w = b ∨ ∃ p ∈ w, 0 < p.2.2 ∧ hiOf y b w = valC y p)
  | [], b => ⟨Int.le_refl _, fun p hp => (nomatch hp), .inl rfl⟩
  | p :: w, b => by
    have ih := hiOf_spec y w (hiF y b p)
    have f := hiF_spec y b p
    refine ⟨Int.le_trans ih.1 f.1, fun p' hp' h' => ?_, ?_⟩
    · rcases List.mem_cons.mp hp' with rfl | hp'
      · exact Int.le_trans ih.1 (f.2.1 h')
      · exact ih.2.1 p' hp' h'
    · rcases ih.2.2 with i3 | ⟨p', hp', h1, h2⟩
      · rcases f.2.2 with g | g
        · exact .inl (i3.trans g)
        · exact .inr ⟨p, List.mem_cons_self, g.1, i3.trans g.2⟩
      · exact .inr ⟨p', List.mem_cons_of_mem _ hp', h1, h2⟩

theorem vtx_first (s : Ed) (l : List Ed) : s ∈ vtx s l := by cases l <;> exact List.mem_cons_self
theorem vtx_last : ∀ (l : List Ed) (s : Ed), addE s (vsum l) ∈ vtx s l
  | [], s => by rw [vsum_nil]; unfold addE vtx; simp
  | e :: l, s => by
    have := vtx_last l (addE s e)
    rw [vsum_cons]
    refine List.mem_cons_of_mem _ ?_
    have e1 : addE s (addE e (vsum l)) = addE (addE s e) (vsum l) := by unfold addE; dsimp only; refine Prod.ext ?_ ?_ <;> dsimp only <;> lia
    rw [e1]; exact this
theorem walk_vtx : ∀ (l : List Ed) (s : Ed) (p : Ed × Ed), p ∈ walkC s l → p.1 ∈ vtx s l ∧ addE p.1 p.2 ∈ vtx s l ∧ p.2 ∈ l
  | [], _, p, h => nomatch h
  | e :: l, s, p, h => by
    rcases List.mem_cons.mp h with rfl | h
    · exact ⟨List.mem_cons_self, List.mem_cons_of_mem _ (vtx_first _ _), List.mem_cons_self⟩
    · have := walk_vtx l _ p h
      exact ⟨List.mem_cons_of_mem _ this.1, List.mem_cons_of_mem _ this.2.1, List.mem_cons_of_mem _ this.2.2⟩
theorem vtx_ahead {e : Ed} : ∀ {l : List Ed} {s v : Ed}, (∀ f ∈ l, 0 ≤ cr e f) → v ∈ vtx s l → 0 ≤ cr e (subE v s)
  | [], s, v, _, hv => by
    rw [List.mem_singleton.mp hv]; unfold cr subE; simp
  | f :: l, s, v, h, hv => by
    rcases List.mem_cons.mp hv with rfl | hv
    · unfold cr subE; simp
    · have h1 := vtx_ahead (fun g hg => h g (List.mem_cons_of_mem _ hg)) hv
      have h2 := h f List.mem_cons_self
      have : cr e (subE v s) = cr e (subE v (addE s f)) + cr e f := by unfold cr subE addE; grind
      lia
/-- every corner lies to the left of every edge's line -/
theorem left_of : ∀ {l : List Ed} {s v : Ed} {p : Ed × Ed}, Chain l → p ∈ walkC s l → v ∈ vtx s l → 0 ≤ cr p.2 (subE v p.1)
  | [], _, _, _, _, hp, _ => nomatch hp
  | e :: l, s, v, p, C, hp, hv => by
    have ho := (List.pairwise_cons.mp C.ord).1
    rcases List.mem_cons.mp hp with rfl | hp
    · rcases List.mem_cons.mp hv with rfl | hv
      · unfold cr subE; simp
      · have h1 := vtx_ahead ho hv
        have : cr e (subE v s) = cr e (subE v (addE s e)) := by unfold cr subE addE; grind
        dsimp only
        lia
    · rcases List.mem_cons.mp hv with rfl | hv
      · have h1 := left_of C.tail hp (vtx_first _ _)
        have h2 := ho p.2 (walk_vtx l _ p hp).2.2
        have : cr p.2 (subE v p.1) = cr p.2 (subE (addE v e) p.1) + cr e p.2 := by unfold cr subE addE; grind
        lia
      · exact left_of C.tail hp hv

theorem line_le {l : List Ed} {s0 : Ed} {p p' : Ed × Ed} {y : Int} (C : Chain l) (hp : p ∈ walkC s0 l) (hp' : p' ∈ walkC s0 l) (q' : 0 < p'.2.2) (h1 : p.1.2 ≤ y) (h2 : y ≤ p.1.2 + p.2.2) :
    valA y p * p'.2.2 ≤ valA y p' * p.2.2 := by
  have w := walk_vtx l s0 p hp
  have c0 := left_of C hp' w.1
  have c1 := left_of C hp' w.2.1
  have m0 := Int.mul_nonneg (show 0 ≤ p.2.2 - (y - p.1.2) by lia) c0
  have m1 := Int.mul_nonneg (show 0 ≤ y - p.1.2 by lia) c1
  have id : valA y p' * p.2.2 - valA y p * p'.2.2 = (p.2.2 - (y - p.1.2)) * cr p'.2 (subE p.1 p'.1) + (y - p.1.2) * cr p'.2 (subE (addE p.1 p.2) p'.1) := by
    unfold valA cr subE addE
    grind
  lia
theorem val_le {a q a' q' : Int} (hq : 0 < q) (hq' : 0 < q') (h : a * q' ≤ a' * q) : (a - 1).fdiv q ≤ (a' - 1).fdiv q' := by
  have l := fdiv_lo (a := a - 1) hq
  have u := fdiv_hi (a := a' - 1) hq'
  generalize (a - 1).fdiv q = v at *
  generalize (a' - 1).fdiv q' = v' at *
  have h1 : v * q * q' < a * q' := Int.mul_lt_mul_of_pos_right (by lia) hq'
  have h2 : a' * q ≤ (v' + 1) * q' * q := Int.mul_le_mul_of_nonneg_right (by lia) (by lia)
  have e1 : v * q * q' = v * (q * q') := by grind
  have e2 : (v' + 1) * q' * q = (v' + 1) * (q * q') := by grind
  have := Int.lt_of_mul_lt_mul_right (a := q * q') (b := v) (c := v' + 1) (by lia) (Int.le_of_lt (Int.mul_pos hq hq'))
  lia
theorem val_lt {p : Ed × Ed} {y b : Int} (q : 0 < p.2.2) (h2 : y ≤ p.1.2 + p.2.2) (hb : p.1.1 + 15 ≤ b) (hx : p.2.1 ≤ 15) (h1 : p.1.2 ≤ y) : valC y p < b := by
  have lo := fdiv_lo (a := valA y p - 1) q
  have m : p.2.1 * (y - p.1.2) ≤ 15 * p.2.2 := Int.le_trans (Int.mul_le_mul_of_nonneg_right hx (Int.sub_nonneg_of_le h1)) (Int.mul_le_mul_of_nonneg_left (Int.sub_left_le_of_le_add h2) (by decide))
  have m2 : p.2.2 * (p.1.1 + 15) ≤ p.2.2 * b := Int.mul_le_mul_of_nonneg_left hb (Int.le_of_lt q)
  have m3 : valA y p ≤ p.2.2 * b := by
    refine Int.le_trans ?_ m2
    rw [Int.mul_add, Int.mul_comm p.2.2 15]
    exact Int.add_le_add_left m _
  exact Int.lt_of_mul_lt_mul_right (Int.lt_of_le_of_lt lo (Int.lt_of_lt_of_le (Int.sub_one_lt_of_le m3) (Int.le_of_eq (Int.mul_comm _ _)))) (Int.le_of_lt q)
/-- the row's end is told by the edge that covers it -/
theorem hiOf_cover {l : List Ed} {s0 : Ed} {p : Ed × Ed} {y b : Int} (C : Chain l) (hp : p ∈ walkC s0 l) (q : 0 < p.2.2) (h1 : p.1.2 ≤ y) (h2 : y ≤ p.1.2 + p.2.2) (hb : p.1.1 + 15 ≤ b) (hx : p.2.1 ≤ 15) :
    hiOf y b (walkC s0 l) = valC y p := by
  obtain ⟨i1, i2, i3⟩ := hiOf_spec y (walkC s0 l) b
  have vb : valC y p < b := val_lt q h2 hb hx h1
  have k1 := i2 p hp q
  rcases i3 with i3 | ⟨p', hp', q', e'⟩
  · lia
  · have : valC y p ≤ valC y p' := val_le q q' (line_le C hp hp' q' h1 h2)
    lia

/-! sums over rows -/
noncomputable def rowSum (f : Int → Int) (a : Int) : Nat → Int
  | 0 => 0
  | n + 1 => rowSum f a n + f (a + (n : Nat))
theorem rowSum_split (f : Int → Int) (a : Int) (m : Nat) : ∀ n, rowSum f a (m + n) = rowSum f a m + rowSum f (a + (m : Nat)) n
  | 0 => by simp [rowSum]
  | n + 1 => by
    show rowSum f a (m + n) + f (a + ((m + n : Nat) : Int)) = _ + (rowSum f (a + (m : Nat)) n + f (a + (m : Nat) + (n : Nat)))
    rw [rowSum_split f a m n, show a + ((m + n : Nat) : Int) = a + (m : Nat) + (n : Nat) by lia]; lia
theorem rowSum_congr {f g : Int → Int} {a : Int} : ∀ {n : Nat}, (∀ y, a ≤ y → y < a + (n : Nat) → f y = g y) → rowSum f a n = rowSum g a n
  | 0, _ => rfl
  | n + 1, h => by
    show rowSum f a n + _ = rowSum g a n + _
    rw [rowSum_congr fun y h1 h2 => h y h1 (by lia), h (a + (n : Nat)) (by lia) (by lia)]
theorem rowSum_add (f g : Int → Int) (a : Int) : ∀ n, rowSum (fun y => f y + g y) a n = rowSum f a n + rowSum g a n
  | 0 => rfl
  | n + 1 => by
    show rowSum (fun y => f y + g y) a n + (f _ + g _) = rowSum f a n + f _ + (rowSum g a n + g _)
    rw [rowSum_add f g a n]; lia
theorem rowSum_const (k : Int) (a : Int) : ∀ n : Nat, rowSum (fun _ => k) a n = k * (n : Nat)
  | 0 => by simp [rowSum]
  | n + 1 => by
    show rowSum (fun _ => k) a n + k = _
    rw [rowSum_const k a n, show ((n + 1 : Nat) : Int) = (n : Nat) + 1 by lia, Int.mul_add]; lia
theorem rowSum_front (f : Int → Int) (a : Int) (n : Nat) : rowSum f a (n + 1) = f a + rowSum f (a + 1) n := by
  rw [Nat.add_comm, rowSum_split]
  show (0 + f (a + ((0 : Nat) : Int))) + _ = _
  simp
theorem rowSum_rev (g : Int → Int) (c : Int) : ∀ (n : Nat) (a : Int), rowSum (fun y => g (c - y)) a n = rowSum g (c - a - (n : Nat) + 1) n
  | 0, _ => rfl
  | n + 1, a => by
    rw [rowSum_front]
    show _ = rowSum g (c - a - ((n + 1 : Nat) : Int) + 1) n + g (c - a - ((n + 1 : Nat) : Int) + 1 + (n : Nat))
    rw [rowSum_rev g c n (a + 1), show c - (a + 1) - (n : Nat) + 1 = c - a - ((n + 1 : Nat) : Int) + 1 by lia, show c - a - ((n + 1 : Nat) : Int) + 1 + (n : Nat) = c - a by lia]
    lia

theorem up_nonneg {e : Ed} (h : upE e) : 0 ≤ e.2 := h.elim Int.le_of_lt fun k => Int.le_of_eq k.1.symm
/-- one edge's rows -/
noncomputable def ceilSum (c q : Int) : Nat → Int
  | 0 => 0
  | k + 1 => ceilSum c q k + ((c * ((k : Nat) + 1) - 1).fdiv q + 1)
theorem ceil_key : ∀ (c : Fin 31) (q : Fin 15), 2 * ceilSum ((c.val : Int) - 15) ((q.val : Int) + 1) (q.val + 1) = ((c.val : Int) - 15) * (q.val + 1) + ((c.val : Int) - 15) + (q.val + 1) - (Int.gcd ((c.val : Int) - 15) ((q.val : Int) + 1) : Nat) := by decide +kernel
theorem ceil_all {c q : Int} (h1 : c.natAbs ≤ 15) (h2 : 0 < q) (h3 : q ≤ 15) : 2 * ceilSum c q q.toNat = c * q + c + q - (Int.gcd c q : Nat) := by
  obtain ⟨k, hk, rfl⟩ : ∃ k : Nat, k < 31 ∧ c = (k : Int) - 15 := ⟨(c + 15).toNat, by clear h2 h3; lia, by clear h2 h3; lia⟩
  obtain ⟨r, hr, rfl⟩ : ∃ r : Nat, r < 15 ∧ q = (r : Int) + 1 := ⟨(q - 1).toNat, by clear h1; lia, by clear h1; lia⟩
  exact ceil_key ⟨k, hk⟩ ⟨r, hr⟩
theorem val_shift {s c y t q : Int} (hq : 0 < q) : (q * s + c * (y - t) - 1).fdiv q = s + (c * (y - t) - 1).fdiv q := by
  rw [Int.add_sub_assoc, Int.mul_comm q s]
  generalize c * (y - t) - 1 = a
  refine fdiv_is hq ?_ ?_
  · rw [Int.add_mul]; exact Int.add_le_add_left (fdiv_lo hq) _
  · rw [Int.add_assoc, Int.add_mul]; exact Int.add_lt_add_left (fdiv_hi hq) _
theorem edge_rows {p : Ed × Ed} (hq : 0 < p.2.2) : ∀ n : Nat, rowSum (fun y => valC y p + 1) (p.1.2 + 1) n = p.1.1 * (n : Nat) + ceilSum p.2.1 p.2.2 n
  | 0 => by simp [rowSum, ceilSum]
  | n + 1 => by
    show rowSum (fun y => valC y p + 1) (p.1.2 + 1) n + (valC (p.1.2 + 1 + (n : Nat)) p + 1) = p.1.1 * ((n + 1 : Nat) : Int) + (ceilSum p.2.1 p.2.2 n + ((p.2.1 * ((n : Nat) + 1) - 1).fdiv p.2.2 + 1))
    rw [edge_rows hq n]
    have : valC (p.1.2 + 1 + (n : Nat)) p = p.1.1 + (p.2.1 * ((n : Nat) + 1) - 1).fdiv p.2.2 := by
      unfold valC valA
      rw [val_shift hq, show p.1.2 + 1 + (n : Nat) - p.1.2 = (n : Nat) + 1 by lia]
    have m := Int.mul_add p.1.1 (n : Nat) 1
    rw [this, show ((n + 1 : Nat) : Int) = (n : Nat) + 1 by lia, m]; lia
theorem edge_sum {p : Ed × Ed} (hu : upE p.2) (h1 : p.2.1.natAbs ≤ 15) (h2 : p.2.2.natAbs ≤ 15) :
    2 * rowSum (fun y => valC y p + 1) (p.1.2 + 1) p.2.2.toNat = 2 * (p.2.2 * p.1.1) + p.2.1 * p.2.2 + p.2.1 + p.2.2 - gE p.2 := by
  by_cases hq : 0 < p.2.2
  · rw [edge_rows hq, Int.mul_add, ceil_all h1 hq (by lia), show ((p.2.2.toNat : Nat) : Int) = p.2.2 by lia]
    have : p.1.1 * p.2.2 = p.2.2 * p.1.1 := Int.mul_comm _ _
    unfold gE
    lia
  · have h0 : p.2.2 = 0 := by unfold upE at hu; lia
    have h3 : 0 < p.2.1 := by unfold upE at hu; lia
    have : gE p.2 = p.2.1 := by unfold gE; rw [h0]; simp; lia
    rw [this, h0]
    simp [rowSum]
noncomputable def wSum : Ed → List Ed → Int
  | _, [] => 0
  | s, e :: l => 2 * (e.2 * s.1) + e.1 * e.2 + e.1 + e.2 - gE e + wSum (addE s e) l
theorem wSum_is : ∀ (l : List Ed) (s : Ed), wSum s l = psum l + cr s (vsum l) + (s.1 + (vsum l).1) * (s.2 + (vsum l).2) - s.1 * s.2 + (vsum l).1 + (vsum l).2 - gsum l
  | [], s => by
    show (0 : Int) = 0 + cr s (0, 0) + (s.1 + 0) * (s.2 + 0) - s.1 * s.2 + 0 + 0 - 0
    rw [cr_zero_r]; simp
  | e :: l, s => by
    show 2 * (e.2 * s.1) + e.1 * e.2 + e.1 + e.2 - gE e + wSum (addE s e) l = cr e (vsum l) + psum l + _ + _ - _ + _ + _ - (gE e + gsum l)
    rw [wSum_is l, vsum_cons]
    generalize vsum l = v
    unfold cr addE
    grind
theorem row_in {s q y : Int} (hq : 0 ≤ q) (h : y < s + 1 + (q.toNat : Nat)) : y ≤ s + q := by
  rw [Int.toNat_of_nonneg hq] at h
  lia
theorem chain_sum {f : Int → Int} : ∀ {l : List Ed} {s : Ed}, (∀ e ∈ l, upE e ∧ e.1.natAbs ≤ 15 ∧ e.2.natAbs ≤ 15) → (∀ p ∈ walkC s l, ∀ y, p.1.2 < y → y ≤ p.1.2 + p.2.2 → f y = valC y p + 1) →
    2 * rowSum f (s.2 + 1) (vsum l).2.toNat = wSum s l ∧ 0 ≤ (vsum l).2
  | [], s, _, _ => ⟨rfl, Int.le_refl _⟩
  | e :: l, s, hu, hf => by
    have ih := chain_sum (l := l) (s := addE s e) (fun f hf => hu f (List.mem_cons_of_mem _ hf)) (fun p hp => hf p (List.mem_cons_of_mem _ hp))
    have he := hu e List.mem_cons_self
    have e2 : 0 ≤ e.2 := up_nonneg he.1
    rw [vsum_cons]
    show 2 * rowSum f (s.2 + 1) (e.2 + (vsum l).2).toNat = 2 * (e.2 * s.1) + e.1 * e.2 + e.1 + e.2 - gE e + wSum (addE s e) l ∧ 0 ≤ e.2 + (vsum l).2
    refine ⟨?_, Int.add_nonneg e2 ih.2⟩
    have k1 : rowSum f (s.2 + 1) e.2.toNat = rowSum (fun y => valC y (s, e) + 1) (s.2 + 1) e.2.toNat := rowSum_congr fun y h1 h2 => hf (s, e) List.mem_cons_self y h1 (row_in e2 h2)
    have k2 := edge_sum (p := (s, e)) he.1 he.2.1 he.2.2
    rw [Int.toNat_add e2 ih.2, rowSum_split, Int.mul_add, k1, k2, Int.toNat_of_nonneg e2, show s.2 + 1 + e.2 = (addE s e).2 + 1 from Int.add_right_comm _ _ _, ih.1]

theorem chain_flat : ∀ {l : List Ed}, (∀ e ∈ l, upE e) → 0 ≤ (vsum l).2
  | [], _ => Int.le_refl _
  | e :: l, h => by
    rw [vsum_cons]
    exact Int.add_nonneg (up_nonneg (h e List.mem_cons_self)) (chain_flat fun f hf => h f (List.mem_cons_of_mem _ hf))
/-- the last edge ends at the top -/
theorem flat_last {e : Ed} {l : List Ed} (C : Chain (e :: l)) (he : 0 < e.2) (hl : (vsum l).2 = 0) : l = [] := by
  cases l with
  | nil => rfl
  | cons f l =>
    exfalso
    have c := (List.pairwise_cons.mp C.ord).1 f List.mem_cons_self
    have fu := C.up f (List.mem_cons_of_mem _ List.mem_cons_self)
    have r := chain_flat C.tail.tail.up
    rw [vsum_cons] at hl
    have hl : f.2 + (vsum l).2 = 0 := hl
    have f2 : f.2 = 0 := Int.le_antisymm (Int.le_trans (Int.le_add_of_nonneg_right r) (Int.le_of_eq hl)) (up_nonneg fu)
    have f1 : 0 < f.1 := fu.elim (fun k => absurd f2 (Int.ne_of_gt k)) (·.2)
    have e1 : cr e f = 0 - e.2 * f.1 := by unfold cr; rw [f2, Int.mul_zero]
    rw [e1] at c
    exact absurd (Int.mul_pos he f1) (Int.not_lt.mpr (Int.le_of_sub_nonneg c))
theorem chain_top : ∀ {l : List Ed} {s : Ed}, Chain l → 0 < (vsum l).2 → ∃ p ∈ walkC s l, 0 < p.2.2 ∧ addE p.1 p.2 = addE s (vsum l)
  | [], s, _, h => by exact absurd h (by decide)
  | e :: l, s, C, h => by
    rcases Int.lt_or_eq_of_le (chain_flat C.tail.up) with hl | hl
    · obtain ⟨p, hp, h1, h2⟩ := chain_top (s := addE s e) C.tail hl
      refine ⟨p, List.mem_cons_of_mem _ hp, h1, ?_⟩
      rw [h2, vsum_cons]; exact Prod.ext (Int.add_assoc _ _ _) (Int.add_assoc _ _ _)
    · rw [vsum_cons] at h
      have h2 : 0 < e.2 := by
        have h : 0 < e.2 + (vsum l).2 := h
        rw [← hl, Int.add_zero] at h; exact h
      have := flat_last C h2 hl.symm
      subst this
      refine ⟨(s, e), List.mem_cons_self, h2, ?_⟩
      rw [vsum_cons, vsum_nil]; exact Prod.ext (by show s.1 + e.1 = s.1 + (e.1 + 0); rw [Int.add_zero]) (by show s.2 + e.2 = s.2 + (e.2 + 0); rw [Int.add_zero])
theorem chain_cover : ∀ {l : List Ed} {s : Ed} {y : Int}, s.2 < y → y ≤ s.2 + (vsum l).2 → ∃ p ∈ walkC s l, 0 < p.2.2 ∧ p.1.2 < y ∧ y ≤ p.1.2 + p.2.2
  | [], s, y, h1, h2 => by rw [vsum_nil] at h2; dsimp only at h2; lia
  | e :: l, s, y, h1, h2 => by
    have v2 : (vsum (e :: l)).2 = e.2 + (vsum l).2 := by rw [vsum_cons]; rfl
    by_cases hy : y ≤ s.2 + e.2
    · exact ⟨(s, e), List.mem_cons_self, by dsimp only; lia, h1, hy⟩
    · obtain ⟨p, hp, h⟩ := chain_cover (l := l) (s := addE s e) (y := y) (by unfold addE; dsimp only; lia) (by unfold addE; dsimp only; lia)
      exact ⟨p, List.mem_cons_of_mem _ hp, h⟩

theorem wSum_0 (l : List Ed) : wSum (0, 0) l = psum l + (vsum l).1 * (vsum l).2 + (vsum l).1 + (vsum l).2 - gsum l := by
  rw [wSum_is, cr_zero_l]
  dsimp only
  rw [Int.add_zero, Int.zero_add, Int.zero_add, Int.zero_mul, Int.sub_zero]
theorem pos_q {a q y : Int} (h1 : a < y) (h2 : y ≤ a + q) : 0 < q := by lia
theorem add_sub_l (a b : Int) : a + b - a = b := by lia
theorem rows_end {S X H P G : Int} (h : 2 * (S + X) = P + X * H + X + H - G) : 2 * S = P + X * H - X + H - G := by
  generalize X * H = Y at *
  lia
/-- the rows below the top -/
theorem chain_rows {l : List Ed} (C : Chain l) (h15 : ∀ e ∈ l, e.1.natAbs ≤ 15 ∧ e.2.natAbs ≤ 15) {b : Int} (hb : ∀ p ∈ walkC (0, 0) l, p.1.1 + 15 ≤ b) (hp : 0 < (vsum l).2) :
    2 * rowSum (fun y => hiOf y b (walkC (0, 0) l) + 1) 1 ((vsum l).2 - 1).toNat = psum l + (vsum l).1 * (vsum l).2 - (vsum l).1 + (vsum l).2 - gsum l := by
  have cov : ∀ p ∈ walkC (0, 0) l, 0 < p.2.2 → ∀ y, p.1.2 ≤ y → y ≤ p.1.2 + p.2.2 → hiOf y b (walkC (0, 0) l) = valC y p := fun p hp hq y h1 h2 =>
    hiOf_cover C hp hq h1 h2 (hb p hp) (Int.le_trans Int.le_natAbs (Int.ofNat_le.mpr (h15 p.2 (walk_vtx _ _ _ hp).2.2).1))
  have cs := (chain_sum (f := fun y => hiOf y b (walkC (0, 0) l) + 1) (l := l) (s := (0, 0)) (fun e he => ⟨C.up e he, h15 e he⟩) (fun p hp y h1 h2 => by
    rw [cov p hp (pos_q h1 h2) y (Int.le_of_lt h1) h2])).1
  rw [wSum_0] at cs
  refine rows_end (Eq.trans ?_ cs)
  obtain ⟨p, hp1, hp2, hp3⟩ := chain_top (s := (0, 0)) C hp
  have hv : addE (0, 0) (vsum l) = vsum l := Prod.ext (Int.zero_add _) (Int.zero_add _)
  rw [hv] at hp3
  clear cs hb
  have q2 : p.1.2 + p.2.2 = (vsum l).2 := congrArg Prod.snd hp3
  have q1 : p.1.1 + p.2.1 = (vsum l).1 := congrArg Prod.fst hp3
  have top : hiOf (vsum l).2 b (walkC (0, 0) l) + 1 = (vsum l).1 := by
    rw [cov p hp1 hp2 _ (Int.le_trans (Int.le_add_of_nonneg_right (Int.le_of_lt hp2)) (Int.le_of_eq q2)) (Int.le_of_eq q2.symm)]
    have a : valA (vsum l).2 p = (vsum l).1 * p.2.2 := by
      unfold valA
      rw [← q2, ← q1, add_sub_l, Int.add_mul, Int.mul_comm p.2.2 p.1.1]
    unfold valC
    rw [a, fdiv_is hp2 (v := (vsum l).1 - 1) (by rw [Int.sub_mul, Int.one_mul]; exact Int.sub_le_sub_left hp2 _) (by rw [Int.sub_add_cancel]; exact Int.sub_lt_self _ (by decide)), Int.sub_add_cancel]
  obtain ⟨n, hn⟩ : ∃ n : Nat, (vsum l).2 = (n : Int) + 1 := ⟨((vsum l).2 - 1).toNat, by rw [Int.toNat_of_nonneg (Int.sub_nonneg_of_le (show 1 ≤ (vsum l).2 from hp)), Int.sub_add_cancel]⟩
  have e1 : ((vsum l).2 - 1).toNat = n := by rw [hn, Int.add_sub_cancel]; rfl
  have e2 : (vsum l).2.toNat = n + 1 := by rw [hn]; rfl
  rw [e1, e2, ← top, hn]
  show 2 * (rowSum _ 1 n + _) = 2 * (rowSum _ ((0 : Int) + 1) n + (hiOf ((0 : Int) + 1 + (n : Int)) b (walkC (0, 0) l) + 1))
  rw [Int.zero_add, Int.add_comm 1 (n : Int)]
end Mine
end

section
set_option Elab.async false
set_option autoImplicit false
set_option linter.unusedVariables false
namespace Mine
/-! two chains of one sum: the rows between them -/
theorem walkC_append : ∀ (a b : List Ed) (s : Ed), walkC s (a ++ b) = walkC s a ++ walkC (addE s (vsum a)) b
  | [], b, s => by
    rw [vsum_nil]
    have : addE s (0, 0) = s := by unfold addE; simp
    rw [this]; rfl
  | e :: a, b, s => by
    show (s, e) :: walkC (addE s e) (a ++ b) = (s, e) :: (walkC (addE s e) a ++ _)
    rw [walkC_append a b, vsum_cons]
    have : addE (addE s e) (vsum a) = addE s (addE e (vsum a)) := by unfold addE; dsimp only; refine Prod.ext ?_ ?_ <;> dsimp only <;> lia
    rw [this]
theorem foldU (y : Int) : ∀ (l : List Ed) (s : Ed) (lh : Int × Int), (∀ e ∈ l, upE e) → (walkC s l).foldl (fun lh p => insStep y lh p.1 p.2) lh = (lh.1, hiOf y lh.2 (walkC s l))
  | [], s, lh, _ => rfl
  | e :: l, s, lh, h => by
    have he := h e List.mem_cons_self
    show (walkC (addE s e) l).foldl (fun lh p => insStep y lh p.1 p.2) (insStep y lh s e) = (lh.1, hiOf y (hiF y lh.2 (s, e)) (walkC (addE s e) l))
    have : insStep y lh s e = (lh.1, hiF y lh.2 (s, e)) := by
      unfold insStep hiF
      dsimp only
      split
      · rfl
      · rw [if_neg (by unfold upE at he; lia)]
    rw [this, foldU y l _ _ fun f hf => h f (List.mem_cons_of_mem _ hf)]
theorem add_fdiv_mul {q : Int} (h : 0 < q) (X a : Int) : (X * q + a).fdiv q = X + a.fdiv q := by
  have l := fdiv_lo (a := a) h
  have u := fdiv_hi (a := a) h
  refine fdiv_is h ?_ ?_
  · rw [Int.add_mul]; exact Int.add_le_add_left l _
  · rw [Int.add_assoc, Int.add_mul]; exact Int.add_lt_add_left u _
theorem neg_fdiv {a q : Int} (h : 0 < q) : (-a).fdiv q + 1 = -((a - 1).fdiv q) := by
  have l := fdiv_lo (a := a - 1) h
  have u := fdiv_hi (a := a - 1) h
  generalize (a - 1).fdiv q = v at *
  have : (-a).fdiv q = -v - 1 := by
    refine fdiv_is h ?_ ?_
    · rw [show -v - 1 = -(v + 1) by lia, Int.neg_mul]; lia
    · rw [show -v - 1 + 1 = -v by lia, Int.neg_mul]; lia
  lia
theorem low_step {s e : Ed} (X h y : Int) (hq : 0 < e.2) : (- -e.2 * (X - s.1) - -e.1 * (y - (h - s.2))).fdiv (- -e.2) + 1 = X - valC (h - y) (s, e) := by
  have id : - -e.2 * (X - s.1) - -e.1 * (y - (h - s.2)) = X * e.2 + -(e.2 * s.1 + e.1 * (h - y - s.2)) := by grind
  rw [id, Int.neg_neg]
  have k := neg_fdiv (a := e.2 * s.1 + e.1 * (h - y - s.2)) hq
  have k2 : (X * e.2 + -(e.2 * s.1 + e.1 * (h - y - s.2))).fdiv e.2 = X + (-(e.2 * s.1 + e.1 * (h - y - s.2))).fdiv e.2 := add_fdiv_mul hq _ _
  rw [k2, Int.add_assoc, k, Int.sub_eq_add_neg]; rfl
theorem low_max (a X v : Int) : max a (X - v) = X - min (X - a) v := by lia
theorem foldD (y X h : Int) : ∀ (l : List Ed) (s : Ed) (lh : Int × Int), (∀ e ∈ l, upE e) →
    (walkC (subE (X, h) s) (l.map negE)).foldl (fun lh p => insStep y lh p.1 p.2) lh = (X - hiOf (h - y) (X - lh.1) (walkC s l), lh.2)
  | [], s, lh, _ => by
    show lh = (X - (X - lh.1), lh.2)
    refine Prod.ext ?_ rfl
    dsimp only; lia
  | e :: l, s, lh, hu => by
    have he := hu e List.mem_cons_self
    show (walkC (addE (subE (X, h) s) (negE e)) (l.map negE)).foldl (fun lh p => insStep y lh p.1 p.2) (insStep y lh (subE (X, h) s) (negE e)) = (X - hiOf (h - y) (hiF (h - y) (X - lh.1) (s, e)) (walkC (addE s e) l), lh.2)
    have e1 : addE (subE (X, h) s) (negE e) = subE (X, h) (addE s e) := by unfold addE subE negE; dsimp only; refine Prod.ext ?_ ?_ <;> dsimp only <;> lia
    have e2 : insStep y lh (subE (X, h) s) (negE e) = (X - hiF (h - y) (X - lh.1) (s, e), lh.2) := by
      unfold insStep hiF subE negE
      dsimp only
      have n0 : ¬ 0 < -e.2 := by unfold upE at he; lia
      rw [if_neg n0]
      by_cases hq : 0 < e.2
      · rw [if_pos (by lia), if_pos hq]
        unfold valC valA
        dsimp only
        have k2 := low_step (s := s) (e := e) X h y hq
        unfold valC valA at k2
        dsimp only at k2
        rw [k2]
        exact Prod.ext (low_max _ _ _) rfl
      · rw [if_neg (by lia), if_neg hq]
        refine Prod.ext ?_ rfl
        dsimp only; lia
    rw [e1, e2, foldD y X h l _ _ fun f hf => hu f (List.mem_cons_of_mem _ hf)]
    dsimp only
    rw [show X - (X - hiF (h - y) (X - lh.1) (s, e)) = hiF (h - y) (X - lh.1) (s, e) by lia]
theorem rowOf_two {U D : List Ed} (hU : ∀ e ∈ U, upE e) (hD : ∀ e ∈ D, upE e) (y : Int) :
    rowOf (walkC (0, 0) (U ++ D.map negE)) y = ((vsum U).1 - hiOf ((vsum U).2 - y) ((vsum U).1 + 100) (walkC (0, 0) D), hiOf y 100 (walkC (0, 0) U)) := by
  unfold rowOf
  rw [walkC_append, List.foldl_append, foldU y U _ _ hU]
  have : addE (0, 0) (vsum U) = subE ((vsum U).1, (vsum U).2) (0, 0) := by unfold addE subE; simp
  rw [this, foldD y _ _ D _ _ hD]
  dsimp only
  rw [show (vsum U).1 - -100 = (vsum U).1 + 100 by lia]

theorem vsum_far : ∀ l : List Ed, (∀ e ∈ l, e.1.natAbs ≤ 15) → -(15 * (l.length : Nat) : Int) ≤ (vsum l).1
  | [], _ => Int.le_refl _
  | f :: l, h => by
    have a := h f List.mem_cons_self
    have b := vsum_far l fun g hg => h g (List.mem_cons_of_mem _ hg)
    rw [vsum_cons, List.length_cons]
    show _ ≤ f.1 + (vsum l).1
    clear h
    generalize (vsum l).1 = x at *
    lia
theorem walk_near : ∀ {l : List Ed} {s : Ed} {p : Ed × Ed}, (∀ e ∈ l, e.1.natAbs ≤ 15) → p ∈ walkC s l → p.1.1 ≤ s.1 + 15 * (l.length : Nat) ∧ p.1.1 ≤ s.1 + (vsum l).1 + 15 * (l.length : Nat)
  | [], _, _, _, hp => nomatch hp
  | e :: l, s, p, h, hp => by
    rcases List.mem_cons.mp hp with rfl | hp
    · have b := vsum_far (e :: l) h
      dsimp only
      generalize (vsum (e :: l)).1 = x at *
      clear h hp
      lia
    · have he := h e List.mem_cons_self
      have q := walk_near (fun f hf => h f (List.mem_cons_of_mem _ hf)) hp
      rw [List.length_cons, vsum_cons]
      show p.1.1 ≤ s.1 + 15 * ((l.length + 1 : Nat) : Int) ∧ p.1.1 ≤ s.1 + (e.1 + (vsum l).1) + 15 * ((l.length + 1 : Nat) : Int)
      have q : p.1.1 ≤ s.1 + e.1 + 15 * (l.length : Nat) ∧ p.1.1 ≤ s.1 + e.1 + (vsum l).1 + 15 * (l.length : Nat) := q
      clear h hp
      generalize (vsum l).1 = x at *
      generalize p.1.1 = y at *
      generalize l.length = n at *
      lia
theorem walk_split : ∀ {l : List Ed} {s : Ed} {p : Ed × Ed}, p ∈ walkC s l → ∃ A B, l = A ++ p.2 :: B ∧ p.1 = addE s (vsum A)
  | [], _, _, hp => nomatch hp
  | e :: l, s, p, hp => by
    rcases List.mem_cons.mp hp with rfl | hp
    · exact ⟨[], l, rfl, by rw [vsum_nil]; unfold addE; simp⟩
    · obtain ⟨A, B, e1, e2⟩ := walk_split hp
      refine ⟨e :: A, B, by rw [e1]; rfl, ?_⟩
      rw [e2, vsum_cons]; unfold addE; dsimp only; refine Prod.ext ?_ ?_ <;> dsimp only <;> lia
theorem zero_l {e : Ed} {l : List Ed} (h : ∀ f ∈ l, 0 ≤ cr f e) (hz : cr e (vsum l) = 0) : ∀ f ∈ l, cr e f = 0 := by
  have := cr_vsum_zero (e := negE e) (l := l) (fun f hf => by rw [cr_neg_l]; have := h f hf; rw [cr_anti] at this; exact this) (by rw [cr_neg_l, hz]; rfl)
  intro f hf
  have := this f hf
  rw [cr_neg_l] at this; lia
theorem both_par {e f g : Ed} (he : upE e) (hf : upE f) (hg : upE g) (h1 : cr e f = 0) (h2 : cr e g = 0) : cr f g = 0 := by
  obtain ⟨u, hu, gu, eu⟩ := prim he
  have g1 := up_gE he
  have z : ∀ {x : Ed}, upE x → cr e x = 0 → cr u x = 0 := by
    intro x hx h
    rw [eu, cr_mul_l] at h
    rcases Int.mul_eq_zero.mp h with q | q
    · lia
    · exact q
  rw [par hu gu hf (z hf h1), par hu gu hg (z hg h2), cr_mul_l, cr_mul_r, cr_self]; simp
/-- a chain whose ends lie on an edge's line is a straight one -/
theorem chain_straight {l : List Ed} {p : Ed × Ed} (C : Chain l) (hp : p ∈ walkC (0, 0) l) (h1 : cr p.2 (subE (0, 0) p.1) = 0) (h2 : cr p.2 (subE (vsum l) p.1) = 0) : psum l = 0 := by
  obtain ⟨A, B, e1, e2⟩ := walk_split hp
  obtain ⟨s, e⟩ := p
  dsimp only at *
  subst e1
  have hs : s = vsum A := by rw [e2]; unfold addE; simp
  subst hs
  have ho := List.pairwise_append.mp C.ord
  have hb := List.pairwise_cons.mp ho.2.1
  have eu := C.up e (List.mem_append_right _ List.mem_cons_self)
  have z1 : cr e (vsum A) = 0 := by
    have : cr e (subE (0, 0) (vsum A)) = - cr e (vsum A) := by unfold cr subE; grind
    lia
  have z2 : cr e (vsum B) = 0 := by
    rw [vsum_append, vsum_cons] at h2
    have : cr e (subE (addE (vsum A) (addE e (vsum B))) (vsum A)) = cr e (vsum B) := by unfold cr subE addE; grind
    lia
  have za := zero_l (fun f hf => ho.2.2 f hf e List.mem_cons_self) z1
  have zb := cr_vsum_zero hb.1 z2
  have all : ∀ f ∈ A ++ e :: B, cr e f = 0 := by
    intro f hf
    rcases List.mem_append.mp hf with hf | hf
    · exact za f hf
    · rcases List.mem_cons.mp hf with rfl | hf
      · exact cr_self _
      · exact zb f hf
  refine psum_of_zero ?_
  refine List.Pairwise.imp_of_mem (R := fun _ _ => True) (fun {f g} hf hg _ => both_par eu (C.up f hf) (C.up g hg) (all f hf) (all g hg)) ?_
  exact List.pairwise_of_forall fun _ _ => trivial

theorem nn_end {A A' q q' v v' X : Int} (hq : 0 < q) (hq' : 0 < q') (u1 : A ≤ (v + 1) * q) (u2 : A' ≤ (v' + 1) * q') (d : 0 < A * q' + A' * q - X * (q * q')) : 0 ≤ v - (X - v') + 1 := by
  have w1 : A * q' ≤ (v + 1) * q * q' := Int.mul_le_mul_of_nonneg_right u1 (Int.le_of_lt hq')
  have w2 : A' * q ≤ (v' + 1) * q' * q := Int.mul_le_mul_of_nonneg_right u2 (Int.le_of_lt hq)
  have e1 : (v + 1) * q * q' + (v' + 1) * q' * q = (v + v' + 2) * (q * q') := by clear u1 u2 w1 w2 d hq hq'; grind
  have m := Int.lt_of_mul_lt_mul_right (a := q * q') (b := X) (c := v + v' + 2) (Int.lt_of_lt_of_le (Int.lt_of_sub_pos d) (Int.le_trans (Int.add_le_add w1 w2) (Int.le_of_eq e1))) (Int.le_of_lt (Int.mul_pos hq hq'))
  clear w1 w2 e1 u1 u2 d
  lia
theorem pos_mix {H y a b c d q q' : Int} (h0 : 0 < y) (h1 : y < H) (ha : 0 ≤ a) (hb : 0 ≤ b) (hc : 0 ≤ c) (hd : 0 ≤ d) (hq : 0 < q) (hq' : 0 < q') (st : ¬ (a = 0 ∧ b = 0 ∧ c = 0 ∧ d = 0)) :
    0 < (H - y) * (a * q' + d * q) + y * (b * q' + c * q) := by
  have hy : 0 < H - y := Int.sub_pos_of_lt h1
  have ma := Int.mul_nonneg ha (Int.le_of_lt hq')
  have mb := Int.mul_nonneg hb (Int.le_of_lt hq')
  have mc := Int.mul_nonneg hc (Int.le_of_lt hq)
  have md := Int.mul_nonneg hd (Int.le_of_lt hq)
  have n1 := Int.mul_nonneg (Int.le_of_lt hy) (Int.add_nonneg ma md)
  have n2 := Int.mul_nonneg (Int.le_of_lt h0) (Int.add_nonneg mb mc)
  have pos : ∀ {x k : Int}, 0 ≤ x → x ≠ 0 → 0 < k → 0 < x * k := fun hx hn hk => Int.mul_pos ((Int.lt_or_eq_of_le hx).resolve_right fun e => hn e.symm) hk
  by_cases ea : a = 0
  · by_cases ed : d = 0
    · by_cases eb : b = 0
      · by_cases ec : c = 0
        · exact absurd ⟨ea, eb, ec, ed⟩ st
        · exact Int.add_pos_of_nonneg_of_pos n1 (Int.mul_pos h0 (Int.add_pos_of_nonneg_of_pos mb (pos hc ec hq)))
      · exact Int.add_pos_of_nonneg_of_pos n1 (Int.mul_pos h0 (Int.add_pos_of_pos_of_nonneg (pos hb eb hq') mc))
    · exact Int.add_pos_of_pos_of_nonneg (Int.mul_pos hy (Int.add_pos_of_nonneg_of_pos ma (pos hd ed hq))) n2
  · exact Int.add_pos_of_pos_of_nonneg (Int.mul_pos hy (Int.add_pos_of_pos_of_nonneg (pos ha ea hq') md)) n2
/-- the rows hold no less than none -/
theorem row_nonneg {U D : List Ed} (hU : Chain U) (hD : Chain D) (hv : vsum U = vsum D) (ar : psum U + psum D ≠ 0) {y : Int} (h0 : 0 < y) (h1 : y < (vsum U).2) {p p' : Ed × Ed}
    (hp : p ∈ walkC (0, 0) U) (q : 0 < p.2.2) (hp' : p' ∈ walkC (0, 0) D) (q' : 0 < p'.2.2) : 0 ≤ valC y p - ((vsum U).1 - valC ((vsum U).2 - y) p') + 1 := by
  have f1 := left_of hU hp (vtx_first _ _)
  have l1 := left_of hU hp (vtx_last _ _)
  have f2 := left_of hD hp' (vtx_first _ _)
  have l2 := left_of hD hp' (vtx_last _ _)
  have z : ∀ v : Ed, addE (0, 0) v = v := fun v => Prod.ext (Int.zero_add _) (Int.zero_add _)
  rw [z] at l1 l2
  rw [← hv] at l2
  have pos := pos_mix h0 h1 f1 l1 f2 l2 q q' fun ⟨a, b, c, d⟩ => ar (by rw [chain_straight hU hp a b, chain_straight hD hp' c (hv ▸ d)]; rfl)
  have id : (vsum U).2 * (valA y p * p'.2.2 + valA ((vsum U).2 - y) p' * p.2.2 - (vsum U).1 * (p.2.2 * p'.2.2)) =
      ((vsum U).2 - y) * (cr p.2 (subE (0, 0) p.1) * p'.2.2 + cr p'.2 (subE (vsum U) p'.1) * p.2.2) + y * (cr p.2 (subE (vsum U) p.1) * p'.2.2 + cr p'.2 (subE (0, 0) p'.1) * p.2.2) := by
    clear pos f1 l1 f2 l2 z hp hp' hU hD hv ar h0 h1 q q'
    unfold valA cr subE
    generalize vsum U = V
    grind
  rw [← id] at pos
  exact nn_end q q' (Int.le_of_sub_one_lt (fdiv_hi q)) (Int.le_of_sub_one_lt (fdiv_hi q')) (pos_right (Int.lt_trans h0 h1) pos)

theorem countUp_sum (se : List ((Int × Int) × Int × Int)) (a : Int) : ∀ n, countUp se a n = rowSum (rowCount se) a n
  | 0 => rfl
  | n + 1 => by show countUp se a n + _ = rowSum _ a n + _; rw [countUp_sum se a n]
theorem rowSum_nonneg {f : Int → Int} {a : Int} (h : ∀ y, 0 ≤ f y) : ∀ n, 0 ≤ rowSum f a n
  | 0 => Int.le_refl _
  | n + 1 => by
    have := rowSum_nonneg (a := a) h n
    have := h (a + (n : Nat))
    show 0 ≤ rowSum f a n + _
    lia
theorem flat_none {l : List Ed} (C : Chain l) (h : (vsum l).2 = 0) : psum l = 0 := by
  have hz : ∀ e ∈ l, e.2 = 0 := by
    have up := C.up
    clear C
    induction l with
    | nil => intro e he; cases he
    | cons f l ih =>
      have v2 : (vsum (f :: l)).2 = f.2 + (vsum l).2 := by rw [vsum_cons]; rfl
      have h1 := chain_flat fun e he => up e (List.mem_cons_of_mem _ he)
      have h2 := up f List.mem_cons_self
      unfold upE at h2
      intro e he
      rcases List.mem_cons.mp he with rfl | he
      · lia
      · exact ih (by lia) (fun e he => up e (List.mem_cons_of_mem _ he)) e he
  refine psum_of_zero ?_
  refine List.Pairwise.imp_of_mem (R := fun _ _ => True) (fun {f g} hf hg _ => ?_) (List.pairwise_of_forall fun _ _ => trivial)
  unfold cr
  rw [hz f hf, hz g hg]; simp

theorem near_up {l : List Ed} (b15 : ∀ e ∈ l, e.1.natAbs ≤ 15 ∧ e.2.natAbs ≤ 15) (len : l.length ≤ 5) : ∀ p ∈ walkC (0, 0) l, p.1.1 + 15 ≤ 100 ∧ p.1.1 + 15 ≤ (vsum l).1 + 100 := fun p hp => by
  have := walk_near (fun e he => (b15 e he).1) hp
  dsimp only at this
  generalize p.1.1 = x at *
  generalize (vsum l).1 = y at *
  generalize l.length = n at *
  clear b15 hp
  lia
/-- one row between two chains -/
theorem row_is {U D : List Ed} (hU : Chain U) (hD : Chain D) (hv : vsum U = vsum D) (bU : ∀ e ∈ U, e.1.natAbs ≤ 15 ∧ e.2.natAbs ≤ 15) (bD : ∀ e ∈ D, e.1.natAbs ≤ 15 ∧ e.2.natAbs ≤ 15)
    (lU : U.length ≤ 5) (lD : D.length ≤ 5) (ar : psum U + psum D ≠ 0) {y : Int} (h1 : 0 < y) (h2 : y < (vsum U).2) :
    rowCount (walkC (0, 0) (U ++ D.map negE)) y = (hiOf y 100 (walkC (0, 0) U) + 1) + ((hiOf ((vsum U).2 - y) ((vsum U).1 + 100) (walkC (0, 0) D) + 1) + (- ((vsum U).1 + 1))) := by
  have z : ∀ x : Int, 0 + x = x := Int.zero_add
  obtain ⟨p, p1, p2, p3, p4⟩ := chain_cover (l := U) (s := (0, 0)) (y := y) h1 ((z _).symm ▸ Int.le_of_lt h2)
  obtain ⟨p', p1', p2', p3', p4'⟩ := chain_cover (l := D) (s := (0, 0)) (y := (vsum U).2 - y) (Int.sub_pos_of_lt h2) (by rw [← hv]; exact (z _).symm ▸ Int.sub_le_self _ (Int.le_of_lt h1))
  have f15 : ∀ {x : Int}, x.natAbs ≤ 15 → x ≤ 15 := fun h => Int.le_trans Int.le_natAbs (Int.ofNat_le.mpr h)
  have c1 := hiOf_cover hU p1 p2 (Int.le_of_lt p3) p4 (near_up bU lU p p1).1 (f15 (bU p.2 (walk_vtx _ _ _ p1).2.2).1)
  have c2 := hiOf_cover hD p1' p2' (Int.le_of_lt p3') p4' (near_up bD lD p' p1').2 (f15 (bD p'.2 (walk_vtx _ _ _ p1').2.2).1)
  have nn := row_nonneg hU hD hv ar h1 h2 p1 p2 p1' p2'
  rw [← hv] at c2
  unfold rowCount
  rw [rowOf_two hU.up hD.up]
  dsimp only
  rw [c1, c2]
  clear c1 c2 p1 p2 p3 p4 p1' p2' p3' p4' ar bU bD
  generalize valC y p = v at *
  generalize valC ((vsum U).2 - y) p' = v' at *
  generalize (vsum U).1 = X at *
  clear h1 h2 lU lD
  lia
theorem one_sub (H : Int) : 1 + (H - 1) = H := by lia
theorem pick_num {a b g g' X H S S' : Int} (r : 2 * S = a + X * H - X + H - g) (r' : 2 * S' = b + X * H - X + H - g') : a + b = 2 * (S + (S' + -(X + 1) * (H - 1))) + (g + g') - 2 := by
  have e : -(X + 1) * (H - 1) = X - X * H - H + 1 := by grind
  rw [e]
  generalize X * H = Y at *
  clear e
  lia
theorem pick {U D : List Ed} (hU : Chain U) (hD : Chain D) (hv : vsum U = vsum D) (bU : ∀ e ∈ U, e.1.natAbs ≤ 15 ∧ e.2.natAbs ≤ 15) (bD : ∀ e ∈ D, e.1.natAbs ≤ 15 ∧ e.2.natAbs ≤ 15)
    (lU : U.length ≤ 5) (lD : D.length ≤ 5) (ar : psum U + psum D ≠ 0) :
    psum U + psum D = 2 * countUp (walkC (0, 0) (U ++ D.map negE)) 1 ((vsum U).2 - 1).toNat + (gsum U + gsum D) - 2 ∧ 0 < (vsum U).2 ∧ 0 ≤ countUp (walkC (0, 0) (U ++ D.map negE)) 1 ((vsum U).2 - 1).toNat := by
  have hp : 0 < (vsum U).2 := by
    refine Int.not_le.mp fun h => ar ?_
    have h := Int.le_antisymm h (chain_flat hU.up)
    rw [flat_none hU h, flat_none hD (hv ▸ h)]; rfl
  have rU := chain_rows hU bU (fun p hp => (near_up bU lU p hp).1) hp
  have rD := chain_rows hD bD (fun p hp => (near_up bD lD p hp).2) (hv ▸ hp)
  rw [← hv] at rD
  rw [countUp_sum]
  refine ⟨?_, hp, rowSum_nonneg (fun y => Int.le_max_left _ _) _⟩
  have eN : ((((vsum U).2 - 1).toNat : Nat) : Int) = (vsum U).2 - 1 := Int.toNat_of_nonneg (Int.sub_nonneg_of_le hp)
  rw [rowSum_congr (g := fun y => (hiOf y 100 (walkC (0, 0) U) + 1) + ((fun z => (hiOf z ((vsum U).1 + 100) (walkC (0, 0) D) + 1)) ((vsum U).2 - y) + (- ((vsum U).1 + 1)))) fun y h1 h2 =>
      row_is hU hD hv bU bD lU lD ar (Int.lt_of_lt_of_le (by decide) h1) (Int.lt_of_lt_of_le h2 (by rw [eN]; exact Int.le_of_eq (one_sub _))),
    rowSum_add (fun y => hiOf y 100 (walkC (0, 0) U) + 1), rowSum_add (fun y => (fun z => (hiOf z ((vsum U).1 + 100) (walkC (0, 0) D) + 1)) ((vsum U).2 - y)) (fun _ => -((vsum U).1 + 1)), rowSum_const (-((vsum U).1 + 1)), rowSum_rev (fun z => (hiOf z ((vsum U).1 + 100) (walkC (0, 0) D) + 1)), eN,
    show (vsum U).2 - 1 - ((vsum U).2 - 1) + 1 = 1 by rw [Int.sub_self]; rfl]
  exact pick_num rU rD
end Mine
end

section
set_option Elab.async false
set_option autoImplicit false
set_option linter.unusedVariables false
namespace Mine
/-! the wheel: the hues' order is the order of the edges -/
noncomputable def ptI (s : Nat) (a d : Int) : Ed :=
  match s with
  | 0 => (d, a)
  | 1 => (d - a, d)
  | 2 => (-a, d - a)
  | 3 => (-d, -a)
  | 4 => (a - d, -d)
  | _ => (a, a - d)
structure OnWheel (p : T3) (s a d : Nat) : Prop where
  hs : s < 6
  ha : a < d
  hd : d < 16
  hue : p.b.toNat = hueS s a d
  pt : edOf p = ptI s a d

theorem pt_col {s a d : Nat} (hs : s < 6) (ha : a < d) : (((col s a d).1 : Int) - ((col s a d).2.2 : Int), ((col s a d).2.1 : Int) - ((col s a d).2.2 : Int)) = ptI s a d := by
  have e : ((d - a : Nat) : Int) = d - a := by lia
  have : s = 0 ∨ s = 1 ∨ s = 2 ∨ s = 3 ∨ s = 4 ∨ s = 5 := by clear ha e; lia
  rcases this with rfl | rfl | rfl | rfl | rfl | rfl <;> simp only [col, ptI, e] <;> clear e hs ha <;> refine Prod.ext ?_ ?_ <;> dsimp only <;> lia
theorem to_sub {x z : Int} {X Z k : Nat} (hx : 0 ≤ x) (hz : 0 ≤ z) (h1 : x.toNat = X + k) (h2 : z.toNat = Z + k) : x - z = X - Z := by
  rw [← Int.toNat_of_nonneg hx, ← Int.toNat_of_nonneg hz, h1, h2, Int.natCast_add, Int.natCast_add, Int.add_sub_add_right]
theorem laid_wheel {sc : List Int} {ts : List T3} (h : ts.map (fun p => (p.b, p.x, p.y)) = laidL sc) : ∀ p ∈ ts, ∃ s a d, OnWheel p s a d := by
  intro p hp
  have h1 : (p.b, p.x, p.y) ∈ ts.map fun p => (p.b, p.x, p.y) := List.mem_map.mpr ⟨p, hp, rfl⟩
  rw [h] at h1
  obtain ⟨n, hn, e⟩ := List.mem_filterMap.mp h1
  have hr := readN_range sc n hn
  have l := lights hr.1 hr.2
  obtain ⟨e1, s, a, d, k, w⟩ := item_wheel hr e
  refine ⟨s, a, d, w.hs, w.ha, w.hd, item_hue hr e w, ?_⟩
  rw [← pt_col w.hs w.ha, ← to_sub l.1.1 l.2.2.1 w.c1 w.c3, ← to_sub l.2.1.1 l.2.2.1 w.c2 w.c3]
  exact congrArg (·.2) e1
theorem key_eq (s a d d' : Nat) : (s * d + a) * d' = s * (d * d') + a * d' := by rw [Nat.add_mul, Nat.mul_assoc]
theorem key_eq' (s a d d' : Nat) : (s * d' + a) * d = s * (d * d') + a * d := by rw [Nat.add_mul, Nat.mul_assoc, Nat.mul_comm d' d]
theorem sec_le {s s' X A B : Nat} (h : s * X + A ≤ s' * X + B) (hB : B < X) : s ≤ s' := by
  refine Nat.not_lt.mp fun q => ?_
  have := Nat.mul_le_mul_right X q
  rw [Nat.succ_mul] at this
  generalize s' * X = U at *
  generalize s * X = V at *
  lia
theorem in_X {a d k : Nat} (ha : a < d) (hk : 0 < k) : a * k < d * k := Nat.mul_lt_mul_of_pos_right ha hk
theorem key_le {p p' : T3} {s a d s' a' d' : Nat} (h : OnWheel p s a d) (h' : OnWheel p' s' a' d') (hle : p.b.toNat ≤ p'.b.toNat) : s * (d * d') + a * d' ≤ s' * (d * d') + a' * d := by
  rw [← key_eq, ← key_eq']
  refine Nat.not_lt.mp fun q => ?_
  have := hue_lt h'.hs h'.ha h'.hd h.hs h.ha h.hd q
  rw [h.hue, h'.hue] at hle
  exact Nat.not_lt.mpr hle this
theorem up_pt {s : Nat} {a d : Int} (h0 : 0 ≤ a) (h1 : a < d) (hs : s < 3) : upE (ptI s a d) := by
  have hd : 0 < d := Int.lt_of_le_of_lt h0 h1
  match s, hs with
  | 0, _ => exact (Int.lt_or_eq_of_le h0).elim .inl fun e => .inr ⟨e.symm, hd⟩
  | 1, _ => exact .inl hd
  | 2, _ => exact .inl (Int.sub_pos_of_lt h1)
theorem neg_pt {s : Nat} {a d : Int} (hs : s < 3) : ptI (s + 3) a d = negE (ptI s a d) := by
  match s, hs with
  | 0, _ => rfl
  | 1, _ => exact Prod.ext (Int.neg_sub _ _).symm rfl
  | 2, _ => exact Prod.ext (Int.neg_neg _).symm (Int.neg_sub _ _).symm
theorem pos_end {c : Int} {s s' : Nat} {P : Prop} (h : 0 < c) (hn : s ≠ s') : 0 ≤ c ∧ (c = 0 ↔ (s = s' ∧ P)) :=
  ⟨Int.le_of_lt h, fun e => absurd e (Int.ne_of_gt h), fun e => absurd e.1 hn⟩
theorem same_end {c : Int} {s A B : Nat} (e : c = (B : Int) - A) (h : A ≤ B) : 0 ≤ c ∧ (c = 0 ↔ (s = s ∧ A = B)) := by
  subst e
  exact ⟨Int.sub_nonneg_of_le (Int.ofNat_le.mpr h), fun q => ⟨rfl, (Int.ofNat_inj.mp (Int.sub_eq_zero.mp q)).symm⟩, fun q => by rw [q.2, Int.sub_self]⟩
/-- in one half -/
theorem cr_pt {s a d s' a' d' : Nat} (hs : s < 3) (hs' : s' < 3) (ha : a < d) (ha' : a' < d') (h : s * (d * d') + a * d' ≤ s' * (d * d') + a' * d) :
    0 ≤ cr (ptI s a d) (ptI s' a' d') ∧ (cr (ptI s a d) (ptI s' a' d') = 0 ↔ (s = s' ∧ a * d' = a' * d)) := by
  have hd : 0 < d := Nat.lt_of_le_of_lt (Nat.zero_le _) ha
  have hd' : 0 < d' := Nat.lt_of_le_of_lt (Nat.zero_le _) ha'
  have hle := sec_le h (by rw [Nat.mul_comm d d']; exact in_X ha' hd)
  have p1 : 0 < (d : Int) - a := Int.sub_pos_of_lt (Int.ofNat_lt.mpr ha)
  have p2 : 0 < (d' : Int) - a' := Int.sub_pos_of_lt (Int.ofNat_lt.mpr ha')
  have z : ∀ x y : Nat, 0 ≤ (x : Int) * y := fun x y => Int.mul_nonneg (Int.natCast_nonneg _) (Int.natCast_nonneg _)
  have m1 : ((a * d' : Nat) : Int) = (a : Int) * d' := Int.natCast_mul _ _
  have m2 : ((a' * d : Nat) : Int) = (a' : Int) * d := Int.natCast_mul _ _
  rcases Nat.lt_or_eq_of_le hle with q | q
  · have c : (s = 0 ∧ s' = 1) ∨ (s = 0 ∧ s' = 2) ∨ (s = 1 ∧ s' = 2) := by clear h hle hd hd' p1 p2 m1 m2 ha ha' z hs; lia
    clear h hle hs hs'
    rcases c with ⟨rfl, rfl⟩ | ⟨rfl, rfl⟩ | ⟨rfl, rfl⟩
    · have e : cr (ptI 0 a d) (ptI 1 a' d') = ((d : Int) - a) * d' + a * a' := by unfold cr ptI; clear p1 p2 m1 m2 z; grind
      exact pos_end (e ▸ Int.add_pos_of_pos_of_nonneg (Int.mul_pos p1 (Int.natCast_pos.mpr hd')) (z _ _)) (by decide)
    · have e : cr (ptI 0 a d) (ptI 2 a' d') = (d : Int) * ((d' : Int) - a') + a * a' := by unfold cr ptI; clear p1 p2 m1 m2 z; grind
      exact pos_end (e ▸ Int.add_pos_of_pos_of_nonneg (Int.mul_pos (Int.natCast_pos.mpr hd) p2) (z _ _)) (by decide)
    · have e : cr (ptI 1 a d) (ptI 2 a' d') = ((d : Int) - a) * ((d' : Int) - a') + d * a' := by unfold cr ptI; clear p1 p2 m1 m2 z; grind
      exact pos_end (e ▸ Int.add_pos_of_pos_of_nonneg (Int.mul_pos p1 p2) (z _ _)) (by decide)
  · subst q
    have hAB := Nat.le_of_add_le_add_left h
    refine same_end ?_ hAB
    rw [m1, m2]
    clear h hle m1 m2 hAB p1 p2 z hs' ha ha' hd hd'
    have : s = 0 ∨ s = 1 ∨ s = 2 := by lia
    rcases this with rfl | rfl | rfl <;> (unfold cr ptI; clear hs; grind)
theorem up_not_neg {e : Ed} (h : upE e) : ¬ upE (negE e) := fun q => by
  rcases h with h | ⟨h, h'⟩ <;> rcases q with q | ⟨q, q'⟩
  · exact Int.lt_asymm h (Int.neg_pos.mp q)
  · exact Int.ne_of_gt h (Int.neg_eq_zero.mp q)
  · exact Int.ne_of_lt (Int.neg_pos.mp q) h
  · exact Int.lt_asymm h' (Int.neg_pos.mp q')
theorem wheel_up {p : T3} {s a d : Nat} (h : OnWheel p s a d) (hs : s < 3) : upE (edOf p) := by
  rw [h.pt]; exact up_pt (Int.natCast_nonneg _) (Int.ofNat_lt.mpr h.ha) hs
theorem wheel_lo {p : T3} {t a d : Nat} (h : OnWheel p (t + 3) a d) : t < 3 ∧ upE (negE (edOf p)) ∧ edOf p = negE (ptI t a d) := by
  have ht : t < 3 := Nat.lt_of_add_lt_add_right h.hs
  have e : edOf p = negE (ptI t a d) := by rw [h.pt, neg_pt ht]
  refine ⟨ht, ?_, e⟩
  rw [e]
  have : negE (negE (ptI t a d)) = ptI t a d := by unfold negE; rw [Int.neg_neg, Int.neg_neg]
  rw [this]
  exact up_pt (Int.natCast_nonneg _) (Int.ofNat_lt.mpr h.ha) ht
theorem sec_cases (s : Nat) : s < 3 ∨ ∃ t, s = t + 3 := (Nat.lt_or_ge s 3).elim .inl fun h => .inr ⟨s - 3, (Nat.sub_add_cancel h).symm⟩
/-- what the hues' order says of two edges -/
structure Pair2 (p p' : T3) : Prop where
  half : upE (edOf p') → upE (edOf p)
  same : (upE (edOf p) ↔ upE (edOf p')) → 0 ≤ cr (edOf p) (edOf p') ∧ (cr (edOf p) (edOf p') = 0 ↔ p.b = p'.b)
theorem hue_same {p p' : T3} {s a d s' a' d' : Nat} (h : OnWheel p s a d) (h' : OnWheel p' s' a' d') : p.b = p'.b ↔ (s = s' ∧ a * d' = a' * d) := by
  have hd : 0 < d := Nat.lt_of_le_of_lt (Nat.zero_le _) h.ha
  have hd' : 0 < d' := Nat.lt_of_le_of_lt (Nat.zero_le _) h'.ha
  constructor
  · intro e
    have k := key_le h h' (by rw [e]; exact Nat.le_refl _)
    have k2 := key_le h' h (by rw [e]; exact Nat.le_refl _)
    rw [Nat.mul_comm d' d] at k2
    have es : s = s' := Nat.le_antisymm (sec_le k (by rw [Nat.mul_comm d d']; exact in_X h'.ha hd)) (sec_le k2 (in_X h.ha hd'))
    subst es
    exact ⟨rfl, Nat.le_antisymm (Nat.le_of_add_le_add_left k) (Nat.le_of_add_le_add_left k2)⟩
  · rintro ⟨rfl, e⟩
    refine UInt64.toNat_inj.mp ?_
    rw [h.hue, h'.hue]
    exact hue_eq h.hs h.ha h.hd h'.ha h'.hd e
theorem pair2 {p p' : T3} {s a d s' a' d' : Nat} (h : OnWheel p s a d) (h' : OnWheel p' s' a' d') (hle : p.b.toNat ≤ p'.b.toNat) : Pair2 p p' := by
  have k := key_le h h' hle
  have hd : 0 < d := Nat.lt_of_le_of_lt (Nat.zero_le _) h.ha
  have sl := sec_le k (by rw [Nat.mul_comm d d']; exact in_X h'.ha hd)
  have hb := hue_same h h'
  rcases sec_cases s with q | ⟨t, rfl⟩ <;> rcases sec_cases s' with q' | ⟨t', rfl⟩
  · refine ⟨fun _ => wheel_up h q, fun _ => ?_⟩
    rw [h.pt, h'.pt, hb]
    exact cr_pt q q' h.ha h'.ha k
  · exact ⟨fun _ => wheel_up h q, fun i => absurd (wheel_lo h').2.1 (up_not_neg (i.mp (wheel_up h q)))⟩
  · exact absurd (Nat.lt_of_le_of_lt (Nat.le_trans (Nat.le_add_left 3 t) sl) q') (Nat.lt_irrefl _)
  · refine ⟨fun u => absurd (wheel_lo h').2.1 (up_not_neg u), fun _ => ?_⟩
    rw [(wheel_lo h).2.2, (wheel_lo h').2.2, cr_neg_l, cr_neg_r, Int.neg_neg, hb, Nat.add_right_cancel_iff]
    rw [Nat.add_mul, Nat.add_mul, Nat.add_right_comm, Nat.add_right_comm _ _ (a' * d)] at k
    exact cr_pt (wheel_lo h).1 (wheel_lo h').1 h.ha h'.ha (Nat.le_of_add_le_add_right k)
end Mine
end

section
set_option Elab.async false
set_option autoImplicit false
set_option linter.unusedVariables false
namespace Mine
/-! the edges' sum is none -/
noncomputable def vN (n : Int) : Ed := (rI n - bI n, gI n - bI n)
theorem laid_vN : ∀ l : List Int, vsum ((l.filterMap laidItem).map (·.2)) = vsum (l.map vN)
  | [] => rfl
  | n :: l => by
    rw [List.filterMap_cons, List.map_cons, vsum_cons, ← laid_vN l]
    by_cases h : rI n = gI n ∧ gI n = bI n
    · have e : laidItem n = none := by unfold laidItem; rw [if_pos h]
      rw [e]
      unfold vN addE
      rw [h.1, h.2]; simp
    · have e : laidItem n = some (hueK (rI n).toNat (gI n).toNat (bI n).toNat, rI n - bI n, gI n - bI n) := by unfold laidItem; rw [if_neg h]
      rw [e]
      dsimp only
      rw [List.map_cons, vsum_cons]; rfl
theorem told_vN : ∀ l : List Int, (∀ n ∈ l, 0 ≤ n) → vsum ((l.filter fun n => decide (0 < n)).map vN) = vsum (l.map vN)
  | [], _ => rfl
  | n :: l, h => by
    have ih := told_vN l fun m hm => h m (List.mem_cons_of_mem _ hm)
    have hn := h n List.mem_cons_self
    rw [List.filter_cons, List.map_cons, vsum_cons, ← ih]
    by_cases q : 0 < n
    · rw [if_pos (decide_eq_true q), List.map_cons, vsum_cons]
    · rw [if_neg (by simpa using q)]
      have : n = 0 := by lia
      subst this
      show _ = addE (0, 0) _
      unfold addE; simp
theorem div_is {v q b : Int} (h0 : 0 ≤ b) (h : b < q) : (v * q + b).fdiv q = v := by
  refine fdiv_is (Int.lt_of_le_of_lt h0 h) (Int.le_add_of_nonneg_right h0) ?_
  rw [Int.add_mul, Int.one_mul]; exact Int.add_lt_add_left h _
theorem num_lights {t : Tri} (h : (0 ≤ t.1 ∧ t.1 ≤ 15) ∧ (0 ≤ t.2.1 ∧ t.2.1 ≤ 15) ∧ (0 ≤ t.2.2 ∧ t.2.2 ≤ 15)) : rI (numI t) = t.1 ∧ gI (numI t) = t.2.1 ∧ bI (numI t) = t.2.2 := by
  unfold rI gI bI numI
  obtain ⟨a, b, c⟩ := t
  dsimp only at h ⊢
  have a1 : (256 * a + 16 * b + c).fdiv 16 = a * 16 + b := by
    rw [show 256 * a + 16 * b + c = (a * 16 + b) * 16 + c by clear h; lia]
    exact div_is h.2.2.1 (Int.lt_of_le_of_lt h.2.2.2 (by decide))
  have a2 : (a * 16 + b).fdiv 16 = a := div_is h.2.1.1 (Int.lt_of_le_of_lt h.2.1.2 (by decide))
  refine ⟨?_, ?_, ?_⟩
  · rw [show 256 * a + 16 * b + c = a * 256 + (16 * b + c) by clear h a1 a2; lia]
    exact div_is (by clear a1 a2; lia) (by clear a1 a2; lia)
  · rw [a1, Int.fmod_def, a2]; clear h a1 a2; lia
  · rw [Int.fmod_def, a1]; clear h a1 a2; lia
theorem nums_vN : ∀ l : List Tri, (∀ t ∈ l, (0 ≤ t.1 ∧ t.1 ≤ 15) ∧ (0 ≤ t.2.1 ∧ t.2.1 ≤ 15) ∧ (0 ≤ t.2.2 ∧ t.2.2 ≤ 15)) → vsum ((l.map numI).map vN) = ((sums l).1 - (sums l).2.2, (sums l).2.1 - (sums l).2.2)
  | [], _ => rfl
  | t :: l, h => by
    have q := num_lights (h t List.mem_cons_self)
    rw [List.map_cons, List.map_cons, vsum_cons, nums_vN l fun m hm => h m (List.mem_cons_of_mem _ hm)]
    unfold vN addE sums
    rw [q.1, q.2.1, q.2.2]
    simp only [List.map_cons, List.sum_cons]
    refine Prod.ext ?_ ?_ <;> dsimp only <;> lia
theorem read_sum (sc : List Int) : vsum ((readN sc).map vN) = (0, 0) := by
  unfold readN
  rw [List.map_append, vsum_append]
  unfold toldN
  rw [told_vN _ fun n hn => (nums_range sc n hn).1]
  unfold nums
  rw [nums_vN _ (tin6_range sc)]
  have e : sums (tin6 sc) = (greyOf (sums (tin5 sc)), greyOf (sums (tin5 sc)), greyOf (sums (tin5 sc))) := by
    have hs : ∀ t : Tri, sums (tin5 sc ++ [t]) = ((sums (tin5 sc)).1 + t.1, (sums (tin5 sc)).2.1 + t.2.1, (sums (tin5 sc)).2.2 + t.2.2) := by intro t; unfold sums; simp
    unfold tin6
    rw [hs]
    refine Prod.ext ?_ (Prod.ext ?_ ?_) <;> dsimp only <;> lia
  rw [e]
  have z : vsum ([0].map vN) = (0, 0) := by decide
  rw [z]; unfold addE; simp
theorem vsum_perm {a b : List Ed} (h : a.Perm b) : vsum a = vsum b := by
  induction h with
  | nil => rfl
  | cons x _ ih => rw [vsum_cons, vsum_cons, ih]
  | swap x y l => rw [vsum_cons, vsum_cons, vsum_cons, vsum_cons]; unfold addE; dsimp only; refine Prod.ext ?_ ?_ <;> dsimp only <;> lia
  | trans _ _ i j => exact i.trans j
theorem laid_home {sc : List Int} {ts us : List T3} (h : ts.map (fun p => (p.b, p.x, p.y)) = laidL sc) (pm : us.Perm ts) : vsum (us.map edOf) = (0, 0) := by
  rw [vsum_perm (pm.map edOf)]
  have e : ts.map edOf = (laidL sc).map (·.2) := by rw [← h, List.map_map]; rfl
  rw [e]
  unfold laidL
  rw [laid_vN, read_sum]
theorem laid_six {sc : List Int} {ts : List T3} (h : ts.map (fun p => (p.b, p.x, p.y)) = laidL sc) : ts.length ≤ 6 := by
  have h1 := congrArg List.length h
  rw [List.length_map] at h1
  unfold laidL readN at h1
  rw [List.filterMap_append, List.length_append] at h1
  have h2 := List.length_filterMap_le laidItem (toldN sc)
  have h3 : (toldN sc).length ≤ 6 := by
    have := List.length_filter_le (fun n => decide (0 < n)) (nums sc)
    rw [nums_length] at this; exact this
  have h4 : ([0].filterMap laidItem).length = 0 := by
    have e : laidItem 0 = none := by unfold laidItem; rw [if_pos (by decide)]
    rw [List.filterMap_cons, e]; rfl
  lia

/-! two chains -/
theorem neg_neg (e : Ed) : negE (negE e) = e := by unfold negE; simp
/-- the upper ones stand ahead -/
theorem halves : ∀ {us : List T3}, (∀ p ∈ us, upE (edOf p) ∨ upE (negE (edOf p))) → us.Pairwise Pair2 → ∃ F L, us = F ++ L ∧ (∀ p ∈ F, upE (edOf p)) ∧ ∀ p ∈ L, upE (negE (edOf p))
  | [], _, _ => ⟨[], [], rfl, fun p hp => (nomatch hp), fun p hp => (nomatch hp)⟩
  | p :: us, h, hp => by
    have hpw := List.pairwise_cons.mp hp
    rcases h p List.mem_cons_self with hu | hn
    · obtain ⟨F, L, e, a, b⟩ := halves (fun q hq => h q (List.mem_cons_of_mem _ hq)) hpw.2
      refine ⟨p :: F, L, by rw [e]; rfl, fun q hq => ?_, b⟩
      rcases List.mem_cons.mp hq with rfl | hq
      · exact hu
      · exact a q hq
    · refine ⟨[], p :: us, rfl, fun p hp => (nomatch hp), fun q hq => ?_⟩
      rcases List.mem_cons.mp hq with rfl | hq
      · exact hn
      · rcases h q (List.mem_cons_of_mem _ hq) with hu | hn'
        · exact absurd hn (up_not_neg ((hpw.1 q hq).half hu))
        · exact hn'
theorem vsum_up : ∀ {l : List Ed}, (∀ e ∈ l, upE e) → l ≠ [] → upE (vsum l)
  | [], _, h => absurd rfl h
  | e :: l, h, _ => by
    rw [vsum_cons]
    by_cases hl : l = []
    · subst hl
      rw [vsum_nil]
      have := h e List.mem_cons_self
      unfold addE upE at *; dsimp only; lia
    · exact up_add (h e List.mem_cons_self) (vsum_up (fun f hf => h f (List.mem_cons_of_mem _ hf)) hl)
/-- where one chain ends and the other begins -/
theorem junction {X Y : List Ed} (hX : ∀ e ∈ X, upE e) (hY : ∀ e ∈ Y, upE e) (hv : vsum X = vsum Y) {p d : Ed} (hp : p ∈ X) (hd : d ∈ Y) (h1 : ∀ e ∈ X, 0 ≤ cr e p) (h2 : ∀ e ∈ Y, 0 ≤ cr d e) : cr p d ≤ 0 := by
  refine Int.not_lt.mp fun q => ?_
  have a : 0 ≤ cr (vsum X) p := cr_vsum_l_nonneg h1
  have b : cr (negE p) (vsum Y) < 0 := cr_vsum_neg (fun f hf => by
    rw [cr_neg_l]
    have := (up_tr (hX p hp) (hY d hd) (hY f hf) (Int.le_of_lt q) (h2 f hf)).2 (.inl q)
    lia) (fun e => by rw [e] at hd; cases hd)
  rw [cr_neg_l, ← hv, ← cr_anti] at b
  lia

theorem cnt_first {p : Nat → Bool} {m : Nat} (h0 : p 0 = true) (hm : 0 < m) : 1 ≤ (List.range m).countP p ∧ ((List.range m).countP p ≤ 1 ↔ ∀ j, 0 < j → j < m → p j = false) := by
  obtain ⟨k, rfl⟩ : ∃ k, m = k + 1 := ⟨m - 1, (Nat.sub_add_cancel hm).symm⟩
  rw [List.range_succ_eq_map, List.countP_cons, if_pos h0, List.countP_map]
  refine ⟨Nat.le_add_left _ _, ?_⟩
  have e : (List.countP (p ∘ Nat.succ) (List.range k) + 1 ≤ 1) ↔ List.countP (p ∘ Nat.succ) (List.range k) = 0 := ⟨fun h => Nat.le_zero.mp (Nat.le_of_succ_le_succ h), fun h => by rw [h]; exact Nat.le_refl _⟩
  rw [e, List.countP_eq_zero]
  constructor
  · intro h j hj hjm
    obtain ⟨i, rfl⟩ : ∃ i, j = i + 1 := ⟨j - 1, (Nat.sub_add_cancel hj).symm⟩
    exact Bool.eq_false_iff.mpr (h i (List.mem_range.mpr (Nat.lt_of_succ_lt_succ hjm)))
  · intro h j hj
    exact Bool.eq_false_iff.mp (h (j + 1) (Nat.succ_pos _) (Nat.succ_lt_succ (List.mem_range.mp hj)))
theorem two_le {a b : Nat} (h1 : 1 ≤ a) (h2 : 1 ≤ b) : a + b ≤ 2 ↔ (a ≤ 1 ∧ b ≤ 1) := by lia
theorem cnt_two {p : Nat → Bool} {m k : Nat} (h0 : p 0 = true) (hm : 0 < m) (h1 : p m = true) (hk : 0 < k) :
    ((List.range (m + k)).filter p).length ≤ 2 ↔ (∀ j, 0 < j → j < m + k → j ≠ m → p j = false) := by
  rw [← List.countP_eq_length_filter, List.range_add, List.countP_append, List.countP_map]
  have a := cnt_first h0 hm
  have b := cnt_first (p := p ∘ fun x => m + x) (m := k) h1 hk
  rw [two_le a.1 b.1, a.2, b.2]
  clear a b
  constructor
  · intro ⟨x, y⟩ j hj hjm hne
    rcases Nat.lt_or_ge j m with q | q
    · exact x j hj q
    · obtain ⟨i, rfl⟩ : ∃ i, j = m + i := ⟨j - m, (Nat.add_sub_cancel' q).symm⟩
      exact y i (Nat.pos_of_ne_zero fun e => hne (by rw [e]; rfl)) (Nat.lt_of_add_lt_add_left hjm)
  · intro h
    exact ⟨fun j hj hjm => h j hj (Nat.lt_of_lt_of_le hjm (Nat.le_add_right _ _)) (Nat.ne_of_lt hjm), fun j hj hjk => h (m + j) (Nat.add_pos_left hm _) (Nat.add_lt_add_left hjk _) (Nat.ne_of_gt (Nat.lt_add_of_pos_right hj))⟩
end Mine
end

section
set_option Elab.async false
set_option autoImplicit false
set_option linter.unusedVariables false
namespace Mine
/-! the plain law -/
theorem getD_at {α : Type} {l : List α} {i : Nat} {d : α} (h : i < l.length) : l.getD i d = l[i] := by
  rw [List.getD_eq_getElem?_getD, List.getElem?_eq_getElem h]; rfl
theorem getD_l {α : Type} {a b : List α} {i : Nat} {d : α} (h : i < a.length) : (a ++ b).getD i d = a.getD i d := by
  rw [List.getD_eq_getElem?_getD, List.getD_eq_getElem?_getD, List.getElem?_append_left h]
theorem getD_r {α : Type} {a b : List α} {i : Nat} {d : α} : (a ++ b).getD (a.length + i) d = b.getD i d := by
  rw [List.getD_eq_getElem?_getD, List.getD_eq_getElem?_getD, List.getElem?_append_right (by lia), show a.length + i - a.length = i by lia]

theorem straight {X : List T3} {g : T3 → Ed} (C : Chain (X.map g)) (R : X.Pairwise fun p p' => (cr (g p) (g p') = 0 ↔ p.b = p'.b)) (d : T3) :
    psum (X.map g) = 0 ↔ ∀ j, 0 < j → j < X.length → (X.getD j d).b = (X.getD (j - 1) d).b := by
  have R := List.pairwise_iff_getElem.mp R
  constructor
  · intro h j h0 hj
    have z := List.pairwise_iff_getElem.mp (List.pairwise_map.mp (C.psum_zero h)) (j - 1) j (by lia) hj (by lia)
    rw [getD_at hj, getD_at (show j - 1 < X.length by lia)]
    exact ((R (j - 1) j (by lia) hj (by lia)).mp z).symm
  · intro h
    have all : ∀ j, j < X.length → (X.getD j d).b = (X.getD 0 d).b := by
      intro j
      induction j with
      | zero => intro _; rfl
      | succ j ih =>
        intro hj
        have := h (j + 1) (by lia) hj
        rw [this]
        exact ih (by lia)
    refine psum_of_zero (List.pairwise_map.mpr (List.pairwise_iff_getElem.mpr fun i j hi hj hij => (R i j hi hj hij).mpr ?_))
    have a := all i hi
    have b := all j hj
    rw [getD_at hi] at a
    rw [getD_at hj] at b
    rw [a, b]
theorem zip_walk : ∀ (es : List Ed) (s : Ed), ((List.range es.length).map fun j => addE s (vsum (es.take j))).zip es = walkC s es
  | [], s => rfl
  | e :: es, s => by
    rw [List.length_cons, List.range_succ_eq_map, List.map_cons, List.zip_cons_cons, List.map_map]
    show (addE s (vsum []), e) :: _ = (s, e) :: walkC (addE s e) es
    rw [← zip_walk es (addE s e)]
    have e0 : addE s (vsum []) = s := by rw [vsum_nil]; unfold addE; simp
    rw [e0]
    congr 2
    refine List.map_congr_left fun j hj => ?_
    show addE s (vsum (e :: es.take j)) = _
    rw [vsum_cons]; unfold addE; dsimp only; refine Prod.ext ?_ ?_ <;> dsimp only <;> lia
theorem spots_walk (es : List Ed) : (spotsOf es).zip es = walkC (0, 0) es := by
  rw [← zip_walk]
  unfold spotsOf
  congr 1
  refine List.map_congr_left fun j hj => ?_
  rw [posOf_take]; unfold addE; simp
theorem take_high {l : List Ed} (h : ∀ e ∈ l, upE e) (j : Nat) : 0 ≤ (vsum (l.take j)).2 ∧ (vsum (l.take j)).2 ≤ (vsum l).2 := by
  have a := chain_flat (l := l.take j) fun e he => h e (List.mem_of_mem_take he)
  have b := chain_flat (l := l.drop j) fun e he => h e (List.mem_of_mem_drop he)
  have e : (vsum l).2 = (vsum (l.take j)).2 + (vsum (l.drop j)).2 := by
    have := vsum_append (l.take j) (l.drop j)
    rw [List.take_append_drop] at this
    rw [this]; rfl
  lia
theorem psum_neg : ∀ l : List Ed, psum (l.map negE) = psum l
  | [] => rfl
  | e :: l => by
    show cr (negE e) (vsum (l.map negE)) + psum (l.map negE) = cr e (vsum l) + psum l
    rw [psum_neg l, vsum_neg, cr_neg_l, cr_neg_r, Int.neg_neg]
theorem gsum_neg : ∀ l : List Ed, gsum (l.map negE) = gsum l
  | [] => rfl
  | e :: l => by
    show gE (negE e) + gsum (l.map negE) = gE e + gsum l
    rw [gsum_neg l, gE_neg]

theorem outline_nil : Outline [] 0 := ⟨fun j hj => absurd hj (Nat.not_lt_zero _), rfl, rfl, fun h => absurd rfl h⟩

theorem last_le {U : List Ed} (hU : U.Pairwise fun a b => 0 ≤ cr a b) (nU : U.length - 1 < U.length) : ∀ e ∈ U, 0 ≤ cr e U[U.length - 1] := by
  intro e he
  obtain ⟨i, hi, rfl⟩ := List.getElem_of_mem he
  rcases Nat.lt_or_eq_of_le (Nat.le_sub_one_of_lt hi) with q | q
  · exact List.pairwise_iff_getElem.mp hU i _ hi nU q
  · subst q
    rw [cr_self]; exact Int.le_refl _
theorem first_le {U : List Ed} (hU : U.Pairwise fun a b => 0 ≤ cr a b) (nU : 0 < U.length) : ∀ e ∈ U, 0 ≤ cr U[0] e := by
  intro e he
  obtain ⟨i, hi, rfl⟩ := List.getElem_of_mem he
  rcases Nat.eq_zero_or_pos i with q | q
  · subst q; rw [cr_self]; exact Int.le_refl _
  · exact List.pairwise_iff_getElem.mp hU 0 i nU hi q
theorem at_up {U D : List Ed} (i : Nat) (h : i < U.length) : (U ++ D.map negE).getD i (0, 0) = U[i] := by rw [getD_l h, getD_at h]
theorem at_lo {U D : List Ed} (i : Nat) (h : i < D.length) : (U ++ D.map negE).getD (U.length + i) (0, 0) = negE D[i] := by
  rw [getD_r, getD_at (by rw [List.length_map]; exact h), List.getElem_map]
theorem cross_two {U D : List Ed} (hU : Chain U) (hD : Chain D) (hv : vsum U = vsum D) (nU : 0 < U.length) (nD : 0 < D.length) {j : Nat} (hj : j < U.length + D.length) :
    0 ≤ cr ((U ++ D.map negE).getD (prevIx (U.length + D.length) j) (0, 0)) ((U ++ D.map negE).getD j (0, 0)) := by
  have lU := Nat.sub_one_lt_of_lt nU
  have lD := Nat.sub_one_lt_of_lt nD
  unfold prevIx
  cases j with
  | zero =>
    rw [if_pos rfl, at_up 0 nU, Nat.add_sub_assoc nD, at_lo _ lD, cr_neg_l]
    exact Int.neg_nonneg_of_nonpos (junction hD.up hU.up hv.symm (List.getElem_mem lD) (List.getElem_mem nU) (last_le hD.ord lD) (first_le hU.ord nU))
  | succ j =>
    rw [if_neg (Nat.succ_ne_zero j), Nat.add_sub_cancel]
    rcases Nat.lt_trichotomy (j + 1) U.length with q | q | q
    · have q' := Nat.lt_of_succ_lt q
      rw [at_up (j + 1) q, at_up j q']
      exact List.pairwise_iff_getElem.mp hU.ord j (j + 1) q' q (Nat.lt_succ_self j)
    · have ej : j = U.length - 1 := by rw [← q, Nat.add_sub_cancel]
      have e : (U ++ D.map negE).getD (j + 1) (0, 0) = negE D[0] := by rw [q]; exact at_lo 0 nD
      subst ej
      rw [at_up _ lU, e, cr_neg_r]
      exact Int.neg_nonneg_of_nonpos (junction hU.up hD.up hv (List.getElem_mem lU) (List.getElem_mem nD) (last_le hU.ord lU) (first_le hD.ord nD))
    · obtain ⟨i, rfl⟩ : ∃ i, j = U.length + i := ⟨j - U.length, (Nat.add_sub_cancel' (Nat.le_of_lt_succ q)).symm⟩
      have hi : i + 1 < D.length := Nat.lt_of_add_lt_add_left (n := U.length) hj
      rw [at_lo i (Nat.lt_of_succ_lt hi), Nat.add_assoc, at_lo (i + 1) hi, cr_neg_l, cr_neg_r, Int.neg_neg]
      exact List.pairwise_iff_getElem.mp hD.ord i (i + 1) _ hi (Nat.lt_succ_self i)
theorem spot_high {U D : List Ed} (hU : ∀ e ∈ U, upE e) (hD : ∀ e ∈ D, upE e) (hv : vsum U = vsum D) (j : Nat) : 0 ≤ (posOf (U ++ D.map negE) j).2 ∧ (posOf (U ++ D.map negE) j).2 ≤ (vsum U).2 := by
  rw [posOf_take, List.take_append, vsum_append, ← List.map_take, vsum_neg]
  have a := take_high hU j
  have b := take_high hD (j - U.length)
  rw [← hv] at b
  have g : (vsum (U.take j)).2 = (vsum U).2 ∨ (vsum (D.take (j - U.length))).2 = 0 := by
    rcases Nat.le_total j U.length with q | q
    · rw [Nat.sub_eq_zero_of_le q]; exact .inr rfl
    · rw [List.take_of_length_le q]; exact .inl rfl
  show 0 ≤ (vsum (U.take j)).2 + -(vsum (D.take (j - U.length))).2 ∧ (vsum (U.take j)).2 + -(vsum (D.take (j - U.length))).2 ≤ (vsum U).2
  clear hU hD hv
  generalize (vsum (U.take j)).2 = x at *
  generalize (vsum (D.take (j - U.length))).2 = y at *
  generalize (vsum U).2 = z at *
  lia
theorem end_num {A R I : Int} (pk : A = 2 * I + R - 2) (i0 : 0 ≤ I) (ha : A ≠ 0) (sc : A = 0 ∨ R ≤ 9 ∨ A = R - 2 ∨ 2 * R - 8 ≤ A) : I = 0 ∨ R ≤ 2 * I + 6 ∨ (R = 9 ∧ I = 1) := by
  rcases sc with h | h | h | h
  · exact absurd h ha
  · clear ha pk; lia
  · clear ha; lia
  · clear ha; lia
/-- two chains make an outline -/
theorem outline_two {U D : List Ed} {hN : Nat} (hU : Chain U) (hD : Chain D) (hv : vsum U = vsum D) (bU : ∀ e ∈ U, e.1.natAbs ≤ 15 ∧ e.2.natAbs ≤ 15) (bD : ∀ e ∈ D, e.1.natAbs ≤ 15 ∧ e.2.natAbs ≤ 15)
    (nU : 0 < U.length) (nD : 0 < D.length) (len : U.length + D.length ≤ 6) (hh : hN ≤ 2 ↔ (psum U = 0 ∧ psum D = 0)) : Outline (U ++ D.map negE) hN := by
  have hlen : (U ++ D.map negE).length = U.length + D.length := by rw [List.length_append, List.length_map]
  have area : areaUp (U ++ D.map negE) (U ++ D.map negE).length = psum U + psum D := by
    rw [areaUp_all, psum_append, psum_neg, vsum_neg, cr_neg_r, hv, cr_self, Int.neg_zero, Int.add_zero]
  have rim : rimUp (U ++ D.map negE) (U ++ D.map negE).length = gsum U + gsum D := by
    rw [rimUp_all, gsum_append, gsum_neg]
  have l5 : ∀ {m n : Nat}, 0 < n → m + n ≤ 6 → m ≤ 5 := fun {m n} h0 h => by lia
  refine ⟨fun j hj => ?_, ?_, ?_, fun ha => ?_⟩
  · rw [hlen] at hj ⊢
    exact cross_two hU hD hv nU nD hj
  · rw [posOf_take, List.take_length, vsum_append, vsum_neg, hv]
    exact Prod.ext (Int.add_right_neg _) (Int.add_right_neg _)
  · rw [area]
    refine decide_eq_decide.mpr (hh.trans ⟨fun h => by rw [h.1, h.2]; rfl, fun h => ?_⟩)
    have pU := hU.psum_nonneg
    have pD := hD.psum_nonneg
    clear hh bU bD
    generalize psum U = x at *
    generalize psum D = y at *
    clear area
    lia
  · rw [area] at ha ⊢
    rw [rim]
    obtain ⟨pk, hp, i0⟩ := pick hU hD hv bU bD (l5 nD len) (l5 nU (by rw [Nat.add_comm]; exact len)) ha
    have inn : innerOf (U ++ D.map negE) 0 (vsum U).2 = countUp (walkC (0, 0) (U ++ D.map negE)) 1 ((vsum U).2 - 1).toNat := by
      unfold innerOf
      rw [spots_walk]; rfl
    have spots : ∀ j, j < U.length + D.length → (posOf (U ++ D.map negE) j).2 ∈ (spotsOf (U ++ D.map negE)).map (·.2) := fun j hj =>
      List.mem_map.mpr ⟨_, List.mem_map.mpr ⟨j, List.mem_range.mpr (hlen.symm ▸ hj), rfl⟩, rfl⟩
    have high : ∀ y ∈ (spotsOf (U ++ D.map negE)).map (·.2), 0 ≤ y ∧ y ≤ (vsum U).2 := fun y hy => by
      obtain ⟨q, hq, rfl⟩ := List.mem_map.mp hy
      obtain ⟨j, hj, rfl⟩ := List.mem_map.mp hq
      exact spot_high hU.up hD.up hv j
    refine ⟨0, (vsum U).2, spots 0 (Nat.add_pos_left nU _), fun y hy => (high y hy).1, ?_, fun y hy => (high y hy).2, ?_, ?_⟩
    · have := spots U.length (Nat.lt_add_of_pos_right nD)
      rw [posOf_take, List.take_left] at this; exact this
    · rw [inn]; exact pk
    · rw [inn]
      exact end_num pk i0 ha (scott hU hD hv)

theorem hue_count {F L : List T3} (lF : 0 < F.length) (lL : 0 < L.length) (hn : (L[0]).b ≠ (F[F.length - 1]'(Nat.sub_one_lt_of_lt lF)).b) :
    ((List.range (F.length + L.length)).filter (newHue (F ++ L))).length ≤ 2 ↔ ((∀ j, 0 < j → j < F.length → (F.getD j ⟨0, 0, 0, 0⟩).b = (F.getD (j - 1) ⟨0, 0, 0, 0⟩).b) ∧ ∀ j, 0 < j → j < L.length → (L.getD j ⟨0, 0, 0, 0⟩).b = (L.getD (j - 1) ⟨0, 0, 0, 0⟩).b) := by
  have l1 := Nat.sub_one_lt_of_lt lF
  have nh : ∀ j, newHue (F ++ L) (j + 1) = (((F ++ L).getD (j + 1) ⟨0, 0, 0, 0⟩).b != ((F ++ L).getD j ⟨0, 0, 0, 0⟩).b) := fun j => rfl
  have nf : ∀ j, newHue (F ++ L) (j + 1) = false ↔ ((F ++ L).getD (j + 1) ⟨0, 0, 0, 0⟩).b = ((F ++ L).getD j ⟨0, 0, 0, 0⟩).b := fun j => by rw [nh, bne_eq_false_iff_eq]
  have hm : newHue (F ++ L) F.length = true := by
    obtain ⟨m, e⟩ : ∃ m, F.length = m + 1 := ⟨F.length - 1, (Nat.sub_add_cancel lF).symm⟩
    have em : F.length - 1 = m := by rw [e, Nat.add_sub_cancel]
    have e0 : (F ++ L).getD (m + 1) ⟨0, 0, 0, 0⟩ = L[0] := by
      have := getD_r (a := F) (b := L) (i := 0) (d := (⟨0, 0, 0, 0⟩ : T3))
      rw [Nat.add_zero, getD_at lL, e] at this; exact this
    have e1 : (F ++ L).getD m ⟨0, 0, 0, 0⟩ = F[F.length - 1] := by
      rw [← em, getD_l l1, getD_at l1]
    rw [e, nh, e0, e1]
    exact bne_iff_ne.mpr hn
  rw [cnt_two rfl lF hm lL]
  clear hm hn
  constructor
  · intro h
    refine ⟨fun j h0 hj => ?_, fun j h0 hj => ?_⟩
    · obtain ⟨i, rfl⟩ : ∃ i, j = i + 1 := ⟨j - 1, (Nat.sub_add_cancel h0).symm⟩
      have := (nf i).mp (h (i + 1) h0 (Nat.lt_of_lt_of_le hj (Nat.le_add_right _ _)) (Nat.ne_of_lt hj))
      rw [getD_l hj, getD_l (Nat.lt_of_succ_lt hj)] at this; exact this
    · obtain ⟨i, rfl⟩ : ∃ i, j = i + 1 := ⟨j - 1, (Nat.sub_add_cancel h0).symm⟩
      have := (nf (F.length + i)).mp (h (F.length + i + 1) (Nat.succ_pos _) (Nat.add_lt_add_left hj _) (Nat.ne_of_gt (Nat.lt_succ_of_le (Nat.le_add_right _ _))))
      rw [Nat.add_assoc, getD_r, getD_r] at this; exact this
  · intro ⟨h1, h2⟩ j h0 hj hne
    obtain ⟨i, rfl⟩ : ∃ i, j = i + 1 := ⟨j - 1, (Nat.sub_add_cancel h0).symm⟩
    refine (nf i).mpr ?_
    rcases Nat.lt_or_ge (i + 1) F.length with q | q
    · rw [getD_l q, getD_l (Nat.lt_of_succ_lt q)]
      exact h1 (i + 1) h0 q
    · have q : F.length ≤ i := Nat.le_of_lt_succ (Nat.lt_of_le_of_ne q hne.symm)
      obtain ⟨k, rfl⟩ : ∃ k, i = F.length + k := ⟨i - F.length, (Nat.add_sub_cancel' q).symm⟩
      rw [Nat.add_assoc, getD_r, getD_r]
      exact h2 (k + 1) (Nat.succ_pos _) (Nat.lt_of_add_lt_add_left hj)
theorem none_up {A B : List Ed} (hB : ∀ e ∈ B, upE e) (hv : vsum A = vsum B) (h : A = []) : B = [] := by
  refine Classical.byContradiction fun q => ?_
  have := vsum_up hB q
  rw [← hv, h] at this
  rcases this with k | k
  · exact absurd k (by decide)
  · exact absurd k.2 (by decide)
theorem plain_law : PlainLaw := by
  intro sc ts h us pm hs
  have six := laid_six h
  have lus : us.length ≤ 6 := by rw [pm.length_eq]; exact six
  have wheel : ∀ p ∈ us, ∃ s a d, OnWheel p s a d := fun p hp => laid_wheel h p (pm.mem_iff.mp hp)
  have bound : ∀ p ∈ us, p.x.natAbs ≤ 15 ∧ p.y.natAbs ≤ 15 := fun p hp => laid_bound h p (pm.mem_iff.mp hp)
  have home := laid_home h pm
  have pw : us.Pairwise Pair2 := by
    refine hs.imp_of_mem fun {p p'} hp hp' hlt => ?_
    obtain ⟨s, a, d, w⟩ := wheel p hp
    obtain ⟨s', a', d', w'⟩ := wheel p' hp'
    refine pair2 w w' (Nat.not_lt.mp fun q => ?_)
    have := (T3.lt_key p' p).mpr (.inl q)
    rw [hlt] at this; cases this
  have eqhalf : ∀ p ∈ us, ∀ p' ∈ us, p.b = p'.b → upE (edOf p) → upE (edOf p') := by
    intro p hp p' hp' e
    obtain ⟨s, a, d, w⟩ := wheel p hp
    obtain ⟨s', a', d', w'⟩ := wheel p' hp'
    exact (pair2 w' w (by rw [e]; exact Nat.le_refl _)).half
  have hf : ∀ p ∈ us, upE (edOf p) ∨ upE (negE (edOf p)) := by
    intro p hp
    obtain ⟨s, a, d, w⟩ := wheel p hp
    rcases sec_cases s with q | ⟨t, rfl⟩
    · exact .inl (wheel_up w q)
    · exact .inr (wheel_lo w).2.1
  obtain ⟨F, L, rfl, fu, lu⟩ := halves hf pw
  have pwa := List.pairwise_append.mp pw
  have chF : Chain (F.map edOf) := by
    refine ⟨fun e he => ?_, List.pairwise_map.mpr (pwa.1.imp_of_mem fun {p p'} hp hp' r => (r.same ⟨fun _ => fu p' hp', fun _ => fu p hp⟩).1)⟩
    obtain ⟨p, hp, rfl⟩ := List.mem_map.mp he
    exact fu p hp
  have chL : Chain (L.map (negE ∘ edOf)) := by
    refine ⟨fun e he => ?_, List.pairwise_map.mpr (pwa.2.1.imp_of_mem fun {p p'} hp hp' r => ?_)⟩
    · obtain ⟨p, hp, rfl⟩ := List.mem_map.mp he
      exact lu p hp
    · have := (r.same ⟨fun x => absurd (lu p hp) (up_not_neg x), fun x => absurd (lu p' hp') (up_not_neg x)⟩).1
      show 0 ≤ cr (negE (edOf p)) (negE (edOf p'))
      rw [cr_neg_l, cr_neg_r]; lia
  have es : (F ++ L).map edOf = F.map edOf ++ (L.map (negE ∘ edOf)).map negE := by
    rw [List.map_append, List.map_map]
    congr 1
    refine List.map_congr_left fun p _ => ?_
    show edOf p = negE (negE (edOf p))
    rw [neg_neg]
  rw [es] at home ⊢
  have hv : vsum (F.map edOf) = vsum (L.map (negE ∘ edOf)) := by
    rw [vsum_append, vsum_neg] at home
    generalize vsum (F.map edOf) = a at *
    generalize vsum (L.map (negE ∘ edOf)) = b at *
    unfold addE negE at home
    have h1 := congrArg Prod.fst home
    have h2 := congrArg Prod.snd home
    dsimp only at h1 h2
    exact Prod.ext (by lia) (by lia)
  by_cases nF : F = []
  · have nL : L = [] := List.map_eq_nil_iff.mp (none_up chL.up hv (by rw [nF]; rfl))
    subst nF nL
    exact outline_nil
  have nL : L ≠ [] := fun q => nF (List.map_eq_nil_iff.mp (none_up chF.up hv.symm (by rw [q]; rfl)))
  have lF := List.length_pos_iff.mpr nF
  have lL := List.length_pos_iff.mpr nL
  rw [List.length_append] at lus
  refine outline_two chF chL hv ?_ ?_ (by rw [List.length_map]; exact lF) (by rw [List.length_map]; exact lL) (by rw [List.length_map, List.length_map]; exact lus) ?_
  · intro e he
    obtain ⟨p, hp, rfl⟩ := List.mem_map.mp he
    exact bound p (List.mem_append_left _ hp)
  · intro e he
    obtain ⟨p, hp, rfl⟩ := List.mem_map.mp he
    have b := bound p (List.mem_append_right _ hp)
    exact ⟨Nat.le_trans (Nat.le_of_eq (Int.natAbs_neg _)) b.1, Nat.le_trans (Nat.le_of_eq (Int.natAbs_neg _)) b.2⟩
  · have sF := straight chF (pwa.1.imp_of_mem fun {p p'} hp hp' r => (r.same ⟨fun _ => fu p' hp', fun _ => fu p hp⟩).2) ⟨0, 0, 0, 0⟩
    have sL := straight chL (pwa.2.1.imp_of_mem fun {p p'} hp hp' r => (by
      have := (r.same ⟨fun x => absurd (lu p hp) (up_not_neg x), fun x => absurd (lu p' hp') (up_not_neg x)⟩).2
      show cr (negE (edOf p)) (negE (edOf p')) = 0 ↔ _
      rw [cr_neg_l, cr_neg_r, Int.neg_neg]; exact this)) ⟨0, 0, 0, 0⟩
    rw [sF, sL]
    unfold hueN
    rw [List.length_append]
    exact hue_count lF lL fun e => up_not_neg (eqhalf _ (List.mem_append_left _ (List.getElem_mem (Nat.sub_one_lt_of_lt lF))) _ (List.mem_append_right _ (List.getElem_mem lL)) e.symm (fu _ (List.getElem_mem (Nat.sub_one_lt_of_lt lF)))) (lu _ (List.getElem_mem lL))
end Mine
end

section
set_option Elab.async false
set_option maxRecDepth 100000
set_option autoImplicit false
set_option linter.unusedVariables false
namespace Mine
open PySem PySem.Calls PyProof.Rows PySem.W

/-- a tree that the rules see through: its thread runs to its leaf -/
theorem ran_of_wp {prog : Program} {w : World} {t : Sem Fin} {s : Shared} {P : Shared → Prop} (hreg : s.asleep)
    (h : wpAny (model prog w) callerA t (fun fin s' => ∃ f, fin = .done f ∧ (s'.gens = #[] ∧ P s')) (fun _ _ => False) s) :
    ∃ n s' τ, schedN (denote table) prog w n (.single s ⟨t, .builtin "claim.caller" {}, default, []⟩) = .running (.single s' τ) ∧ through τ = true ∧
      s'.heap.life = s.heap.life ∧ s'.gens = #[] ∧ P s' := by
  have h1 := wp_of_wpAny_done (R := fun r s' => (∃ f, r = .ok f) ∧ s'.gens = #[] ∧ P s') caller_in
    (wpAny_mono h (fun fin s' ⟨f, e, g, p⟩ => ⟨f, e, ⟨f, rfl⟩, g, p⟩) (fun _ _ x => x.elim)) default
  obtain ⟨n, r, s', c', p', hn, ⟨f, rfl⟩, hg, hP⟩ := wp_runN (M := model prog w) (base := []) (c := .builtin "claim.caller" {}) h1
  obtain ⟨σ, τ, hr, e1, e2⟩ := runNI_running_real (den := (model prog w).den) (prog := (model prog w).prog) (w := (model prog w).w) hn
  have es : σ = s' := Shared.eq_of_forget_eq e1 hg
  subst es
  have hlast : (model prog w).runN (n + 1) s ⟨t, .builtin "claim.caller" {}, default, []⟩ = .halted (outcomeOf (.ok f)) σ := by
    rw [runN_snoc hn, step_leaf_nil]
    have : leftWithCleanup σ.gens = false := by rw [hg]; simp [leftWithCleanup]
    unfold finish
    rw [this]
    rfl
  obtain ⟨s'', hn', hf, hc⟩ := runNI_real (model prog w).den (model prog w).prog (model prog w).w hlast rfl
  have hne : ∀ k s₂, runN (model prog w).den (model prog w).prog (model prog w).w k s ⟨t, .builtin "claim.caller" {}, default, []⟩ ≠ .halted (.unsupported "lifetime:generator-with-cleanup-left-suspended") s₂ := by
    intro k s₂ hk
    have a := runN_mono (model prog w).den (model prog w).prog (model prog w).w (n + 1) k s _ _ s'' hn'
    have b := runN_mono (model prog w).den (model prog w).prog (model prog w).w k (n + 1) s _ _ s₂ hk
    rw [Nat.add_comm, b] at a
    injection a with a1 _
    cases a1
  have hs := schedN_eq_runN (model prog w).den (model prog w).prog (model prog w).w s ⟨t, .builtin "claim.caller" {}, default, []⟩ hreg ⟨hc, hne⟩ n
  rw [hr] at hs
  refine ⟨n, σ, τ, hs, ?_, runN_life_running hr, hg, hP⟩
  obtain ⟨cur, code, pos, stack⟩ := τ
  simp only [Thread.forget, Thread.mk.injEq] at e2
  obtain ⟨rfl, _, _, e4⟩ := e2
  have : stack = [] := by cases stack with
    | nil => rfl
    | cons x l => rw [forgetAll_cons] at e4; cases e4
  subst this
  rfl

end Mine
end

section
set_option Elab.async false
set_option maxRecDepth 1000000
set_option autoImplicit false
set_option linter.unusedVariables false
namespace Mine
open PySem PySem.Calls PyProof.Rows PySem.W

noncomputable abbrev prog := PySem.Challenge.pw_tp0026_01

noncomputable def sreOk (h : Heap) : Bool := match h.nsMap mainGlobals "_sre" with
  | some (.ref m) => (match h.get? m with
    | some ob => (match ob.dict with
      | some d => ob.plainModuleOk d && h.isNs d && d != mainGlobals && (match h.nsMap d "compile" with
        | some (.builtin f) => f == "_sre.compile"
        | _ => false)
      | none => false)
    | none => false)
  | _ => false
theorem sre_of {h : Heap} (x : sreOk h = true) : ∃ m d md, h.nsMap mainGlobals "_sre" = some (.ref m) ∧ Flt.IsCMod h m d md ∧ md "compile" = some (.builtin "_sre.compile") ∧ d ≠ mainGlobals := by
  unfold sreOk at x
  split at x
  · rename_i m hm
    split at x
    · rename_i ob ho
      split at x
      · rename_i d hd
        simp only [Bool.and_eq_true] at x
        obtain ⟨⟨⟨x1, x2⟩, x4⟩, x3⟩ := x
        split at x3
        · rename_i f hf
          refine ⟨m, d, h.nsMap d, hm, ⟨?_, .of_isNs x2⟩, ?_, bne_iff_ne.mp x4⟩
          · rw [ho, Obj.plainModule_of_ok x1]
          · rw [hf, beq_iff_eq.mp x3]
        · cases x3
      · cases x
    · cases x
  · cases x

noncomputable def freeNames : List Str := ["abs", "int", "divmod", "ord", "chr", "max", "min", "len", "sum", "list", "tuple", "range", "sorted", "zip", "set"]

noncomputable def headOk (s : Shared) : Bool :=
  s.heap.isNs mainGlobals && s.gens.size == 0 && s.heap.isNs builtinsNs && s.heap.bmainOk && s.heap.noLimitOk && s.heap.isNs cStatics && (s.heap.nsMap cStatics sharingNotToldKey).isNone &&
  s.heap.accountedOkI (importedModules prog.main.body) && namesBound prog s.heap && (freeNames.all fun x => (s.heap.nsMap mainGlobals x).isNone) && sreOk s.heap && Nat.blt sysModules s.heap.objs.size &&
  Nat.blt mainGlobals s.heap.objs.size && (s.heap.get? sysModules).isSome

set_option maxHeartbeats 0 in
theorem head_seen (w : World) : (fencedOpening treeTable prog w 3000).map (fun s => (headOk s, s.heap.bltView)) = some (true, bltViewBooted) := by kernel_rfl

structure Opened (w : World) (s : Shared) : Prop where
  z : s.asleep
  gens : s.gens = #[]
  ismg : s.heap.isNs mainGlobals = true
  mb : s.heap.isNs builtinsNs = true
  blt : ∀ x : Str, x ≠ "__name__" → s.heap.nsMap builtinsNs x = bootBuiltins x
  bm : ∃ bm ob, s.heap.nsMap mainGlobals "__builtins__" = some (.ref bm) ∧ bm ≠ builtinsNs ∧ s.heap.get? bm = some ob ∧ ob.cls = .type "module" ∧ ob.dict = some builtinsNs ∧ ob.data = .plain
  lim : s.heap.NoLimit
  nb : NoneBooked s.heap
  acc : s.heap.accountedOkI (importedModules prog.main.body) = true
  bound : ∀ k v, s.heap.nsMap mainGlobals k = some v → k ∈ startupNames ∨ k ∈ prog.boundNames
  free : ∀ x ∈ freeNames, s.heap.nsMap mainGlobals x = none
  sre : ∃ m d md, s.heap.nsMap mainGlobals "_sre" = some (.ref m) ∧ Flt.IsCMod s.heap m d md ∧ md "compile" = some (.builtin "_sre.compile") ∧ d ≠ mainGlobals
  low : sysModules < s.heap.objs.size
  low2 : mainGlobals < s.heap.objs.size
  sys : ∃ o, s.heap.get? sysModules = some o

theorem head_opens (w : World) : (∃ s, AfterRun (opening prog) w s) ∧ ∀ s, AfterRun (opening prog) w s → ∃ s₀, fenceModules? prog s = some s₀ ∧ Opened w s₀ := by
  have h := head_seen w
  rw [← table_eq_tree] at h
  obtain ⟨s₀, h2, e⟩ := Option.map_eq_some_iff.mp h
  obtain ⟨s, h4, h5⟩ := Option.bind_eq_some_iff.mp h2
  have A := AfterImport.of_importEnds h4
  refine ⟨⟨s, A⟩, fun s' hs' => ?_⟩
  obtain rfl : s' = s := AfterImport.unique hs' A
  refine ⟨s₀, h5, ?_⟩
  have e1 := congrArg Prod.fst e
  have e2 := congrArg Prod.snd e
  dsimp only at e1 e2
  unfold headOk at e1
  simp only [Bool.and_eq_true] at e1
  obtain ⟨⟨⟨⟨⟨⟨⟨⟨⟨⟨⟨⟨⟨a1, a2⟩, a3⟩, a4⟩, a5⟩, a6⟩, a7⟩, a8⟩, a9⟩, a10⟩, a11⟩, a12⟩, a13⟩, a14⟩ := e1
  exact
    { z := Shared.asleep_of_life (fence_lifeW h5) A.life
      gens := Array.eq_empty_of_size_eq_zero (beq_iff_eq.mp a2)
      ismg := a1
      mb := a3
      blt := fun x hx => Heap.of_bltView a3 e2 x hx
      bm := Heap.bmainOk_spec a4
      lim := Heap.NoLimit.of_ok a5
      nb := ⟨_, .of_isNs a6, Option.isNone_iff_eq_none.mp a7⟩
      acc := a8
      bound := fun k v hv => names_of_bound a9 k v ((Pin.globalOf_eq a1 k).trans hv)
      free := fun x hx => Option.isNone_iff_eq_none.mp (List.all_eq_true.mp a10 x hx)
      sre := sre_of a11
      low := Nat.blt_eq.mp a12
      low2 := Nat.blt_eq.mp a13
      sys := Option.isSome_iff_exists.mp a14 }

end Mine
end

section
set_option Elab.async false
set_option maxRecDepth 1000000
set_option autoImplicit false
set_option linter.unusedVariables false
namespace Mine
open PySem PySem.Calls PyProof.Rows PySem.W

/-- the elders stay: all but the code's table and the globals -/
noncomputable def Kp (Pl : Addr) (h h' : Heap) : Prop := ∀ b o, b ≠ Pl → b ≠ mainGlobals → h.get? b = some o → h'.get? b = some o
theorem Kp.of {Pl : Addr} {h h' : Heap} (k : ∀ b o, h.get? b = some o → h'.get? b = some o) : Kp Pl h h' := fun b o _ _ e => k b o e

noncomputable def lay (names : List (Str × Value)) (mg₀ : Str → Option Value) (x : Str) : Option Value := (names.lookup x).or (mg₀ x)
theorem lay_set (names : List (Str × Value)) (mg₀ : Str → Option Value) (n : Str) (v : Value) : (fun x => if x = n then some v else lay names mg₀ x) = lay ((n, v) :: names) mg₀ := by
  funext x
  unfold lay
  rw [List.lookup_cons]
  by_cases h : x = n
  · subst h; simp
  · rw [if_neg h, show (x == n) = false from beq_false_of_ne h]

structure Mid (s₀ : Shared) (c Pl : Addr) (names : List (Str × Value)) (poss : List (Nat × Nat)) (P : Heap → Prop) (h : Heap) : Prop where
  main : ∃ ps : List (Pos × Addr), ps.map (fun q => (q.1.line, q.1.col)) = poss ∧ h.Main (lay names (s₀.heap.nsMap mainGlobals)) c Pl (triples ps).toArray
  keep : ∀ b o, b ≠ mainGlobals → s₀.heap.get? b = some o → h.get? b = some o
  fresh : s₀.heap.objs.size ≤ Pl
  freshc : s₀.heap.objs.size ≤ c
  stay : ∀ h h', Kp Pl h h' → P h → P h'
  fact : P h

theorem Mid.old {s₀ : Shared} {c Pl names poss P h} (x : Mid s₀ c Pl names poss P h) {b o} (e : s₀.heap.get? b = some o) : b ≠ Pl := fun q => by
  subst q; exact absurd (Heap.lt_size e) (Nat.not_lt.mpr x.fresh)

/-- a def made at the top -/
noncomputable def DefAt (Pl : Addr) (d : DefRec) (a : Addr) (h : Heap) : Prop :=
  a ≠ Pl ∧ a ≠ mainGlobals ∧ ∃ o pm c' doc, h.get? a = some o ∧ o.data = .func (d.data pm (.ref c') doc) ∧ c' ≠ Pl ∧ c' ≠ mainGlobals ∧ h.CodeRec (.ref c') d.name
theorem DefAt.stay {Pl : Addr} {d : DefRec} {a : Addr} {h h' : Heap} (k : Kp Pl h h') (x : DefAt Pl d a h) : DefAt Pl d a h' := by
  obtain ⟨a1, a2, o, pm, c', doc, h1, h2, h3, h4, h5⟩ := x
  exact ⟨a1, a2, o, pm, c', doc, k _ _ a1 a2 h1, h2, h3, h4, h5.at fun o e => k _ _ h3 h4 e⟩

section
variable {w : World} {A : Around} {E : Value → Shared → Prop} {s₀ : Shared} {c Pl F : Addr} {names : List (Str × Value)} {poss : List (Nat × Nat)} {P : Heap → Prop} {Q : Flow → Shared → Prop} {rest : List Stmt}

theorem Main.keepsAll {h h' : Heap} {mg c Pl ps} (x : h.Main mg c Pl ps) (k : ∀ b o, h.get? b = some o → h'.get? b = some o) : h'.Main mg c Pl ps :=
  let ⟨bm, o, h1, h2, h3, h4, h5, h6⟩ := x.bmod
  ⟨x.g.keeps k, x.code.keeps k, x.low, ⟨bm, o, h1, h2, h3, h4, k _ _ h5, h6⟩⟩

theorem top_def {h : Heap} {tk : Nat} {d : DefRec} (X : Mid s₀ c Pl names poss P h) (hd : d.Plain prog) (hq : (poss.all fun q => !(q.1 == d.pos.line && q.2 == d.pos.col)) = true)
    (k : ∀ a h' tk', Mid s₀ c Pl ((d.name, .ref a) :: names) (poss ++ [(d.pos.line, d.pos.col)]) (fun h => P h ∧ DefAt Pl d a h) h' →
      wpAny (model prog w) A (execs rest (mainEnv prog c F)) Q E { s₀ with heap := h', toks := tk' }) :
    wpAny (model prog w) A (execs (d.stmt :: rest) (mainEnv prog c F)) Q E { s₀ with heap := h, toks := tk } := by
  obtain ⟨ps, hps, hm⟩ := X.main
  refine wpAny_execs_cons (wpAny_def (s := { s₀ with heap := h, toks := tk }) hd rfl hm (by
    rw [List.toList_toArray]
    refine codeAmong_triples _ _ fun q hq' => ?_
    have h1 := List.all_eq_true.mp hq (q.1.line, q.1.col) (hps ▸ List.mem_map.mpr ⟨q, hq', rfl⟩)
    rintro ⟨e1, e2⟩
    simp [e1, e2] at h1) fun a c' doc h' tk' ha hm' hf hc keep => ?_)
  have kp : Kp Pl h h' := keep
  have la : a ≠ mainGlobals := Nat.ne_of_gt (Nat.lt_of_lt_of_le hm.g.lt ha)
  have lp : a ≠ Pl := Nat.ne_of_gt (Nat.lt_of_lt_of_le hm.code.lt.2 ha)
  have lc : c' ≠ mainGlobals := Nat.ne_of_gt (Nat.lt_of_lt_of_le hm.g.lt hc.1)
  have lcp : c' ≠ Pl := Nat.ne_of_gt (Nat.lt_of_lt_of_le hm.code.lt.2 hc.1)
  refine k a h' tk' ⟨⟨ps ++ [(d.pos, c')], by rw [List.map_append, hps]; rfl, ?_⟩, fun b o hb e => kp b o (X.old e) hb (X.keep b o hb e), X.fresh, X.freshc, fun h₁ h₂ kk p => ⟨X.stay _ _ kk p.1, p.2.stay kk⟩,
    X.stay _ _ kp X.fact, lp, la, _, _, c', doc, hf, rfl, lcp, lc, hc.2⟩
  rw [triples_append, ← lay_set]
  simpa using hm'

/-- a name bound at the top -/
theorem top_bind {h : Heap} {tk : Nat} {x : Str} {v : Value} {P' : Heap → Prop} {Q : Unit → Shared → Prop} (X : Mid s₀ c Pl names poss P h) (hloc : prog.main.scope.names.lookup x = some .local) (hnb : x ≠ "__builtins__")
    (stay : ∀ h h', Kp Pl h h' → P' h → P' h') (hP : P' h)
    (k : ∀ h' tk', Mid s₀ c Pl ((x, v) :: names) poss (fun h => P h ∧ P' h) h' → Q () { s₀ with heap := h', toks := tk' }) :
    wpAny (model prog w) A (storeName (mainEnv prog c F) x v) Q E { s₀ with heap := h, toks := tk } := by
  obtain ⟨ps, hps, hm⟩ := X.main
  refine wpAny_storeName_local (env := mainEnv prog c F) hloc hm.g (fun h' hg' hs' => ?_) rfl
  obtain ⟨bm, o, hbm, hne0, hneG, hneP, hbo, hrest⟩ := hm.bmod
  have kp : Kp Pl h h' := fun b o _ hG e => (hs'.2 _ hG).trans e
  have hm' : h'.Main (fun y => if y = x then some v else lay names (s₀.heap.nsMap mainGlobals) y) c Pl (triples ps).toArray :=
    ⟨hg', hm.code.sameBut hs' (Nat.ne_of_gt hm.low.1) (Nat.ne_of_gt hm.low.2), hm.low,
      ⟨bm, o, by simp only [Ne.symm hnb, if_false]; exact hbm, hne0, hneG, hneP, (hs'.2 _ hneG).trans hbo, hrest⟩⟩
  rw [lay_set] at hm'
  exact k h' _ ⟨⟨ps, hps, hm'⟩, fun b o hb e => kp b o (X.old e) hb (X.keep b o hb e), X.fresh, X.freshc, fun h₁ h₂ kk p => ⟨X.stay _ _ kk p.1, stay _ _ kk p.2⟩, X.stay _ _ kp X.fact, stay _ _ kp hP⟩

theorem Mid.keeps {h h' : Heap} (X : Mid s₀ c Pl names poss P h) (k : ∀ b o, h.get? b = some o → h'.get? b = some o) : Mid s₀ c Pl names poss P h' := by
  obtain ⟨ps, hps, hm⟩ := X.main
  exact ⟨⟨ps, hps, Main.keepsAll hm k⟩, fun b o hb e => k b o (X.keep b o hb e), X.fresh, X.freshc, X.stay, X.stay _ _ (Kp.of k) X.fact⟩

theorem top_assign {h : Heap} {tk : Nat} {x : Str} {pos' pos : Pos} {value : Expr} {P' : Value → Heap → Prop} (X : Mid s₀ c Pl names poss P h) (hloc : prog.main.scope.names.lookup x = some .local) (hnb : x ≠ "__builtins__")
    (stay : ∀ v h h', Kp Pl h h' → P' v h → P' v h')
    (hval : ∀ Q' : Value → Shared → Prop, (∀ v h' tk', (∀ b o, h.get? b = some o → h'.get? b = some o) → P' v h' → Q' v { s₀ with heap := h', toks := tk' }) →
      wpAny (model prog w) A (eval value (mainEnv prog c F)) Q' E { s₀ with heap := h, toks := tk })
    (k : ∀ v h' tk', Mid s₀ c Pl ((x, v) :: names) poss (fun h => P h ∧ P' v h) h' → wpAny (model prog w) A (execs rest (mainEnv prog c F)) Q E { s₀ with heap := h', toks := tk' })
    (hs : swapsWith value (some (.Name x pos')) pos.line (mainEnv prog c F) = pure false := by rfl) :
    wpAny (model prog w) A (execs (.Assign [.Name x pos'] value pos :: rest) (mainEnv prog c F)) Q E { s₀ with heap := h, toks := tk } := by
  refine wpAny_execs_cons (wpAny_Assign_Name (hval _ fun v h' tk' kk p => ?_) hs)
  exact top_bind (X.keeps kk) hloc hnb (stay v) p fun h'' tk'' Y => k v h'' tk'' Y

theorem top_str {h : Heap} {tk : Nat} {x : Str} {pos' pos p₂ : Pos} {y : Str} {n : Nat} (X : Mid s₀ c Pl names poss P h) (hloc : prog.main.scope.names.lookup x = some .local) (hnb : x ≠ "__builtins__")
    (k : ∀ v h' tk', Mid s₀ c Pl ((x, v) :: names) poss (fun h => P h ∧ ∃ t, v = .str y t) h' → wpAny (model prog w) A (execs rest (mainEnv prog c F)) Q E { s₀ with heap := h', toks := tk' }) :
    wpAny (model prog w) A (execs (.Assign [.Name x pos'] (.Constant (.str y) n p₂) pos :: rest) (mainEnv prog c F)) Q E { s₀ with heap := h, toks := tk } :=
  top_assign (P' := fun v _ => ∃ t, v = .str y t) X hloc hnb (fun _ _ _ _ p => p) (fun Q' hq => Constant_str (hq _ _ _ (fun _ _ e => e) ⟨_, rfl⟩)) k
end

/-- the defs of the text -/
noncomputable def drec (i : Nat) : DefRec := match fstmt i with
  | .FunctionDef name params body _ _ _ scope _ _ pos => ⟨name, params, body, scope, pos⟩
  | _ => ⟨"", { posonlyargs := [], args := [], vararg := none, kwonlyargs := [], kw_defaults := [], kwarg := none, defaults := [] }, [], { kind := .module, names := [], isGenerator := false, isCoroutine := false, more := [] }, ⟨0, 0, 0, 0⟩⟩

noncomputable def plainOk (d : DefRec) : Bool := (d.scope.names.all fun x => x.2 != .free) && prog.main.scope.names.lookup d.name == some .local && d.name != "__builtins__"
theorem plain_of {d : DefRec} (t : PlainDefTree d.name d.params d.body d.scope d.pos) (ok : plainOk d = true) (q : qualnameIn { scope := prog.main.scope, locals := mainGlobals, globals := mainGlobals, cells := [] } d.name d.name = d.name) : d.Plain prog := by
  unfold plainOk at ok
  simp only [Bool.and_eq_true, List.all_eq_true, bne_iff_ne, beq_iff_eq] at ok
  exact ⟨t, ok.1.1, ok.1.2, q, ok.2⟩

theorem plain3 : (drec 3).Plain prog := plain_of (fun _ => rfl) (by decide +kernel) rfl
theorem plain4 : (drec 4).Plain prog := plain_of (fun _ => rfl) (by decide +kernel) rfl
theorem plain6 : (drec 6).Plain prog := plain_of (fun _ => rfl) (by decide +kernel) rfl
theorem plain9 : (drec 9).Plain prog := plain_of (fun _ => rfl) (by decide +kernel) rfl
theorem plain11 : (drec 11).Plain prog := plain_of (fun _ => rfl) (by decide +kernel) rfl
theorem plain13 : (drec 13).Plain prog := plain_of (fun _ => rfl) (by decide +kernel) rfl
theorem plain15 : (drec 15).Plain prog := plain_of (fun _ => rfl) (by decide +kernel) rfl
theorem plain16 : (drec 16).Plain prog := plain_of (fun _ => rfl) (by decide +kernel) rfl
theorem plain17 : (drec 17).Plain prog := plain_of (fun _ => rfl) (by decide +kernel) rfl
theorem plain18 : (drec 18).Plain prog := plain_of (fun _ => rfl) (by decide +kernel) rfl
theorem plain19 : (drec 19).Plain prog := plain_of (fun _ => rfl) (by decide +kernel) rfl

theorem behind_eq : behindTheImports prog = [fstmt 1, fstmt 2, (drec 3).stmt, (drec 4).stmt, fstmt 5, (drec 6).stmt, fstmt 7, fstmt 8, (drec 9).stmt, fstmt 10, (drec 11).stmt, fstmt 12, (drec 13).stmt, fstmt 14,
  (drec 15).stmt, (drec 16).stmt, (drec 17).stmt, (drec 18).stmt, (drec 19).stmt] := rfl

end Mine
end

section
set_option Elab.async false
set_option maxRecDepth 1000000
set_option autoImplicit false
set_option linter.unusedVariables false
namespace Mine
open PySem PySem.Calls PyProof.Rows PySem.W

theorem sub_range_set' : isSubtype (.type "range") (.type "set") = pure false := by rw [isSubtype_type]; kernel_rfl
theorem sub_range_frozenset' : isSubtype (.type "range") (.type "frozenset") = pure false := by rw [isSubtype_type]; kernel_rfl

section
variable {prog : Program} {w : World} {A : Around} {E : Value → Shared → Prop} {s : Shared}
set_option maxHeartbeats 3200000 in
/-- set(range(a, b)) -/
theorem call_set_range {l : Addr} {a b : Int} {t u v : Tok} {n : Nat} {Q : Value → Shared → Prop}
    (hh : A.handled = none) (hl : IsRange s.heap l a b 1 t u v) (hsm : Builtin.Range.small a b 1 = true) (hn : Builtin.Range.rangeSize a b 1 = n) (hb : n + 1 < scanBound)
    (h : ∀ (h' : Heap) (tk : Nat), h'.SetOf (intKind prog w) s.heap.objs.size (fun k' => (firstMet (fun i => a + i) n).any (· == k')) (firstMet (fun i => a + i) n).length →
      (∀ b o, b < s.heap.objs.size → s.heap.get? b = some o → h'.get? b = some o) → Q (.ref s.heap.objs.size) { s with heap := h', toks := tk }) :
    wpAny (model prog w) A (call (.type "set") [.ref l]) Q E s := by
  obtain ⟨c, tl, hmro⟩ := F.called_set.mro
  have hmade := F.called_set.made
  have hsub := F.called_set.sub
  refine wpAny_call (codeAny_of_tree ?_)
  show wpAny _ _ (callAny (.type "set") _) _ _ _
  refine wpAny_pure ⟨Code.quiet_builtin _ (by decide +kernel), codeAny_builtin F.entry_type_call ?_⟩
  rw [Around.under_plain (weight_type_call_type "set" [.ref l] []) rfl]
  have h1 := F.called_set.notType
  have h2 := F.called_set.canCreate
  have hct := F.typeCall_set_1 (.ref l)
  repeat (any_goals (first | assumption | wp_step))
  refine codeAny_mono (code_set_new_1 (.ref l) (E := E) (Q₁ := fun obj s₁ => ∃ led : Bool, obj = .ref s.heap.objs.size ∧ s₁ = { s with heap := s.heap.push { cls := .type "set", dict := none, data := .set #[] 0 (.fresh 0 0 led) } }) fun led => ⟨led, rfl, rfl⟩) fun r s₁ hr => ?_
  cases r with
  | error e => exact hr
  | ok fl =>
    cases fl with
    | ret obj =>
      obtain ⟨led, rfl, rfl⟩ := hr
      generalize hg1 : s.heap.push { cls := .type "set", dict := none, data := .set #[] 0 (.fresh 0 0 led) } = g1
      have up1 : ∀ b o, s.heap.get? b = some o → g1.get? b = some o := fun b o e => hg1 ▸ Heap.get?_push_of_some _ e
      have hS : g1.get? s.heap.objs.size = some { cls := .type "set", dict := none, data := .set #[] 0 (.fresh 0 0 led) } := hg1 ▸ Heap.get?_push_size _ rfl
      have hz : g1.objs.size = s.heap.objs.size + 1 := by rw [← hg1, Heap.size_push]
      have hT : Shared.TypeIs { s with heap := g1 } (.ref s.heap.objs.size) "set" := ⟨_, hS, rfl⟩
      have hli := F.called_set.init.lookup
      have hbi := F.called_set.init.bind (.ref s.heap.objs.size)
      repeat (any_goals (first | assumption | wp_step))
      refine codeAny_mono (codeAny_call_builtin (R := wants (fun r s₂ => r = .none ∧ ∃ h' tk, s₂ = { s with heap := h', toks := tk } ∧
          h'.SetOf (intKind prog w) s.heap.objs.size (fun k' => (firstMet (fun i => a + i) n).any (· == k')) (firstMet (fun i => a + i) n).length ∧
          (∀ b o, b < s.heap.objs.size → s.heap.get? b = some o → h'.get? b = some o)) E) F.called_set.init.plain F.entry_set_init (check_set_init_1 hT ?_)) fun r₂ s₂ hr₂ => ?_
      · have hl1 : IsRange g1 l a b 1 t u v := up1 _ _ hl
        have hol : g1.get? l = some _ := hl1
        have hsls := sub_range_set'
        have hslf := sub_range_frozenset'
        have hne : (Value.type "range" == Value.type "dict") = false := by decide
        unfold Builtin.«set.__init__» noKeywords Builtin.Frozenset.updateFrom
        generalize hPI : pyIter = PI
        wp_walk
        subst hPI
        refine wpAny_pyIter_range hl1 hsm ?_
        refine wpAny_bind (wpAny_runValue ?_)
        have hh3 : A.in1.in1.in1.handled = none := by simp [hh]
        have hSf : s.heap.objs.size ∉ [g1.objs.size] := by
          rw [hz]; simp
        have W := Walks.range (prog := prog) (w := w) hh3 g1.objs.size a 1 n
        rw [hn]
        refine codeAny_set_update_loopS W.toS s.heap.objs.size hSf (fun i => a + i) (fun i v ⟨t, e⟩ => ⟨t, by rw [e, Int.mul_one]⟩) hb (n - 0) 0 _ (by lia) (Nat.zero_le _) ?hSt ?hS0 ?hR
        case hSt =>
          show IsRangeIter _ _ _ _ _
          simp only [Int.natCast_zero, Int.zero_mul, Int.add_zero, Int.sub_zero]
          exact Heap.get?_push_size _ rfl
        case hS0 =>
          exact SetOf_congr ((setObjOf_fresh (knd := intKind prog w) led).setOf (Heap.get?_push_of_some _ hS) (by unfold scanBound; lia)) (fun _ => rfl) rfl
        case hR =>
          intro s' hm hS'
          obtain ⟨h', g', d', tk', os'⟩ := s'
          have eg : g' = s.gens := hm.gens
          have ed : d' = s.drawn := hm.drawn
          have eo : os' = s.os := hm.os
          subst eg; subst ed; subst eo
          show wpAny _ _ _ _ _ _
          refine wpAny_pure ?_
          show wpAny _ _ (ret Value.none) _ _ _
          refine wpAny_pure ⟨rfl, h', tk', rfl, hS', fun b o hb e => ?_⟩
          exact hm.heap b o (by rw [hz]; simp only [List.mem_cons, List.not_mem_nil, or_false, not_or]; exact ⟨Nat.ne_of_lt hb, Nat.ne_of_lt (Nat.lt_succ_of_lt hb)⟩) (Heap.get?_push_of_some _ (up1 _ _ e))
      · cases r₂ with
        | error e => exact hr₂
        | ok fl₂ =>
          cases fl₂ with
          | ret r =>
            obtain ⟨rfl, h', tk, rfl, hS', hk'⟩ := hr₂
            repeat (any_goals (first | assumption | wp_step))
            exact h _ _ hS' hk'
          | _ => exact hr₂.elim
    | _ => exact hr.elim
end
end Mine
end

section
set_option Elab.async false
set_option maxRecDepth 1000000
set_option autoImplicit false
set_option linter.unusedVariables false
namespace Mine
open PySem PySem.Calls PyProof.Rows PySem.W

/-- an expression's worth at the top -/
noncomputable def ME (K : Cx) (A : Around) (env : Env) (e : Expr) (d : D) : Prop :=
  ∀ (s : Shared) (Q : Value → Shared → Prop) (E : Value → Shared → Prop), (∀ b o, K.root.get? b = some o → s.heap.get? b = some o) →
    (∀ v s', Keeps s s' → At s'.heap [] v d → Q v s') → wpAny (model K.prog K.w) A (eval e env) Q E s

inductive MEL (K : Cx) (A : Around) (env : Env) : List Expr → List D → Prop
  | nil : MEL K A env [] []
  | cons {e d es ds} (x : ME K A env e d) (y : MEL K A env es ds) : MEL K A env (e :: es) (d :: ds)

section
variable {K : Cx} {A : Around} {env : Env}
theorem MEL.len {es ds} (x : MEL K A env es ds) : es.length = ds.length := by
  induction x with
  | nil => rfl
  | cons _ _ ih => simp [ih]
theorem MEL.go {pos : Pos} {es ds} (x : MEL K A env es ds) : ∀ (s : Shared) (Q : List Value → Shared → Prop) (E : Value → Shared → Prop), (∀ b o, K.root.get? b = some o → s.heap.get? b = some o) →
    (∀ vs s', Keeps s s' → AtL s'.heap [] vs ds → Q vs s') → wpAny (model K.prog K.w) A (spliced (backTo pos (es.map fun e => (false, eval e env)))) Q E s := by
  induction x with
  | nil => intro s Q E st h; exact spliced_nil (h _ _ (krefl s) AtL.nil)
  | cons x y ih =>
    intro s Q E st h
    refine spliced_cons (x s _ _ st fun v s' k a => ih s' _ _ (fun b o e => khp k b o (st b o e)) fun vs s'' k' a' => h _ _ (ktrans k k') (AtL.cons (a.keep (khp k')) a'))

theorem live_nil (h : Heap) : Live [] h := fun b hb => nomatch hb

theorem me_int {i : Int} {k : Nat} {pos : Pos} : ME K A env (.Constant (.int i) k pos) (.int i) := fun s Q E _ h =>
  wpAny_Constant_int (h _ _ (ktoks s _) (.int _ _))
theorem me_str {x : Str} {k : Nat} {pos : Pos} : ME K A env (.Constant (.str x) k pos) (.str x) := fun s Q E _ h =>
  Constant_str (h _ _ (ktoks s _) (.str _ _))
theorem me_byt {x : List UInt8} {k : Nat} {pos : Pos} : ME K A env (.Constant (.bytes x) k pos) (.byt x.toArray) := fun s Q E _ h =>
  fun _ _ _ => h _ _ (ktoks s _) (.byt _ _)
theorem me_none {k : Nat} {pos : Pos} : ME K A env (.Constant .none k pos) .none := fun s Q E _ h => by
  show wpAny _ A (eval _ _) Q E s
  rw [eval_Constant]
  exact wpAny_pure (h _ _ (krefl s) .none)
theorem me_list {es ds} {pos : Pos} (x : MEL K A env es ds) (hn : es.length ≤ 100 := by decide) (hs : starEach es env = es.map (fun e => (false, eval e env)) := by rfl) : ME K A env (.List es pos) (.lst ds) := fun s Q E st h => by
  refine List_ ?_
  rw [hs]
  refine x.go s _ _ st fun vs s' kk a => ?_
  refine wpAny_newObj_type (h _ _ (ktrans kk (kpush s' _ _)) (new_lst (live_nil _) a)) ?_
  have := a.1
  have := x.len
  show vs.toArray.size ≤ sizeLine
  rw [sizeLine_eq, List.size_toArray]; lia
theorem me_tuple {es ds} {k : Nat} {pos : Pos} (x : MEL K A env es ds) (hn : es.length ≤ 100 := by decide) (hs : starEach es env = es.map (fun e => (false, eval e env)) := by rfl) : ME K A env (.Tuple es k pos) (.tup ds) := fun s Q E st h => by
  refine Tuple_ ?_
  rw [hs]
  refine x.go s _ _ st fun vs s' kk a => ?_
  refine wpAny_newObj_type (h _ _ (ktrans kk (kpush s' _ _)) (new_tup (live_nil _) a)) ?_
  have := a.1
  have := x.len
  show vs.toArray.size ≤ sizeLine
  rw [sizeLine_eq, List.size_toArray]; lia
theorem me_add {l r : Expr} {ds es : List D} {pos : Pos} (x : ME K A env l (.lst ds)) (y : ME K A env r (.lst es)) (hn : ds.length + es.length ≤ 1000) : ME K A env (.BinOp l .Add r pos) (.lst (ds ++ es)) := fun s Q E st h =>
  wpAny_BinOp (x s _ _ st fun v s₁ k1 a1 => y s₁ _ _ (fun b o e => khp k1 b o (st b o e)) fun u s₂ k2 a2 =>
    op_add_lst (F := ⟨K, A, env, K.root⟩) (mu := []) hn s₂ v u Q E (live_nil _) (a1.keep (khp k2)) a2 fun t s₃ k3 a3 => h t s₃ (ktrans k1 (ktrans k2 k3)) a3)

theorem me_builtin {x : Str} {pos : Pos} {v : Value} {s : Shared} {Q : Value → Shared → Prop} {E : Value → Shared → Prop} (hk : env.scope.kind = .module) (hl : env.locals = mainGlobals) (hgl : env.globals = mainGlobals) (hbl : env.builtins = builtinsNs)
    (st : ∀ b o, K.root.get? b = some o → s.heap.get? b = some o) (hg : K.mg x = none) (hv : bootBuiltins x = some v) (hn : x ≠ "__name__") (h : Q v s) (hd : (x == ("__debug__" : Str)) = false := by decide) :
    wpAny (model K.prog K.w) A (eval (.Name x pos) env) Q E s :=
  Name_module hk (hl.trans hgl.symm) (loadGlobal_builtin (by rw [hgl]; exact K.g.keeps st) hg (by rw [hbl]; exact K.b.keeps st) ((K.blt x hn).trans hv) h) hd

theorem intsAre_of {h : Heap} {vs : List Value} : ∀ {ns : List Int}, AtL h [] vs (ns.map .int) → IntsAre vs ns := by
  intro ns
  induction ns generalizing vs with
  | nil => intro a; rw [a.inv_nil]; exact .nil
  | cons n ns ih =>
    intro a
    obtain ⟨v, vs', rfl, x, y⟩ := AtL.inv (by simpa using a)
    obtain ⟨t, rfl⟩ := x.int_inv
    exact .cons n t (ih y)

/-- list(range(a, b)) at the top -/
theorem me_list_range {p p' pos pos' : Pos} {e e' : Expr} {a b : Int} (hh : A.handled = none) (hk : env.scope.kind = .module) (hl : env.locals = mainGlobals) (hgl : env.globals = mainGlobals) (hbl : env.builtins = builtinsNs)
    (n1 : K.mg (Str.ofString "list") = none) (n2 : K.mg (Str.ofString "range") = none) (x : ME K A env e (.int a)) (y : ME K A env e' (.int b)) (ha : 0 ≤ a ∧ a ≤ 100000) (hb : a ≤ b ∧ b ≤ 100000)
    (hs : starEach [e, e'] env = [(false, eval e env), (false, eval e' env)] := by rfl)
    (hs' : starEach [.Call (.Name (Str.ofString "range") p') [e, e'] [] pos'] env = [(false, eval (.Call (.Name (Str.ofString "range") p') [e, e'] [] pos') env)] := by rfl) :
    ME K A env (.Call (.Name (Str.ofString "list") p) [.Call (.Name (Str.ofString "range") p') [e, e'] [] pos'] [] pos) (.lst (ups a (b - a).toNat)) := fun s Q E st h => by
  refine Call_Name rfl ?_
  rw [hs']
  refine me_builtin hk hl hgl hbl st n1 (show bootBuiltins (Str.ofString "list") = some (.type "list") by decide +kernel) (by decide) ?_ (by decide)
  refine PyProof.Rows.callWith_type rfl (evalArgs_plain (spliced_cons ?_))
  refine Call_Name rfl ?_
  rw [hs]
  refine me_builtin hk hl hgl hbl st n2 (range_name rfl) (by decide) ?_ (by decide)
  refine PyProof.Rows.callWith_type rfl (evalArgs_plain (spliced_cons (x s _ _ st fun v s₁ k1 a1 => spliced_cons (y s₁ _ _ (fun b o e => khp k1 b o (st b o e)) fun w s₂ k2 a2 => spliced_nil ?_))))
  obtain ⟨t, rfl⟩ := a1.int_inv
  obtain ⟨u, rfl⟩ := a2.int_inv
  refine call_range_2 (spliced_nil ?_)
  have hz : Builtin.Range.rangeSize a b 1 = ((b - a).toNat : Int) := by rw [rangeSize_one]; split <;> lia
  refine call_list_range hh (IsRange.new s₂.heap a b 1 t u s₂.toks) (small_range ⟨by lia, by lia⟩ ⟨by lia, by lia⟩) hz (by lia) fun h' tk acc' c' keep hget hit => ?_
  refine h _ _ (ktrans k1 (ktrans k2 (ktrans (kpush s₂ _ _) ⟨h', tk, rfl, keep⟩))) ?_
  refine .lst (vs := acc'.toList) (List.not_mem_nil) ⟨_, hget, rfl, c', by simp⟩ ?_ ?_
  · rw [ups_length, Array.length_toList, hit.1]
  · intro i v d hv hd
    obtain ⟨t', e1⟩ := hit.2 i v (by rw [← Array.getElem?_toList]; exact hv)
    obtain ⟨_, rfl⟩ := ups_get hd
    subst e1
    rw [Int.mul_one]
    exact .int _ _

theorem firstMet_list (ns : List Int) (k : Int) : (firstMet (fun i => ns.getD i 0) ns.length).any (· == k) = ns.any (· == k) := by
  rw [firstMet_any]
  congr 1
  apply List.ext_getElem?
  intro i
  rw [List.getElem?_map]
  by_cases hi : i < ns.length
  · rw [List.getElem?_range hi, List.getElem?_eq_getElem hi]
    simp [List.getD, List.getElem?_eq_getElem hi]
  · rw [List.getElem?_eq_none (by simpa using hi), List.getElem?_eq_none (by lia)]; rfl

/-- set(a list of ints) at the top -/
theorem me_set_list {p pos : Pos} {e : Expr} {ns : List Int} {s : Shared} {Q : Value → Shared → Prop} {E : Value → Shared → Prop} (hh : A.handled = none) (hk : env.scope.kind = .module) (hl : env.locals = mainGlobals) (hgl : env.globals = mainGlobals)
    (hbl : env.builtins = builtinsNs) (n1 : K.mg (Str.ofString "set") = none) (x : ME K A env e (.lst (ns.map .int))) (hn : ns.length + 1 < scanBound) (st : ∀ b o, K.root.get? b = some o → s.heap.get? b = some o)
    (h : ∀ a s' S n, Keeps s s' → s'.heap.SetOf (intKind K.prog K.w) a S n → (∀ k, S k = ns.any (· == k)) → s.heap.get? a = none → Q (.ref a) s')
    (hs : starEach [e] env = [(false, eval e env)] := by rfl) :
    wpAny (model K.prog K.w) A (eval (.Call (.Name (Str.ofString "set") p) [e] [] pos) env) Q E s := by
  refine Call_Name rfl ?_
  rw [hs]
  refine me_builtin hk hl hgl hbl st n1 (show bootBuiltins (Str.ofString "set") = some (.type "set") by decide +kernel) (by decide) ?_ (by decide)
  refine PyProof.Rows.callWith_type rfl (evalArgs_plain (spliced_cons (x s _ _ st fun v s₁ k1 a1 => spliced_nil ?_)))
  obtain ⟨l, vs, rfl, hm, hls, hv⟩ := a1.lst_inv
  have hlen : vs.length = ns.length := by rw [hv.1, List.length_map]
  refine call_set_list hh hls (ns := ns) (by simpa using intsAre_of hv) (by rw [List.size_toArray, hlen]; exact hn) fun h' tk hS keep => ?_
  have hsz : vs.toArray.size = ns.length := by rw [List.size_toArray, hlen]
  rw [hsz] at hS
  refine h _ _ _ _ (ktrans k1 ⟨h', tk, rfl, fun b o e => keep b o (Heap.lt_size e) e⟩) hS (fun k => firstMet_list ns k) ?_
  cases q : s.heap.get? s₁.heap.objs.size with
  | none => rfl
  | some o => exact absurd (Heap.lt_size (khp k1 _ _ q)) (Nat.lt_irrefl _)

/-- set(range(a, b)) at the top -/
theorem me_set_range {p p' pos pos' : Pos} {e e' : Expr} {a b : Int} {s : Shared} {Q : Value → Shared → Prop} {E : Value → Shared → Prop} (hh : A.handled = none) (hk : env.scope.kind = .module) (hl : env.locals = mainGlobals) (hgl : env.globals = mainGlobals)
    (hbl : env.builtins = builtinsNs) (n1 : K.mg (Str.ofString "set") = none) (n2 : K.mg (Str.ofString "range") = none) (x : ME K A env e (.int a)) (y : ME K A env e' (.int b)) (ha : 0 ≤ a ∧ a ≤ 100000) (hb : a ≤ b ∧ b ≤ 100000)
    (hn : (b - a).toNat + 1 < scanBound) (st : ∀ b o, K.root.get? b = some o → s.heap.get? b = some o)
    (h : ∀ c s' S n, Keeps s s' → s'.heap.SetOf (intKind K.prog K.w) c S n → (∀ k, S k = decide (a ≤ k ∧ k < b)) → s.heap.get? c = none → Q (.ref c) s')
    (hs : starEach [e, e'] env = [(false, eval e env), (false, eval e' env)] := by rfl)
    (hs' : starEach [.Call (.Name (Str.ofString "range") p') [e, e'] [] pos'] env = [(false, eval (.Call (.Name (Str.ofString "range") p') [e, e'] [] pos') env)] := by rfl) :
    wpAny (model K.prog K.w) A (eval (.Call (.Name (Str.ofString "set") p) [.Call (.Name (Str.ofString "range") p') [e, e'] [] pos'] [] pos) env) Q E s := by
  refine Call_Name rfl ?_
  rw [hs']
  refine me_builtin hk hl hgl hbl st n1 (show bootBuiltins (Str.ofString "set") = some (.type "set") by decide +kernel) (by decide) ?_ (by decide)
  refine PyProof.Rows.callWith_type rfl (evalArgs_plain (spliced_cons ?_))
  refine Call_Name rfl ?_
  rw [hs]
  refine me_builtin hk hl hgl hbl st n2 (range_name rfl) (by decide) ?_ (by decide)
  refine PyProof.Rows.callWith_type rfl (evalArgs_plain (spliced_cons (x s _ _ st fun v s₁ k1 a1 => spliced_cons (y s₁ _ _ (fun b o e => khp k1 b o (st b o e)) fun w s₂ k2 a2 => spliced_nil ?_))))
  obtain ⟨t, rfl⟩ := a1.int_inv
  obtain ⟨u, rfl⟩ := a2.int_inv
  refine call_range_2 (spliced_nil ?_)
  have hz : Builtin.Range.rangeSize a b 1 = ((b - a).toNat : Int) := by rw [rangeSize_one]; split <;> lia
  refine call_set_range hh (IsRange.new s₂.heap a b 1 t u s₂.toks) (small_range ⟨by lia, by lia⟩ ⟨by lia, by lia⟩) hz hn fun h' tk hS keep => ?_
  have kk : Keeps s { s with heap := h', toks := tk } := by
    have := ktrans k1 (ktrans k2 (ktrans (kpush s₂ { cls := .type "range", data := .fields #[.int a t, .int b u, .int 1 s₂.toks] } (s₂.toks + 1)) ⟨h', tk, rfl, fun b o e => keep b o (Heap.lt_size e) e⟩))
    obtain ⟨h1, t1, rfl, _⟩ := k1
    obtain ⟨h2, t2, rfl, _⟩ := k2
    exact this
  have e2 : ({ s₂ with heap := h', toks := tk } : Shared) = { s with heap := h', toks := tk } := by
    obtain ⟨h1, t1, rfl, _⟩ := k1
    obtain ⟨h2, t2, rfl, _⟩ := k2
    rfl
  show Q _ { s₂ with heap := h', toks := tk }
  rw [e2]
  refine h _ _ _ _ kk hS (fun k => ?_) ?_
  · rw [firstMet_any]
    apply Bool.eq_iff_iff.mpr
    simp only [List.any_eq_true, List.mem_map, List.mem_range, beq_iff_eq, decide_eq_true_eq]
    constructor
    · rintro ⟨y, ⟨i, hi, rfl⟩, rfl⟩
      lia
    · rintro ⟨h1, h2⟩
      exact ⟨k, ⟨(k - a).toNat, by lia, by lia⟩, rfl⟩
  · show s.heap.get? (s₂.heap.push { cls := .type "range", data := .fields #[.int a t, .int b u, .int 1 s₂.toks] }).objs.size = none
    cases q : s.heap.get? (s₂.heap.push { cls := .type "range", data := .fields #[.int a t, .int b u, .int 1 s₂.toks] }).objs.size with
    | none => rfl
    | some o =>
      have := Heap.lt_size (khp k2 _ _ (khp k1 _ _ q))
      rw [Heap.size_push] at this
      exact absurd (Nat.lt_of_succ_lt this) (Nat.lt_irrefl _)
end
end Mine
end

section
set_option Elab.async false
set_option maxRecDepth 1000000
set_option autoImplicit false
set_option linter.unusedVariables false
namespace Mine
open PySem PySem.Calls PyProof.Rows PySem.W

section
variable {w : World} {A : Around} {E : Value → Shared → Prop} {s₀ : Shared} {c Pl F : Addr} {names : List (Str × Value)} {poss : List (Nat × Nat)} {P : Heap → Prop} {Q : Flow → Shared → Prop} {rest : List Stmt}

/-- the module as it stands -/
noncomputable def Mid.cx (O : Opened w s₀) {h : Heap} (X : Mid s₀ c Pl names poss P h) : Cx :=
  { prog := prog, w := w, root := h, mg := lay names (s₀.heap.nsMap mainGlobals), mb := s₀.heap.nsMap builtinsNs
    g := let ⟨_, _, hm⟩ := X.main; hm.g
    b := (Heap.Ns.of_isNs O.mb).at fun o e => X.keep _ o (by decide) e
    blt := O.blt
    lim := let ⟨m, a, b⟩ := O.lim; ⟨m, a.at fun o e => X.keep _ o (by decide) e, b⟩ }

theorem lay_none {names : List (Str × Value)} {mg : Str → Option Value} {x : Str} (h1 : names.lookup x = none) (h2 : mg x = none) : lay names mg x = none := by
  unfold lay; rw [h1, h2]; rfl
theorem lay_some {names : List (Str × Value)} {mg : Str → Option Value} {x : Str} {v : Value} (h1 : names.lookup x = some v) : lay names mg x = some v := by
  unfold lay; rw [h1]; rfl

noncomputable def SetAt (w : World) (Pl : Addr) (a : Addr) (p : (Int → Bool) → Prop) (h : Heap) : Prop := a ≠ Pl ∧ a ≠ mainGlobals ∧ ∃ S n, h.SetOf (intKind prog w) a S n ∧ p S
theorem SetAt.stay {Pl a : Addr} {p : (Int → Bool) → Prop} {h h' : Heap} (k : Kp Pl h h') (x : SetAt w Pl a p h) : SetAt w Pl a p h' := by
  obtain ⟨a1, a2, S, n, ⟨o, es, ep, t, ho, r⟩, q⟩ := x
  exact ⟨a1, a2, S, n, ⟨o, es, ep, t, k _ _ a1 a2 ho, r⟩, q⟩

theorem b1_mid : ∀ x ∈ ([173, 847, 6150, 6155, 6156, 6157, 8203, 8204, 8205, 8288, 65279] : List Int) ++ (List.range 16).map fun i : Nat => (65024 : Int) + (i : Nat), 112 < x ∧ x < 120000 := by decide +kernel
theorem setB1_of {S : Int → Bool} (e : ∀ k, S k = (([173, 847, 6150, 6155, 6156, 6157, 8203, 8204, 8205, 8288, 65279] : List Int) ++ (List.range 16).map fun i : Nat => (65024 : Int) + (i : Nat)).any (· == k)) : SetB1 S := by
  constructor
  · intro i h1 h2
    rw [e, List.any_append, Bool.or_eq_true]
    right
    simp only [List.any_eq_true, List.mem_map, List.mem_range, beq_iff_eq]
    exact ⟨i, ⟨(i - 65024).toNat, by lia, by lia⟩, rfl⟩
  · intro i h
    rw [e, List.any_eq_false]
    intro x hx q
    have b := b1_mid x hx
    rw [beq_iff_eq.mp q] at b
    clear q hx e
    lia
theorem setC7_of {S : Int → Bool} (e : ∀ k, S k = decide ((12272 : Int) ≤ k ∧ k < 12284)) : SetC7 S :=
  ⟨fun i h1 h2 => by rw [e]; simp [h1, h2], fun i h => by rw [e]; simp; lia⟩

set_option maxHeartbeats 2000000 in
theorem top_b1 (O : Opened w s₀) {h : Heap} {tk : Nat} {st : Stmt} (hst : fstmt 8 = st) (hh : A.handled = none) (X : Mid s₀ c Pl names poss P h) (n1 : names.lookup (Str.ofString "set") = none) (n2 : names.lookup (Str.ofString "list") = none) (n3 : names.lookup (Str.ofString "range") = none)
    (k : ∀ a h' tk', Mid s₀ c Pl ((Str.ofString "b1_set", .ref a) :: names) poss (fun h => P h ∧ SetAt w Pl a SetB1 h) h' → wpAny (model prog w) A (execs rest (mainEnv prog c F)) Q E { s₀ with heap := h', toks := tk' }) :
    wpAny (model prog w) A (execs (st :: rest) (mainEnv prog c F)) Q E { s₀ with heap := h, toks := tk } := by
  subst hst
  have f1 := lay_none n1 (O.free (Str.ofString "set") (by decide))
  have f2 := lay_none n2 (O.free (Str.ofString "list") (by decide))
  have f3 := lay_none n3 (O.free (Str.ofString "range") (by decide))
  refine top_assign (x := Str.ofString "b1_set") (P' := fun v h => ∃ a, v = .ref a ∧ SetAt w Pl a SetB1 h) X (by decide +kernel) (by decide) (fun v h h' kk ⟨a, e, p⟩ => ⟨a, e, p.stay kk⟩) (fun Q' hq => ?_) (fun v h' tk' Y => ?_)
  · refine me_set_list (K := X.cx O) (ns := ([173, 847, 6150, 6155, 6156, 6157, 8203, 8204, 8205, 8288, 65279] : List Int) ++ (List.range 16).map fun i : Nat => (65024 : Int) + (i : Nat)) hh rfl rfl rfl rfl f1 ?_ (by decide) (fun b o e => e) fun a s' S n kk hS he hf => ?_
    · rw [List.map_append, show ((List.range 16).map fun i : Nat => (65024 : Int) + (i : Nat)).map D.int = ups 65024 16 by unfold ups; rw [List.map_map]; rfl]
      refine me_add (ds := ([173, 847, 6150, 6155, 6156, 6157, 8203, 8204, 8205, 8288, 65279] : List Int).map .int) (es := ups 65024 16) (me_list ?_) (me_list_range (a := 65024) (b := 65040) hh rfl rfl rfl rfl f2 f3 me_int me_int (by lia) (by lia)) (by decide)
      exact .cons me_int (.cons me_int (.cons me_int (.cons me_int (.cons me_int (.cons me_int (.cons me_int (.cons me_int (.cons me_int (.cons me_int (.cons me_int .nil))))))))))
    · obtain ⟨h', t', rfl, kk⟩ := kk
      refine hq _ h' t' kk ⟨a, rfl, ?_, ?_, S, n, hS, setB1_of he⟩
      · rintro rfl
        obtain ⟨_, _, hm⟩ := X.main
        obtain ⟨_, _, _, _, _, _, _, _, _, op, _, _, _, _, _, _, _, hp, _⟩ := hm.code
        have hf' : h.get? a = none := hf
        rw [hp] at hf'; cases hf'
      · rintro rfl
        obtain ⟨_, _, hm⟩ := X.main
        obtain ⟨o, _, _, ho, _⟩ := hm.g
        have hf' : h.get? mainGlobals = none := hf
        rw [ho] at hf'; cases hf'
  · obtain ⟨a, rfl, p⟩ := Y.fact.2
    exact k a h' tk' ⟨Y.main, Y.keep, Y.fresh, Y.freshc, fun h h' kk p => ⟨(Y.stay _ _ kk ⟨p.1, a, rfl, p.2⟩).1, p.2.stay kk⟩, ⟨Y.fact.1, p⟩⟩

set_option maxHeartbeats 2000000 in
theorem top_c7 (O : Opened w s₀) {h : Heap} {tk : Nat} {st : Stmt} (hst : fstmt 12 = st) (hh : A.handled = none) (X : Mid s₀ c Pl names poss P h) (n1 : names.lookup (Str.ofString "set") = none) (n3 : names.lookup (Str.ofString "range") = none)
    (k : ∀ a h' tk', Mid s₀ c Pl ((Str.ofString "c7_set", .ref a) :: names) poss (fun h => P h ∧ SetAt w Pl a SetC7 h) h' → wpAny (model prog w) A (execs rest (mainEnv prog c F)) Q E { s₀ with heap := h', toks := tk' }) :
    wpAny (model prog w) A (execs (st :: rest) (mainEnv prog c F)) Q E { s₀ with heap := h, toks := tk } := by
  subst hst
  have f1 := lay_none n1 (O.free (Str.ofString "set") (by decide))
  have f3 := lay_none n3 (O.free (Str.ofString "range") (by decide))
  refine top_assign (x := Str.ofString "c7_set") (P' := fun v h => ∃ a, v = .ref a ∧ SetAt w Pl a SetC7 h) X (by decide +kernel) (by decide) (fun v h h' kk ⟨a, e, p⟩ => ⟨a, e, p.stay kk⟩) (fun Q' hq => ?_) (fun v h' tk' Y => ?_)
  · refine me_set_range (K := X.cx O) (a := 12272) (b := 12284) hh rfl rfl rfl rfl f1 f3 me_int me_int (by lia) (by lia) (by decide) (fun b o e => e) fun a s' S n kk hS he hf => ?_
    obtain ⟨h', t', rfl, kk⟩ := kk
    refine hq _ h' t' kk ⟨a, rfl, ?_, ?_, S, n, hS, setC7_of he⟩
    · rintro rfl
      obtain ⟨_, _, hm⟩ := X.main
      obtain ⟨_, _, _, _, _, _, _, _, _, op, _, _, _, _, _, _, _, hp, _⟩ := hm.code
      have hf' : h.get? a = none := hf
      rw [hp] at hf'; cases hf'
    · rintro rfl
      obtain ⟨_, _, hm⟩ := X.main
      obtain ⟨o, _, _, ho, _⟩ := hm.g
      have hf' : h.get? mainGlobals = none := hf
      rw [ho] at hf'; cases hf'
  · obtain ⟨a, rfl, p⟩ := Y.fact.2
    exact k a h' tk' ⟨Y.main, Y.keep, Y.fresh, Y.freshc, fun h h' kk p => ⟨(Y.stay _ _ kk ⟨p.1, a, rfl, p.2⟩).1, p.2.stay kk⟩, ⟨Y.fact.1, p⟩⟩
end
end Mine
end

section
set_option Elab.async false
set_option maxRecDepth 1000000
set_option autoImplicit false
set_option linter.unusedVariables false
namespace Mine
open PySem PySem.Calls PyProof.Rows PySem.W

structure Ent where
  i : Int
  x : Str
  k : Nat
  k' : Nat
  p : Pos
  p' : Pos
noncomputable def Ent.spec (e : Ent) : Int × Str := (e.i, e.x)
noncomputable def Ent.tree (env : Env) (pos : Pos) (e : Ent) : Sem Value × Sem Value :=
  (eval (.Constant (.int e.i) e.k e.p) env, do let x ← eval (.Constant (.str e.x) e.k' e.p') env; standAt pos; pure x)

inductive Vals : List (Int × Value) → List (Int × Str) → Prop
  | nil : Vals [] []
  | cons (k : Int) (x : Str) (t : Tok) {a b} : Vals a b → Vals ((k, .str x t) :: a) ((k, x) :: b)
theorem Vals.app {a b a' b'} (u : Vals a b) (v : Vals a' b') : Vals (a ++ a') (b ++ b') := by
  induction u with
  | nil => exact v
  | cons k x t _ ih => exact .cons k x t ih
theorem Vals.keys {a b} (u : Vals a b) : a.map (·.1) = b.map (·.1) := by
  induction u with
  | nil => rfl
  | cons k x t _ ih => simp [ih]
theorem Vals.len {a b} (u : Vals a b) : a.length = b.length := by
  induction u with
  | nil => rfl
  | cons k x t _ ih => simp [ih]
theorem Vals.at {a b} (u : Vals a b) (k : Int) : (∀ x, b.lookup k = some x → ∃ t, valueAt a k = some (.str x t)) ∧ (b.lookup k = none → valueAt a k = none) := by
  induction u with
  | nil => exact ⟨fun x h => (nomatch h), fun _ => rfl⟩
  | cons k' x t _ ih =>
    unfold valueAt at ih ⊢
    rw [List.lookup_cons, List.find?_cons]
    by_cases h : k = k'
    · subst h
      simp only [beq_self_eq_true, decide_true]
      exact ⟨fun y hy => ⟨t, by cases hy; rfl⟩, fun h => (nomatch h)⟩
    · rw [show (k == k') = false from beq_false_of_ne h]
      simp only [show ¬ k' = k from fun e => h e.symm, decide_false]
      exact ih

section
variable {prog : Program} {w : World} {A : Around} {E : Value → Shared → Prop} {env : Env} {pos : Pos}

theorem stored_new {acc : List (Int × Value)} {k : Int} {v : Value} (h : k ∉ acc.map (·.1)) : stored acc k v = acc ++ [(k, v)] := by
  unfold stored
  rw [if_neg]
  rw [List.any_eq_true]
  rintro ⟨kv, hkv, he⟩
  exact h (List.mem_map.mpr ⟨kv, hkv, of_decide_eq_true he⟩)

theorem val_tree {e : Ent} {s : Shared} {Q : Value → Shared → Prop} (h : ∀ t tk, Q (.str e.x t) { s with toks := tk }) : wpAny (model prog w) A (e.tree env pos).2 Q E s :=
  wpAny_bind (Constant_str (wpAny_bind (wpAny_standAt (wpAny_pure (h _ _)))))

theorem key_tree {e : Ent} {s : Shared} {Q : Value → Shared → Prop} (h : ∀ t tk, Q (.int e.i t) { s with toks := tk }) : wpAny (model prog w) A (e.tree env pos).1 Q E s :=
  wpAny_Constant_int (env := env) (k := e.k) (pos := e.p) (h _ _)

theorem store_loop {d : Addr} : ∀ (L : List Ent) (acc : List (Int × Value)) (done : List (Int × Str)) (s : Shared) (Q : PUnit → Shared → Prop), s.heap.DictOf (intKind prog w) d acc → Vals acc done →
    ((done ++ L.map Ent.spec).map (·.1)).Nodup → acc.length + L.length ≤ 1000 →
    (∀ acc' h' tk, Vals acc' (done ++ L.map Ent.spec) → h'.DictOf (intKind prog w) d acc' → (∀ b o, b ≠ d → s.heap.get? b = some o → h'.get? b = some o) → Q ⟨⟩ { s with heap := h', toks := tk }) →
    wpAny (model prog w) A (forIn (L.map (Ent.tree env pos)) PUnit.unit fun (x : Sem Value × Sem Value) (_ : PUnit) => (do
      let kv ← x.1
      let vv ← holding [kv] x.2
      holding [kv, vv] (dictSet d kv vv)
      pure (ForInStep.yield PUnit.unit) : Sem (ForInStep PUnit))) Q E s
  | [], acc, done, s, Q, hd, hv, hn, hz, h => by
    rw [List.map_nil, List.forIn_nil]
    exact wpAny_pure (h acc s.heap s.toks (by simpa using hv) hd fun _ _ _ e => e)
  | e :: L, acc, done, s, Q, hd, hv, hn, hz, h => by
    rw [List.map_cons, List.forIn_cons]
    rw [List.length_cons] at hz
    refine wpAny_bind (wpAny_bind (key_tree fun t₀ tk₀ => (wpAny_bind (wpAny_holding (val_tree fun t tk => wpAny_bind (wpAny_holding ?_))))))
    have hk : e.i ∉ acc.map (·.1) := by
      rw [hv.keys]
      intro hm
      simp only [List.map_append, List.map_cons, List.nodup_append] at hn
      exact hn.2.2 _ hm _ (List.mem_cons_self) rfl
    refine wpAny_dictSet_pairs (knd := intKind prog w) (k := e.i) (kvs := acc) (intKind_is _ _ _ _) hd (fun h' hd' hs' => wpAny_pure ?_) (by rw [sizeLine_eq]; lia)
    rw [stored_new hk] at hd'
    refine store_loop L _ (done ++ [(e.i, e.x)]) _ Q hd' (hv.app (.cons _ _ _ .nil)) (by simpa [Ent.spec] using hn) (by rw [List.length_append, List.length_singleton]; lia) fun acc' h'' tk' hv' hd'' kk => ?_
    exact h acc' h'' tk' (by simpa [Ent.spec] using hv') hd'' fun b o hb e' => kk b o hb ((hs'.2 b hb).trans e')

theorem sub_long {run : List Ent} {s : Shared} {Q : Addr → Shared → Prop} (hlen : 15 < run.length) (hz : run.length ≤ 1000) (hn : ((run.map Ent.spec).map (·.1)).Nodup)
    (h : ∀ kvs h' tk, Vals kvs (run.map Ent.spec) → h'.DictOf (intKind prog w) s.heap.objs.size kvs → (∀ b o, s.heap.get? b = some o → h'.get? b = some o) → Q s.heap.objs.size { s with heap := h', toks := tk }) :
    wpAny (model prog w) A (subDict (run.map (Ent.tree env pos))) Q E s := by
  unfold subDict
  refine wpAny_bind (wpAny_alloc ?_)
  refine wpAny_bind (wpAny_holding ?_)
  rw [if_neg (by rw [List.length_map]; lia)]
  have hd0 : (s.heap.push { cls := .type "dict", data := .dict #[] }).DictOf (intKind prog w) s.heap.objs.size [] := ⟨_, #[], 0, Heap.get?_push_size _ rfl, ⟨rfl, rfl, rfl⟩, rfl, fun _ he => by simp at he, .nil, List.nodup_nil⟩
  refine wpAny_bind (wpAny_rule (wpAny_bind (store_loop run [] [] _ _ hd0 .nil (by simpa using hn) (by simpa using hz) fun acc' h' tk hv hd kk => wpAny_pure (wpAny_pure (h acc' h' tk (by simpa using hv) hd fun b o e => ?_)))))
  exact kk b o (fun q => by subst q; exact absurd (Heap.lt_size e) (Nat.lt_irrefl _)) (Heap.get?_push_of_some _ e)

theorem pairs_short : ∀ (L : List Ent) (s : Shared) (Q : List (Value × Value) → Shared → Prop), (∀ vs kvs tk, Carries (intKind prog w) vs kvs → Vals kvs (L.map Ent.spec) → Q vs { s with toks := tk }) → wpAny (model prog w) A (evalPairs (L.map (Ent.tree env pos))) Q E s
  | [], s, Q, h => evalPairs_nil (h [] [] s.toks trivial .nil)
  | e :: L, s, Q, h => by
    rw [List.map_cons]
    show wpAny _ A (evalPairs (((e.tree env pos).1, (e.tree env pos).2) :: _)) Q E s
    refine evalPairs_cons (key_tree (env := env) (pos := pos) fun t₀ tk₀ => (val_tree fun t tk => pairs_short L _ _ fun vs kvs tk' hc hv => ?_))
    exact h _ ((e.i, .str e.x t) :: kvs) tk' ⟨intKind_is _ _ _ _, rfl, hc⟩ (.cons _ _ _ hv)

theorem sub_short {run : List Ent} {s : Shared} {Q : Addr → Shared → Prop} (hlen : run.length ≤ 15) (hn : ((run.map Ent.spec).map (·.1)).Nodup)
    (h : ∀ kvs h' tk, Vals kvs (run.map Ent.spec) → h'.DictOf (intKind prog w) s.heap.objs.size kvs → (∀ b o, s.heap.get? b = some o → h'.get? b = some o) → Q s.heap.objs.size { s with heap := h', toks := tk }) :
    wpAny (model prog w) A (subDict (run.map (Ent.tree env pos))) Q E s := by
  refine wpAny_subDict (knd := intKind prog w) (by simpa using hlen) (pairs_short run _ _ fun vs kvs tk hc hv => ⟨kvs, hc, ⟨_, #[], 0, Heap.get?_push_size _ rfl, ⟨rfl, rfl, rfl⟩, rfl, fun _ he => by simp at he, .nil, List.nodup_nil⟩, fun h' hd hs => ?_⟩)
  rw [merged_nil_of_nodup kvs (by rw [hv.keys]; exact hn)] at hd
  exact h kvs h' _ hv hd fun b o e => (hs.2 b (fun q => by subst q; exact absurd (Heap.lt_size e) (Nat.lt_irrefl _))).trans (Heap.get?_push_of_some _ e)

theorem sub_any {run : List Ent} {s : Shared} {Q : Addr → Shared → Prop} (hz : run.length ≤ 1000) (hn : ((run.map Ent.spec).map (·.1)).Nodup)
    (h : ∀ kvs h' tk, Vals kvs (run.map Ent.spec) → h'.DictOf (intKind prog w) s.heap.objs.size kvs → (∀ b o, s.heap.get? b = some o → h'.get? b = some o) → Q s.heap.objs.size { s with heap := h', toks := tk }) :
    wpAny (model prog w) A (subDict (run.map (Ent.tree env pos))) Q E s := by
  by_cases hl : run.length ≤ 15
  · exact sub_short hl hn h
  · exact sub_long (by lia) hz hn h

theorem put_new {d : Addr} {kvs : List (Int × Value)} {k : Int} {key v : Value} {s : Shared} {Q : Unit → Shared → Prop} (hkey : (intKind prog w).is k key = true) (hm : s.heap.DictOf (intKind prog w) d kvs) (hk : k ∉ kvs.map (·.1)) (hsz : kvs.length ≤ 1000)
    (hQ : ∀ h', h'.DictOf (intKind prog w) d (kvs ++ [(k, v)]) → Heap.SameBut d s.heap h' → Q () { s with heap := h' }) : wpAny (model prog w) A (dictPut d ((intKind prog w).hash k) key v) Q E s := by
  obtain ⟨o, es, ep, ho, hc, hd, hks, hp, hn⟩ := hm
  have hes : es.size ≤ sizeLine := by
    have e1 := hp.length
    have e2 : es.toList.length = es.size := by simp
    rw [sizeLine_eq]; lia
  unfold dictPut
  refine wpAny_bind (wpAny_dictFind_of hkey ho hd hks ?_)
  have hidx : (es.findIdx? fun e => (intKind prog w).is k e.key) = none := by
    have h1 : (es.findIdx? fun e => (intKind prog w).is k e.key) = kvs.findIdx? fun kv => decide (kv.1 = k) := by
      rw [← hp.findIdx k]; obtain ⟨l⟩ := es; simp
    rw [h1, List.findIdx?_eq_none_iff]
    intro x hx
    exact decide_eq_false fun e => hk (List.mem_map.mpr ⟨x, hx, e⟩)
  rw [hidx]
  refine wpAny_updateDictKeys (hz := hes) ho hd (hQ _ ⟨_, _, ep + 1, Heap.get?_update_self _ ho (Obj.isFreed_of_dict (Obj.data_mapDictKeys hd _)),
      hc.mapDictKeys _, Obj.data_mapDictKeys hd _, hks.push hkey _, ?_, ?_⟩ (Heap.SameBut.update ..))
  · have := hp.append hkey ((intKind prog w).hash k) v
    obtain ⟨l⟩ := es
    simpa using this
  · rw [List.map_append, List.nodup_append]
    refine ⟨hn, by simp, ?_⟩
    intro a ha b hb
    simp only [List.map_cons, List.map_nil, List.mem_singleton] at hb
    subst hb
    exact fun e => hk (e ▸ ha)

theorem merge_new {d o : Addr} {acc more : List (Int × Value)} {s : Shared} {Q : Unit → Shared → Prop} (hdo : d ≠ o) (hoS : (o == sysModules) = false) (hd : s.heap.DictOf (intKind prog w) d acc) (ho : s.heap.DictOf (intKind prog w) o more)
    (h0 : acc ≠ []) (hnd : ((acc ++ more).map (·.1)).Nodup) (hsz : acc.length + more.length ≤ 1000)
    (hQ : ∀ h', h'.DictOf (intKind prog w) d (acc ++ more) → Heap.SameBut d s.heap h' → Q () { s with heap := h' }) : wpAny (model prog w) A (mergeMapping d (.ref o) false) Q E s := by
  obtain ⟨od, esd, epd, hod, hcd, hdd, hkd, hpd, hnd'⟩ := id hd
  obtain ⟨oo, eso, epo, hoo, hco, hdo', hko, hpo, hno⟩ := id ho
  have hlen : more.length = eso.size := by rw [← hpo.length]; simp
  have hT : s.TypeIs (.ref o) "dict" := ho.typeIs
  unfold mergeMapping
  refine wpAny_bind (wpAny_isInstance hT PySem.F.sub_dict_dict ?_)
  rw [if_pos rfl]
  refine wpAny_bind (wpAny_specialOf hT PySem.F.slot_dict_iter.lookup ?_)
  refine wpAny_bind (wpAny_pure ?_)
  rw [show ((some (Value.builtin "dict.__iter__") == some (Value.builtin "dict.__iter__")) = true) from by decide]
  dsimp only
  rw [if_neg (by rw [hoS]; exact Bool.false_ne_true)]
  refine wpAny_bind (wpAny_dictEntries hod hdd ?_)
  have hne : esd.isEmpty = false := by
    cases he : esd.isEmpty with
    | false => rfl
    | true =>
      have h1 : esd = #[] := Array.isEmpty_iff.mp he
      have := hpd.length
      rw [h1] at this
      exact absurd (List.length_eq_zero_iff.mp (by simpa using this.symm)) h0
  rw [hne, if_neg Bool.false_ne_true]
  refine wpAny_bind (wpAny_dictEntries hoo hdo' ?_)
  refine wpAny_bind (wpAny_dictEpoch hoo hdo' ?_)
  refine wpAny_bind ?_
  refine wpAny_forIn_list _
    (fun rest _ s' => ∃ h' i, s' = { s with heap := h' } ∧ rest = List.range' i (eso.size - i) ∧ i ≤ eso.size ∧ h'.DictOf (intKind prog w) d (acc ++ more.take i) ∧ h'.get? o = some oo ∧ Heap.SameBut d s.heap h')
    _ ?_ ?_ _ _ ⟨s.heap, 0, rfl, by simp [List.range_eq_range'], Nat.zero_le _, by simpa using hd, hoo, Heap.SameBut.refl _ _⟩
  · rintro x rest b s' ⟨h', i, rfl, hr, hi, hd', hoo', hs'⟩
    have hlt : i < eso.size := by
      rcases Nat.lt_or_ge i eso.size with h | h
      · exact h
      · rw [Nat.sub_eq_zero_of_le h] at hr; simp at hr
    obtain ⟨rfl, hrest⟩ : x = i ∧ rest = List.range' (i + 1) (eso.size - (i + 1)) := by
      have e : eso.size - i = (eso.size - (i + 1)) + 1 := by lia
      rw [e, List.range'_succ] at hr
      injection hr with h1 h2
      exact ⟨h1, h2⟩
    refine wpAny_bind (wpAny_dictEntries hoo' hdo' ?_)
    rw [Array.getElem?_eq_getElem hlt]
    have hlt' : x < more.length := by rw [hlen]; exact hlt
    obtain ⟨kv, hkv⟩ : ∃ kv, more[x]? = some kv := ⟨more[x]'hlt', List.getElem?_eq_getElem _⟩
    obtain ⟨k, v⟩ := kv
    obtain ⟨hkey, hval⟩ := hpo.get? (e := eso[x]) (by simp [hlt]) hkv
    obtain ⟨k', hkey', hhash⟩ := hko eso[x] (Array.getElem_mem hlt)
    obtain rfl : k' = k := (intKind prog w).inj _ _ _ hkey' hkey
    have htk : more.take (x + 1) = more.take x ++ [(k', v)] := by rw [List.take_add_one, hkv]; rfl
    have hk : k' ∉ (acc ++ more.take x).map (·.1) := by
      have h1 : ((acc ++ more.take (x + 1)).map (·.1)).Nodup := by
        have h2 : (acc ++ more.take (x + 1)).map (·.1) = ((acc ++ more).map (·.1)).take (acc.length + (x + 1)) := by
          rw [← List.map_take, List.take_length_add_append]
        rw [h2]
        exact hnd.sublist (List.take_sublist _ _)
      rw [htk, ← List.append_assoc, List.map_append, List.nodup_append] at h1
      intro hm
      exact h1.2.2 _ hm k' (by simp) rfl
    show wpAny _ _ (holding [eso[x].key, eso[x].val] _ >>= _) _ _ _
    rw [hhash, hval]
    refine wpAny_bind (wpAny_holding (put_new hkey hd' hk (by rw [List.length_append, List.length_take]; lia) fun h'' hd'' hs'' => ?_))
    have hoo'' : h''.get? o = some oo := (hs''.2 o (Ne.symm hdo)).trans hoo'
    refine wpAny_bind (wpAny_dictEpoch hoo'' hdo' ?_)
    rw [if_neg (by simp)]
    exact wpAny_pure ⟨h'', x + 1, rfl, hrest, hlt, by rw [htk, ← List.append_assoc]; exact hd'', hoo'', hs'.trans hs''⟩
  · rintro b s' ⟨h', i, rfl, hr, hi, hd', hoo', hs'⟩
    have hin : i = eso.size := by
      rcases Nat.lt_or_ge i eso.size with h | h
      · have e : eso.size - i = (eso.size - (i + 1)) + 1 := by lia
        rw [e, List.range'_succ] at hr; exact nomatch hr
      · exact Nat.le_antisymm hi h
    rw [hin, ← hlen, List.take_length] at hd'
    exact wpAny_pure (hQ h' hd' hs')
end
end Mine
end

section
set_option Elab.async false
set_option maxRecDepth 1000000
set_option autoImplicit false
set_option linter.unusedVariables false
namespace Mine
open PySem PySem.Calls PyProof.Rows PySem.W

section
variable {prog : Program} {w : World} {A : Around} {E : Value → Shared → Prop} {env : Env} {pos : Pos}

/-- the display's state between two items -/
structure Disp (prog : Program) (w : World) (s : Shared) (L : List Ent) (main : Option Addr) (done : List Ent) (h : Heap) : Prop where
  keep : ∀ b o, s.heap.get? b = some o → h.get? b = some o
  none : main = none → done = []
  some : ∀ d, main = some d → done ≠ [] ∧ s.heap.get? d = Option.none ∧ ∃ acc, Vals acc (done.map Ent.spec) ∧ h.DictOf (intKind prog w) d acc

theorem display {L : List Ent} {s : Shared} {Q : Value → Shared → Prop} (hL : L ≠ []) (hz : L.length ≤ 1000) (hn : ((L.map Ent.spec).map (·.1)).Nodup) (hsys : ∃ o, s.heap.get? sysModules = some o)
    (h : ∀ d kvs h' tk, Vals kvs (L.map Ent.spec) → h'.DictOf (intKind prog w) d kvs → (∀ b o, s.heap.get? b = some o → h'.get? b = some o) → s.heap.get? d = none → Q (.ref d) { s with heap := h', toks := tk }) :
    wpAny (model prog w) A (dictDisplay (L.map fun e => (some (e.tree env pos).1, (e.tree env pos).2))) Q E s := by
  have flush : ∀ (main : Option Addr) (done run : List Ent) (h : Heap) (tk : Nat) (R : Option Addr → Shared → Prop), run ≠ [] → Disp prog w s L main done h → (((done ++ run).map Ent.spec).map (·.1)).Nodup → (done ++ run).length ≤ 1000 →
      (∀ d h' tk', Disp prog w s L (some d) (done ++ run) h' → R (some d) { s with heap := h', toks := tk' }) →
      wpAny (model prog w) A (match main with
        | none => do let x ← subDict (run.map (Ent.tree env pos)); pure (some x)
        | some d => do
          let sub ← holding [.ref d] (subDict (run.map (Ent.tree env pos)))
          (holding [.ref d, .ref sub] (mergeMapping d (.ref sub) false)).onRaise fun x => do let _ ← holding [.ref d, x] (runValue (.builtin "proto.let_go" {}))
          pure (some d)) R E { s with heap := h, toks := tk } := by
    intro main done run h tk R hr D hnd hlen k
    have hlen' : done.length + run.length ≤ 1000 := by simpa using hlen
    have hnr : ((run.map Ent.spec).map (·.1)).Nodup := by
      rw [List.map_append, List.map_append, List.nodup_append] at hnd
      exact hnd.2.1
    have fr : ∀ {h : Heap}, (∀ b o, s.heap.get? b = some o → h.get? b = some o) → s.heap.get? h.objs.size = none := fun {h} kk => by
      cases q : s.heap.get? h.objs.size with
      | none => rfl
      | some o => exact absurd (Heap.lt_size (kk _ _ q)) (Nat.lt_irrefl _)
    cases main with
    | none =>
      have hd := D.none rfl
      subst hd
      refine wpAny_bind (sub_any (by lia) hnr fun kvs h' tk' hv hd kk => wpAny_pure (k _ h' tk' ⟨fun b o e => kk b o (D.keep b o e), fun q => (nomatch q), fun d q => ?_⟩))
      cases q
      exact ⟨by simpa using hr, fr D.keep, kvs, by simpa using hv, hd⟩
    | some d =>
      obtain ⟨hd0, hdn, acc, hacc, hdo⟩ := D.some d rfl
      refine wpAny_bind (wpAny_holding (sub_any (by lia) hnr fun kvs h' tk' hv hd kk => ?_))
      have hlt : d < h.objs.size := by obtain ⟨o, _, _, ho, _⟩ := hdo; exact Heap.lt_size ho
      have hdo' : h'.DictOf (intKind prog w) d acc := by obtain ⟨o, es, ep, ho, r⟩ := hdo; exact ⟨o, es, ep, kk _ _ ho, r⟩
      refine wpAny_bind (wpAny_onRaise (wpAny_holding (merge_new (Nat.ne_of_lt hlt) ?_ hdo' hd ?_ ?_ ?_ fun h'' hd'' hs'' => wpAny_pure (k d h'' _ ⟨fun b o e => ?_, fun q => (nomatch q), fun d' q => ?_⟩))))
      · obtain ⟨o, ho⟩ := hsys
        exact beq_false_of_ne (Nat.ne_of_gt (Heap.lt_size (D.keep _ _ ho)))
      · rintro rfl
        have := hacc.len
        simp at this
        exact hd0 (List.length_eq_zero_iff.mp this.symm)
      · rw [List.map_append, hacc.keys, hv.keys, ← List.map_append, ← List.map_append]; exact hnd
      · rw [hacc.len, hv.len, List.length_map, List.length_map]; exact hlen'
      · refine (hs''.2 b fun q => ?_).trans (kk b o (D.keep b o e))
        subst q; rw [hdn] at e; cases e
      · cases q
        exact ⟨by simp [hd0], hdn, acc ++ kvs, by rw [List.map_append]; exact hacc.app hv, hd''⟩
  have sub2 : ∀ {done run L' : List Ent}, done ++ run ++ L' = L → (((done ++ run).map Ent.spec).map (·.1)).Nodup := fun {done run L'} e => by
    subst e
    rw [List.map_append, List.map_append, List.nodup_append] at hn
    exact hn.1
  have len2 : ∀ {done run L' : List Ent}, done ++ run ++ L' = L → (done ++ run).length ≤ 1000 := fun {done run L'} e => by
    subst e
    rw [List.length_append] at hz
    lia
  unfold dictDisplay
  dsimp only
  refine wpAny_bind (wpAny_forIn_list _
    (fun rest st s' => ∃ main done run L' h tk, rest = L'.map (fun e => (some (e.tree env pos).1, (e.tree env pos).2)) ∧ done ++ run ++ L' = L ∧ st = (main, run.map (Ent.tree env pos)) ∧ run.length < 17 ∧ s' = { s with heap := h, toks := tk } ∧ Disp prog w s L main done h)
    _ ?_ ?_ _ _ ⟨none, [], [], L, s.heap, s.toks, rfl, rfl, rfl, by decide, rfl, fun _ _ e => e, fun _ => rfl, fun d q => (nomatch q)⟩)
  · rintro x rest st s' ⟨main, done, run, L', h, tk, hr, hL', rfl, hl, rfl, D⟩
    cases L' with
    | nil => cases hr
    | cons e L' =>
      rw [List.map_cons] at hr
      injection hr with h1 h2
      subst h1 h2
      dsimp only
      have e1 : run.map (Ent.tree env pos) ++ [((e.tree env pos).1, (e.tree env pos).2)] = (run ++ [e]).map (Ent.tree env pos) := by rw [List.map_append]; rfl
      rw [e1]
      have hL2 : done ++ (run ++ [e]) ++ L' = L := by rw [← hL']; simp
      split
      · rename_i h17
        rw [show ((run ++ [e]).map (Ent.tree env pos)).isEmpty = false by simp]
        simp only [Bool.false_eq_true, if_false]
        refine wpAny_bind (flush main done (run ++ [e]) h tk _ (by simp) D (sub2 hL2) (len2 hL2) fun d h' tk' D' => wpAny_pure ?_)
        exact ⟨some d, done ++ (run ++ [e]), [], L', h', tk', rfl, by simpa using hL2, rfl, by decide, rfl, D'⟩
      · rename_i h17
        refine wpAny_pure ⟨main, done, run ++ [e], L', h, tk, rfl, hL2, rfl, ?_, rfl, D⟩
        have : (run ++ [e]).length ≠ 17 := fun q => h17 (by rw [List.length_map]; simpa using q)
        rw [List.length_append, List.length_singleton] at this ⊢
        lia
  · rintro st s' ⟨main, done, run, L', h', tk, hr, hL', rfl, hl, rfl, D⟩
    have hnil : L' = [] := by
      cases L' with
      | nil => rfl
      | cons e L' => cases hr
    subst hnil
    dsimp only
    rw [List.append_nil] at hL'
    by_cases hrun : run = []
    · subst hrun
      simp only [List.map_nil, List.isEmpty_nil, if_true]
      rw [List.append_nil] at hL'
      refine wpAny_bind (wpAny_pure ?_)
      cases main with
      | none => exact absurd (hL'.symm.trans (D.none rfl)) hL
      | some d =>
        obtain ⟨_, hdn, acc, hacc, hdo⟩ := D.some d rfl
        exact wpAny_pure (h d acc h' tk (hL' ▸ hacc) hdo D.keep hdn)
    · rw [show (run.map (Ent.tree env pos)).isEmpty = false by simpa using hrun]
      simp only [Bool.false_eq_true, if_false]
      have hL2 : done ++ run ++ [] = L := by rw [List.append_nil]; exact hL'
      refine wpAny_bind (flush main done run h' tk _ hrun D (sub2 hL2) (len2 hL2) fun d h'' tk' D' => ?_)
      obtain ⟨_, hdn, acc, hacc, hdo⟩ := D'.some d rfl
      exact wpAny_pure (h d acc h'' tk' (hL' ▸ hacc) hdo D'.keep hdn)
end
end Mine
end

section
set_option Elab.async false
set_option maxRecDepth 1000000
set_option autoImplicit false
set_option linter.unusedVariables false
namespace Mine
open PySem PySem.Calls PyProof.Rows PySem.W

noncomputable def keyI : Option Expr → Option (Int × Nat × Pos)
  | some (.Constant (.int i) k p) => some (i, k, p)
  | _ => none
noncomputable def valS : Expr → Option (Str × Nat × Pos)
  | .Constant (.str x) k p => some (x, k, p)
  | _ => none
noncomputable def entsOf : List (Option Expr) → List Expr → Option (List Ent)
  | [], [] => some []
  | o :: ks, v :: vs => (keyI o).bind fun a => (valS v).bind fun b => (entsOf ks vs).map fun l => ⟨a.1, b.1, a.2.1, b.2.1, a.2.2, b.2.2⟩ :: l
  | _, _ => none
theorem keyI_inv {o : Option Expr} {r : Int × Nat × Pos} (h : keyI o = some r) : o = some (.Constant (.int r.1) r.2.1 r.2.2) := by
  cases o with
  | none => cases h
  | some e =>
    cases e with
    | Constant c k p => cases c <;> cases h <;> rfl
    | _ => cases h
theorem valS_inv {e : Expr} {r : Str × Nat × Pos} (h : valS e = some r) : e = .Constant (.str r.1) r.2.1 r.2.2 := by
  cases e with
  | Constant c k p => cases c <;> cases h <;> rfl
  | _ => cases h

theorem zip_of {env : Env} {pos : Pos} : ∀ (ks : List (Option Expr)) (vs : List Expr) (L : List Ent), entsOf ks vs = some L →
    (evalEachOpt ks env).zip ((evalEach vs env).map fun v => do let x ← v; standAt pos; pure x) = L.map fun e => (some (e.tree env pos).1, (e.tree env pos).2)
  | [], [], L, h => by cases h; rfl
  | o :: ks, v :: vs, L, h => by
    obtain ⟨a, ha, h⟩ := Option.bind_eq_some_iff.mp h
    obtain ⟨b, hb, h⟩ := Option.bind_eq_some_iff.mp h
    obtain ⟨l, hl, rfl⟩ := Option.map_eq_some_iff.mp h
    have ih := zip_of (env := env) (pos := pos) ks vs l hl
    rw [keyI_inv ha, valS_inv hb, List.map_cons, ← ih]
    rfl
  | [], _ :: _, L, h => nomatch h
  | _ :: _, [], L, h => nomatch h

noncomputable def b3K : List (Option Expr) := match fstmt 10 with
  | .Assign _ (.Dict ks _ _) _ => ks
  | _ => []
noncomputable def b3V : List Expr := match fstmt 10 with
  | .Assign _ (.Dict _ vs _) _ => vs
  | _ => []
noncomputable def b3L : List Ent := (entsOf b3K b3V).getD []
theorem b3_ents : entsOf b3K b3V = some b3L := by
  have h : (entsOf b3K b3V).isSome = true := by decide +kernel
  obtain ⟨l, hl⟩ := Option.isSome_iff_exists.mp h
  unfold b3L; rw [hl]; rfl

noncomputable def rising : List Int → Bool
  | a :: b :: l => decide (a < b) && rising (b :: l)
  | _ => true
theorem rising_lt : ∀ (l : List Int) (a : Int), rising (a :: l) = true → ∀ x ∈ l, a < x
  | [], _, _, x, hx => nomatch hx
  | b :: l, a, h, x, hx => by
    rw [rising, Bool.and_eq_true, decide_eq_true_eq] at h
    rcases List.mem_cons.mp hx with rfl | hx
    · exact h.1
    · exact Int.lt_trans h.1 (rising_lt l b h.2 x hx)
theorem rising_nodup : ∀ (l : List Int), rising l = true → l.Nodup
  | [], _ => List.nodup_nil
  | [a], _ => by simp
  | a :: b :: l, h => by
    have h' := h
    rw [rising, Bool.and_eq_true, decide_eq_true_eq] at h'
    exact List.nodup_cons.mpr ⟨fun hm => absurd (rising_lt _ a h a hm) (Int.lt_irrefl a), rising_nodup (b :: l) h'.2⟩
theorem b3_nodup : ((b3L.map Ent.spec).map (·.1)).Nodup := rising_nodup _ (by decide +kernel)
theorem b3_len : b3L.length ≤ 1000 := by decide +kernel
theorem b3_ne : b3L ≠ [] := fun e => by
  have : b3L.isEmpty = false := by decide +kernel
  rw [e] at this; cases this
theorem b3_high : ((List.range 8).all fun k => decide (k < 2) || (List.range 16).all fun l => (b3L.map Ent.spec).lookup ((120068 + 52 * k + l : Nat) : Int) == some ⟨#[97 + l]⟩) = true := by decide +kernel
theorem b3_low : ((List.range 16).all fun l => ((b3L.map Ent.spec).lookup ((97 + l : Nat) : Int)).isNone && ((b3L.map Ent.spec).lookup ((65 + l : Nat) : Int)).isNone) = true := by decide +kernel

theorem b3_of {kvs : List (Int × Value)} (v : Vals kvs (b3L.map Ent.spec)) : B3 (valueAt kvs) := by
  constructor
  · intro k l hk h2 hl
    have h := List.all_eq_true.mp b3_high k (List.mem_range.mpr hk)
    rw [Bool.or_eq_true, decide_eq_true_eq] at h
    rcases h with h | h
    · omega
    · have h := List.all_eq_true.mp h l (List.mem_range.mpr hl)
      exact (v.at _).1 _ (beq_iff_eq.mp h)
  · intro l hl
    have h := List.all_eq_true.mp b3_low l (List.mem_range.mpr hl)
    rw [Bool.and_eq_true, Option.isNone_iff_eq_none, Option.isNone_iff_eq_none] at h
    exact ⟨(v.at _).2 h.1, (v.at _).2 h.2⟩

section
variable {w : World} {A : Around} {E : Value → Shared → Prop} {s₀ : Shared} {c Pl F : Addr} {names : List (Str × Value)} {poss : List (Nat × Nat)} {P : Heap → Prop} {Q : Flow → Shared → Prop} {rest : List Stmt}

noncomputable def MapAt (w : World) (Pl : Addr) (a : Addr) (h : Heap) : Prop := a ≠ Pl ∧ a ≠ mainGlobals ∧ a ≠ sysModules ∧ ∃ m, h.MapOf (intKind prog w) a m ∧ B3 m
theorem MapAt.stay {Pl a : Addr} {h h' : Heap} (k : Kp Pl h h') (x : MapAt w Pl a h) : MapAt w Pl a h' := by
  obtain ⟨a1, a2, a3, m, ⟨o, es, ep, ho, r⟩, q⟩ := x
  exact ⟨a1, a2, a3, m, ⟨o, es, ep, k _ _ a1 a2 ho, r⟩, q⟩

noncomputable def b3pos : Pos := match fstmt 10 with
  | .Assign _ (.Dict _ _ p) _ => p
  | _ => ⟨0, 0, 0, 0⟩
noncomputable def b3pos1 : Pos := match fstmt 10 with
  | .Assign [.Name _ p] _ _ => p
  | _ => ⟨0, 0, 0, 0⟩
noncomputable def b3pos2 : Pos := match fstmt 10 with
  | .Assign _ _ p => p
  | _ => ⟨0, 0, 0, 0⟩
theorem st10_eq : fstmt 10 = .Assign [.Name (Str.ofString "b3_exceptions") b3pos1] (.Dict b3K b3V b3pos) b3pos2 := rfl

theorem Mid.fresh_ne {h : Heap} (X : Mid s₀ c Pl names poss P h) {a : Addr} (e : h.get? a = none) : a ≠ Pl ∧ a ≠ mainGlobals := by
  obtain ⟨_, _, hm⟩ := X.main
  constructor
  · rintro rfl
    obtain ⟨_, _, _, _, _, _, _, _, _, op, _, _, _, _, _, _, _, hp, _⟩ := hm.code
    rw [hp] at e; cases e
  · rintro rfl
    obtain ⟨o, _, _, ho, _⟩ := hm.g
    rw [ho] at e; cases e

theorem top_dict (O : Opened w s₀) {h : Heap} {tk : Nat} (X : Mid s₀ c Pl names poss P h) {ks : List (Option Expr)} {vs : List Expr} {L : List Ent} {p p' p₂ : Pos} (hL : entsOf ks vs = some L) (h0 : L ≠ []) (hz : L.length ≤ 1000) (hn : ((L.map Ent.spec).map (·.1)).Nodup)
    (hb : ∀ kvs, Vals kvs (L.map Ent.spec) → B3 (valueAt kvs))
    (k : ∀ a h' tk', Mid s₀ c Pl ((Str.ofString "b3_exceptions", .ref a) :: names) poss (fun h => P h ∧ MapAt w Pl a h) h' → wpAny (model prog w) A (execs rest (mainEnv prog c F)) Q E { s₀ with heap := h', toks := tk' }) :
    wpAny (model prog w) A (execs (.Assign [.Name (Str.ofString "b3_exceptions") p'] (.Dict ks vs p₂) p :: rest) (mainEnv prog c F)) Q E { s₀ with heap := h, toks := tk } := by
  have hsys : ∃ o, h.get? sysModules = some o := by
    obtain ⟨o, h1⟩ := O.sys
    exact ⟨_, X.keep _ _ (by decide) h1⟩
  refine top_assign (x := Str.ofString "b3_exceptions") (P' := fun v h => ∃ a, v = .ref a ∧ MapAt w Pl a h) X (by decide +kernel) (by decide) (fun v h h' kk ⟨a, e, p⟩ => ⟨a, e, p.stay kk⟩) (fun Q' hq => ?_) (fun v h' tk' Y => ?_) rfl
  · rw [arm_eval_Dict, zip_of ks vs L hL]
    refine wpAny_bind (wpAny_standAt (display h0 hz hn hsys fun d kvs h' tk' hv hd kk hf => ?_))
    have ne := X.fresh_ne (a := d) hf
    refine hq _ h' tk' kk ⟨d, rfl, ne.1, ne.2, ?_, _, hd.mapOf, hb _ hv⟩
    rintro rfl
    obtain ⟨o, ho⟩ := hsys
    have hf' : h.get? sysModules = none := hf
    rw [ho] at hf'; cases hf'
  · obtain ⟨a, rfl, p⟩ := Y.fact.2
    exact k a h' tk' ⟨Y.main, Y.keep, Y.fresh, Y.freshc, fun h h' kk p => ⟨(Y.stay _ _ kk ⟨p.1, a, rfl, p.2⟩).1, p.2.stay kk⟩, ⟨Y.fact.1, p⟩⟩

theorem b3_pack : ∃ ks vs L p p' p₂, fstmt 10 = .Assign [.Name (Str.ofString "b3_exceptions") p'] (.Dict ks vs p₂) p ∧ entsOf ks vs = some L ∧ L ≠ [] ∧ L.length ≤ 1000 ∧ ((L.map Ent.spec).map (·.1)).Nodup ∧
    ∀ kvs, Vals kvs (L.map Ent.spec) → B3 (valueAt kvs) :=
  ⟨b3K, b3V, b3L, b3pos2, b3pos1, b3pos, st10_eq, b3_ents, b3_ne, b3_len, b3_nodup, fun _ => b3_of⟩

theorem top_b3 (O : Opened w s₀) {h : Heap} {tk : Nat} {st : Stmt} (hst : fstmt 10 = st) (X : Mid s₀ c Pl names poss P h)
    (k : ∀ a h' tk', Mid s₀ c Pl ((Str.ofString "b3_exceptions", .ref a) :: names) poss (fun h => P h ∧ MapAt w Pl a h) h' → wpAny (model prog w) A (execs rest (mainEnv prog c F)) Q E { s₀ with heap := h', toks := tk' }) :
    wpAny (model prog w) A (execs (st :: rest) (mainEnv prog c F)) Q E { s₀ with heap := h, toks := tk } := by
  obtain ⟨ks, vs, L, p, p', p₂, e, h1, h2, h3, h4, h5⟩ := b3_pack
  rw [e] at hst
  subst hst
  exact top_dict O X h1 h2 h3 h4 h5 k
end
end Mine
end

section
set_option Elab.async false
set_option maxRecDepth 1000000
set_option autoImplicit false
set_option linter.unusedVariables false
namespace Mine
open PySem PySem.Calls PyProof.Rows PySem.W
open PySem.Builtin PySem.Builtin.Re

namespace Fl
theorem named6 (a b c d e f : Value) : reNamed "_sre.compile" "compile" ["pattern", "flags", "code", "groups", "groupindex", "indexgroup"] 6 [a, b, c, d, e, f] [] = pure [some a, some b, some c, some d, some e, some f] := rfl
theorem check6 (a b c d e f : Value) : checkBuiltinCall "_sre.compile" ⟨[a, b, c, d, e, f], []⟩ = pure () := by kernel_rfl
theorem entry_compile : entryFor table "_sre.compile" = some Builtin.«_sre.compile» := entryFor_of_tree (by kernel_rfl)
theorem plain_compile : plainId "_sre.compile" = true := by decide +kernel
theorem sub_ll : isSubtype (.type "list") (.type "list") = pure true := by rw [isSubtype_type]; kernel_rfl
theorem sub_dd : isSubtype (.type "dict") (.type "dict") = pure true := by rw [isSubtype_type]; kernel_rfl
theorem sub_tt : isSubtype (.type "tuple") (.type "tuple") = pure true := by rw [isSubtype_type]; kernel_rfl
theorem well : Sre.wellFormed Rx.C 1 = true := by decide +kernel
theorem lk_compile : typeLookup (.type "module") "compile" = pure none := by rw [typeLookup_type, builtinLookup_eq_fast]; kernel_rfl

/-- the words of the code -/
noncomputable def ns : List Int := [14, 4, 0, 8, 4294967295, 24, 5, 0, 4294967295, 2, 1, 16, 70, 16, 76, 16, 65, 16, 71, 16, 83, 16, 32, 16, 40, 17, 0, 24, 6, 0, 4294967295, 20, 41, 1, 17, 1, 16, 41, 1]
theorem ns_C : (ns.map (·.toNat)).toArray = Rx.C := by decide +kernel
theorem ns_ok : ∀ n ∈ ns, 0 ≤ n ∧ n < 2 ^ 32 := by decide +kernel

section
variable {prog : Program} {w : World} {A : Around} {E : Value → Shared → Prop} {s : Shared}
set_option maxHeartbeats 2000000 in
theorem compile_call {b : Array UInt8} {t1 t2 t3 : Tok} {l d tp : Addr} {vs tv : Array Value} {v1 : Value} {Q : Value → Shared → Prop} (hl : s.heap.IsList l vs) (hvs : IntsAre vs.toList ns) (hd : s.heap.DictOf (strKind prog w) d [(Str.ofString "flags", v1)])
    (ht : s.heap.IsTuple tp tv) (hds : (d == sysModules) = false)
    (hq : ∀ h' tk p ca, (∀ b o, s.heap.get? b = some o → h'.get? b = some o) → h'.get? p = some { cls := .type "re.Pattern", dict := none, data := .fields #[.bytes b t1, .int 0 tk, rawInt 1, .ref d, .ref tp, .ref ca, rawInt 1] } →
      h'.get? ca = some { cls := .type "tuple", data := .seq ((Rx.C.toList.map fun (w : Nat) => rawInt w).toArray) } → s.heap.get? p = none → s.heap.get? ca = none → Q (.ref p) { s with heap := h', toks := tk + 1 }) :
    wpAny (model prog w) A (call (.builtin "_sre.compile") [.bytes b t1, .int 0 t2, .ref l, .int 1 t3, .ref d, .ref tp]) Q E s := by
  refine wpAny_call (codeAny_call_builtin plain_compile entry_compile (wpAny_of_eq (check6 _ _ _ _ _ _) ?_))
  unfold Builtin.«_sre.compile»
  obtain ⟨od, esd, epd, hod, hcd, hdd, hkd, hpd, hnd⟩ := id hd
  have hes : esd.isEmpty = false := by
    cases he : esd.isEmpty with
    | false => rfl
    | true =>
      have h1 : esd = #[] := Array.isEmpty_iff.mp he
      have := hpd.length
      rw [h1] at this
      cases this
  obtain ⟨ol, hol, hcl, nl, hdl⟩ := hl
  have hT1 : s.TypeIs (.ref l) "list" := ⟨_, hol, hcl⟩
  have hT2 : s.TypeIs (.ref d) "dict" := hd.typeIs
  have hT3 : s.TypeIs (.ref tp) "tuple" := by obtain ⟨o, ho, hc, _⟩ := ht; exact ⟨o, ho, hc⟩
  refine wpAny_bind (wpAny_of_eq (named6 _ _ _ _ _ _) ?_)
  dsimp only
  refine wpAny_bind (wpAny_of_eq (a := (0 : Int)) rfl ?_)
  rw [if_neg (by decide)]
  refine wpAny_bind (wpAny_isInstance hT1 sub_ll ?_)
  rw [if_neg (by decide)]
  refine wpAny_bind (wpAny_of_eq (a := (1 : Int)) rfl ?_)
  rw [if_neg (by rw [sizeLine_eq]; decide)]
  refine wpAny_bind (wpAny_isInstance hT2 sub_dd ?_)
  rw [if_neg (by decide)]
  refine wpAny_bind (wpAny_isInstance hT3 sub_tt ?_)
  rw [if_neg (by decide)]
  refine wpAny_bind (wpAny_seqItems hol hdl ?_)
  dsimp only [Option.getD]
  refine wpAny_bind (wpAny_mono (Q := fun (b : Array Nat) s' => s' = s ∧ b = (ns.map (·.toNat)).toArray) (forIn_array_ _ (fun rest (b : Array Nat) s' => s' = s ∧ ∃ ms done, IntsAre rest ms ∧ done ++ ms = ns ∧ b = (done.map (·.toNat)).toArray) _ ?_ ?_ vs (#[] : Array Nat) ⟨rfl, ns, [], hvs, rfl, rfl⟩) (fun words s' x => ?_) fun _ _ e => e)
  · rintro x rest b' s' ⟨rfl, ms, done, hi, hdn, rfl⟩
    cases hi with
    | cons n t hi' =>
      rename_i ms'
      have hm : n ∈ ns := by rw [← hdn]; exact List.mem_append_right _ List.mem_cons_self
      have hn := ns_ok n hm
      refine wpAny_bind (wpAny_of_eq (a := some n) rfl ?_)
      dsimp only
      rw [if_neg (by lia), if_neg (by lia), if_neg (by lia)]
      exact wpAny_pure ⟨rfl, ms', done ++ [n], hi', by rw [← hdn]; simp, by simp⟩
  · rintro b' s' ⟨rfl, ms, done, hi, hdn, rfl⟩
    cases hi
    rw [List.append_nil] at hdn
    rw [hdn]
    exact ⟨rfl, rfl⟩
  · obtain ⟨rfl, rfl⟩ := x
    rw [ns_C]
    rw [if_neg (show ¬ (Value.bytes b t1 == Value.none) = true from Bool.false_ne_true)]
    have e2 : reTextOf (.bytes b t1) = pure (b.map (·.toNat), 1) := by
      show (do match ← Builtin.Bytes.bufferQuiet? "_sre" (.bytes b t1) with
        | some (b : Array UInt8) => pure (b.map (fun (x : UInt8) => x.toNat), 1)
        | none => raiseError "TypeError" s!"expected string or bytes-like object, got '{← typeNameOf (.bytes b t1)}'") = _
      rw [KBy.quiet_eq]; rfl
    refine wpAny_bind (wpAny_of_eq e2 ?_)
    refine wpAny_bind (wpAny_pure ?_)
    rw [if_neg (by rw [show Int.toNat 1 = 1 from rfl, well]; decide)]
    unfold notTheModulesDict
    rw [if_neg (by rw [hds]; exact Bool.false_ne_true)]
    refine wpAny_bind (wpAny_pure ?_)
    refine wpAny_bind (wpAny_dictEntries hod hdd ?_)
    refine wpAny_bind (wpAny_pure ?_)
    rw [hes]
    simp only [Bool.not_false, if_true]
    refine wpAny_bind (m := mkInt 0) (wpAny_mkInt ?_)
    refine wpAny_bind (wpAny_newTuple ?_ (by decide +kernel))
    unfold newFields
    refine wpAny_bind (wpAny_newObj_type ?_ (by show 7 ≤ sizeLine + 2; rw [sizeLine_eq]; decide))
    refine wpAny_pure ?_
    refine hq _ _ _ s'.heap.objs.size (fun b o e => Heap.get?_push_of_some _ (Heap.get?_push_of_some _ e)) (Heap.get?_push_size _ rfl) ?_ ?_ ?_
    · exact Heap.get?_push_of_some _ (Heap.get?_push_size _ rfl)
    · show s'.heap.get? (s'.heap.push _).objs.size = none
      rw [Heap.size_push]
      cases q : s'.heap.get? (s'.heap.objs.size + 1) with
      | none => rfl
      | some o => exact absurd (Nat.lt_of_succ_lt (Heap.lt_size q)) (Nat.lt_irrefl _)
    · cases q : s'.heap.get? s'.heap.objs.size with
      | none => rfl
      | some o => exact absurd (Heap.lt_size q) (Nat.lt_irrefl _)
end
end Fl

section
variable {w : World} {A : Around} {E : Value → Shared → Prop} {s₀ : Shared} {c Pl F : Addr} {names : List (Str × Value)} {poss : List (Nat × Nat)} {P : Heap → Prop} {Q : Flow → Shared → Prop} {rest : List Stmt}

noncomputable def PatAt (w : World) (Pl : Addr) (p : Addr) (h : Heap) : Prop :=
  ∃ ad : List Addr, (∀ a ∈ ad, a ≠ Pl ∧ a ≠ mainGlobals) ∧ ∀ h', (∀ a ∈ ad, ∀ o, h.get? a = some o → h'.get? a = some o) → PatOk prog w h' p
theorem PatAt.stay {Pl p : Addr} {h h' : Heap} (k : Kp Pl h h') (x : PatAt w Pl p h) : PatAt w Pl p h' := by
  obtain ⟨ad, n, f⟩ := x
  exact ⟨ad, n, fun h'' kk => f h'' fun a ha o e => kk a ha o (k a o (n a ha).1 (n a ha).2 e)⟩

noncomputable def flB : List UInt8 := match fstmt 2 with
  | .Assign _ (.Call _ (.Constant (.bytes b) _ _ :: _) _ _) _ => b
  | _ => []

theorem me_dict_flags {K : Cx} {env : Env} {k k' : Nat} {pos p p' : Pos} {s : Shared} {Q : Value → Shared → Prop}
    (h : ∀ d s' t, Keeps s s' → s'.heap.DictOf (strKind K.prog K.w) d [(Str.ofString "flags", .int 1 t)] → s.heap.get? d = none → Q (.ref d) s') :
    wpAny (model K.prog K.w) A (eval (.Dict [some (.Constant (.str (Str.ofString "flags")) k p)] [.Constant (.int 1) k' p'] pos) env) Q E s := by
  refine wpAny_Dict_pairs (knd := strKind K.prog K.w) (pairs := [(eval (.Constant (.str (Str.ofString "flags")) k p) env, do let x ← eval (.Constant (.int 1) k' p') env; standAt pos; pure x)]) rfl (by simp) (by simp) ?_
  refine evalPairs_cons (Constant_str (env := env) (k := k) (pos := p) (wpAny_bind (wpAny_Constant_int (wpAny_bind (wpAny_standAt (wpAny_pure (evalPairs_nil ?_)))))))
  refine ⟨[(Str.ofString "flags", .int 1 _)], ⟨strKind_is _ _ _ _, rfl, trivial⟩, ⟨_, #[], 0, Heap.get?_push_size _ rfl, ⟨rfl, rfl, rfl⟩, rfl, fun _ he => by simp at he, .nil, List.nodup_nil⟩, fun h' hd hs => ?_⟩
  refine h _ _ _ ⟨h', _, rfl, fun b o e => ?_⟩ hd ?_
  · exact (hs.2 b (fun q => by subst q; exact absurd (Heap.lt_size e) (Nat.lt_irrefl _))).trans (Heap.get?_push_of_some _ e)
  · cases q : s.heap.get? s.heap.objs.size with
    | none => rfl
    | some o => exact absurd (Heap.lt_size q) (Nat.lt_irrefl _)

theorem call_mod {prog : Program} {env : Env} {o : Expr} {name : Str} {apos pos : Pos} {args : List Expr} {s : Shared} {Q : Value → Shared → Prop} (hbase : attributeBase o name env (eval o env) = eval o env)
    (hfew : ((backTo pos (starEach args env)).all (fun x => !x.1) && (backToKw pos (keywordEach [] env)).all (fun x => x.1.isSome)
      && decide (args.length + ([] : List Keyword).length + (if ([] : List Keyword).isEmpty then 0 else 1) < 30)) = true)
    (hline : (apos.endLine == pos.line) = true)
    (h : wpAny (model prog w) A (eval o env) (fun ov s₁ => ∃ Mo D md id, ov = .ref Mo ∧ Flt.IsCMod s₁.heap Mo D md ∧ typeLookup (.type "module") name = pure none ∧ md name = some (.builtin id) ∧ handedOut (.builtin id) = pure (.builtin id) ∧
      wpAny (model prog w) A (callWith pos (.builtin id) [] (backTo pos (starEach args env)) []) Q E { s₁ with toks := s₁.toks + 1 }) E s) :
    wpAny (model prog w) A (eval (.Call (.Attribute o name apos) args [] pos) env) Q E s := by
  rw [arm_eval_Call, hbase]
  refine wpAny_bind (wpAny_mono h (fun ov s₁ h₁ => ?_) fun _ _ e => e)
  obtain ⟨Mo, D, md, id, rfl, hm, hn, hv, hh, hc⟩ := h₁
  refine wpAny_bind (wpAny_standAt ?_)
  have hform : methodCallForm (args.length + ([] : List Keyword).length) (backTo pos (starEach args env)) (backToKw pos (keywordEach [] env)) = true := hfew
  have hpos : methodCallPos true o env apos pos = pure pos := by unfold methodCallPos; simp [hline]
  unfold methodCall
  rw [hform]
  obtain ⟨hp, g, d, tk, os⟩ := s₁
  refine wpAny_bind (wpAny_holding (Flt.getMethod_module hm hn hv hh ?_))
  exact wpAny_bind (wpAny_of_eq hpos hc)

noncomputable def flL : List Expr := match fstmt 2 with
  | .Assign _ (.Call _ [_, _, .List l _, _, _, _] _ _) _ => l
  | _ => []

theorem st2_pack : ∃ (p1 p2 p3 p4 p5 p6 p7 p8 p9 p10 p11 p12 p13 p14 p15 p16 : Pos) (k1 k2 k3 k4 k5 k6 k7 k8 : Nat) (b : List UInt8) (L : List Expr),
    fstmt 2 = .Assign [.Name (Str.ofString "Flags") p1] (.Call (.Attribute (.Name (Str.ofString "_sre") p2) (Str.ofString "compile") p3)
      [.Constant (.bytes b) k1 p5, .Constant (.int 0) k2 p6, .List L p7, .Constant (.int 1) k3 p8, .Dict [some (.Constant (.str (Str.ofString "flags")) k4 p9)] [.Constant (.int 1) k5 p10] p11,
        .Tuple [.Constant .none k6 p12, .Constant (.str (Str.ofString "flags")) k7 p13] k8 p14] [] p15) p16 ∧ (p3.endLine == p15.line) = true ∧
    (∀ (K : Cx) (A : Around) (env : Env), MEL K A env L (Fl.ns.map D.int)) ∧ (∀ env : Env, starEach L env = L.map fun e => (false, eval e env)) ∧ L.length ≤ 100 :=
  ⟨_, _, _, ⟨0, 0, 0, 0⟩, _, _, _, _, _, _, _, _, _, _, _, _, _, _, _, _, _, _, _, _, flB, flL, rfl, rfl, fun K A env => .cons me_int (.cons me_int (.cons me_int (.cons me_int (.cons me_int (.cons me_int (.cons me_int (.cons me_int (.cons me_int (.cons me_int (.cons me_int (.cons me_int (.cons me_int (.cons me_int (.cons me_int (.cons me_int (.cons me_int (.cons me_int (.cons me_int (.cons me_int (.cons me_int (.cons me_int (.cons me_int (.cons me_int (.cons me_int (.cons me_int (.cons me_int (.cons me_int (.cons me_int (.cons me_int (.cons me_int (.cons me_int (.cons me_int (.cons me_int (.cons me_int (.cons me_int (.cons me_int (.cons me_int (.cons me_int (.nil))))))))))))))))))))))))))))))))))))))), fun env => rfl, by decide +kernel⟩

set_option maxHeartbeats 1000000 in
theorem top_flags (O : Opened w s₀) {h : Heap} {tk : Nat} {st : Stmt} (hst : fstmt 2 = st) (X : Mid s₀ c Pl names poss P h) (n1 : names.lookup (Str.ofString "_sre") = none)
    (k : ∀ a h' tk', Mid s₀ c Pl ((Str.ofString "Flags", .ref a) :: names) poss (fun h => P h ∧ PatAt w Pl a h) h' → wpAny (model prog w) A (execs rest (mainEnv prog c F)) Q E { s₀ with heap := h', toks := tk' }) :
    wpAny (model prog w) A (execs (st :: rest) (mainEnv prog c F)) Q E { s₀ with heap := h, toks := tk } := by
  obtain ⟨p1, p2, p3, p4, p5, p6, p7, p8, p9, p10, p11, p12, p13, p14, p15, p16, k1, k2, k3, k4, k5, k6, k7, k8, b, L, e, hline, hL, hstar, hlen⟩ := st2_pack
  rw [e] at hst
  subst hst
  refine top_assign (x := Str.ofString "Flags") (P' := fun v h => ∃ a, v = .ref a ∧ PatAt w Pl a h) X (by decide +kernel) (by decide) (fun v h h' kk ⟨a, e, p⟩ => ⟨a, e, p.stay kk⟩) (fun Q' hq => ?_) (fun v h' tk' Y => ?_) rfl
  · obtain ⟨Mo, D, md, hsre, hmod, hcomp, hDne⟩ := O.sre
    have hsre' : lay names (s₀.heap.nsMap mainGlobals) (Str.ofString "_sre") = some (.ref Mo) := by
      unfold lay; rw [n1]; exact hsre
    have root : (X.cx O).mg (Str.ofString "_sre") = some (.ref Mo) := hsre'
    have hMne : Mo ≠ mainGlobals := fun q => by
      have h1 := hmod.1
      rw [q] at h1
      obtain ⟨o, es, ep, ho, hd, _⟩ := Heap.Ns.of_isNs O.ismg
      rw [h1] at ho
      cases ho; cases hd
    refine call_mod rfl rfl hline (Name_module rfl rfl (loadGlobal_global (X.cx O).g root ?_) (by decide))
    have hmod' : Flt.IsCMod h Mo D md := ⟨X.keep _ _ hMne hmod.1, hmod.2.at fun o e => X.keep _ o hDne e⟩
    refine ⟨Mo, D, md, _, rfl, hmod', Fl.lk_compile, hcomp, handedOut_of (by decide +kernel), ?_⟩
    refine callWith_builtin rfl (evalArgs_plain ?_)
    have st0 : ∀ b o, (X.cx O).root.get? b = some o → h.get? b = some o := fun _ _ e => e
    refine spliced_cons (me_byt (K := X.cx O) (x := b) (k := k1) (pos := p5) _ _ _ st0 fun v1 s1 kk1 a1 => ?_)
    refine spliced_cons (me_int (K := X.cx O) (i := 0) (k := k2) (pos := p6) _ _ _ (fun b o e => khp kk1 b o e) fun v2 s2 kk2 a2 => ?_)
    have t2 := ktrans kk1 kk2
    refine spliced_cons (me_list (K := X.cx O) (pos := p7) (hL _ _ _) hlen (hstar _) _ _ _ (fun b o e => khp t2 b o e) fun v3 s3 kk3 a3 => ?_)
    have t3 := ktrans t2 kk3
    refine spliced_cons (me_int (K := X.cx O) (i := 1) (k := k3) (pos := p8) _ _ _ (fun b o e => khp t3 b o e) fun v4 s4 kk4 a4 => ?_)
    have t4 := ktrans t3 kk4
    refine spliced_cons (me_dict_flags (K := X.cx O) (k := k4) (k' := k5) (p := p9) (p' := p10) (pos := p11) fun d s5 td kk5 hd hfd => ?_)
    have t5 := ktrans t4 kk5
    refine spliced_cons (me_tuple (K := X.cx O) (k := k8) (pos := p14) (ds := [.none, .str (Str.ofString "flags")]) (.cons (me_none (k := k6) (pos := p12)) (.cons (me_str (k := k7) (pos := p13)) .nil)) (by simp) rfl _ _ _ (fun b o e => khp t5 b o e) fun v6 s6 kk6 a6 => spliced_nil ?_)
    have t6 := ktrans t5 kk6
    obtain ⟨u1, rfl⟩ := a1.byt_inv
    obtain ⟨u2, rfl⟩ := a2.int_inv
    obtain ⟨l, vs, rfl, _, hls, hvs⟩ := a3.lst_inv
    obtain ⟨u4, rfl⟩ := a4.int_inv
    obtain ⟨tp, tvs, rfl, _, htp, _⟩ := a6.tup_inv
    have up36 : ∀ b o, s3.heap.get? b = some o → s6.heap.get? b = some o := fun b o e => khp kk6 _ _ (khp kk5 _ _ (khp kk4 _ _ e))
    have hls6 : s6.heap.IsList l vs.toArray := IsList_at hls fun o e => up36 _ o e
    have hd6 : s6.heap.DictOf (strKind prog w) d [(Str.ofString "flags", .int 1 td)] := by
      obtain ⟨o, es, ep, ho, r⟩ := hd
      exact ⟨o, es, ep, khp kk6 _ _ ho, r⟩
    have hdh : h.get? d = none := by
      cases q : h.get? d with
      | none => rfl
      | some o => rw [khp t4 _ _ q] at hfd; cases hfd
    have hdsys : (d == sysModules) = false := by
      refine beq_false_of_ne fun q => ?_
      obtain ⟨o, ho⟩ := O.sys
      rw [q, X.keep _ _ (by decide) ho] at hdh
      cases hdh
    show wpAny (model prog w) A (call (.builtin "_sre.compile") [.bytes b.toArray u1, .int 0 u2, .ref l, .int 1 u4, .ref d, .ref tp]) Q' E s6
    refine Fl.compile_call hls6 (by simpa using intsAre_of hvs) hd6 htp hdsys fun h' tk' p ca up hp hca fp fca => ?_
    have es : ({ s6 with heap := h', toks := tk' + 1 } : Shared) = { s₀ with heap := h', toks := tk' + 1 } := by
      obtain ⟨_, _, e, _⟩ := t6
      rw [e]
    rw [es]
    have hph : h.get? p = none := by
      cases q : h.get? p with
      | none => rfl
      | some o => rw [khp t6 _ _ q] at fp; cases fp
    have hcah : h.get? ca = none := by
      cases q : h.get? ca with
      | none => rfl
      | some o => rw [khp t6 _ _ q] at fca; cases fca
    refine hq _ h' _ (fun b o e => up _ _ (khp t6 _ _ e)) ⟨p, rfl, [p, ca, d], ?_, fun h'' kk => ?_⟩
    · intro a ha
      simp only [List.mem_cons, List.not_mem_nil, or_false] at ha
      rcases ha with rfl | rfl | rfl
      · exact X.fresh_ne hph
      · exact X.fresh_ne hcah
      · exact X.fresh_ne hdh
    · refine ⟨_, _, kk p (by simp) _ hp, rfl, rfl, rfl, rfl, rfl, ⟨ca, _, _, _, rfl, kk ca (by simp) _ hca, rfl, ?_⟩, d, _, rfl, Heap.DictOf.mapOf (kvs := [(Str.ofString "flags", .int 1 td)]) ?_, td, ?_⟩
      · decide +kernel
      · obtain ⟨o, es, ep, ho, r⟩ := hd6
        exact ⟨o, es, ep, kk d (by simp) _ (up _ _ ho), r⟩
      · unfold valueAt
        simp
  · obtain ⟨a, rfl, p⟩ := Y.fact.2
    exact k a h' tk' ⟨Y.main, Y.keep, Y.fresh, Y.freshc, fun h h' kk p => ⟨(Y.stay _ _ kk ⟨p.1, a, rfl, p.2⟩).1, p.2.stay kk⟩, ⟨Y.fact.1, p⟩⟩
end
end Mine
end

section
set_option Elab.async false
set_option maxRecDepth 1000000
set_option autoImplicit false
set_option linter.unusedVariables false
namespace Mine
open PySem PySem.Calls PyProof.Rows PySem.W

section
variable {w : World} {A : Around} {E : Value → Shared → Prop} {s₀ : Shared} {c Pl F : Addr} {names : List (Str × Value)} {poss : List (Nat × Nat)} {P : Heap → Prop} {Q : Flow → Shared → Prop} {rest : List Stmt}

noncomputable def nameSt (i : Nat) : Prop := ∃ p' pos p₂ y n, fstmt i = .Assign [.Name (Str.ofString "__name__") p'] (.Constant (.str y) n p₂) pos
theorem nameSt1 : nameSt 1 := ⟨_, _, _, _, _, rfl⟩
theorem nameSt5 : nameSt 5 := ⟨_, _, _, _, _, rfl⟩
theorem nameSt7 : nameSt 7 := ⟨_, _, _, _, _, rfl⟩
theorem nameSt14 : nameSt 14 := ⟨_, _, _, _, _, rfl⟩
theorem top_name {i : Nat} (hi : nameSt i) {st : Stmt} (hst : fstmt i = st) {h : Heap} {tk : Nat} (X : Mid s₀ c Pl names poss P h)
    (k : ∀ v h' tk', Mid s₀ c Pl ((Str.ofString "__name__", v) :: names) poss P h' → wpAny (model prog w) A (execs rest (mainEnv prog c F)) Q E { s₀ with heap := h', toks := tk' }) :
    wpAny (model prog w) A (execs (st :: rest) (mainEnv prog c F)) Q E { s₀ with heap := h, toks := tk } := by
  obtain ⟨p', pos, p₂, y, n, e⟩ := hi
  rw [e] at hst
  subst hst
  refine top_str X (by decide +kernel) (by decide) fun v h' tk' Y => k v h' tk' ⟨Y.main, Y.keep, Y.fresh, Y.freshc, X.stay, Y.fact.1⟩

noncomputable def posOk (poss : List (Nat × Nat)) (p : Nat × Nat) : Bool := poss.all fun q => !(q.1 == p.1 && q.2 == p.2)
theorem top_fn {h : Heap} {tk : Nat} {d : DefRec} {st : Stmt} (hst : d.stmt = st) {x : Str} {p : Nat × Nat} (X : Mid s₀ c Pl names poss P h) (hd : d.Plain prog) (hx : d.name = x) (hp : (d.pos.line, d.pos.col) = p) (hq : posOk poss p = true)
    (k : ∀ a h' tk', Mid s₀ c Pl ((x, .ref a) :: names) (poss ++ [p]) (fun h => P h ∧ DefAt Pl d a h) h' →
      wpAny (model prog w) A (execs rest (mainEnv prog c F)) Q E { s₀ with heap := h', toks := tk' }) :
    wpAny (model prog w) A (execs (st :: rest) (mainEnv prog c F)) Q E { s₀ with heap := h, toks := tk } := by
  subst hst hx hp
  exact top_def X hd hq k

noncomputable def namesL (v1 pf f3 f4 v5 f6 v7 a8 f9 a10 f11 a12 f13 v14 f15 f16 f17 f18 f19 : Value) : List (Str × Value) :=
  [("law", f19), ("_law_inside", f18), ("_law_common", f17), ("_law_read", f16), ("_law_sign", f15), ("__name__", v14), ("in_table_c7", f13), ("c7_set", a12), ("map_table_b3", f11), ("b3_exceptions", a10),
    ("in_table_b1", f9), ("b1_set", a8), ("__name__", v7), ("rgb_to_hsv", f6), ("__name__", v5), ("ParseFlags", f4), ("Int2AP", f3), ("Flags", pf), ("__name__", v1)]

/-- what stands behind the top -/
structure Stands (w : World) (s₀ : Shared) (c Pl : Addr) (h : Heap) where
  v1 : Value
  pf : Addr
  f3 : Addr
  f4 : Addr
  v5 : Value
  f6 : Addr
  v7 : Value
  a8 : Addr
  f9 : Addr
  a10 : Addr
  f11 : Addr
  a12 : Addr
  f13 : Addr
  v14 : Value
  f15 : Addr
  f16 : Addr
  f17 : Addr
  f18 : Addr
  f19 : Addr
  poss : List (Nat × Nat)
  mid : Mid s₀ c Pl (namesL v1 (.ref pf) (.ref f3) (.ref f4) v5 (.ref f6) v7 (.ref a8) (.ref f9) (.ref a10) (.ref f11) (.ref a12) (.ref f13) v14 (.ref f15) (.ref f16) (.ref f17) (.ref f18) (.ref f19)) poss (fun _ => True) h
  pat : PatAt w Pl pf h
  d3 : DefAt Pl (drec 3) f3 h
  d4 : DefAt Pl (drec 4) f4 h
  d6 : DefAt Pl (drec 6) f6 h
  d9 : DefAt Pl (drec 9) f9 h
  d11 : DefAt Pl (drec 11) f11 h
  d13 : DefAt Pl (drec 13) f13 h
  d15 : DefAt Pl (drec 15) f15 h
  d16 : DefAt Pl (drec 16) f16 h
  d17 : DefAt Pl (drec 17) f17 h
  d18 : DefAt Pl (drec 18) f18 h
  d19 : DefAt Pl (drec 19) f19 h
  s8 : SetAt w Pl a8 SetB1 h
  m10 : MapAt w Pl a10 h
  s12 : SetAt w Pl a12 SetC7 h

set_option maxHeartbeats 4000000 in
theorem top_all (O : Opened w s₀) {h : Heap} {tk : Nat} (hh : A.handled = none) (X : Mid s₀ c Pl [] [] (fun _ => True) h)
    (k : ∀ h' tk', Nonempty (Stands w s₀ c Pl h') → Q .next { s₀ with heap := h', toks := tk' }) :
    wpAny (model prog w) A (execs [fstmt 1, fstmt 2, (drec 3).stmt, (drec 4).stmt, fstmt 5, (drec 6).stmt, fstmt 7, fstmt 8, (drec 9).stmt, fstmt 10, (drec 11).stmt, fstmt 12, (drec 13).stmt, fstmt 14,
      (drec 15).stmt, (drec 16).stmt, (drec 17).stmt, (drec 18).stmt, (drec 19).stmt] (mainEnv prog c F)) Q E { s₀ with heap := h, toks := tk } := by
  generalize e1 : fstmt 1 = st1
  generalize e2 : fstmt 2 = st2
  generalize e3 : (drec 3).stmt = st3
  generalize e4 : (drec 4).stmt = st4
  generalize e5 : fstmt 5 = st5
  generalize e6 : (drec 6).stmt = st6
  generalize e7 : fstmt 7 = st7
  generalize e8 : fstmt 8 = st8
  generalize e9 : (drec 9).stmt = st9
  generalize e10 : fstmt 10 = st10
  generalize e11 : (drec 11).stmt = st11
  generalize e12 : fstmt 12 = st12
  generalize e13 : (drec 13).stmt = st13
  generalize e14 : fstmt 14 = st14
  generalize e15 : (drec 15).stmt = st15
  generalize e16 : (drec 16).stmt = st16
  generalize e17 : (drec 17).stmt = st17
  generalize e18 : (drec 18).stmt = st18
  generalize e19 : (drec 19).stmt = st19
  refine top_name nameSt1 e1 X fun v1 h₁ t₁ X₁ => ?_
  refine top_flags O e2 X₁ rfl fun pf h₂ t₂ X₂ => ?_
  refine top_fn (x := Str.ofString "Int2AP") e3 X₂ plain3 rfl rfl rfl fun f3 h₃ t₃ X₃ => ?_
  refine top_fn (x := Str.ofString "ParseFlags") e4 X₃ plain4 rfl rfl rfl fun f4 h₄ t₄ X₄ => ?_
  refine top_name nameSt5 e5 X₄ fun v5 h₅ t₅ X₅ => ?_
  refine top_fn (x := Str.ofString "rgb_to_hsv") e6 X₅ plain6 rfl rfl rfl fun f6 h₆ t₆ X₆ => ?_
  refine top_name nameSt7 e7 X₆ fun v7 h₇ t₇ X₇ => ?_
  refine top_b1 O e8 hh X₇ rfl rfl rfl fun a8 h₈ t₈ X₈ => ?_
  refine top_fn (x := Str.ofString "in_table_b1") e9 X₈ plain9 rfl rfl rfl fun f9 h₉ t₉ X₉ => ?_
  refine top_b3 O e10 X₉ fun a10 h₁₀ t₁₀ X₁₀ => ?_
  refine top_fn (x := Str.ofString "map_table_b3") e11 X₁₀ plain11 rfl rfl rfl fun f11 h₁₁ t₁₁ X₁₁ => ?_
  refine top_c7 O e12 hh X₁₁ rfl rfl fun a12 h₁₂ t₁₂ X₁₂ => ?_
  refine top_fn (x := Str.ofString "in_table_c7") e13 X₁₂ plain13 rfl rfl rfl fun f13 h₁₃ t₁₃ X₁₃ => ?_
  refine top_name nameSt14 e14 X₁₃ fun v14 h₁₄ t₁₄ X₁₄ => ?_
  refine top_fn (x := Str.ofString "_law_sign") e15 X₁₄ plain15 rfl rfl rfl fun f15 h₁₅ t₁₅ X₁₅ => ?_
  refine top_fn (x := Str.ofString "_law_read") e16 X₁₅ plain16 rfl rfl rfl fun f16 h₁₆ t₁₆ X₁₆ => ?_
  refine top_fn (x := Str.ofString "_law_common") e17 X₁₆ plain17 rfl rfl rfl fun f17 h₁₇ t₁₇ X₁₇ => ?_
  refine top_fn (x := Str.ofString "_law_inside") e18 X₁₇ plain18 rfl rfl rfl fun f18 h₁₈ t₁₈ X₁₈ => ?_
  refine top_fn (x := Str.ofString "law") e19 X₁₈ plain19 rfl rfl rfl fun f19 h₁₉ t₁₉ X₁₉ => ?_
  refine wpAny_execs_nil (k _ _ ⟨?_⟩)
  obtain ⟨⟨⟨⟨⟨⟨⟨⟨⟨⟨⟨⟨⟨⟨⟨_, q2⟩, q3⟩, q4⟩, q6⟩, q8⟩, q9⟩, q10⟩, q11⟩, q12⟩, q13⟩, q15⟩, q16⟩, q17⟩, q18⟩, q19⟩ := X₁₉.fact
  exact ⟨v1, pf, f3, f4, v5, f6, v7, a8, f9, a10, f11, a12, f13, v14, f15, f16, f17, f18, f19, _, ⟨X₁₉.main, X₁₉.keep, X₁₉.fresh, X₁₉.freshc, fun _ _ _ _ => trivial, trivial⟩,
    q2, q3, q4, q6, q9, q11, q13, q15, q16, q17, q18, q19, q8, q10, q12⟩
end
end Mine
end

section
set_option Elab.async false
set_option maxRecDepth 1000000
set_option autoImplicit false
set_option linter.unusedVariables false
namespace Mine
open PySem PySem.Calls PyProof.Rows PySem.W

theorem isNs_of {h : Heap} {a : Addr} {m : Str → Option Value} (x : h.Ns a m) : h.isNs a = true := by
  obtain ⟨o, es, ep, ho, hd, hk, _⟩ := x
  unfold Heap.isNs
  rw [ho]; dsimp only; rw [hd]; dsimp only
  rw [Array.all_eq_true_iff_forall_mem]
  intro e he
  obtain ⟨y, t, e1⟩ := hk e he
  rw [e1]

/-- the stub's thread -/
theorem top_tree {w : World} {s₀ : Shared} (O : Opened w s₀) {P : Shared → Prop}
    (k : ∀ c Pl h tk, Nonempty (Stands w s₀ c Pl h) → P { s₀ with heap := h, toks := tk }) :
    wpAny (model prog w) callerA (topStub prog).cur (fun fin s' => ∃ f, fin = .done f ∧ (s'.gens = #[] ∧ P s')) (fun _ _ => False) s₀ := by
  unfold topStub
  dsimp only
  refine wpAny_bind (wpAny_moduleCode fun c Pl h tk hk hc hPl hcode => ?_)
  unfold newBodyFrame
  have hg : s₀.heap.Ns mainGlobals (s₀.heap.nsMap mainGlobals) := .of_isNs O.ismg
  refine wpAny_bind (wpAny_bind (wpAny_nsGet (hg.keeps hk) (wpAny_alloc ?_)))
  generalize ho : (Obj.mk (Value.type "frame") none _ _ : Obj) = fr
  have up : ∀ b o, s₀.heap.get? b = some o → (h.push fr).get? b = some o := fun b o e => Heap.get?_push_of_some _ (hk b o e)
  have hX : Mid s₀ c Pl [] [] (fun _ => True) (h.push fr) := by
    refine ⟨⟨[], rfl, ?_⟩, fun b o _ e => up b o e, hPl, hc, fun _ _ _ _ => trivial, trivial⟩
    obtain ⟨bm, ob, b1, b2, b3, b4, b5, b6⟩ := O.bm
    have l1 : mainGlobals < c := Nat.lt_of_lt_of_le O.low2 hc
    have l2 : mainGlobals < Pl := Nat.lt_of_lt_of_le O.low2 hPl
    refine ⟨?_, hcode.keeps fun b o e => Heap.get?_push_of_some _ e, ⟨l1, l2⟩, bm, ob, b1, b2, ?_, ?_, up _ _ b3, b4, b5, b6⟩
    · have e : lay [] (s₀.heap.nsMap mainGlobals) = s₀.heap.nsMap mainGlobals := by funext x; rfl
      rw [e]
      exact hg.keeps up
    · rintro rfl
      obtain ⟨o, es, ep, ho, hd, _⟩ := hg
      rw [b3] at ho; cases ho
      rw [b6] at hd; cases hd
    · rintro rfl
      exact absurd (Heap.lt_size b3) (Nat.not_lt.mpr hPl)
  refine wpAny_bind (wpAny_run (codeAny_body (by rw [behind_eq]; decide +kernel) (by rw [behind_eq]; decide +kernel) ?_))
  rw [behind_eq]
  refine wpAny_mono (E := fun _ _ => False) (top_all (c := c) (F := h.objs.size) (Q := fun f s' => f = .next ∧ ∃ h' tk', s' = { s₀ with heap := h', toks := tk' } ∧ Nonempty (Stands w s₀ c Pl h')) O rfl hX fun h' tk' St => ⟨rfl, h', tk', rfl, St⟩) (fun f s' ⟨_, h', tk', e, St⟩ => ?_) fun _ _ x => x.elim
  subst e
  exact wpAny_pure ⟨_, rfl, O.gens, k c Pl h' tk' St⟩

end Mine
end

section
set_option Elab.async false
set_option maxRecDepth 1000000
set_option autoImplicit false
set_option linter.unusedVariables false
namespace Mine
open PySem PySem.Calls PyProof.Rows PySem.W

section
variable {w : World} {s₀ : Shared} {c Pl : Addr} {h : Heap}

theorem fnAt_of {K : Cx} {i : Nat} {a : Addr} {ns : List Str} (D : DefAt Pl (drec i) a K.root) (e1 : (drec i).scope = sScope (fstmt i)) (e2 : (drec i).body = sBody (fstmt i)) (kind : (sScope (fstmt i)).kind = .function)
    (co : (sScope (fstmt i)).isCoroutine = false) (gen : (sScope (fstmt i)).isGenerator = false) (nd : ns.Nodup) (loc : ∀ x ∈ ns, (sScope (fstmt i)).names.lookup x = some .local) (cell : ∀ x ∈ (sScope (fstmt i)).names, x.2 ≠ .cell)
    (bind : ∀ pm cd doc, ∀ vs : List Value, vs.length = ns.length → bindArgs ((drec i).data pm cd doc) ⟨vs, []⟩ = pure (ns.zip vs)) : FnAt K a i ns := by
  obtain ⟨_, _, o, pm, c', doc, h1, h2, _, _, h5⟩ := D
  exact ⟨o, _, h1, h2, ⟨e1, by show FuncBody.stmts (drec i).body = _; rw [e2], rfl, rfl, rfl, kind, co, gen, nd, loc, cell⟩, h5, bind pm _ doc⟩

theorem two_of {l : List Value} (h : l.length = 2) : ∃ v u, l = [v, u] := by
  obtain ⟨v, l, rfl⟩ := List.exists_cons_of_length_eq_add_one h
  obtain ⟨u, rfl⟩ := List.length_eq_one_iff.mp (Nat.succ.inj h)
  exact ⟨v, u, rfl⟩
theorem bind1 {d : DefRec} {x : Str} (h : ∀ (pm cd doc v : Value), bindArgs (d.data pm cd doc) ⟨[v], []⟩ = pure [(x, v)]) (pm cd doc : Value) (vs : List Value) (hv : vs.length = [x].length) : bindArgs (d.data pm cd doc) ⟨vs, []⟩ = pure ([x].zip vs) := by
  obtain ⟨v, rfl⟩ := List.length_eq_one_iff.mp hv
  exact h pm cd doc v
theorem bind2 {d : DefRec} {x y : Str} (h : ∀ (pm cd doc v u : Value), bindArgs (d.data pm cd doc) ⟨[v, u], []⟩ = pure [(x, v), (y, u)]) (pm cd doc : Value) (vs : List Value) (hv : vs.length = [x, y].length) : bindArgs (d.data pm cd doc) ⟨vs, []⟩ = pure ([x, y].zip vs) := by
  obtain ⟨v, u, rfl⟩ := two_of hv
  exact h pm cd doc v u
theorem bind3 {d : DefRec} {x y z : Str} (h : ∀ (pm cd doc v u t : Value), bindArgs (d.data pm cd doc) ⟨[v, u, t], []⟩ = pure [(x, v), (y, u), (z, t)]) (pm cd doc : Value) (vs : List Value) (hv : vs.length = [x, y, z].length) : bindArgs (d.data pm cd doc) ⟨vs, []⟩ = pure ([x, y, z].zip vs) := by
  obtain ⟨v, vs, rfl⟩ := List.exists_cons_of_length_eq_add_one hv
  obtain ⟨u, t, rfl⟩ := two_of (Nat.succ.inj hv)
  exact h pm cd doc v u t

theorem mg_some {names : List (Str × Value)} {poss : List (Nat × Nat)} {P : Heap → Prop} (O : Opened w s₀) (X : Mid s₀ c Pl names poss P h) {x : Str} {v : Value} (e : names.lookup x = some v) : (X.cx O).mg x = some v := lay_some e
theorem mg_none {names : List (Str × Value)} {poss : List (Nat × Nat)} {P : Heap → Prop} (O : Opened w s₀) (X : Mid s₀ c Pl names poss P h) {x : Str} (e : names.lookup x = none) (hx : x ∈ freeNames) : (X.cx O).mg x = none := lay_none e (O.free x hx)

set_option maxHeartbeats 2000000 in
/-- the module behind the top -/
noncomputable def gx_of (O : Opened w s₀) (S : Stands w s₀ c Pl h) : Gx (S.mid.cx O) where
  f3 := S.f3
  f4 := S.f4
  f6 := S.f6
  f9 := S.f9
  f11 := S.f11
  f13 := S.f13
  f15 := S.f15
  f16 := S.f16
  f17 := S.f17
  f18 := S.f18
  a8 := S.a8
  a10 := S.a10
  a12 := S.a12
  pf := S.pf
  g3 := mg_some O S.mid rfl
  g4 := mg_some O S.mid rfl
  g6 := mg_some O S.mid rfl
  g8 := mg_some O S.mid rfl
  g9 := mg_some O S.mid rfl
  g10 := mg_some O S.mid rfl
  g11 := mg_some O S.mid rfl
  g12 := mg_some O S.mid rfl
  g13 := mg_some O S.mid rfl
  g15 := mg_some O S.mid rfl
  g16 := mg_some O S.mid rfl
  g17 := mg_some O S.mid rfl
  g18 := mg_some O S.mid rfl
  gF := mg_some O S.mid rfl
  d3 := fnAt_of S.d3 rfl rfl rfl rfl rfl (by decide) (by decide +kernel) (by decide +kernel) (bind1 fun _ _ _ _ => rfl)
  d4 := fnAt_of S.d4 rfl rfl rfl rfl rfl (by decide) (by decide +kernel) (by decide +kernel) (bind1 fun _ _ _ _ => rfl)
  d6 := fnAt_of S.d6 rfl rfl rfl rfl rfl (by decide) (by decide +kernel) (by decide +kernel) (bind3 fun _ _ _ _ _ _ => rfl)
  d9 := fnAt_of S.d9 rfl rfl rfl rfl rfl (by decide) (by decide +kernel) (by decide +kernel) (bind1 fun _ _ _ _ => rfl)
  d11 := fnAt_of S.d11 rfl rfl rfl rfl rfl (by decide) (by decide +kernel) (by decide +kernel) (bind1 fun _ _ _ _ => rfl)
  d13 := fnAt_of S.d13 rfl rfl rfl rfl rfl (by decide) (by decide +kernel) (by decide +kernel) (bind1 fun _ _ _ _ => rfl)
  d15 := fnAt_of S.d15 rfl rfl rfl rfl rfl (by decide) (by decide +kernel) (by decide +kernel) (bind2 fun _ _ _ _ _ => rfl)
  d16 := fnAt_of S.d16 rfl rfl rfl rfl rfl (by decide) (by decide +kernel) (by decide +kernel) (bind1 fun _ _ _ _ => rfl)
  d17 := fnAt_of S.d17 rfl rfl rfl rfl rfl (by decide) (by decide +kernel) (by decide +kernel) (bind2 fun _ _ _ _ _ => rfl)
  d18 := fnAt_of S.d18 rfl rfl rfl rfl rfl (by decide) (by decide +kernel) (by decide +kernel) (bind2 fun _ _ _ _ _ => rfl)
  s8 := let ⟨_, _, S', n, a, b⟩ := S.s8; ⟨S', n, a, b⟩
  s12 := let ⟨_, _, S', n, a, b⟩ := S.s12; ⟨S', n, a, b⟩
  m10 := let ⟨_, _, _, m, a, b⟩ := S.m10; ⟨m, a, b⟩
  m10s := beq_false_of_ne S.m10.2.2.1
  pat := let ⟨_, _, f⟩ := S.pat; f _ fun _ _ _ e => e
  nb := let ⟨m, a, b⟩ := O.nb; ⟨m, a.at fun o e => S.mid.keep _ o (by decide) e, b⟩
  n_abs := mg_none O S.mid rfl (by decide)
  n_int := mg_none O S.mid rfl (by decide)
  n_divmod := mg_none O S.mid rfl (by decide)
  n_ord := mg_none O S.mid rfl (by decide)
  n_chr := mg_none O S.mid rfl (by decide)
  n_max := mg_none O S.mid rfl (by decide)
  n_min := mg_none O S.mid rfl (by decide)
  n_len := mg_none O S.mid rfl (by decide)
  n_sum := mg_none O S.mid rfl (by decide)
  n_list := mg_none O S.mid rfl (by decide)
  n_tuple := mg_none O S.mid rfl (by decide)
  n_range := mg_none O S.mid rfl (by decide)
  n_sorted := mg_none O S.mid rfl (by decide)
  n_zip := mg_none O S.mid rfl (by decide)

set_option maxHeartbeats 2000000 in
theorem law_of (O : Opened w s₀) (S : Stands w s₀ c Pl h) : LawAt (S.mid.cx O) S.f19 := by
  obtain ⟨_, _, o, pm, c', doc, h1, h2, _, _, h5⟩ := S.d19
  exact ⟨o, _, h1, h2, rfl, rfl, rfl, rfl, rfl, h5, fun v => rfl⟩
end
end Mine
end

section
set_option Elab.async false
set_option maxRecDepth 1000000
set_option autoImplicit false
set_option linter.unusedVariables false
namespace Mine
open PySem PySem.Calls PyProof.Rows PySem.W

theorem ran_at {w : World} {s₀ s₁ : Shared} {c Pl : Addr} (O : Opened w s₀) (S : Stands w s₀ c Pl s₁.heap) (hos : s₁.os = s₀.os) (hg : s₁.gens = #[]) (hlife : s₁.heap.life = s₀.heap.life)
    (hr : ∃ n t, schedN (denote table) prog w n (.single s₀ (topStub prog)) = .running (.single s₁ t) ∧ through t = true) : TopRan prog w s₀ s₁ := by
  have hS : ∀ b o, s₀.heap.get? b = some o → b ≠ mainNs → s₁.heap.get? b = some o := fun b o e hb => S.mid.keep b o hb e
  obtain ⟨mc, hcs, _⟩ := O.lim
  obtain ⟨oc, _, _, hoc, _⟩ := hcs
  have hoc' : s₁.heap.get? cStatics = some oc := hS _ _ hoc (by decide)
  have est : staticOf s₁.heap = staticOf s₀.heap := by funext k; unfold staticOf; rw [hoc, hoc']
  have hgl : s₁.heap.Ns mainGlobals (S.mid.cx O).mg := (S.mid.cx O).g
  have hgs : s₁.heap.isNs mainGlobals = true := isNs_of hgl
  have glo : ∀ x, globalOf s₁.heap x = (S.mid.cx O).mg x := fun x => (Pin.globalOf_eq hgs x).trans (congrFun hgl.eq_nsMap x).symm
  have glo0 : ∀ x, globalOf s₀.heap x = s₀.heap.nsMap mainGlobals x := fun x => Pin.globalOf_eq O.ismg x
  have hbn : s₁.heap.Ns builtinsNs (s₀.heap.nsMap builtinsNs) := (S.mid.cx O).b
  have hbs : s₁.heap.isNs builtinsNs = true := isNs_of hbn
  refine ⟨hr, hlife, Shared.rest_eq hos, fun b o e hn => hS b o e fun q => hn (.inl q), ?_, fun k => .inl (by rw [est]), Pin.keysAreStrs_of hgs, fun x hx => ?_, ?_, fun g hm => ?_, fun x v hv => ?_, fun x hx => ?_⟩
  · have h := Heap.accountedI_of_ok O.acc
    unfold staticsAccountedI at h ⊢
    rw [est]
    exact h
  · rw [Pin.builtinOf_eq hbs, ← congrFun hbn.eq_nsMap x]
    exact O.blt x hx
  · obtain ⟨bm, ob, b1, b2, b3, b4, b5, b6⟩ := O.bm
    refine ⟨bm, ob, (glo _).trans ?_, hS _ _ b3 ?_, b4, b5⟩
    · exact b1
    · rintro rfl
      obtain ⟨o, es, ep, ho, hd, _⟩ := Heap.Ns.of_isNs O.ismg
      have ho' : s₀.heap.get? mainNs = some o := ho
      rw [b3] at ho'; cases ho'
      rw [b6] at hd; cases hd
  · rw [hg] at hm; simp at hm
  · rw [glo] at hv
    have hv' : lay _ _ x = some v := hv
    unfold lay at hv'
    cases hl : List.lookup x (namesL S.v1 (.ref S.pf) (.ref S.f3) (.ref S.f4) S.v5 (.ref S.f6) S.v7 (.ref S.a8) (.ref S.f9) (.ref S.a10) (.ref S.f11) (.ref S.a12) (.ref S.f13) S.v14 (.ref S.f15) (.ref S.f16) (.ref S.f17) (.ref S.f18) (.ref S.f19)) with
    | none =>
      rw [hl] at hv'
      exact O.bound x v hv'
    | some u =>
      have hm : x ∈ ((namesL S.v1 (.ref S.pf) (.ref S.f3) (.ref S.f4) S.v5 (.ref S.f6) S.v7 (.ref S.a8) (.ref S.f9) (.ref S.a10) (.ref S.f11) (.ref S.a12) (.ref S.f13) S.v14 (.ref S.f15) (.ref S.f16) (.ref S.f17) (.ref S.f18) (.ref S.f19)).map (·.1)) :=
        List.mem_map.mpr ⟨(x, u), mem_of_lookup hl, rfl⟩
      have hall : ∀ y ∈ ([("law" : Str), "_law_inside", "_law_common", "_law_read", "_law_sign", "__name__", "in_table_c7", "c7_set", "map_table_b3", "b3_exceptions", "in_table_b1", "b1_set", "__name__", "rgb_to_hsv", "__name__", "ParseFlags", "Int2AP", "Flags", "__name__"] : List Str), y ∈ startupNames ∨ y ∈ prog.boundNames := by decide +kernel
      exact hall x hm
  · rw [glo, glo0]
    show lay _ _ x = _
    have hno : ∀ y ∈ laidNames, List.lookup y (namesL S.v1 (.ref S.pf) (.ref S.f3) (.ref S.f4) S.v5 (.ref S.f6) S.v7 (.ref S.a8) (.ref S.f9) (.ref S.a10) (.ref S.f11) (.ref S.a12) (.ref S.f13) S.v14 (.ref S.f15) (.ref S.f16) (.ref S.f17) (.ref S.f18) (.ref S.f19)) = none := by
      intro y hy
      unfold laidNames at hy
      simp only [List.mem_cons, List.not_mem_nil, or_false] at hy
      rcases hy with rfl | rfl | rfl | rfl | rfl <;> rfl
    unfold lay
    rw [hno x hx]
    rfl

theorem head_ran {w : World} {s₀ : Shared} (O : Opened w s₀) : ∃ s₁ c Pl, TopRan prog w s₀ s₁ ∧ s₁.asleep ∧ s₁.gens = #[] ∧ s₁.os = s₀.os ∧ Nonempty (Stands w s₀ c Pl s₁.heap) := by
  obtain ⟨n, s₁, τ, hs, hth, hl, hg, ⟨hos, c, Pl, ⟨S⟩⟩⟩ := ran_of_wp (P := fun s' => s'.os = s₀.os ∧ ∃ c Pl, Nonempty (Stands w s₀ c Pl s'.heap)) O.z (top_tree O (P := fun s' => s'.os = s₀.os ∧ ∃ c Pl, Nonempty (Stands w s₀ c Pl s'.heap)) fun c Pl h tk S => ⟨rfl, c, Pl, S⟩)
  exact ⟨s₁, c, Pl, ran_at O S hos hg hl ⟨n, τ, hs, hth⟩, Shared.asleep_of_life hl O.z, hg, hos, ⟨S⟩⟩

theorem pinned_law {w : World} {s₀ s₁ : Shared} {c Pl : Addr} (O : Opened w s₀) (S : Stands w s₀ c Pl s₁.heap) : isTheDefsW prog s₁.heap (Str.ofString "law") := by
  obtain ⟨_, _, o, pm, c', doc, h1, h2, _, _, h5⟩ := S.d19
  have hgl : s₁.heap.Ns mainGlobals (S.mid.cx O).mg := (S.mid.cx O).g
  have hgs : s₁.heap.isNs mainGlobals = true := isNs_of hgl
  have glo : ∀ x, globalOf s₁.heap x = (S.mid.cx O).mg x := fun x => (Pin.globalOf_eq hgs x).trans (congrFun hgl.eq_nsMap x).symm
  refine ⟨S.f19, o, _, (drec 19).params, (drec 19).body, (drec 19).scope, (glo _).trans (mg_some O S.mid rfl), h1, h2, ?_, rfl, rfl, rfl, rfl, rfl, rfl, rfl, rfl, ?_⟩
  · rfl
  · exact ⟨.inl ⟨rfl, rfl⟩, [], rfl, .inl ⟨rfl, rfl⟩⟩

end Mine
end

section
set_option Elab.async false
set_option maxRecDepth 1000000
set_option autoImplicit false
set_option linter.unusedVariables false
namespace Mine
open PySem PySem.Calls PyProof.Rows PySem.W

theorem ints_has {R : WRecords} : ∀ (xs : List WData), WShape.hasItems R xs .int = true → ∃ sc : List Int, xs = sc.map WData.int
  | [], _ => ⟨[], rfl⟩
  | x :: xs, h => by
    unfold WShape.hasItems at h
    obtain ⟨h1, h2⟩ := Bool.and_eq_true_iff.mp h
    obtain ⟨sc, rfl⟩ := ints_has xs h2
    cases x with
    | int i => exact ⟨i :: sc, rfl⟩
    | _ => simp [WShape.has, WShape.arms] at h1

theorem at_ints {R : WRecords} {cl : Str → Option Addr} {h : Heap} : ∀ (sc : List Int) (vs : List Value) (as : List Addr), ReadsAllW R cl h vs (sc.map WData.int) as → AtL h [] vs (sc.map D.int)
  | [], vs, as, x => by cases x; exact AtL.nil
  | i :: sc, vs, as, x => by
    rw [List.map_cons] at x
    cases x with
    | cons x y =>
      cases x with
      | int _ t => exact AtL.cons (.int i t) (at_ints sc _ _ y)

noncomputable abbrev lawRow := PySem.Challenge.rw_tp0026_01.row

theorem pre_ints {args : List WData} (hp : lawRow.toRowW.claim.pre args = true) : ∃ sc : List Int, args = [.list (sc.map .int)] ∧ sc.length ≤ 63 := by
  obtain ⟨h1, h2⟩ := pre_splitW hp
  obtain ⟨d, r, rfl, hd, hr⟩ := hasAllW_cons (e := .list .int) (es := []) h1
  obtain rfl := hasAllW_nil hr
  cases d with
  | list xs =>
    have hx : WShape.hasItems lawRow.records xs .int = true := by simpa [WShape.has, WShape.arms] using hd
    obtain ⟨sc, rfl⟩ := ints_has xs hx
    refine ⟨sc, rfl, ?_⟩
    have h3 : (match WTm.value lawRow.records (PySem.Challenge.rw_tp0026_01.pre) { args := [.list (sc.map .int)] } with | some (.bool true) => true | _ => false) = true := h2
    have h4 : WTm.value lawRow.records (PySem.Challenge.rw_tp0026_01.pre) { args := [.list (sc.map .int)] } = some (.bool (!(decide ((63 : Int) < (sc.length : Int))))) := by
      cases hb : decide ((63 : Int) < (sc.length : Int)) <;> simp [OpenLaw.pre, PySem.Challenge.rw_tp0026_01, WTm.value, less?, Num.less?, hb]
    rw [h4] at h3
    cases hb : decide ((63 : Int) < (sc.length : Int)) with
    | true => rw [hb] at h3; cases h3
    | false =>
      have := of_decide_eq_false hb
      omega
  | _ => simp [WShape.has, WShape.arms] at hd

theorem post_true (sc : List Int) : lawRow.toRowW.claim.post [.list (sc.map .int)] (.bool true) [.list (sc.map .int)] = true := by
  show (WShape.has lawRow.records (.bool true) .bool && (WTm.eq .res (.lit (.bool true))).holds lawRow.records { args := [.list (sc.map .int)], res := some (.bool true), after := [.list (sc.map .int)] }) = true
  simp [WShape.has, WShape.arms, WTm.holds, WTm.value, same]

theorem room_caller : Room callerA 4 := by
  constructor
  · show callerA.depth + 4 ≤ recursionLimit
    decide +kernel
  · show callerA.units + 3 * 4 + 100 < cLine
    decide +kernel

set_option maxHeartbeats 2000000 in
theorem law_called (Pl : PlainLaw) {w : World} {s₀ s s₁ : Shared} {c P : Addr} (O : Opened w s₀) (S : Stands w s₀ c P s.heap) {args : List WData} {vs : List Value} {as : List Addr} (hp : lawRow.toRowW.claim.pre args = true)
    (L : Laid lawRow.records w s s₁ args vs as) : wpAny (model prog w) callerA (PySem.call (.ref S.f19) vs)
      (fun v s' => GoodWG lawRow.toRowW.claim (classAt s.heap) (ExcName.means s.heap) args s₁ (.ok (.ret v)) s')
      (fun e s' => GoodWG lawRow.toRowW.claim (classAt s.heap) (ExcName.means s.heap) args s₁ (.error e) s') s₁ := by
  obtain ⟨sc, rfl, hlen⟩ := pre_ints hp
  have hat : AtL s₁.heap [] vs [.lst (sc.map D.int)] := by
    have hr := L.reads
    cases hr with
    | cons x y =>
      cases y
      cases x with
      | list h1 h2 h3 h4 =>
        rename_i a o vs' n as'
        have a1 := at_ints sc _ _ h4
        exact AtL.cons (.lst List.not_mem_nil ⟨o, h1, h2, n, by rw [h3]⟩ a1.1 a1.2) AtL.nil
  have F := fn_law (gx_of O S) (law_of O S) Pl hlen
  refine wpAny_call (F callerA s₁ [] vs _ rfl room_caller (fun b o e => L.keeps b o e) (live_nil _) hat fun v s' kk av => ?_)
  rw [av.bool_inv]
  obtain ⟨h', t', rfl, keep⟩ := kk
  exact ⟨.inl ⟨_, _, [], rfl, fun _ => rfl, .bool true, post_true sc, fun _ => ⟨List.nodup_nil, fun a ha => (nomatch ha)⟩⟩, .of_keep keep, rfl, .of_eq L.gens⟩
end Mine
end

section
set_option Elab.async false
set_option maxRecDepth 1000000
set_option autoImplicit false
set_option linter.unusedVariables false
namespace Mine
open PySem PySem.Calls PyProof.Rows PySem.W

theorem bare_law : prog.bare := ⟨rfl, rfl, rfl, rfl, rfl, by decide +kernel⟩
theorem opens_well : opensWell prog = true := by decide +kernel
theorem promise : lawRow.toRowW.promised := ⟨[.list [.int 3, .int 1]], by decide +kernel, by decide +kernel⟩

set_option maxHeartbeats 2000000 in
theorem row_holds (P : PlainLaw) (said : lawRow.wellSaid = true) : lawRow.Holds := by
  refine ⟨said, promise, ⟨bare_law, opens_well, rfl⟩, promise.witness, fun w => ⟨(head_opens w).1, fun s' hs' => ?_⟩⟩
  obtain ⟨s₀, hf, O⟩ := (head_opens w).2 s' hs'
  obtain ⟨s, c, Pl, hT, hz, hgens, hos, ⟨S⟩⟩ := head_ran O
  refine ⟨s₀, hf, O.gens, s, hT, fun n hn => ?_, fun x hx => (nomatch hx), fun x hx => (nomatch hx), ?_⟩
  · have hn' : n = Str.ofString "law" := by simp at hn; exact hn.2
    subst hn'
    exact pinned_law O S
  refine ClaimW.callFrom_of_specG (c := lawRow.toRowW.claim) (tree := fun vs => do match ← nsGet mainNs lawRow.name with
      | some f => do ret (← PySem.call f vs)
      | none => unsupported "claim.caller:no-such-global") hz hgens fun args hpre hlay ord hord => ?_
  have hcl : ∀ c : Str, (lawRow.records.fields? c).isSome = true → (classAt s.heap c).isSome = true := fun c h => (nomatch h)
  obtain ⟨⟨vs, s₁⟩, hlaid⟩ := Option.isSome_iff_exists.mp (layAllW_isSome (P := w.params) (ord := ord) hcl args lawRow.args s (pre_splitW hpre).1)
  have keeps := layAllW_keeps _ _ _ hlaid
  have hal := layAllW_rest _ _ _ hlaid
  obtain ⟨as, hrd, hin, hold⟩ := reads_layAllW hord _ _ _ hlaid hlay s₁.heap (fun _ _ e => e)
  have L : Laid lawRow.records w s s₁ args vs as := ⟨⟨ord, hord, hlaid⟩, hrd, hin, hold, keeps, hal.1.trans hgens, hal.2.2.1⟩
  have hi := ident_freeW (r := lawRow.toRowW) rfl rfl rfl
  have hgl : s₁.heap.Ns mainGlobals (S.mid.cx O).mg := (S.mid.cx O).g.keeps fun b o e => keeps b o e
  have h := law_called P O S hpre L
  refine ⟨vs, s₁, hlaid, wpAny_bind (wpAny_nsGet hgl ?_)⟩
  rw [show (S.mid.cx O).mg lawRow.name = some (.ref S.f19) from mg_some O S.mid rfl]
  refine wpAny_bind (wpAny_mono h (fun v s' g => wpAny_pure ⟨_, rfl, ?_⟩) fun e s' g => ?_)
  · have z := g.laid (c := lawRow.toRowW.claim) rfl rfl hi L
    exact ⟨z.1, z.2.1, z.2.2, fun q => (nomatch q)⟩
  · have z := g.laid (c := lawRow.toRowW.claim) rfl rfl hi L
    exact ⟨z.1, z.2.1, z.2.2, fun q => (nomatch q)⟩
end Mine
end

set_option Elab.async false
set_option maxRecDepth 100000 in
set_option maxHeartbeats 8000000 in
theorem PySem.Challenge.cw_tp0026_01_holds : PySem.Challenge.rw_tp0026_01.Holds := by
  exact PySem.W.holds_law (by decide +kernel) (fun said => Mine.row_holds Mine.plain_law said)
