import PyProof.Rows.All
import Wide.All
import OpenK.AllK
import Wide.FinOn
import PySem.Challenge.RW_rw0112_01
set_option Elab.async false
set_option compiler.extract_closed false
set_option genSizeOf false
section
namespace Mine
open PySem PySem.W PySem.Calls PyProof.Rows
set_option maxRecDepth 10000

/-! Abstract values: a value without its token. -/
inductive V where
  | none
  | bool (b : Bool)
  | int (i : Int)
  | str (x : Str)
  | ref (a : Addr)
  | bi (id : String)
  | ty (n : String)
  | oth (v : Value)

noncomputable def er : Value → V
  | .none => .none
  | .bool b => .bool b
  | .int i _ => .int i
  | .str x _ => .str x
  | .ref a => .ref a
  | .builtin id => .bi id
  | .type n => .ty n
  | v => .oth v

theorem er_none {v : Value} : er v = .none ↔ v = .none := by
  constructor
  · intro h; cases v <;> first | (cases h; rfl) | cases h
  · rintro rfl; rfl
theorem er_bool {v : Value} {b : Bool} : er v = .bool b ↔ v = .bool b := by
  constructor
  · intro h; cases v <;> first | (cases h; rfl) | cases h
  · rintro rfl; rfl
theorem er_int {v : Value} {i : Int} : er v = .int i ↔ ∃ t, v = .int i t := by
  constructor
  · intro h; cases v <;> first | (cases h; exact ⟨_, rfl⟩) | cases h
  · rintro ⟨_, rfl⟩; rfl
theorem er_str {v : Value} {x : Str} : er v = .str x ↔ ∃ t, v = .str x t := by
  constructor
  · intro h; cases v <;> first | (cases h; exact ⟨_, rfl⟩) | cases h
  · rintro ⟨_, rfl⟩; rfl
theorem er_ref {v : Value} {a : Addr} : er v = .ref a ↔ v = .ref a := by
  constructor
  · intro h; cases v <;> first | (cases h; rfl) | cases h
  · rintro rfl; rfl
theorem er_bi {v : Value} {i : String} : er v = .bi i ↔ v = .builtin i := by
  constructor
  · intro h; cases v <;> first | (cases h; rfl) | cases h
  · rintro rfl; rfl
theorem er_ty {v : Value} {i : String} : er v = .ty i ↔ v = .type i := by
  constructor
  · intro h; cases v <;> first | (cases h; rfl) | cases h
  · rintro rfl; rfl

noncomputable abbrev Loc := Str → Option V

/-! Abstract objects. -/
inductive O where
  | list (vs : List V)
  | tup (vs : List V)
  | cell (v : Option V)
  | ns (m : Loc)
  | raw (o : Obj)

noncomputable def At (h : Heap) (a : Addr) : O → Prop
  | .list vs => ∃ (xs : List Value) (k : Nat), h.get? a = some { cls := .type "list", data := .seq xs.toArray k } ∧ xs.map er = vs
  | .tup vs => ∃ (xs : List Value) (k : Nat), h.get? a = some { cls := .type "tuple", data := .seq xs.toArray k } ∧ xs.map er = vs
  | .cell v => ∃ o c, h.get? a = some o ∧ o.data = .cell c ∧ c.map er = v
  | .ns m => ∃ mm, h.Ns a mm ∧ ∀ x, (mm x).map er = m x
  | .raw o => h.get? a = some o

theorem At.got {h : Heap} {a : Addr} {o : O} (x : At h a o) : ∃ c, h.get? a = some c := by
  cases o with
  | list _ => obtain ⟨_, _, e, _⟩ := x; exact ⟨_, e⟩
  | tup _ => obtain ⟨_, _, e, _⟩ := x; exact ⟨_, e⟩
  | cell _ => obtain ⟨c, _, e, _⟩ := x; exact ⟨c, e⟩
  | ns _ => obtain ⟨_, ⟨c, _, _, e, _⟩, _⟩ := x; exact ⟨c, e⟩
  | raw c => exact ⟨c, x⟩
theorem At.lt {h : Heap} {a : Addr} {o : O} (x : At h a o) : a < h.objs.size := by
  obtain ⟨_, e⟩ := x.got
  exact Heap.lt_size e
theorem At.same {h h' : Heap} {a : Addr} (k : ∀ c, h.get? a = some c → h'.get? a = some c) {o : O} (x : At h a o) : At h' a o := by
  cases o with
  | list _ => obtain ⟨xs, j, e, y⟩ := x; exact ⟨xs, j, k _ e, y⟩
  | tup _ => obtain ⟨xs, j, e, y⟩ := x; exact ⟨xs, j, k _ e, y⟩
  | cell _ => obtain ⟨c, v, e, r⟩ := x; exact ⟨c, v, k c e, r⟩
  | ns _ => obtain ⟨mm, ⟨c, es, ep, e, r⟩, y⟩ := x; exact ⟨mm, ⟨c, es, ep, k c e, r⟩, y⟩
  | raw c => exact k c x

theorem At.list {h : Heap} {a : Addr} {vs : List V} (x : At h a (.list vs)) : ∃ xs : List Value, h.IsList a xs.toArray ∧ xs.map er = vs := by
  obtain ⟨xs, k, e, y⟩ := x
  exact ⟨xs, ⟨_, e, rfl, k, rfl⟩, y⟩
theorem At.tup {h : Heap} {a : Addr} {vs : List V} (x : At h a (.tup vs)) : ∃ xs : List Value, IsTup h a xs.toArray ∧ xs.map er = vs := by
  obtain ⟨xs, k, e, y⟩ := x
  exact ⟨xs, ⟨_, e, rfl, k, rfl⟩, y⟩

noncomputable abbrev HP := Addr → Option O
noncomputable def upd (H : HP) (a : Addr) (o : O) : HP := fun b => if b = a then some o else H b
theorem upd_same (H : HP) (a : Addr) (o : O) : upd H a o a = some o := if_pos rfl
theorem upd_ne {H : HP} {a b : Addr} {o : O} (h : b ≠ a) : upd H a o b = H b := if_neg h
theorem upd_upd (H : HP) (a : Addr) (o o' : O) : upd (upd H a o) a o' = upd H a o' := by
  funext b; unfold upd; split <;> rfl
theorem upd_comm {H : HP} {a b : Addr} {o o' : O} (h : a ≠ b) : upd (upd H a o) b o' = upd (upd H b o') a o := by
  funext c; unfold upd; split
  · rename_i e; subst e; rw [if_neg (Ne.symm h)]
  · rfl

-- `H` tells true things of the state: `base` stands as it was, every told object is so.
structure Rep (base : Heap) (os : OsState) (H : HP) (n : Nat) (s : Shared) : Prop where
  keep : ∀ b o, base.get? b = some o → s.heap.get? b = some o
  tells : ∀ a o, H a = some o → a < n ∧ At s.heap a o
  le : n ≤ s.heap.objs.size
  base_le : base.objs.size ≤ n
  gens : s.gens = #[]
  os : s.os = os

variable {base : Heap} {os : OsState} {H H' : HP} {n n' : Nat} {s s' : Shared}

theorem Rep.sub (r : Rep base os H n s) (h : ∀ a o, H' a = some o → H a = some o) : Rep base os H' n s :=
  ⟨r.keep, fun a o e => r.tells a o (h a o e), r.le, r.base_le, r.gens, r.os⟩
theorem Rep.toks (r : Rep base os H n s) (t : Nat) : Rep base os H n { s with toks := t } := ⟨r.keep, r.tells, r.le, r.base_le, r.gens, r.os⟩
-- a heap that keeps every object of before
theorem Rep.grown (r : Rep base os H n s) {h' : Heap} (k : ∀ b o, s.heap.get? b = some o → h'.get? b = some o) (t : Nat) (hz : s.heap.objs.size ≤ h'.objs.size) :
    Rep base os H n { s with heap := h', toks := t } :=
  ⟨fun b o e => k b o (r.keep b o e), fun a o e => ⟨(r.tells a o e).1, (r.tells a o e).2.same (k a)⟩, Nat.le_trans r.le hz, r.base_le, r.gens, r.os⟩
-- a new object is told of
theorem Rep.more (r : Rep base os H n s) {a : Addr} {o : O} (ha : n ≤ a) (x : At s.heap a o) : Rep base os (upd H a o) (a + 1) s :=
  ⟨r.keep, fun b p e => by
    by_cases h : b = a
    · subst h; rw [upd_same] at e; cases e; exact ⟨Nat.lt_succ_self _, x⟩
    · rw [upd_ne h] at e
      exact ⟨Nat.lt_succ_of_lt (Nat.lt_of_lt_of_le (r.tells b p e).1 ha), (r.tells b p e).2⟩, x.lt, Nat.le_trans r.base_le (Nat.le_succ_of_le ha), r.gens, r.os⟩
-- an object (new since `base`) is changed, all else stands
theorem Rep.turn (r : Rep base os H n s) {a : Addr} {o : O} {h' : Heap} (ha : base.objs.size ≤ a) (hn : a < n) (x : At h' a o) (k : ∀ b c, b ≠ a → s.heap.get? b = some c → h'.get? b = some c) (t : Nat)
    (hz : s.heap.objs.size ≤ h'.objs.size) : Rep base os (upd H a o) n { s with heap := h', toks := t } :=
  ⟨fun b c e => k b c (Nat.ne_of_lt (Nat.lt_of_lt_of_le (Heap.lt_size e) ha)) (r.keep b c e), fun b p e => by
    by_cases h : b = a
    · subst h; rw [upd_same] at e; cases e; exact ⟨hn, x⟩
    · rw [upd_ne h] at e; exact ⟨(r.tells b p e).1, (r.tells b p e).2.same fun c q => k b c h q⟩, Nat.le_trans r.le hz, r.base_le, r.gens, r.os⟩

-- the state of a frame: its locals, the objects told of, a bound of their addresses
structure St where
  m : Loc
  H : HP
  n : Nat

noncomputable def RepF (base : Heap) (os : OsState) (L : Addr) (σ : St) (s : Shared) : Prop :=
  Rep base os (upd σ.H L (.ns σ.m)) σ.n s ∧ σ.H L = none ∧ base.objs.size ≤ L

-- from every state that σ tells of, the tree ends with Q, raising nothing
noncomputable def W {α : Type} (prog : Program) (w : World) (base : Heap) (os : OsState) (A : Around) (L : Addr) (t : Sem α) (Q : α → St → Prop) (σ : St) : Prop :=
  ∀ s, RepF base os L σ s → wpAny (model prog w) A t (fun a s' => ∃ σ', RepF base os L σ' s' ∧ Q a σ') (fun _ _ => False) s

-- a call, told without a frame
noncomputable def C (prog : Program) (w : World) (base : Heap) (os : OsState) (A : Around) (c : Code) (Q : V → HP → Nat → Prop) (H : HP) (n : Nat) : Prop :=
  ∀ s, Rep base os H n s → codeAny (model prog w) A c (fun r s' => ∃ v H' n', r = .ok (.ret v) ∧ Rep base os H' n' s' ∧ Q (er v) H' n') s

variable {prog : Program} {w : World} {A : Around} {L : Addr} {σ : St} {α β : Type}

theorem W.mono {t : Sem α} {Q Q' : α → St → Prop} (h : W prog w base os A L t Q σ) (k : ∀ a σ, Q a σ → Q' a σ) : W prog w base os A L t Q' σ := fun s r =>
  wpAny_mono (h s r) (fun a _ ⟨σ', r', q⟩ => ⟨σ', r', k a σ' q⟩) fun _ _ x => x
-- run on from what a tree ends with
theorem W.run {t : Sem α} {Q : α → St → Prop} {P : α → Shared → Prop} {E : Value → Shared → Prop} (h : W prog w base os A L t Q σ) (r : RepF base os L σ s) (k : ∀ a s' σ', RepF base os L σ' s' → Q a σ' → P a s') :
    wpAny (model prog w) A t P E s := wpAny_mono (h s r) (fun a s' hx => by obtain ⟨σ', r', q⟩ := hx; exact k a s' σ' r' q) fun _ _ x => x.elim
-- forget objects, or raise the bound
theorem RepF.weaken {σ' : St} (r : RepF base os L σ s) (hm : σ'.m = σ.m) (hH : ∀ a o, σ'.H a = some o → σ.H a = some o) (hn : σ'.n = σ.n) : RepF base os L σ' s := by
  obtain ⟨m', H', n'⟩ := σ'
  simp only at hm hH hn
  subst hm hn
  refine ⟨r.1.sub fun a o e => ?_, ?_, r.2.2⟩
  · by_cases h : a = L
    · subst h; rw [upd_same] at e ⊢; exact e
    · rw [upd_ne h] at e ⊢; exact hH a o e
  · show H' L = none
    cases q : H' L with
    | none => rfl
    | some o => have := hH _ _ q; rw [r.2.1] at this; cases this
end Mine
end
section
namespace Mine
open PySem PySem.W PySem.Calls PyProof.Rows
set_option maxRecDepth 10000
set_option linter.unusedVariables false

variable {base : Heap} {os : OsState} {H H' : HP} {n n' : Nat} {s s' : Shared} {prog : Program} {w : World} {A : Around} {L : Addr} {σ : St} {m : Loc} {env : Env} {Q : V → St → Prop} {R : Flow → St → Prop}

noncomputable abbrev WV (prog : Program) (w : World) (base : Heap) (os : OsState) (A : Around) (L : Addr) (t : Sem Value) (Q : V → St → Prop) (σ : St) : Prop :=
  W prog w base os A L t (fun v σ' => Q (er v) σ') σ

-- lift a rule whose state changes in its tokens alone
theorem RepF.toks (r : RepF base os L σ s) (t : Nat) : RepF base os L σ { s with toks := t } := ⟨r.1.toks t, r.2⟩
theorem RepF.ns (r : RepF base os L σ s) : ∃ mm, s.heap.Ns L mm ∧ ∀ x, (mm x).map er = σ.m x := (r.1.tells L _ (upd_same _ _ _)).2
theorem RepF.at_ (r : RepF base os L σ s) {a : Addr} {o : O} (e : σ.H a = some o) : At s.heap a o := by
  have h : a ≠ L := by rintro rfl; rw [r.2.1] at e; cases e
  exact (r.1.tells a o ((upd_ne h).trans e)).2
theorem RepF.lt (r : RepF base os L σ s) {a : Addr} {o : O} (e : σ.H a = some o) : a < σ.n := by
  have h : a ≠ L := by rintro rfl; rw [r.2.1] at e; cases e
  exact (r.1.tells a o ((upd_ne h).trans e)).1
theorem RepF.Llt (r : RepF base os L σ s) : L < σ.n := (r.1.tells L _ (upd_same _ _ _)).1
theorem RepF.ne (r : RepF base os L σ s) {a : Addr} {o : O} (e : σ.H a = some o) : a ≠ L := by rintro rfl; rw [r.2.1] at e; cases e
theorem RepF.grown (r : RepF base os L σ s) {h' : Heap} (k : ∀ b o, s.heap.get? b = some o → h'.get? b = some o) (t : Nat) (hz : s.heap.objs.size ≤ h'.objs.size) :
    RepF base os L σ { s with heap := h', toks := t } := ⟨r.1.grown k t hz, r.2⟩
theorem RepF.more (r : RepF base os L σ s) {a : Addr} {o : O} (ha : σ.n ≤ a) (x : At s.heap a o) : RepF base os L ⟨σ.m, upd σ.H a o, a + 1⟩ s := by
  have hne : a ≠ L := Nat.ne_of_gt (Nat.lt_of_lt_of_le r.Llt ha)
  refine ⟨?_, (upd_ne (Ne.symm hne)).trans r.2.1, r.2.2⟩
  show Rep base os (upd (upd σ.H a o) L (.ns σ.m)) (a + 1) s
  rw [upd_comm hne]; exact r.1.more ha x
theorem RepF.turn (r : RepF base os L σ s) {a : Addr} {o p : O} {h' : Heap} (e : σ.H a = some p) (ha : base.objs.size ≤ a) (x : At h' a o) (k : ∀ b c, b ≠ a → s.heap.get? b = some c → h'.get? b = some c) (t : Nat)
    (hz : s.heap.objs.size ≤ h'.objs.size) : RepF base os L ⟨σ.m, upd σ.H a o, σ.n⟩ { s with heap := h', toks := t } := by
  have hne := r.ne e
  refine ⟨?_, (upd_ne (Ne.symm hne)).trans r.2.1, r.2.2⟩
  show Rep base os (upd (upd σ.H a o) L (.ns σ.m)) σ.n { s with heap := h', toks := t }
  rw [upd_comm hne]; exact r.1.turn ha (r.lt e) x k t hz

/-! ## constants and names -/
theorem W_int {i : Int} {k pos} (h : Q (.int i) σ) : WV prog w base os A L (eval (.Constant (.int i) k pos) env) Q σ := fun _ r => wpAny_Constant_int ⟨σ, r.toks _, h⟩
theorem W_str {x : Str} {k pos} (h : Q (.str x) σ) : WV prog w base os A L (eval (.Constant (.str x) k pos) env) Q σ := fun _ r => wpAny_Constant_str ⟨σ, r.toks _, h⟩
theorem W_bool {b : Bool} {k pos} (h : Q (.bool b) σ) : WV prog w base os A L (eval (.Constant (.bool b) k pos) env) Q σ := fun _ r => wpAny_Constant_bool ⟨σ, r, h⟩
theorem W_none {k pos} (h : Q .none σ) : WV prog w base os A L (eval (.Constant .none k pos) env) Q σ := fun _ r => wpAny_Constant_none ⟨σ, r, h⟩

theorem W_load {x : Str} {v : V} (hv : σ.m x = some v) (h : Q v σ) (hk : env.scope.kind = .function) (hl : env.kindOf x = some .local) (hL : env.locals = L) :
    WV prog w base os A L (loadName env x) Q σ := fun s r => by
  refine Classical.byContradiction fun hneg1_ => ?_
  obtain ⟨mm, hn, hm⟩ := r.ns
  have e := hm x
  rw [hv] at e
  obtain ⟨v', e1, e2⟩ := Option.map_eq_some_iff.mp e
  refine hneg1_ ?_
  exact wpAny_loadName_local hk hl (hL ▸ hn) e1 ⟨σ, r, by show Q (er _) σ; rw [e2]; exact h⟩
theorem W_load_cell {x : Str} {v : V} {c : Addr} (hc : env.cells.lookup x = some c) (hv : σ.H c = some (.cell (some v))) (h : Q v σ) (hk : env.scope.kind = .function)
    (hl : env.kindOf x = some .cell ∨ env.kindOf x = some .free) (hn : (x == ("__classdict__" : Str)) = false := by decide) : WV prog w base os A L (loadName env x) Q σ := fun s r => by
  refine Classical.byContradiction fun hneg2_ => ?_
  obtain ⟨o, v', e, d, m⟩ := r.at_ hv
  obtain ⟨v'', rfl, e2⟩ := Option.map_eq_some_iff.mp m
  refine hneg2_ ?_
  rcases hl with hl | hl
  · exact wpAny_loadName_cell hk hl hc ⟨o, e, d⟩ ⟨σ, r, by show Q (er _) σ; rw [e2]; exact h⟩
  · exact wpAny_loadName_free hk hl hc ⟨o, e, d⟩ ⟨σ, r, by show Q (er _) σ; rw [e2]; exact h⟩ hn
-- what the global names hold
theorem W_global {x : Str} {pos : Pos} {v : Value} {mg : Str → Option Value} (hg : base.Ns mainGlobals mg) (hv : mg x = some v) (h : Q (er v) σ) (hk : env.scope.kind = .function)
    (hx : env.kindOf x = some .globalImplicit) (hG : env.globals = mainGlobals) (hd : (x == ("__debug__" : Str)) = false := by decide) : WV prog w base os A L (eval (.Name x pos) env) Q σ := fun s r => by
  refine Classical.byContradiction fun hneg3_ => ?_
  obtain ⟨o, es, ep, e, q⟩ := hg
  refine hneg3_ ?_
  exact Name_function_global hk hx (loadGlobal_global (hG ▸ ⟨o, es, ep, r.1.keep _ _ e, q⟩) hv ⟨σ, r, h⟩) hd
theorem W_builtin {x : Str} {pos : Pos} {v : Value} {mg mb : Str → Option Value} (hg : base.Ns mainGlobals mg) (hb : base.Ns builtinsNs mb) (hn : mg x = none) (hv : mb x = some v) (h : Q (er v) σ)
    (hk : env.scope.kind = .function) (hx : env.kindOf x = some .globalImplicit) (hG : env.globals = mainGlobals) (hB : env.builtins = builtinsNs) (hd : (x == ("__debug__" : Str)) = false := by decide) :
    WV prog w base os A L (eval (.Name x pos) env) Q σ := fun s r => by
  refine Classical.byContradiction fun hneg4_ => ?_
  obtain ⟨o, es, ep, e, q⟩ := hg
  obtain ⟨o', es', ep', e', q'⟩ := hb
  refine hneg4_ ?_
  exact Name_function_global hk hx (loadGlobal_builtin (hG ▸ ⟨o, es, ep, r.1.keep _ _ e, q⟩) hn (hB ▸ ⟨o', es', ep', r.1.keep _ _ e', q'⟩) hv ⟨σ, r, h⟩) hd
theorem W_Name {x : Str} {pos : Pos} (h : WV prog w base os A L (loadName env x) Q σ) (hd : (x == ("__debug__" : Str)) = false := by decide) : WV prog w base os A L (eval (.Name x pos) env) Q σ :=
  fun s r => wpAny_Name (h s r) hd

-- a name's new value
noncomputable def Loc.set (m : Loc) (x : Str) (v : V) : Loc := fun y => if y = x then some v else m y
theorem Loc.set_same (m : Loc) (x : Str) (v : V) : (m.set x v) x = some v := if_pos rfl
theorem Loc.set_ne {m : Loc} {x y : Str} {v : V} (h : y ≠ x) : (m.set x v) y = m y := if_neg h

theorem W_store {x : Str} {v : Value} {Q : Unit → St → Prop} (h : Q () ⟨σ.m.set x (er v), σ.H, σ.n⟩) (hl : env.kindOf x = some .local) (hk : env.scope.kind = .function) (hL : env.locals = L) :
    W prog w base os A L (storeName env x v) Q σ := fun s r => by
  obtain ⟨mm, hn, hm⟩ := r.ns
  refine wpAny_storeName_local hl (hL ▸ hn) (fun h' hn' hs => ⟨⟨σ.m.set x (er v), σ.H, σ.n⟩, ⟨?_, r.2⟩, h⟩) (by rw [hk]; rfl)
  show Rep base os (upd σ.H L (.ns (σ.m.set x (er v)))) σ.n _
  rw [← upd_upd σ.H L (.ns σ.m)]
  refine r.1.turn r.2.2 r.Llt (o := .ns (σ.m.set x (er v))) ⟨_, hL ▸ hn', fun y => ?_⟩ (fun b c hb e => (hs.2 b (hL ▸ hb)).trans e) _ (Nat.le_of_eq hs.1.symm)
  unfold Loc.set
  by_cases hy : y = x
  · simp [hy]
  · simp [hy, hm y]
theorem W_store_cell {x : Str} {v : Value} {c : Addr} {v₀ : Option V} {Q : Unit → St → Prop} (hc : env.cells.lookup x = some c) (hv : σ.H c = some (.cell v₀)) (hb : base.objs.size ≤ c)
    (h : Q () ⟨σ.m, upd σ.H c (.cell (some (er v))), σ.n⟩) (hl : env.kindOf x = some .cell) (hk : env.scope.kind = .function) : W prog w base os A L (storeName env x v) Q σ := fun s r => by
  refine Classical.byContradiction fun hneg5_ => ?_
  obtain ⟨o, v', e, d, m⟩ := r.at_ hv
  refine hneg5_ ?_
  refine wpAny_storeName_cell hk hl hc ⟨o, e, d⟩ fun h' ⟨o', e', d'⟩ hs => ⟨_, ?_, h⟩
  exact r.turn (o := .cell (some (er v))) hv hb ⟨o', _, e', d', rfl⟩ (fun b c hb e => (hs.2 b hb).trans e) s.toks (Nat.le_of_eq hs.1.symm)

/-! ## operators: the two values, then the tree -/
noncomputable def WB (prog : Program) (w : World) (base : Heap) (os : OsState) (A : Around) (L : Addr) (op : Operator) (x y : V) (Q : V → St → Prop) (σ : St) : Prop :=
  ∀ a b, er a = x → er b = y → WV prog w base os A L (binaryOp op a b) Q σ
noncomputable def WC (prog : Program) (w : World) (base : Heap) (os : OsState) (A : Around) (L : Addr) (op : CmpOp) (x y : V) (Q : V → St → Prop) (σ : St) : Prop :=
  ∀ a b, er a = x → er b = y → WV prog w base os A L (compareOp op a b) Q σ
noncomputable def WT (prog : Program) (w : World) (base : Heap) (os : OsState) (A : Around) (L : Addr) (x : V) (Q : Bool → St → Prop) (σ : St) : Prop :=
  ∀ a, er a = x → W prog w base os A L (truthy a) Q σ
-- a test
noncomputable abbrev WI (prog : Program) (w : World) (base : Heap) (os : OsState) (A : Around) (L : Addr) (e : Expr) (env : Env) (Q : Bool → St → Prop) (σ : St) : Prop :=
  W prog w base os A L (isTrue e env (eval e env)) Q σ

theorem W_BinOp {l r : Expr} {op pos} (h : WV prog w base os A L (eval l env) (fun x => WV prog w base os A L (eval r env) (fun y => WB prog w base os A L op x y Q)) σ) :
    WV prog w base os A L (eval (.BinOp l op r pos) env) Q σ := fun s rp =>
  wpAny_BinOp (W.run h rp (fun a s₁ _ r₁ h₁ => W.run h₁ r₁ (fun b s₂ _ r₂ h₂ => h₂ a b rfl rfl s₂ r₂)))
theorem W_Compare1 {l r : Expr} {op pos} (h : WV prog w base os A L (eval l env) (fun x => WV prog w base os A L (eval r env) (fun y => WC prog w base os A L op x y Q)) σ)
    (hm : behindInMarks op r = false := by with_unfolding_all rfl) : WV prog w base os A L (eval (.Compare l [op] [r] pos) env) Q σ := fun s rp =>
  wpAny_Compare1 (W.run h rp (fun a s₁ _ r₁ h₁ => W.run h₁ r₁ (fun b s₂ _ r₂ h₂ => h₂ a b rfl rfl s₂ r₂))) hm
theorem WI_Compare1 {l r : Expr} {op pos} {whole : Sem Value} {Q : Bool → St → Prop} (h : WV prog w base os A L (eval l env) (fun x => WV prog w base os A L (eval r env) (fun y => WC prog w base os A L op x y
      (fun z => WT prog w base os A L z Q))) σ)
    (hm : behindInMarks op r = false := by with_unfolding_all rfl) : W prog w base os A L (isTrue (.Compare l [op] [r] pos) env whole) Q σ := fun s rp =>
  wpAny_isTrue_Compare1 (W.run h rp (fun a s₁ _ r₁ h₁ => W.run h₁ r₁ (fun b s₂ _ r₂ h₂ => W.run (h₂ a b rfl rfl) r₂ (fun c s₃ _ r₃ h₃ => h₃ c rfl s₃ r₃)))) hm
theorem WI_value {e : Expr} {whole : Sem Value} {Q : Bool → St → Prop} (h : WV prog w base os A L whole (fun x => WT prog w base os A L x Q) σ)
    (he : isTrue e env whole = (do let v ← whole; standAt e.pos; holding [v] (truthy v))) : W prog w base os A L (isTrue e env whole) Q σ := fun s rp =>
  wpAny_isTrue_value (W.run h rp (fun a s₁ _ r₁ h₁ => h₁ a rfl s₁ r₁)) he
theorem WI_Not {x : Expr} {pos} {whole : Sem Value} {Q : Bool → St → Prop} (h : WI prog w base os A L x env (fun b => Q (!b)) σ) : W prog w base os A L (isTrue (.UnaryOp .Not x pos) env whole) Q σ := fun s rp =>
  wpAny_isTrue_Not (h s rp)
theorem WI_And {x y : Expr} {pos} {whole : Sem Value} {Q : Bool → St → Prop} (h : WI prog w base os A L x env (fun b σ' => if b then WI prog w base os A L y env Q σ' else Q false σ') σ) :
    W prog w base os A L (isTrue (.BoolOp .And [x, y] pos) env whole) Q σ := fun s rp => by
  refine wpAny_isTrue_BoolOp (wpAny_allTrue_And_cons (W.run h rp (fun b s₁ σ₁ r₁ h₁ => ?_)))
  cases b with
  | false => exact ⟨σ₁, r₁, h₁⟩
  | true =>
    refine wpAny_allTrue_And_cons (W.run h₁ r₁ (fun b s₂ σ₂ r₂ h₂ => ?_))
    cases b with
    | false => exact ⟨σ₂, r₂, h₂⟩
    | true => exact wpAny_allTrue_And_nil ⟨σ₂, r₂, h₂⟩
theorem WI_Or {x y : Expr} {pos} {whole : Sem Value} {Q : Bool → St → Prop} (h : WI prog w base os A L x env (fun b σ' => if b then Q true σ' else WI prog w base os A L y env Q σ') σ) :
    W prog w base os A L (isTrue (.BoolOp .Or [x, y] pos) env whole) Q σ := fun s rp => by
  refine wpAny_isTrue_BoolOp (wpAny_allTrue_Or_cons (W.run h rp (fun b s₁ σ₁ r₁ h₁ => ?_)))
  cases b with
  | true => exact ⟨σ₁, r₁, h₁⟩
  | false =>
    refine wpAny_allTrue_Or_cons (W.run h₁ r₁ (fun b s₂ σ₂ r₂ h₂ => ?_))
    cases b with
    | true => exact ⟨σ₂, r₂, h₂⟩
    | false => exact wpAny_allTrue_Or_nil ⟨σ₂, r₂, h₂⟩
theorem W_Or2 {x y : Expr} {pos} (h : WV prog w base os A L (eval x env) (fun a => WT prog w base os A L a (fun t σ' => if t then Q a σ' else WV prog w base os A L (eval y env) Q σ')) σ) :
    WV prog w base os A L (eval (.BoolOp .Or [x, y] pos) env) Q σ := fun s rp =>
  wpAny_Or2 (W.run h rp (fun a s₁ _ r₁ h₁ => W.run (h₁ a rfl) r₁ (fun t s₂ σ₂ r₂ h₂ => by
    cases t with
    | true => exact ⟨σ₂, r₂, h₂⟩
    | false => exact h₂ s₂ r₂)))
theorem W_IfExp {t b e : Expr} {pos} (h : WI prog w base os A L t env (fun c σ' => if c then WV prog w base os A L (eval b env) Q σ' else WV prog w base os A L (eval e env) Q σ') σ) :
    WV prog w base os A L (eval (.IfExp t b e pos) env) Q σ := fun s rp =>
  wpAny_IfExp (W.run h rp (fun c s₁ σ₁ r₁ h₁ => by
    cases c with
    | true => exact h₁ s₁ r₁
    | false => exact h₁ s₁ r₁))
noncomputable def WU (prog : Program) (w : World) (base : Heap) (os : OsState) (A : Around) (L : Addr) (op : UnaryOp) (x : V) (Q : V → St → Prop) (σ : St) : Prop :=
  ∀ a, er a = x → WV prog w base os A L (unaryOp op a) Q σ
theorem W_UnaryOp {x : Expr} {op pos} (h : WV prog w base os A L (eval x env) (fun a => WU prog w base os A L op a Q) σ) : WV prog w base os A L (eval (.UnaryOp op x pos) env) Q σ := fun s rp =>
  wpAny_UnaryOp (W.run h rp (fun a s₁ _ r₁ h₁ => h₁ a rfl s₁ r₁))

/-! ## statements -/
noncomputable abbrev WS (prog : Program) (w : World) (base : Heap) (os : OsState) (A : Around) (L : Addr) (b : List Stmt) (env : Env) (R : Flow → St → Prop) (σ : St) : Prop := W prog w base os A L (execs b env) R σ
theorem WS_nil (h : R .next σ) : WS prog w base os A L [] env R σ := fun _ r => wpAny_execs_nil ⟨σ, r, h⟩
theorem WS_cons {st : Stmt} {rest : List Stmt} (h : W prog w base os A L (exec st env) (fun f σ' => match f with | .next => WS prog w base os A L rest env R σ' | f => R f σ') σ) :
    WS prog w base os A L (st :: rest) env R σ := fun s r =>
  wpAny_execs_cons (W.run h r (fun f s₁ σ₁ r₁ h₁ => by
    cases f with
    | next => exact h₁ s₁ r₁
    | brk => exact ⟨σ₁, r₁, h₁⟩
    | cont => exact ⟨σ₁, r₁, h₁⟩
    | ret v => exact ⟨σ₁, r₁, h₁⟩))
theorem WS_If {t : Expr} {b e : List Stmt} {pos} (h : WI prog w base os A L t env (fun c σ' => if c then WS prog w base os A L b env R σ' else WS prog w base os A L e env R σ') σ) :
    W prog w base os A L (exec (.If t b e pos) env) R σ := fun s r =>
  wpAny_If (W.run h r (fun c s₁ _ r₁ h₁ => by
    cases c with
    | true => exact h₁ s₁ r₁
    | false => exact h₁ s₁ r₁))
theorem WS_Return {e : Expr} {pos} (h : WV prog w base os A L (eval e env) (fun v σ' => ∀ a, er a = v → R (.ret a) σ') σ) : W prog w base os A L (exec (.Return (some e) pos) env) R σ := fun s r =>
  wpAny_Return_some (W.run h r (fun a _ σ₁ r₁ h₁ => ⟨σ₁, r₁, h₁ a rfl⟩))
noncomputable def WSt (prog : Program) (w : World) (base : Heap) (os : OsState) (A : Around) (L : Addr) (env : Env) (x : Str) (v : V) (Q : Unit → St → Prop) (σ : St) : Prop :=
  ∀ a, er a = v → W prog w base os A L (storeName env x a) Q σ
theorem WSt_local {x : Str} {v : V} {Q : Unit → St → Prop} (h : Q () ⟨σ.m.set x v, σ.H, σ.n⟩) (hl : env.kindOf x = some .local) (hk : env.scope.kind = .function) (hL : env.locals = L) :
    WSt prog w base os A L env x v Q σ := fun a e => W_store (e ▸ h) hl hk hL
theorem WSt_cell {x : Str} {v : V} {c : Addr} {v₀ : Option V} {Q : Unit → St → Prop} (hc : env.cells.lookup x = some c) (hv : σ.H c = some (.cell v₀)) (hb : base.objs.size ≤ c)
    (h : Q () ⟨σ.m, upd σ.H c (.cell (some v)), σ.n⟩) (hl : env.kindOf x = some .cell) (hk : env.scope.kind = .function) : WSt prog w base os A L env x v Q σ := fun a e => W_store_cell hc hv hb (e ▸ h) hl hk
theorem WS_Assign {x : Str} {value : Expr} {pos' pos} (h : WV prog w base os A L (eval value env) (fun v => WSt prog w base os A L env x v (fun _ => R .next)) σ)
    (hs : swapsWith value (some (.Name x pos')) pos.line env = pure false) : W prog w base os A L (exec (.Assign [.Name x pos'] value pos) env) R σ := fun s r =>
  wpAny_Assign_Name (W.run h r (fun a s₁ _ r₁ h₁ => h₁ a rfl s₁ r₁)) hs
theorem WS_Aug {x : Str} {value : Expr} {op pos' pos} (h : WV prog w base os A L (loadName env x) (fun o => WV prog w base os A L (eval value env) (fun v σ' => ∀ a b, er a = o → er b = v →
      WV prog w base os A L (inplaceOp op a b) (fun z => WSt prog w base os A L env x z (fun _ => R .next)) σ')) σ) :
    W prog w base os A L (exec (.AugAssign (.Name x pos') op value pos) env) R σ := fun s r =>
  wpAny_AugAssign_Name (W.run h r (fun a s₁ _ r₁ h₁ => W.run h₁ r₁ (fun b s₂ _ r₂ h₂ => W.run (h₂ a b rfl rfl) r₂ (fun c s₃ _ r₃ h₃ => h₃ c rfl s₃ r₃))))
-- an expression for its own sake (what it gives is no reference)
noncomputable def V.noRef : V → Prop
  | .ref _ => False
  | _ => True
theorem WS_Expr {e : Expr} {pos} (h : WV prog w base os A L (eval e env) (fun v σ' => v.noRef ∧ R .next σ') σ) (hi : interactive env = false) (hs : swapsWith e none pos.line env = pure false) :
    W prog w base os A L (exec (.Expr e pos) env) R σ := fun s r =>
  wpAny_Expr (wpAny_mono (h s r) (fun v s₁ ⟨σ₁, r₁, h₁, h₂⟩ => by cases v <;> first | exact h₁ | exact ⟨σ₁, r₁, h₂⟩) fun _ _ x => x) hi hs
-- a while: its word, by a measure
theorem WS_While {t : Expr} {b : List Stmt} {pos} (I : Nat → St → Prop) (k : Nat) (h : I k σ)
    (turn : ∀ k σ, I k σ → WI prog w base os A L t env (fun c σ₂ => if c then WS prog w base os A L b env (fun f σ₃ => match f with
      | .next | .cont => ∃ j, j < k ∧ I j σ₃ | .brk => R .next σ₃ | .ret v => R (.ret v) σ₃) σ₂ else R .next σ₂) σ) :
    W prog w base os A L (exec (.While t b [] pos) env) R σ := fun s r => by
  refine wpAny_While (codeAny_whileLoop (fun k s => ∃ σ, RepF base os L σ s ∧ I k σ) (fun k s hx8_ => ?_) k ⟨σ, r, h⟩)
  obtain ⟨σ₁, r₁, i₁⟩ := hx8_
  refine W.run (turn k σ₁ i₁) r₁ (fun c s₂ σ₂ r₂ h₂ => ?_)
  cases c with
  | false => exact wpAny_execs_nil ⟨σ₂, r₂, h₂⟩
  | true =>
    refine W.run h₂ r₂ (fun f s₃ σ₃ r₃ h₃ => ?_)
    cases f with
    | next => obtain ⟨j, hj, i⟩ := h₃; exact ⟨j, hj, σ₃, r₃, i⟩
    | cont => obtain ⟨j, hj, i⟩ := h₃; exact ⟨j, hj, σ₃, r₃, i⟩
    | brk => exact ⟨σ₃, r₃, h₃⟩
    | ret v => exact ⟨σ₃, r₃, h₃⟩

end Mine
end
section
namespace Mine
open PySem PySem.W PySem.Calls PyProof.Rows
set_option maxRecDepth 10000
set_option linter.unusedVariables false

variable {base : Heap} {os : OsState} {H H' : HP} {n n' : Nat} {s s' : Shared} {prog : Program} {w : World} {A : Around} {L : Addr} {σ : St} {m : Loc} {env : Env} {Q : V → St → Prop} {R : Flow → St → Prop}

/-! ## ints -/
section
variable {a b : Int}
noncomputable abbrev PostV (base : Heap) (os : OsState) (L : Addr) (Q : V → St → Prop) : Value → Shared → Prop := fun v s' => ∃ σ', RepF base os L σ' s' ∧ Q (er v) σ'
theorem WB_ii {op : Operator} (h : ∀ t u s, RepF base os L σ s → wpAny (model prog w) A (binaryOp op (.int a t) (.int b u)) (PostV base os L Q) (fun _ _ => False) s) : WB prog w base os A L op (.int a) (.int b) Q σ := by
  intro x y hx hy; obtain ⟨t, rfl⟩ := er_int.mp hx; obtain ⟨u, rfl⟩ := er_int.mp hy; exact h t u
theorem WC_ii {op : CmpOp} (h : ∀ t u s, RepF base os L σ s → wpAny (model prog w) A (compareOp op (.int a t) (.int b u)) (PostV base os L Q) (fun _ _ => False) s) : WC prog w base os A L op (.int a) (.int b) Q σ := by
  intro x y hx hy; obtain ⟨t, rfl⟩ := er_int.mp hx; obtain ⟨u, rfl⟩ := er_int.mp hy; exact h t u
theorem WB_add (h : Q (.int (a + b)) σ) : WB prog w base os A L .Add (.int a) (.int b) Q σ := WB_ii fun _ _ _ r => add_int ⟨σ, r.toks _, h⟩
theorem WB_sub (h : Q (.int (a - b)) σ) : WB prog w base os A L .Sub (.int a) (.int b) Q σ := WB_ii fun _ _ _ r => sub_int ⟨σ, r.toks _, h⟩
theorem WB_mul (h : Q (.int (a * b)) σ) (hm : IntMulOk a b) : WB prog w base os A L .Mult (.int a) (.int b) Q σ := WB_ii fun _ _ _ r => mul_int ⟨σ, r.toks _, h⟩ hm
theorem WB_div (h : Q (.int (a.fdiv b)) σ) (hb : b ≠ 0) (hp : Builtin.divisionGoesByPylong a b = false) : WB prog w base os A L .FloorDiv (.int a) (.int b) Q σ :=
  WB_ii fun _ _ _ r => floordiv_int hb ⟨σ, r.toks _, h⟩ (.inl hp)
theorem WB_mod (h : Q (.int (a.fmod b)) σ) (hb : b ≠ 0) : WB prog w base os A L .Mod (.int a) (.int b) Q σ := WB_ii fun _ _ _ r => mod_int' hb ⟨σ, r.toks _, h⟩
theorem WB_pow (h : Q (.int (a ^ b.toNat)) σ) (hn : 0 ≤ b) (hsz : (Builtin.Int.intBits a : Int) * b ≤ 2 ^ 27) : WB prog w base os A L .Pow (.int a) (.int b) Q σ :=
  WB_ii fun _ _ _ r => pow_int hn hsz ⟨σ, r.toks _, h⟩
theorem WC_lt (h : Q (.bool (decide (a < b))) σ) : WC prog w base os A L .Lt (.int a) (.int b) Q σ := WC_ii fun _ _ _ r => lt_int ⟨σ, r, h⟩
theorem WC_le (h : Q (.bool (decide (a ≤ b))) σ) : WC prog w base os A L .LtE (.int a) (.int b) Q σ := WC_ii fun _ _ _ r => le_int ⟨σ, r, h⟩
theorem WC_gt (h : Q (.bool (decide (b < a))) σ) : WC prog w base os A L .Gt (.int a) (.int b) Q σ := WC_ii fun _ _ _ r => gt_int ⟨σ, r, h⟩
theorem WC_ge (h : Q (.bool (decide (b ≤ a))) σ) : WC prog w base os A L .GtE (.int a) (.int b) Q σ := WC_ii fun _ _ _ r => ge_int ⟨σ, r, h⟩
theorem WC_eq (h : Q (.bool (a == b)) σ) : WC prog w base os A L .Eq (.int a) (.int b) Q σ := WC_ii fun _ _ _ r => eq_int ⟨σ, r, h⟩
theorem WC_ne (h : Q (.bool (a != b)) σ) : WC prog w base os A L .NotEq (.int a) (.int b) Q σ := WC_ii fun _ _ _ r => ne_int ⟨σ, r, h⟩
end
theorem WU_neg {a : Int} (h : Q (.int (-a)) σ) : WU prog w base os A L .USub (.int a) Q σ := fun x hx => by
  obtain ⟨t, rfl⟩ := er_int.mp hx; intro s r; exact neg_int ⟨σ, r.toks _, h⟩

/-! ## strs -/
section
variable {a b : Str}
theorem WC_ss {op : CmpOp} (h : ∀ t u s, RepF base os L σ s → wpAny (model prog w) A (compareOp op (.str a t) (.str b u)) (PostV base os L Q) (fun _ _ => False) s) : WC prog w base os A L op (.str a) (.str b) Q σ := by
  intro x y hx hy; obtain ⟨t, rfl⟩ := er_str.mp hx; obtain ⟨u, rfl⟩ := er_str.mp hy; exact h t u
theorem WB_addS (h : Q (.str (a ++ b)) σ) (hz : a.length + b.length ≤ sizeLine) : WB prog w base os A L .Add (.str a) (.str b) Q σ := by
  intro x y hx hy; obtain ⟨t, rfl⟩ := er_str.mp hx; obtain ⟨u, rfl⟩ := er_str.mp hy; intro s r; exact add_str (fun t' tk => ⟨σ, r.toks tk, h⟩) hz
theorem WC_eqS (h : Q (.bool (a == b)) σ) : WC prog w base os A L .Eq (.str a) (.str b) Q σ := WC_ss fun _ _ _ r => eq_str ⟨σ, r, h⟩
theorem WC_neS (h : Q (.bool (a != b)) σ) : WC prog w base os A L .NotEq (.str a) (.str b) Q σ := WC_ss fun _ _ _ r => ne_str ⟨σ, r, h⟩
-- x += y on strs and ints
theorem WA_addS {x y : Value} (hx : er x = .str a) (hy : er y = .str b) (h : Q (.str (a ++ b)) σ) (hz : a.length + b.length ≤ sizeLine) : WV prog w base os A L (inplaceOp .Add x y) Q σ := by
  obtain ⟨t, rfl⟩ := er_str.mp hx; obtain ⟨u, rfl⟩ := er_str.mp hy; intro s r; exact iadd_str (fun t' tk => ⟨σ, r.toks tk, h⟩) hz
end
theorem WA_add {a b : Int} {x y : Value} (hx : er x = .int a) (hy : er y = .int b) (h : Q (.int (a + b)) σ) : WV prog w base os A L (inplaceOp .Add x y) Q σ := by
  obtain ⟨t, rfl⟩ := er_int.mp hx; obtain ⟨u, rfl⟩ := er_int.mp hy; intro s r; exact iadd_int ⟨σ, r.toks _, h⟩

/-! ## is, truth -/
noncomputable def V.isNone : V → Bool
  | .none => true
  | _ => false
theorem isNone_er (v : Value) : (v == .none) = (er v).isNone := by cases v <;> rfl
theorem WC_isNone {a : V} (h : Q (.bool a.isNone) σ) : WC prog w base os A L .Is a .none Q σ := fun x y hx hy => by
  rw [er_none] at hy; subst hy hx; intro s r; exact is_none ⟨σ, r, by show Q _ σ; rw [isNone_er]; exact h⟩
theorem WC_isNotNone {a : V} (h : Q (.bool (!a.isNone)) σ) : WC prog w base os A L .IsNot a .none Q σ := fun x y hx hy => by
  rw [er_none] at hy; subst hy hx; intro s r; exact isNot_none ⟨σ, r, by show Q _ σ; rw [isNone_er]; exact h⟩
theorem WC_isBool {a b : Bool} (h : Q (.bool (a == b)) σ) : WC prog w base os A L .Is (.bool a) (.bool b) Q σ := fun x y hx hy => by
  rw [er_bool] at hx hy; subst hx hy; intro s r
  show wpAny _ A (do return Value.bool (← isSame (Value.bool a) (Value.bool b))) _ _ s
  have e : isSame (Value.bool a) (Value.bool b) = pure (a == b) := by cases a <;> cases b <;> rfl
  rw [e]; exact wpAny_bind (wpAny_pure (wpAny_pure ⟨σ, r, h⟩))
theorem WC_isNotBool {a b : Bool} (h : Q (.bool (!(a == b))) σ) : WC prog w base os A L .IsNot (.bool a) (.bool b) Q σ := fun x y hx hy => by
  rw [er_bool] at hx hy; subst hx hy; intro s r
  show wpAny _ A (do return Value.bool (!(← isSame (Value.bool a) (Value.bool b)))) _ _ s
  have e : isSame (Value.bool a) (Value.bool b) = pure (a == b) := by cases a <;> cases b <;> rfl
  rw [e]; exact wpAny_bind (wpAny_pure (wpAny_pure ⟨σ, r, h⟩))
theorem WT_bool {b : Bool} {Q : Bool → St → Prop} (h : Q b σ) : WT prog w base os A L (.bool b) Q σ := fun x hx => by
  rw [er_bool] at hx; subst hx; intro s r; exact wpAny_truthy_bool ⟨σ, r, h⟩
theorem WT_int {i : Int} {Q : Bool → St → Prop} (h : Q (i != 0) σ) : WT prog w base os A L (.int i) Q σ := fun x hx => by
  obtain ⟨t, rfl⟩ := er_int.mp hx; intro s r; exact truthy_int ⟨σ, r, h⟩
theorem WT_none {Q : Bool → St → Prop} (h : Q false σ) : WT prog w base os A L .none Q σ := fun x hx => by
  rw [er_none] at hx; subst hx; intro s r; exact truthy_none ⟨σ, r, h⟩
theorem WT_str {x : Str} {Q : Bool → St → Prop} (h : Q ((x.length : Int) != 0) σ) (hz : x.length ≤ sizeLine) : WT prog w base os A L (.str x) Q σ := fun a ha => by
  obtain ⟨t, rfl⟩ := er_str.mp ha; intro s r
  exact PySem.P.truthy_str (by rw [sizeLine_eq] at hz; lia) ⟨σ, r.toks _, h⟩
theorem WT_list {a : Addr} {vs : List V} {Q : Bool → St → Prop} (ha : σ.H a = some (.list vs)) (h : Q (!vs.isEmpty) σ) (hz : vs.length ≤ sizeLine) : WT prog w base os A L (.ref a) Q σ := fun x hx => by
  rw [er_ref] at hx; subst hx; intro s r
  obtain ⟨xs, hl, e⟩ := (r.at_ ha).list
  have hlen : xs.length = vs.length := by rw [← e, List.length_map]
  refine wpAny_truthy_list hl (by rw [List.size_toArray, hlen]; rw [sizeLine_eq] at hz; lia) ⟨σ, r.toks _, ?_⟩
  have : xs.toArray.isEmpty = vs.isEmpty := by rw [← e]; cases xs <;> rfl
  rw [this]; exact h

end Mine
end
section
namespace Mine
open PySem PySem.W PySem.Calls PyProof.Rows
set_option maxRecDepth 10000
set_option linter.unusedVariables false

variable {base : Heap} {os : OsState} {H H' : HP} {n n' : Nat} {s s' : Shared} {prog : Program} {w : World} {A : Around} {L : Addr} {σ : St} {m : Loc} {env : Env} {Q : V → St → Prop} {R : Flow → St → Prop}

/-! ## arguments -/
noncomputable def WArgs (prog : Program) (w : World) (base : Heap) (os : OsState) (A : Around) (L : Addr) (env : Env) : List Expr → (List V → St → Prop) → St → Prop
  | [], Q, σ => Q [] σ
  | e :: r, Q, σ => WV prog w base os A L (eval e env) (fun v => WArgs prog w base os A L env r (fun vs => Q (v :: vs))) σ
noncomputable def plainArgs : List Expr → Bool
  | [] => true
  | .Starred _ _ :: _ => false
  | _ :: r => plainArgs r
theorem starEach_plain {e : Expr} {r : List Expr} (h : plainArgs (e :: r) = true) : starEach (e :: r) env = (false, eval e env) :: starEach r env ∧ plainArgs r = true := by
  cases e <;> first | exact ⟨rfl, h⟩ | exact Bool.noConfusion h
theorem WArgs.sound {pos : Pos} : ∀ {es : List Expr} {Q : List V → St → Prop} {σ : St}, plainArgs es = true → WArgs prog w base os A L env es Q σ →
    W prog w base os A L (spliced (backTo pos (starEach es env))) (fun vs σ' => Q (vs.map er) σ') σ
  | [], Q, σ, _, h => fun s r => wpAny_items_nil ⟨σ, r, h⟩
  | e :: es, Q, σ, hp, h => fun s r => by
    obtain ⟨he, hr⟩ := starEach_plain (env := env) hp
    exact wpAny_items_cons (W.run h r (fun v s₁ σ₁ r₁ h₁ => WArgs.sound hr h₁ s₁ r₁)) he
theorem plain_any {pos : Pos} : ∀ {es : List Expr}, plainArgs es = true → (backTo pos (starEach es env)).any (·.1) = false
  | [], _ => rfl
  | e :: es, hp => by
    obtain ⟨he, hr⟩ := starEach_plain (env := env) hp
    rw [he]
    show (false || (backTo pos (starEach es env)).any (·.1)) = false
    rw [plain_any hr]; rfl
noncomputable def WKws (prog : Program) (w : World) (base : Heap) (os : OsState) (A : Around) (L : Addr) (env : Env) : List Keyword → (List V → St → Prop) → St → Prop
  | [], Q, σ => Q [] σ
  | ⟨_, e, _⟩ :: r, Q, σ => WV prog w base os A L (eval e env) (fun v => WKws prog w base os A L env r (fun vs => Q (v :: vs))) σ
theorem WKws.sound {pos : Pos} : ∀ {ks : List Keyword} {Q : List V → St → Prop} {σ : St}, WKws prog w base os A L env ks Q σ →
    W prog w base os A L (evalAll ((backToKw pos (keywordEach ks env)).map (·.2))) (fun vs σ' => Q (vs.map er) σ') σ
  | [], Q, σ, h => fun s r => wpAny_evalAll_nil ⟨σ, r, h⟩
  | ⟨nm, e, p⟩ :: ks, Q, σ, h => fun s r => by
    show wpAny _ A (evalAll ((do let v ← eval e env; standAt pos; pure v) :: (backToKw pos (keywordEach ks env)).map (·.2))) _ _ s
    exact wpAny_evalAll_cons (wpAny_bind (W.run h r (fun v s₁ σ₁ r₁ h₁ => wpAny_bind (wpAny_standAt (wpAny_pure (WKws.sound h₁ s₁ r₁))))))
noncomputable def kwNames : List Keyword → List Str
  | [] => []
  | ⟨some x, _, _⟩ :: r => x :: kwNames r
  | ⟨none, _, _⟩ :: r => kwNames r
noncomputable def plainKws : List Keyword → Bool
  | [] => true
  | ⟨some _, _, _⟩ :: r => plainKws r
  | ⟨none, _, _⟩ :: _ => false
theorem kw_all {pos : Pos} : ∀ {ks : List Keyword}, plainKws ks = true → (backToKw pos (keywordEach ks env)).all (·.1.isSome) = true ∧ (backToKw pos (keywordEach ks env)).any (·.1.isNone) = false ∧
    (backToKw pos (keywordEach ks env)).filterMap (·.1) = kwNames ks
  | [], _ => ⟨rfl, rfl, rfl⟩
  | ⟨some x, e, p⟩ :: ks, h => by
    obtain ⟨a, b, c⟩ := kw_all (pos := pos) (ks := ks) h
    exact ⟨a, b, by show x :: (backToKw pos (keywordEach ks env)).filterMap (·.1) = x :: kwNames ks; rw [c]⟩
  | ⟨none, e, p⟩ :: ks, h => by simp [plainKws] at h

/-! ## calls -/
-- what may be called: a built-in, a type, a def of the base, a def that was made
noncomputable def Callee (base : Heap) (H : HP) : V → Prop
  | .bi _ => True
  | .ty _ => True
  | .ref a => (∃ o fd, base.get? a = some o ∧ o.data = .func fd) ∨ (∃ o fd, H a = some (.raw o) ∧ o.data = .func fd)
  | _ => False
noncomputable def WCall (prog : Program) (w : World) (base : Heap) (os : OsState) (A : Around) (L : Addr) (f : V) (vs : List V) (names : List Str) (ks : List V) (Q : V → St → Prop) (σ : St) : Prop :=
  ∀ f' as ks', er f' = f → as.map er = vs → ks'.map er = ks → WV prog w base os A L (call f' as (names.zip ks')) Q σ
theorem W_callWith {pos : Pos} {f : Value} {first : List Value} {args : List Expr} {kws : List Keyword} (hp : plainArgs args = true) (hk : plainKws kws = true)
    (h : WArgs prog w base os A L env args (fun vs => WKws prog w base os A L env kws (fun ks σ' => Callee base σ'.H (er f) ∧ WCall prog w base os A L (er f) (first.map er ++ vs) (kwNames kws) ks Q σ')) σ) :
    WV prog w base os A L (callWith pos f first (backTo pos (starEach args env)) (backToKw pos (keywordEach kws env))) Q σ := fun s r => by
  obtain ⟨ha, hb, hc⟩ := kw_all (pos := pos) (env := env) hk
  have hpl := plain_any (pos := pos) (env := env) hp
  have key : wpAny (model prog w) A (spliced (backTo pos (starEach args env))) (fun vs s₁ => wpAny (model prog w) A (evalAll ((backToKw pos (keywordEach kws env)).map (·.2)))
      (fun ks s₂ => (∃ σ₂, RepF base os L σ₂ s₂ ∧ Callee base σ₂.H (er f)) ∧ wpAny (model prog w) A (call f (first ++ vs) ((kwNames kws).zip ks)) (PostV base os L Q) (fun _ _ => False) s₂) (fun _ _ => False) s₁) (fun _ _ => False) s := by
    refine W.run (WArgs.sound hp h) r (fun vs s₁ σ₁ r₁ h₁ => ?_)
    refine W.run (WKws.sound h₁) r₁ (fun ks s₂ σ₂ r₂ h₂ => ⟨⟨σ₂, r₂, h₂.1⟩, h₂.2 f (first ++ vs) ks rfl (by simp) rfl s₂ r₂⟩)
  refine callWith_of (P := fun hp' => ∃ σ₂ s₂, RepF base os L σ₂ s₂ ∧ s₂.heap = hp' ∧ Callee base σ₂.H (er f)) (by rw [hpl, hb]; rfl) (fun h' ⟨σ₂, s₂, r₂, e, hc⟩ => ?_) ?_
  · cases f with
    | ref a =>
      refine ⟨.frame, .inl rfl, ?_⟩
      have : ∃ o fd, h'.get? a = some o ∧ o.data = .func fd := by
        rcases hc with ⟨o, fd, e1, e2⟩ | ⟨o, fd, e1, e2⟩
        · exact ⟨o, fd, e ▸ r₂.1.keep _ _ e1, e2⟩
        · exact ⟨o, fd, e ▸ r₂.at_ e1, e2⟩
      obtain ⟨o, fd, e1, e2⟩ := this
      refine (Looks.ld (part := none) e1).andThen ?_
      rw [e2]; exact .now
    | builtin id => exact ⟨.machine, .inr (.inl rfl), .now⟩
    | type id => exact ⟨.machine, .inr (.inl rfl), .now⟩
    | _ => exact hc.elim
  · cases args with
    | nil =>
      refine evalArgs_kw2_nil ha ?_
      have k2 : WKws prog w base os A L env kws (fun ks σ' => Callee base σ'.H (er f) ∧ WCall prog w base os A L (er f) (first.map er ++ []) (kwNames kws) ks Q σ') σ := h
      exact W.run (WKws.sound k2) r (fun ks s₂ σ₂ r₂ h₂ => ⟨⟨σ₂, s₂, r₂, rfl, h₂.1⟩, by rw [hc]; exact h₂.2 f (first ++ []) ks rfl (by simp) rfl s₂ r₂⟩)
    | cons e rest =>
      refine evalArgs_kw2 ha ?_ (starEach_plain (env := env) hp).1
      exact wpAny_mono key (fun vs s₁ q => wpAny_mono q (fun ks s₂ ⟨⟨σ₂, r₂, hc'⟩, q⟩ => ⟨⟨σ₂, s₂, r₂, rfl, hc'⟩, by rw [hc]; exact q⟩) fun _ _ x => x) fun _ _ x => x

end Mine
end
section
namespace Mine
open PySem PySem.W PySem.Calls PyProof.Rows
set_option maxRecDepth 10000
set_option linter.unusedVariables false

variable {base : Heap} {os : OsState} {H H' : HP} {n n' : Nat} {s s' : Shared} {prog : Program} {w : World} {A : Around} {L : Addr} {σ : St} {m : Loc} {env : Env} {Q : V → St → Prop} {R : Flow → St → Prop}

-- a def at its place
structure FnAt (h : Heap) (f : Addr) (fd : FuncData) : Prop where
  at_ : ∃ o, h.get? f = some o ∧ o.data = .func fd
  code : h.CodeRec fd.code fd.qualname

theorem FnAt.keeps {h h' : Heap} {f : Addr} {fd : FuncData} (x : FnAt h f fd) (k : ∀ b o, h.get? b = some o → h'.get? b = some o) : FnAt h' f fd :=
  ⟨x.at_.imp fun o e => ⟨k _ _ e.1, e.2⟩, x.code.keeps k⟩

-- a def's entry: no cells
theorem C_def {Q : V → HP → Nat → Prop} {f : Addr} {fd : FuncData} {body : List Stmt} {args : Args} {binds : List (Str × Value)}
    (hf : ∀ s, Rep base os H n s → FnAt s.heap f fd) (hlim : base.NoLimit) (hroom : A.depth < recursionLimit) (hbody : fd.body = .stmts body) (hb : ∀ s, Rep base os H n s → BindsTo s fd args binds)
    (hcell : ∀ x ∈ fd.scope.names, x.2 ≠ .cell) (hloc : ∀ x ∈ binds, fd.scope.names.lookup x.1 = some .local)
    (h : ∀ L, n ≤ L → WS prog w base os (A.deeper (callEnv fd L f)) L body (callEnv fd L f)
      (fun fl σ' => ∃ H', (∀ a o, H' a = some o → σ'.H a = some o) ∧ Q (er (match fl with | .ret v => v | _ => .none)) H' σ'.n) ⟨fun x => (binds.reverse.lookup x).map er, H, L + 1⟩)
    (hco : fd.scope.isCoroutine = false) (hgen : fd.scope.isGenerator = false) (hk : fd.scope.kind = .function) : C prog w base os A (.call (.ref f) args) Q H n := fun s r => by
  obtain ⟨⟨o, ho, hd⟩, hc⟩ := hf s r
  refine codeAny_call_def hroom ho hd (hlim.keeps r.keep) hc hbody (hb s r) hcell hloc (fun h₀ hn hk₀ => ?_) hco hgen hk
  have hz : s.heap.objs.size < h₀.objs.size := hn.lt
  have r₀ : RepF base os s.heap.objs.size ⟨fun x => (binds.reverse.lookup x).map er, H, s.heap.objs.size + 1⟩ { s with heap := h₀, toks := s.toks + binds.length } := by
    have hnone : H s.heap.objs.size = none := by
      cases q : H s.heap.objs.size with
      | none => rfl
      | some o' => exact absurd (Nat.lt_of_lt_of_le (r.tells _ _ q).1 r.le) (Nat.lt_irrefl _)
    refine ⟨?_, hnone, Nat.le_trans r.base_le r.le⟩
    exact Rep.more (s := { s with heap := h₀, toks := s.toks + binds.length }) (r.grown hk₀ _ (Nat.le_of_lt hz)) r.le (o := .ns _) ⟨_, hn, fun _ => rfl⟩
  refine wpAny_mono (h _ r.le _ r₀) (fun fl s' ⟨σ', r', H', hs, q⟩ => ⟨_, H', σ'.n, rfl, ?_, q⟩) fun _ _ x => x.elim
  refine r'.1.sub fun a o e => ?_
  have hne : a ≠ s.heap.objs.size := by
    rintro rfl
    have := hs _ _ e; rw [r'.2.1] at this; cases this
  exact (upd_ne hne).trans (hs a o e)

-- back in the caller's frame
theorem W_of_C {f : Value} {args : List Value} {kw : List (Str × Value)} {Q' : V → HP → Nat → Prop} (h : L < σ.n → σ.H L = none → C prog w base os A (.call f ⟨args, kw⟩) Q' (upd σ.H L (.ns σ.m)) σ.n)
    (k : L < σ.n → σ.H L = none → ∀ v H' n', Q' v H' n' → ∃ H₂, H₂ L = none ∧ (∀ a o, H₂ a = some o → H' a = some o) ∧ H' L = some (.ns σ.m) ∧ Q v ⟨σ.m, H₂, n'⟩) : WV prog w base os A L (call f args kw) Q σ := fun s r =>
  wpAny_call (codeAny_mono (h r.Llt r.2.1 s r.1) fun res s' hy1_ => by
    obtain ⟨v, H', n', e, r', q⟩ := hy1_
    subst e
    obtain ⟨H₂, h1, h2, h3, h4⟩ := k r.Llt r.2.1 _ H' n' q
    refine ⟨⟨σ.m, H₂, n'⟩, ⟨r'.sub fun a o e => ?_, h1, r.2.2⟩, h4⟩
    by_cases ha : a = L
    · subst ha; rw [upd_same] at e; cases e; exact h3
    · rw [upd_ne ha] at e; exact h2 a o e)
-- a call that leaves all as it was
theorem W_pure {f : Value} {args : List Value} {kw : List (Str × Value)} {v : V} (h : L < σ.n → σ.H L = none → C prog w base os A (.call f ⟨args, kw⟩) (fun u H' n' => u = v ∧ H' = upd σ.H L (.ns σ.m) ∧ σ.n ≤ n') (upd σ.H L (.ns σ.m)) σ.n)
    (k : ∀ n', σ.n ≤ n' → Q v ⟨σ.m, σ.H, n'⟩) : WV prog w base os A L (call f args kw) Q σ :=
  W_of_C h fun hl hn u H' n' hy2_ => by
    obtain ⟨e1, e2, e3⟩ := hy2_
    subst e1 e2
    exact ⟨σ.H, hn, fun a o e => (upd_ne (by rintro rfl; rw [hn] at e; cases e)).trans e, upd_same _ _ _, k n' e3⟩
theorem W_pureP {f : Value} {args : List Value} {kw : List (Str × Value)} {P : V → Prop} (h : L < σ.n → σ.H L = none → C prog w base os A (.call f ⟨args, kw⟩) (fun u H' n' => P u ∧ H' = upd σ.H L (.ns σ.m) ∧ σ.n ≤ n') (upd σ.H L (.ns σ.m)) σ.n)
    (k : ∀ v n', P v → σ.n ≤ n' → Q v ⟨σ.m, σ.H, n'⟩) : WV prog w base os A L (call f args kw) Q σ :=
  W_of_C h fun hl hn u H' n' hy3_ => by
    obtain ⟨e1, e2, e3⟩ := hy3_
    subst e2
    exact ⟨σ.H, hn, fun a o e => (upd_ne (by rintro rfl; rw [hn] at e; cases e)).trans e, upd_same _ _ _, k _ n' e1 e3⟩
-- a call that gives a new object, all else as it was
theorem W_fresh {f : Value} {args : List Value} {kw : List (Str × Value)} {o : O} (h : L < σ.n → σ.H L = none → C prog w base os A (.call f ⟨args, kw⟩) (fun u H' n' => ∃ a, u = .ref a ∧ H' = upd (upd σ.H L (.ns σ.m)) a o ∧ σ.n ≤ a ∧ a < n') (upd σ.H L (.ns σ.m)) σ.n)
    (k : ∀ a n', σ.n ≤ a → a < n' → Q (.ref a) ⟨σ.m, upd σ.H a o, n'⟩) : WV prog w base os A L (call f args kw) Q σ :=
  W_of_C h fun hl hn u H' n' hy4_ => by
    obtain ⟨a, e1, e2, e3, e4⟩ := hy4_
    subst e1 e2
    have ha : a ≠ L := Nat.ne_of_gt (Nat.lt_of_lt_of_le hl e3)
    refine ⟨upd σ.H a o, (upd_ne (Ne.symm ha)).trans hn, fun b p e => ?_, (upd_ne (Ne.symm ha)).trans (upd_same _ _ _), k a n' e3 e4⟩
    by_cases hb : b = a
    · subst hb; rw [upd_same] at e ⊢; exact e
    · rw [upd_ne hb] at e ⊢
      exact (upd_ne (by rintro rfl; rw [hn] at e; cases e)).trans e
-- a call that turns one object, in one of several ways
theorem W_turnP {f : Value} {args : List Value} {kw : List (Str × Value)} {a : Addr} {p : O} {v : V} {P : O → Prop} (ha : σ.H a = some p)
    (h : a ≠ L → L < σ.n → σ.H L = none → C prog w base os A (.call f ⟨args, kw⟩) (fun u H' n' => u = v ∧ (∃ o, P o ∧ H' = upd (upd σ.H L (.ns σ.m)) a o) ∧ σ.n ≤ n') (upd σ.H L (.ns σ.m)) σ.n)
    (k : ∀ o n', P o → σ.n ≤ n' → Q v ⟨σ.m, upd σ.H a o, n'⟩) : WV prog w base os A L (call f args kw) Q σ :=
  W_of_C (fun hl hn => h (by rintro rfl; rw [hn] at ha; cases ha) hl hn) fun hl hn u H' n' hy6_ => by
    obtain ⟨e1, ⟨o, po, e2⟩, e3⟩ := hy6_
    subst e1 e2
    have hne : a ≠ L := by rintro rfl; rw [hn] at ha; cases ha
    refine ⟨upd σ.H a o, (upd_ne (Ne.symm hne)).trans hn, fun b p e => ?_, (upd_ne (Ne.symm hne)).trans (upd_same _ _ _), k o n' po e3⟩
    by_cases hb : b = a
    · subst hb; rw [upd_same] at e ⊢; exact e
    · rw [upd_ne hb] at e ⊢
      exact (upd_ne (by rintro rfl; rw [hn] at e; cases e)).trans e
theorem upd_sub {H : HP} {L : Addr} {o : O} (h : H L = none) : ∀ a p, H a = some p → upd H L o a = some p := fun a p e => (upd_ne (by rintro rfl; rw [h] at e; cases e)).trans e

end Mine
end
section
namespace Mine
open PySem PySem.W PySem.Calls PyProof.Rows
set_option maxRecDepth 10000
set_option linter.unusedVariables false

variable {base : Heap} {os : OsState} {H H' : HP} {n n' : Nat} {s s' : Shared} {prog : Program} {w : World} {A : Around} {L : Addr} {σ : St} {m : Loc} {env : Env} {Q : V → St → Prop} {R : Flow → St → Prop}

-- the statement's or the expression's shape of a call
theorem W_Call {func : Expr} {args : List Expr} {kws : List Keyword} {pos : Pos} (hp : plainArgs args = true) (hk : plainKws kws = true)
    (h : WV prog w base os A L (eval func env) (fun f => WArgs prog w base os A L env args (fun vs => WKws prog w base os A L env kws (fun ks σ' => Callee base σ'.H f ∧ WCall prog w base os A L f vs (kwNames kws) ks Q σ'))) σ)
    (he : eval (.Call func args kws pos) env = (do callWith pos (← eval func env) [] (backTo pos (starEach args env)) (backToKw pos (keywordEach kws env)))) :
    WV prog w base os A L (eval (.Call func args kws pos) env) Q σ := fun s r => by
  rw [he]
  exact wpAny_bind (W.run h r (fun f s₁ σ₁ r₁ h₁ => W_callWith hp hk (by simpa using h₁) s₁ r₁))
-- a method's call: WM says what the method is
noncomputable def WM (prog : Program) (w : World) (base : Heap) (os : OsState) (A : Around) (L : Addr) (o : V) (name : Str) (Q : String → St → Prop) (σ : St) : Prop :=
  ∀ a (pl : Sem Bool), er a = o → W prog w base os A L (getMethod a name pl) (fun fx σ' => ∃ id, fx = (.builtin id, [a]) ∧ Q id σ') σ
theorem W_Method {o : Expr} {name : Str} {args : List Expr} {kws : List Keyword} {apos pos : Pos} {pl : Sem Bool} (hp : plainArgs args = true) (hk : plainKws kws = true)
    (h : WV prog w base os A L (eval o env) (fun ov => WM prog w base os A L ov name (fun id => WArgs prog w base os A L env args (fun vs => WKws prog w base os A L env kws (fun ks =>
      WCall prog w base os A L (.bi id) (ov :: vs) (kwNames kws) ks Q)))) σ)
    (he : eval (.Call (.Attribute o name apos) args kws pos) env = (do
      let ov ← eval o env
      standAt apos.atName
      let (f, first) ← holding [ov] (getMethod ov name pl)
      callWith pos f first (backTo pos (starEach args env)) (backToKw pos (keywordEach kws env)))) :
    WV prog w base os A L (eval (.Call (.Attribute o name apos) args kws pos) env) Q σ := fun s r => by
  refine methodCall_KW (pl := pl) (W.run h r (fun ov s₁ σ₁ r₁ h₁ => wpAny_mono (h₁ ov pl rfl s₁ r₁) (fun fx s₂ ⟨σ₂, r₂, id, e, h₂⟩ => ?_) fun _ _ x => x)) he
  subst e
  refine W_callWith hp hk (f := .builtin id) (first := [ov]) ?_ s₂ r₂
  refine WArgs_mono ?_ h₂
  intro vs σ₃ h₃
  exact WKws_mono (fun ks σ₄ h₄ => ⟨trivial, h₄⟩) h₃
where
  WArgs_mono : ∀ {es : List Expr} {Q Q' : List V → St → Prop} {σ : St}, (∀ vs σ, Q vs σ → Q' vs σ) → WArgs prog w base os A L env es Q σ → WArgs prog w base os A L env es Q' σ
    | [], _, _, _, k, h => k _ _ h
    | _ :: es, _, _, _, k, h => W.mono h fun v σ' h' => WArgs_mono (fun vs σ q => k _ _ q) h'
  WKws_mono : ∀ {es : List Keyword} {Q Q' : List V → St → Prop} {σ : St}, (∀ vs σ, Q vs σ → Q' vs σ) → WKws prog w base os A L env es Q σ → WKws prog w base os A L env es Q' σ
    | [], _, _, _, k, h => k _ _ h
    | ⟨_, _, _⟩ :: es, _, _, _, k, h => W.mono h fun v σ' h' => WKws_mono (fun vs σ q => k _ _ q) h'

-- methods of values that are no references
theorem WM_of {o : V} {T : String} {name : Str} {id : String} {Q : String → St → Prop} (pa : PlainAttrs T) (slot : Slot T name id) (hty : typeOf (.builtin id) = pure (.type "method_descriptor"))
    (hT : ∀ a s, er a = o → RepF base os L σ s → s.TypeIs a T) (hd : ∀ a s x, er a = o → RepF base os L σ s → a = .ref x → ∃ ob, s.heap.get? x = some ob ∧ ob.dict = none) (h : Q id σ) :
    WM prog w base os A L o name Q σ := fun a pl e s r => getMethod_builtin (hT a s e r) pa slot hty (fun x ex => hd a s x e r ex) ⟨σ, r, id, rfl, h⟩
theorem WM_str {x : Str} {name : Str} {id : String} {Q : String → St → Prop} (slot : Slot "str" name id) (hty : typeOf (.builtin id) = pure (.type "method_descriptor")) (h : Q id σ) :
    WM prog w base os A L (.str x) name Q σ :=
  WM_of PySem.F.plainAttrs_str slot hty (fun a s e r => by obtain ⟨t, rfl⟩ := er_str.mp e; exact typeIs_str s x t) (fun a s y e r q => by obtain ⟨t, rfl⟩ := er_str.mp e; cases q) h
theorem WM_list {a : Addr} {vs : List V} {name : Str} {id : String} {Q : String → St → Prop} (ha : σ.H a = some (.list vs)) (slot : Slot "list" name id) (hty : typeOf (.builtin id) = pure (.type "method_descriptor"))
    (h : Q id σ) : WM prog w base os A L (.ref a) name Q σ :=
  WM_of PySem.F.plainAttrs_list slot hty (fun b s e r => by rw [er_ref] at e; subst e; obtain ⟨xs, k, g, _⟩ := r.at_ ha; exact ⟨_, g, rfl⟩)
    (fun b s y e r q => by rw [er_ref] at e; subst e; cases q; obtain ⟨xs, k, g, _⟩ := r.at_ ha; exact ⟨_, g, rfl⟩) h

/-! ## subscripts -/
noncomputable def WSub (prog : Program) (w : World) (base : Heap) (os : OsState) (A : Around) (L : Addr) (value slice : Expr) (x y : V) (Q : V → St → Prop) (σ : St) : Prop :=
  ∀ a b, er a = x → er b = y → WV prog w base os A L (subscriptTail value slice a b) Q σ
theorem W_Subscript {value slice : Expr} {pos : Pos} (h : WV prog w base os A L (eval value env) (fun x => WV prog w base os A L (eval slice env) (fun y => WSub prog w base os A L value slice x y Q)) σ) :
    WV prog w base os A L (eval (.Subscript value slice pos) env) Q σ := fun s r =>
  Subscript_ (W.run h r (fun a s₁ _ r₁ h₁ => W.run h₁ r₁ (fun b s₂ _ r₂ h₂ => h₂ a b rfl rfl s₂ r₂)))
noncomputable def notSlice : Expr → Bool
  | .Slice .. => false
  | _ => true
theorem sub_int {slice : Expr} {o i : Value} (h : notSlice slice = true) : subscripted slice false o i = operate [o, i] (getItem o i) := by
  cases slice <;> first | rfl | exact Bool.noConfusion h
theorem WSub_list {value slice : Expr} {a : Addr} {vs : List V} {i : Int} {v : V} (ha : σ.H a = some (.list vs)) (h0 : 0 ≤ i) (hv : vs[i.toNat]? = some v) (hz : vs.length ≤ sizeLine) (h : Q v σ) (hs : notSlice slice = true) :
    WSub prog w base os A L value slice (.ref a) (.int i) Q σ := fun x y ex ey s r => by
  rw [er_ref] at ex; subst ex; obtain ⟨t, rfl⟩ := er_int.mp ey
  obtain ⟨xs, hl, e⟩ := (r.at_ ha).list
  subst e
  rw [List.getElem?_map] at hv
  obtain ⟨u, hu, rfl⟩ := Option.map_eq_some_iff.mp hv
  have hlt : i.toNat < xs.length := (List.getElem?_eq_some_iff.mp hu).1
  rw [List.length_map, sizeLine_eq] at hz
  exact tail_any hl.typeIs slot_list_getitem.lookup (wpAny_getItem_list hl h0 (by lia) (by simpa using hu) ⟨σ, r, h⟩) (sub_int hs)
theorem WSub_tup {value slice : Expr} {a : Addr} {vs : List V} {i : Int} {v : V} (ha : σ.H a = some (.tup vs)) (h0 : 0 ≤ i) (hv : vs[i.toNat]? = some v) (hz : vs.length ≤ sizeLine) (h : Q v σ) (hs : notSlice slice = true) :
    WSub prog w base os A L value slice (.ref a) (.int i) Q σ := fun x y ex ey s r => by
  rw [er_ref] at ex; subst ex; obtain ⟨t, rfl⟩ := er_int.mp ey
  obtain ⟨xs, hl, e⟩ := (r.at_ ha).tup
  subst e
  rw [List.getElem?_map] at hv
  obtain ⟨u, hu, rfl⟩ := Option.map_eq_some_iff.mp hv
  have hlt : i.toNat < xs.length := (List.getElem?_eq_some_iff.mp hu).1
  rw [List.length_map, sizeLine_eq] at hz
  refine tail_any hl.typeIs slot_tuple_getitem.lookup (PyProof.Rows.getItem_tuple hl (j := i.toNat) (by lia) (by lia) ?_ (by simpa using hu) ⟨σ, r, h⟩) (sub_int hs)
  unfold seqIndex?
  rw [List.size_toArray]
  simp
  lia

/-! ## len, and the lists' methods -/
theorem WCall_bi {id : String} {vs : List V} {Q : V → St → Prop} (h : ∀ as, as.map er = vs → WV prog w base os A L (call (.builtin id) as []) Q σ) : WCall prog w base os A L (.bi id) vs [] [] Q σ := fun f as ks ef ea ek => by
  rw [er_bi] at ef; subst ef
  cases ks with
  | nil => exact h as ea
  | cons _ _ => simp at ek
theorem map_one {as : List Value} {x : V} (h : as.map er = [x]) : ∃ a, as = [a] ∧ er a = x := by
  cases as with
  | nil => cases h
  | cons a r => cases r with
    | nil => exact ⟨a, rfl, by simpa using h⟩
    | cons _ _ => simp at h
theorem map_two {as : List Value} {x y : V} (h : as.map er = [x, y]) : ∃ a b, as = [a, b] ∧ er a = x ∧ er b = y := by
  cases as with
  | nil => cases h
  | cons a r =>
    simp only [List.map_cons, List.cons.injEq] at h
    obtain ⟨b, rfl, e⟩ := map_one h.2
    exact ⟨a, b, rfl, h.1, e⟩
theorem map_three {as : List Value} {x y z : V} (h : as.map er = [x, y, z]) : ∃ a b c, as = [a, b, c] ∧ er a = x ∧ er b = y ∧ er c = z := by
  cases as with
  | nil => cases h
  | cons a r =>
    simp only [List.map_cons, List.cons.injEq] at h
    obtain ⟨b, c, rfl, e⟩ := map_two h.2
    exact ⟨a, b, c, rfl, h.1, e⟩
theorem map_four {as : List Value} {x y z u : V} (h : as.map er = [x, y, z, u]) : ∃ a b c d, as = [a, b, c, d] ∧ er a = x ∧ er b = y ∧ er c = z ∧ er d = u := by
  cases as with
  | nil => cases h
  | cons a r =>
    simp only [List.map_cons, List.cons.injEq] at h
    obtain ⟨b, c, d, rfl, e⟩ := map_three h.2
    exact ⟨a, b, c, d, rfl, h.1, e⟩
theorem WCall_len {a : Addr} {vs : List V} (ha : σ.H a = some (.list vs)) (h : Q (.int vs.length) σ) (hz : vs.length ≤ sizeLine) : WCall prog w base os A L (.bi "len") [.ref a] [] [] Q σ :=
  WCall_bi fun as e => by
    obtain ⟨x, rfl, ex⟩ := map_one e
    rw [er_ref] at ex; subst ex
    intro s r
    obtain ⟨xs, hl, e⟩ := (r.at_ ha).list
    have hlen : xs.length = vs.length := by rw [← e, List.length_map]
    refine call_len_list hl (by rw [List.size_toArray, hlen]; rw [sizeLine_eq] at hz; lia) ⟨σ, r.toks _, ?_⟩
    show Q (.int (xs.toArray.size : Nat)) σ
    rw [List.size_toArray, hlen]; exact h
theorem WCall_lenS {x : Str} (h : Q (.int x.length) σ) (hz : x.length ≤ sizeLine) : WCall prog w base os A L (.bi "len") [.str x] [] [] Q σ :=
  WCall_bi fun as e => by
    obtain ⟨y, rfl, ex⟩ := map_one e
    obtain ⟨t, rfl⟩ := er_str.mp ex
    intro s r
    exact PyProof.Rows.len_str (by rw [sizeLine_eq] at hz; lia) ⟨σ, r.toks _, h⟩
-- a list's items are turned by `f`
theorem turn_list {a : Addr} {vs : List V} (ha : σ.H a = some (.list vs)) (hb : base.objs.size ≤ a) (r : RepF base os L σ s) {xs : List Value} {k : Nat} (hx : s.heap.get? a = some { cls := .type "list", data := .seq xs.toArray k })
    (f : Array Value → Array Value) (ws : List Value) (hf : f xs.toArray = ws.toArray) (t : Nat) :
    RepF base os L ⟨σ.m, upd σ.H a (.list (ws.map er)), σ.n⟩ { s with heap := s.heap.update a (Obj.mapSeq f), toks := t } := by
  obtain ⟨k', hk'⟩ : ∃ k', Obj.mapSeq f { cls := .type "list", data := .seq xs.toArray k } = { cls := .type "list", data := .seq ws.toArray k' } := ⟨_, by unfold Obj.mapSeq; simp only [hf]; rfl⟩
  have g : (s.heap.update a (Obj.mapSeq f)).get? a = some { cls := .type "list", data := .seq ws.toArray k' } := by
    rw [← hk']
    exact Heap.get?_update_self _ hx (by rw [hk']; rfl)
  exact r.turn (o := .list (ws.map er)) ha hb ⟨ws, k', g, rfl⟩ (fun b c hne e => (Heap.get?_update_ne _ _ _ _ hne).trans e) t (Nat.le_of_eq (Heap.SameBut.update s.heap a (Obj.mapSeq f)).1.symm)
theorem WCall_append {a : Addr} {vs : List V} {v : V} (ha : σ.H a = some (.list vs)) (hb : base.objs.size ≤ a) (hz : vs.length ≤ sizeLine) (h : Q .none ⟨σ.m, upd σ.H a (.list (vs ++ [v])), σ.n⟩) :
    WCall prog w base os A L (.bi "list.append") [.ref a, v] [] [] Q σ := WCall_bi fun as e => by
  obtain ⟨x, y, rfl, ex, ey⟩ := map_two e
  rw [er_ref] at ex; subst ex ey
  intro s r
  obtain ⟨xs, k, g, e⟩ := r.at_ ha
  subst e
  rw [List.length_map] at hz
  refine call_meets PySem.F.slot_list_append ⟨_, g, rfl⟩ PySem.F.entry_list_append (PySem.F.args_list_append_2 _ _) (PySem.AutoListH.list_append_list_val_0 a xs.toArray k y (by simpa using hz)) ⟨g, ?_⟩
  have := turn_list ha hb r g (fun z => z.push y) (xs ++ [y]) (by simp) s.toks
  exact ⟨_, this, by show Q .none _; simpa using h⟩
theorem insert_list {xs : List Value} {y : Value} {i : Int} (h0 : 0 ≤ i) (hi : i ≤ xs.length) :
    (fun zs : Array Value => have k := if i < 0 then (i + ((zs.size : Nat) : Int)).toNat else min i.toNat zs.size; (zs.extract 0 k).push y ++ zs.extract k) xs.toArray = (xs.take i.toNat ++ y :: xs.drop i.toNat).toArray := by
  have e : ¬ i < 0 := by lia
  have e2 : min i.toNat xs.length = i.toNat := by lia
  simp only [e, if_false, List.size_toArray, e2]
  apply Array.ext'
  simp only [Array.toList_append, Array.toList_push, Array.toList_extract, List.extract_eq_take_drop, List.drop_zero, Nat.sub_zero, List.append_assoc, List.cons_append, List.nil_append]
  rw [List.take_of_length_le (i := xs.length - i.toNat) (by simp)]
theorem WCall_insert {a : Addr} {vs : List V} {v : V} {i : Int} (ha : σ.H a = some (.list vs)) (hb : base.objs.size ≤ a) (hz : vs.length ≤ sizeLine) (h0 : 0 ≤ i) (hi : i ≤ vs.length)
    (h : Q .none ⟨σ.m, upd σ.H a (.list (vs.take i.toNat ++ v :: vs.drop i.toNat)), σ.n⟩) : WCall prog w base os A L (.bi "list.insert") [.ref a, .int i, v] [] [] Q σ := WCall_bi fun as e => by
  obtain ⟨x, y, z, rfl, ex, ey, ez⟩ := map_three e
  rw [er_ref] at ex; subst ex ez
  obtain ⟨t, rfl⟩ := er_int.mp ey
  intro s r
  obtain ⟨xs, k, g, e⟩ := r.at_ ha
  subst e
  rw [List.length_map] at hz hi
  have hfit : ¬(!Builtin.List.listFitsIndex i) = true := by
    rw [sizeLine_eq] at hz
    unfold Builtin.List.listFitsIndex
    simp
    lia
  refine call_meets PySem.F.slot_list_insert ⟨_, g, rfl⟩ PySem.F.entry_list_insert (PySem.F.args_list_insert_3 _ _ _) (PySem.AutoListH.list_insert_list_int_val_1 a xs.toArray k i t z hfit (by simpa using hz)) ⟨g, ?_⟩
  have := turn_list ha hb r g (fun zs : Array Value => have k := if i < 0 then (i + ((zs.size : Nat) : Int)).toNat else min i.toNat zs.size; (zs.extract 0 k).push z ++ zs.extract k) (xs.take i.toNat ++ z :: xs.drop i.toNat) (insert_list (y := z) h0 hi) s.toks
  exact ⟨_, this, by show Q .none _; simpa [List.map_take, List.map_drop] using h⟩

end Mine
end
section
namespace Mine
open PySem PySem.W PySem.Calls PyProof.Rows
open PySem.Builtin.Re (reDrive reRunToEnd reTurnSteps)
set_option maxRecDepth 10000
set_option linter.unusedVariables false

/-! the machine of sre -/
theorem runFor_stay : ∀ {n : Nat} {m : Sre.M}, m.outcome.isSome = true → Sre.M.runFor n m = m
  | 0, _, _ => rfl
  | n + 1, m, h => by unfold Sre.M.runFor; rw [if_pos h]
theorem runFor_add : ∀ {a b : Nat} {m : Sre.M}, Sre.M.runFor (a + b) m = Sre.M.runFor b (Sre.M.runFor a m)
  | 0, b, m => by rw [Nat.zero_add]; rfl
  | a + 1, b, m => by
    rw [Nat.succ_add]
    cases h : m.outcome.isSome with
    | true => rw [runFor_stay h, runFor_stay (n := a + 1) h, runFor_stay h]
    | false =>
      show (if m.outcome.isSome then m else Sre.M.runFor (a + b) m.step) = Sre.M.runFor b (if m.outcome.isSome then m else Sre.M.runFor a m.step)
      rw [if_neg (by rw [h]; decide), if_neg (by rw [h]; decide)]
      exact runFor_add

noncomputable def Ends (n : Nat) (m m' : Sre.M) : Prop := Sre.M.runFor n m = m' ∧ m'.outcome.isSome = true
theorem Ends.step {n : Nat} {m m₁ m' : Sre.M} (h : m.outcome = none) (e : m.step = m₁) (x : Ends n m₁ m') : Ends (n + 1) m m' := by
  refine ⟨?_, x.2⟩
  show (if m.outcome.isSome then m else Sre.M.runFor n m.step) = m'
  rw [if_neg (by rw [h]; decide), e]; exact x.1

variable {M : Model} {A : Around} {s : Shared} {E : Value → Shared → Prop}

theorem wpAny_reDrive : ∀ {turns n : Nat} {m m' : Sre.M} {Q : Sre.M → Shared → Prop}, Ends n m m' → n ≤ 4 * turns → 0 < turns → Q m' s → wpAny M A (reDrive turns m) Q E s
  | 0, _, _, _, _, _, _, h0, _ => absurd h0 (Nat.lt_irrefl _)
  | t + 1, n, m, m', Q, x, hn, _, hq => by
    show wpAny M A (let m := m.runFor reTurnSteps; if m.outcome.isSome then pure m else do PySem.rule "sre.turn"; reDrive t m) Q E s
    by_cases h4 : n ≤ 4
    · have e : Sre.M.runFor reTurnSteps m = m' := by
        have : reTurnSteps = n + (4 - n) := by show 4 = _; lia
        rw [this, runFor_add, x.1, runFor_stay x.2]
      dsimp only
      rw [e, if_pos x.2]
      exact wpAny_pure hq
    · have e : n = reTurnSteps + (n - 4) := by show n = 4 + _; lia
      have x1 : Sre.M.runFor (n - 4) (Sre.M.runFor reTurnSteps m) = m' := by rw [← runFor_add, ← e]; exact x.1
      dsimp only
      cases h : (Sre.M.runFor reTurnSteps m).outcome.isSome with
      | true =>
        rw [runFor_stay h] at x1
        simp only [if_true]
        rw [x1]; exact wpAny_pure hq
      | false =>
        simp only [Bool.false_eq_true, if_false]
        exact wpAny_bind (wpAny_rule (wpAny_reDrive (n := n - 4) ⟨x1, x.2⟩ (by lia) (by lia) hq))
theorem wpAny_forRules {α : Type} {f : α → PUnit → Sem (ForInStep PUnit)} (hf : ∀ a (Q : ForInStep PUnit → Shared → Prop), Q (.yield ⟨⟩) s → wpAny M A (f a ⟨⟩) Q E s) : ∀ (l : List α) {Q : PUnit → Shared → Prop},
    Q ⟨⟩ s → wpAny M A (forIn l PUnit.unit f) Q E s
  | [], Q, h => by rw [List.forIn_nil]; exact wpAny_pure h
  | a :: l, Q, h => by
    rw [List.forIn_cons]
    exact wpAny_bind (hf a _ (wpAny_forRules hf l h))
noncomputable def endOf (m : Sre.M) : Option (Option Sre.M) := match m.outcome with
  | some .matched => some (some m)
  | some .failed => some none
  | _ => none
theorem wpAny_reRunToEnd {n : Nat} {m m' : Sre.M} {r : Option Sre.M} {Q : Option Sre.M → Shared → Prop} (x : Ends n m m') (hn : n ≤ 2 ^ 66) (e : endOf m' = some r) (h : Q r s) : wpAny M A (reRunToEnd m) Q E s := by
  unfold reRunToEnd
  refine wpAny_bind (wpAny_reDrive x (by lia) (by decide) ?_)
  refine wpAny_bind (wpAny_forRules (fun a Q hq => ?_) _ ?_)
  · cases h : m'.seen.has a with
    | true => simp only [if_true]; exact wpAny_bind (wpAny_rule (wpAny_pure hq))
    | false => simp only [Bool.false_eq_true, if_false]; exact wpAny_pure hq
  · unfold endOf at e
    split at e
    · rename_i h1; cases e; rw [h1]; exact wpAny_pure h
    · rename_i h1; cases e; rw [h1]; exact wpAny_pure h
    · cases e

/-! the two patterns -/
noncomputable def code1 : Array Nat := #[14, 4, 0, 1, 1, 6, 1, 16, 46, 1]
noncomputable def code2 : Array Nat := #[14, 9, 4, 1, 2, 16, 10, 16, 13, 0, 7, 7, 16, 13, 16, 10, 15, 18, 5, 16, 10, 15, 13, 11, 16, 13, 5, 5, 0, 16, 10, 1, 15, 2, 0, 1]
variable {T : Array Nat}

-- what a found match must be
noncomputable def Found (r : Option (Nat × Nat)) (m : Sre.M) : Prop := match r with
  | some (b, e) => m.outcome = some .matched ∧ m.start = b ∧ m.handed = e
  | none => m.outcome = some .failed
noncomputable def Fin (N : Nat) (r : Option (Nat × Nat)) (m : Sre.M) : Prop := ∃ n m', n ≤ N ∧ Ends n m m' ∧ Found r m'
theorem Fin.step {N : Nat} {r : Option (Nat × Nat)} {m m₁ : Sre.M} (e : m.step = m₁) (h : m.outcome = none) (x : Fin N r m₁) : Fin (N + 1) r m := by
  obtain ⟨n, m', a, b, c⟩ := x
  exact ⟨n + 1, m', Nat.succ_le_succ a, b.step h e, c⟩
theorem Fin.now {N : Nat} {r : Option (Nat × Nat)} {m : Sre.M} (h : m.outcome.isSome = true) (x : Found r m) : Fin N r m := ⟨0, m, Nat.zero_le _, ⟨rfl, h⟩, x⟩
theorem Fin.le {N N' : Nat} {r : Option (Nat × Nat)} {m : Sre.M} (x : Fin N r m) (h : N ≤ N') : Fin N' r m := by
  obtain ⟨n, m', a, b⟩ := x
  exact ⟨n, m', Nat.le_trans a h, b⟩

noncomputable def S0 (T : Array Nat) (p : Nat) (first : Bool) (seen : Sre.Seen) : Sre.M :=
  { code := code1, text := T, lim := T.size, start := p, lastStart := T.size, pc := 5, pos := p, handed := p, outermost := first, marks := #[], lastmark := -1, lastindex := -1,
    frames := [{ wait := .nextStart, pc := 5, pos := p, outermost := first }], weight := 1, seen }
noncomputable def at1 (T : Array Nat) (p : Nat) : Bool := (p == 0 || T.getD (p - 1) 0 == 10) && decide (p < T.size) && T.getD p 0 == 46
theorem s0 {p : Nat} {first : Bool} {seen : Sre.Seen} : (S0 T p first seen).step =
    if (p == 0 || T.getD (p - 1) 0 == 10) = true then { S0 T p first ((seen.add 6).add 44) with pc := 7 } else { S0 T p first ((seen.add 6).add 44) with answer := some false } := by rfl
theorem s1 {p : Nat} {first : Bool} {seen : Sre.Seen} : { S0 T p first seen with pc := 7 }.step =
    if p ≥ T.size then { S0 T p first (seen.add 16) with pc := 7, answer := some false } else
    if (T.getD p 0 == 46) = true then { S0 T p first (seen.add 16) with pc := 9, pos := p + 1 } else { S0 T p first (seen.add 16) with pc := 7, answer := some false } := by
  show (if p ≥ T.size then _ else match (Except.ok (T.getD p 0 == 46, seen.add 16) : Except String (Bool × Sre.Seen)) with | .error why => _ | .ok (false, seen) => _ | .ok (true, seen) => _) = _
  split
  · rfl
  · cases h : T.getD p 0 == 46 <;> rfl
theorem s2 {p : Nat} {first : Bool} {seen : Sre.Seen} : { S0 T p first seen with pc := 9, pos := p + 1 }.step =
    { S0 T p first (seen.add 1) with pc := 9, pos := p + 1, handed := p + 1, answer := some true } := by
  cases first <;> rfl
theorem s3 {p : Nat} {first : Bool} {seen : Sre.Seen} : { S0 T p first seen with pc := 9, pos := p + 1, handed := p + 1, answer := some true }.step =
    { S0 T p first seen with handed := p + 1, answer := some true, frames := [], weight := 0 } := by rfl
theorem s4 {p : Nat} {first : Bool} {seen : Sre.Seen} : { S0 T p first seen with handed := p + 1, answer := some true, frames := [], weight := 0 }.step =
    { S0 T p first seen with handed := p + 1, answer := some true, frames := [], weight := 0, outcome := some .matched } := by rfl
theorem n1 {p : Nat} {first : Bool} {seen : Sre.Seen} {q : Nat} : { S0 T p first seen with pc := q, answer := some false }.step =
    if p < T.size then S0 T (p + 1) false seen else { S0 T p first seen with frames := [], weight := 0, answer := some false } := by rfl
theorem n2 {p : Nat} {first : Bool} {seen : Sre.Seen} : { S0 T p first seen with frames := [], weight := 0, answer := some false }.step =
    { S0 T p first seen with frames := [], weight := 0, answer := some false, outcome := some .failed } := by rfl

theorem look1_yes {p : Nat} {first : Bool} {seen : Sre.Seen} (h : at1 T p = true) : Fin 5 (some (p, p + 1)) (S0 T p first seen) := by
  unfold at1 at h
  simp only [Bool.and_eq_true, decide_eq_true_eq] at h
  refine Fin.step (s0.trans (if_pos h.1.1)) rfl ?_
  refine Fin.step (s1.trans ((if_neg (Nat.not_le.mpr h.1.2)).trans (if_pos h.2))) rfl ?_
  exact Fin.step s2 rfl (Fin.step s3 rfl (Fin.step s4 rfl (Fin.now rfl ⟨rfl, rfl, rfl⟩)))
theorem look1_no {N p : Nat} {first : Bool} {seen : Sre.Seen} {r : Option (Nat × Nat)} (h : at1 T p = false) (k : ∀ seen', if p < T.size then Fin N r (S0 T (p + 1) false seen') else N > 0 ∧ r = none) :
    Fin (N + 3) r (S0 T p first seen) := by
  have last : ∀ (N' : Nat) (seen' : Sre.Seen) (q : Nat), N' = N + 1 → Fin N' r { S0 T p first seen' with pc := q, answer := some false } := fun N' seen' q e => by
    subst e
    have k' := k seen'
    by_cases hp : p < T.size
    · rw [if_pos hp] at k'
      exact Fin.step (n1.trans (if_pos hp)) rfl k'
    · rw [if_neg hp] at k'
      obtain ⟨k1, k2⟩ := k'
      subst k2
      obtain ⟨N₀, rfl⟩ : ∃ N₀, N = N₀ + 1 := ⟨N - 1, by lia⟩
      exact Fin.step (n1.trans (if_neg hp)) rfl (Fin.step n2 rfl (Fin.now rfl rfl))
  cases h1 : (p == 0 || T.getD (p - 1) 0 == 10) with
  | false => exact (Fin.step (s0.trans (if_neg (by rw [h1]; decide))) rfl (last _ _ 5 rfl)).le (by lia)
  | true =>
    refine Fin.step (s0.trans (if_pos h1)) rfl ?_
    by_cases hp : p ≥ T.size
    · exact Fin.step (s1.trans (if_pos hp)) rfl (last _ _ 7 rfl)
    · have h2 : ¬ (T.getD p 0 == 46) = true := by
        intro q
        unfold at1 at h
        rw [h1, q] at h
        simp at h; lia
      exact Fin.step (s1.trans ((if_neg hp).trans (if_neg h2))) rfl (last _ _ 7 rfl)
-- where the first dot at a line's head stands, from p on
noncomputable def find1 (T : Array Nat) : (fuel p : Nat) → Option (Nat × Nat)
  | 0, p => none
  | f + 1, p => if at1 T p then some (p, p + 1) else find1 T f (p + 1)
theorem run1 : ∀ (f p : Nat) (first : Bool) (seen : Sre.Seen), p + f = T.size + 1 → 0 < f → Fin (3 * f + 5) (find1 T f p) (S0 T p first seen)
  | 0, _, _, _, _, h => absurd h (Nat.lt_irrefl _)
  | f + 1, p, first, seen, e, _ => by
    unfold find1
    cases h : at1 T p with
    | true => rw [if_pos rfl]; exact (look1_yes h).le (by lia)
    | false =>
      rw [if_neg (by decide)]
      refine (look1_no (N := 3 * f + 5) h fun seen' => ?_).le (by lia)
      by_cases hp : p < T.size
      · rw [if_pos hp]; exact run1 f (p + 1) false seen' (by lia) (by lia)
      · rw [if_neg hp]
        have : f = 0 := by lia
        subst this
        exact ⟨by lia, rfl⟩
theorem search1_eq {p : Nat} : Sre.forSearch code1 T 0 p T.size false = if (decide (p > T.size) || decide (T.size - p < 1)) = true then
      { code := code1, text := T, lim := T.size, start := p, pc := 5, pos := p, handed := p, marks := #[], mustAdvance := false, seen := ({} : Sre.Seen).add 14, answer := some false }
    else S0 T p true (({} : Sre.Seen).add 14) := by rfl
theorem at1_end {p : Nat} (h : T.size ≤ p) : at1 T p = false := by
  unfold at1
  have : decide (p < T.size) = false := by simp; lia
  rw [this]; simp
theorem search1 {p : Nat} (h : p ≤ T.size) : Fin (3 * T.size + 10) (find1 T (T.size + 1 - p) p) (Sre.forSearch code1 T 0 p T.size false) := by
  rw [search1_eq]
  by_cases hp : p = T.size
  · subst hp
    rw [if_pos (by simp)]
    have e : find1 T (T.size + 1 - T.size) T.size = none := by
      rw [Nat.add_sub_cancel_left]
      unfold find1
      rw [at1_end (Nat.le_refl _)]; rfl
    rw [e]
    exact Fin.le (Fin.step (N := 0) rfl rfl (Fin.now rfl rfl)) (by lia)
  · rw [if_neg (by simp; lia)]
    exact (run1 _ p true _ (by lia) (by lia)).le (by lia)

/-! the second pattern -/
noncomputable def Z0 (T : Array Nat) (p : Nat) (first : Bool) (seen : Sre.Seen) : Sre.M :=
  { code := code2, text := T, lim := T.size, start := p, lastStart := T.size, pc := 10, pos := p, handed := p, outermost := first, marks := #[], lastmark := -1, lastindex := -1,
    frames := [{ wait := .nextStart, pc := 10, pos := p, outermost := first }], weight := 1, seen }
-- a frame of the branch: `at_` is the alternative's place
noncomputable def br (p : Nat) (first : Bool) (at_ : Nat) : Sre.Frame := { wait := .nextBranch, pc := at_, pos := p, outermost := first, kept := { lastmark := -1, lastindex := -1 } }
noncomputable def Z1 (T : Array Nat) (p : Nat) (first : Bool) (seen : Sre.Seen) (at_ : Nat) : Sre.M :=
  { Z0 T p first seen with frames := [br p first at_, { wait := .nextStart, pc := 10, pos := p, outermost := first }], weight := 2, pc := at_ + 1 }
theorem z0 {p : Nat} {first : Bool} {seen : Sre.Seen} : (Z0 T p first seen).step = Z1 T p first (seen.add 7) 11 := by rfl
theorem z2 {p : Nat} {first : Bool} {seen : Sre.Seen} : (Z1 T p first seen 11).step =
    if p ≥ T.size then { Z1 T p first (seen.add 16) 11 with answer := some false } else
    if (T.getD p 0 == 13) = true then { Z1 T p first (seen.add 16) 11 with pc := 14, pos := p + 1 } else { Z1 T p first (seen.add 16) 11 with answer := some false } := by
  show (if p ≥ T.size then _ else match (Except.ok (T.getD p 0 == 13, seen.add 16) : Except String (Bool × Sre.Seen)) with | .error why => _ | .ok (false, seen) => _ | .ok (true, seen) => _) = _
  split
  · rfl
  · cases h : T.getD p 0 == 13 <;> rfl
theorem z3 {p : Nat} {first : Bool} {seen : Sre.Seen} {q : Nat} : { Z1 T p first seen 11 with pc := 14, pos := q }.step =
    if q ≥ T.size then { Z1 T p first (seen.add 16) 11 with pc := 14, pos := q, answer := some false } else
    if (T.getD q 0 == 10) = true then { Z1 T p first (seen.add 16) 11 with pc := 16, pos := q + 1 } else { Z1 T p first (seen.add 16) 11 with pc := 14, pos := q, answer := some false } := by
  show (if q ≥ T.size then _ else match (Except.ok (T.getD q 0 == 10, seen.add 16) : Except String (Bool × Sre.Seen)) with | .error why => _ | .ok (false, seen) => _ | .ok (true, seen) => _) = _
  split
  · rfl
  · cases h : T.getD q 0 == 10 <;> rfl
-- the jump, the end, back through the frames: matched
theorem zj {p q a hd : Nat} {first : Bool} {seen : Sre.Seen} {b : Nat} (hb : code2.getD b 0 = 15 ∧ b + 1 + code2.getD (b + 1) 0 = 35) (hx : b = 16 ∨ b = 21 ∨ b = 32) :
    Fin 5 (some (p, q)) { Z1 T p first seen a with pc := b, pos := q, handed := hd } := by
  have j : { Z1 T p first seen a with pc := b, pos := q, handed := hd }.step = { Z1 T p first (seen.add 15) a with pc := 35, pos := q, handed := hd } := by
    rcases hx with rfl | rfl | rfl <;> rfl
  refine Fin.step j rfl ?_
  have e : { Z1 T p first (seen.add 15) a with pc := 35, pos := q, handed := hd }.step = { Z1 T p first ((seen.add 15).add 1) a with pc := 35, pos := q, handed := q, answer := some true } := by
    cases first <;> rfl
  refine Fin.step e rfl ?_
  have e2 : { Z1 T p first ((seen.add 15).add 1) a with pc := 35, pos := q, handed := q, answer := some true }.step = { Z0 T p first ((seen.add 15).add 1) with pc := a, handed := q, answer := some true } := by rfl
  refine Fin.step e2 rfl ?_
  have e3 : { Z0 T p first ((seen.add 15).add 1) with pc := a, handed := q, answer := some true }.step = { Z0 T p first ((seen.add 15).add 1) with frames := [], weight := 0, handed := q, answer := some true } := by rfl
  refine Fin.step e3 rfl ?_
  have e4 : { Z0 T p first ((seen.add 15).add 1) with frames := [], weight := 0, handed := q, answer := some true }.step = { Z0 T p first ((seen.add 15).add 1) with frames := [], weight := 0, handed := q, answer := some true, outcome := some .matched } := by rfl
  exact Fin.step e4 rfl (Fin.now rfl ⟨rfl, rfl, rfl⟩)
-- the next alternative
theorem zn {p q b a' : Nat} {first : Bool} {seen : Sre.Seen} {h : Nat} (hx : a' = 11 ∨ a' = 18) : { Z1 T p first seen a' with pc := b, pos := q, answer := some false }.step = Z1 T p first seen (a' + code2.getD a' 0) := by
  rcases hx with rfl | rfl <;> rfl
theorem z4 {p : Nat} {first : Bool} {seen : Sre.Seen} : (Z1 T p first seen 18).step =
    if p ≥ T.size then { Z1 T p first (seen.add 16) 18 with answer := some false } else
    if (T.getD p 0 == 10) = true then { Z1 T p first (seen.add 16) 18 with pc := 21, pos := p + 1 } else { Z1 T p first (seen.add 16) 18 with answer := some false } := by
  show (if p ≥ T.size then _ else match (Except.ok (T.getD p 0 == 10, seen.add 16) : Except String (Bool × Sre.Seen)) with | .error why => _ | .ok (false, seen) => _ | .ok (true, seen) => _) = _
  split
  · rfl
  · cases h : T.getD p 0 == 10 <;> rfl
theorem z5 {p : Nat} {first : Bool} {seen : Sre.Seen} : (Z1 T p first seen 23).step =
    if p ≥ T.size then { Z1 T p first (seen.add 16) 23 with answer := some false } else
    if (T.getD p 0 == 13) = true then { Z1 T p first (seen.add 16) 23 with pc := 26, pos := p + 1 } else { Z1 T p first (seen.add 16) 23 with answer := some false } := by
  show (if p ≥ T.size then _ else match (Except.ok (T.getD p 0 == 13, seen.add 16) : Except String (Bool × Sre.Seen)) with | .error why => _ | .ok (false, seen) => _ | .ok (true, seen) => _) = _
  split
  · rfl
  · cases h : T.getD p 0 == 13 <;> rfl
noncomputable def lk (q : Nat) (first : Bool) : Sre.Frame := { wait := .lookNot, pc := 26, pos := q, outermost := first, kept := { lastmark := -1, lastindex := -1 } }
theorem z6 {p q : Nat} {first : Bool} {seen : Sre.Seen} : { Z1 T p first seen 23 with pc := 26, pos := q }.step =
    { Z1 T p first (seen.add 5) 23 with pc := 29, pos := q, handed := q, outermost := false, frames := lk q first :: (Z1 T p first seen 23).frames, weight := 3 } := by rfl
theorem z7 {p q : Nat} {first : Bool} {seen : Sre.Seen} : { Z1 T p first seen 23 with pc := 29, pos := q, handed := q, outermost := false, frames := lk q first :: (Z1 T p first seen 23).frames, weight := 3 }.step =
    if q ≥ T.size then { Z1 T p first (seen.add 16) 23 with pc := 29, pos := q, handed := q, outermost := false, frames := lk q first :: (Z1 T p first seen 23).frames, weight := 3, answer := some false } else
    if (T.getD q 0 == 10) = true then { Z1 T p first (seen.add 16) 23 with pc := 31, pos := q + 1, handed := q, outermost := false, frames := lk q first :: (Z1 T p first seen 23).frames, weight := 3 }
    else { Z1 T p first (seen.add 16) 23 with pc := 29, pos := q, handed := q, outermost := false, frames := lk q first :: (Z1 T p first seen 23).frames, weight := 3, answer := some false } := by
  show (if q ≥ T.size then _ else match (Except.ok (T.getD q 0 == 10, seen.add 16) : Except String (Bool × Sre.Seen)) with | .error why => _ | .ok (false, seen) => _ | .ok (true, seen) => _) = _
  split
  · rfl
  · cases h : T.getD q 0 == 10 <;> rfl
theorem z8 {p q : Nat} {first : Bool} {seen : Sre.Seen} : { Z1 T p first seen 23 with pc := 29, pos := q, handed := q, outermost := false, frames := lk q first :: (Z1 T p first seen 23).frames, weight := 3, answer := some false }.step =
    { Z1 T p first seen 23 with pc := 32, pos := q, handed := q } := by rfl

-- what stands at a line's end
noncomputable def eol (T : Array Nat) (p : Nat) : Bool := T.getD p 0 == 10 || T.getD p 0 == 13
noncomputable def eolEnd (T : Array Nat) (p : Nat) : Nat := if T.getD p 0 == 13 && T.getD (p + 1) 0 == 10 && decide (p + 1 < T.size) then p + 2 else p + 1
theorem look2 {p : Nat} {first : Bool} {seen : Sre.Seen} (hp : p < T.size) (h : eol T p = true) : Fin 20 (some (p, eolEnd T p)) (Z0 T p first seen) := by
  have hp' : ¬ p ≥ T.size := by lia
  refine Fin.step z0 rfl ?_
  cases h13 : (T.getD p 0 == 13) with
  | false =>
    have h10 : (T.getD p 0 == 10) = true := by unfold eol at h; rw [h13] at h; simpa using h
    have ee : eolEnd T p = p + 1 := by unfold eolEnd; rw [h13]; rfl
    rw [ee]
    refine Fin.step (z2.trans ((if_neg hp').trans (if_neg (by rw [h13]; decide)))) rfl ?_
    refine Fin.step (zn (a' := 11) (b := 12) (q := p) (h := 0) (.inl rfl)) rfl ?_
    refine Fin.step (z4.trans ((if_neg hp').trans (if_pos h10))) rfl ?_
    exact (zj (b := 21) (hd := p) ⟨rfl, rfl⟩ (.inr (.inl rfl))).le (by lia)
  | true =>
    have h10 : ¬ (T.getD p 0 == 10) = true := by
      intro q
      rw [beq_iff_eq] at h13 q
      rw [h13] at q; cases q
    refine Fin.step (z2.trans ((if_neg hp').trans (if_pos h13))) rfl ?_
    cases hq : (T.getD (p + 1) 0 == 10 && decide (p + 1 < T.size)) with
    | true =>
      have ee : eolEnd T p = p + 2 := by unfold eolEnd; rw [h13, Bool.true_and, hq]; rfl
      rw [ee]
      rw [Bool.and_eq_true, decide_eq_true_eq] at hq
      refine Fin.step (z3.trans ((if_neg (by lia)).trans (if_pos hq.1))) rfl ?_
      exact (zj (b := 16) (hd := p) ⟨rfl, rfl⟩ (.inl rfl)).le (by lia)
    | false =>
      have ee : eolEnd T p = p + 1 := by unfold eolEnd; rw [h13, Bool.true_and, hq]; rfl
      rw [ee]
      have tail : ∀ seen', Fin 15 (some (p, p + 1)) (Z1 T p first seen' 18) := fun seen' => by
        refine Fin.step (z4.trans ((if_neg hp').trans (if_neg h10))) rfl ?_
        refine Fin.step (zn (a' := 18) (b := 19) (q := p) (h := 0) (.inr rfl)) rfl ?_
        refine Fin.step (z5.trans ((if_neg hp').trans (if_pos h13))) rfl ?_
        refine Fin.step z6 rfl ?_
        have fin' : ∀ seen'', Fin 9 (some (p, p + 1)) { Z1 T p first seen'' 23 with pc := 29, pos := p + 1, handed := p + 1, outermost := false, frames := lk (p + 1) first :: (Z1 T p first seen'' 23).frames, weight := 3, answer := some false } := fun seen'' => by
          refine Fin.step z8 rfl ?_
          exact (zj (b := 32) (hd := p + 1) ⟨rfl, rfl⟩ (.inr (.inr rfl))).le (by lia)
        by_cases hs : p + 1 ≥ T.size
        · exact (Fin.step (z7.trans (if_pos hs)) rfl (fin' _)).le (by lia)
        · have hq' : ¬ (T.getD (p + 1) 0 == 10) = true := by
            intro q; rw [q, Bool.true_and, decide_eq_false_iff_not] at hq; lia
          exact (Fin.step (z7.trans ((if_neg hs).trans (if_neg hq'))) rfl (fin' _)).le (by lia)
      by_cases hs : p + 1 ≥ T.size
      · exact (Fin.step (z3.trans (if_pos hs)) rfl (Fin.step (zn (a' := 11) (b := 14) (q := p + 1) (h := 0) (.inl rfl)) rfl (tail _))).le (by lia)
      · have hq' : ¬ (T.getD (p + 1) 0 == 10) = true := by
          intro q; rw [q, Bool.true_and, decide_eq_false_iff_not] at hq; lia
        exact (Fin.step (z3.trans ((if_neg hs).trans (if_neg hq'))) rfl (Fin.step (zn (a' := 11) (b := 14) (q := p + 1) (h := 0) (.inl rfl)) rfl (tail _))).le (by lia)
-- where the first line's end stands, from p on
noncomputable def find2 (T : Array Nat) : (fuel p : Nat) → Option (Nat × Nat)
  | 0, p => none
  | f + 1, p => if p ≥ T.size then none else if eol T p then some (p, eolEnd T p) else find2 T f (p + 1)
theorem inSet2 {c : Nat} {seen : Sre.Seen} : ∃ seen', Sre.inSet code2 c code2.size 5 true seen = .ok (c == 10 || c == 13, seen') := by
  cases h : c == 10 with
  | true => exact ⟨seen.add 16, by show (if c == 10 then _ else _) = _; rw [if_pos h]; rfl⟩
  | false =>
    cases h2 : c == 13 with
    | true => exact ⟨(seen.add 16).add 16, by show (if c == 10 then _ else if c == 13 then _ else _) = _; rw [if_neg (by rw [h]; decide), if_pos h2]; rfl⟩
    | false => exact ⟨((seen.add 16).add 16).add 0, by show (if c == 10 then _ else if c == 13 then _ else _) = _; rw [if_neg (by rw [h]; decide), if_neg (by rw [h2]; decide)]; rfl⟩
theorem admitted2 {m : Sre.M} (hc : m.code = code2) (ht : m.text = T) (hl : m.lim = T.size) : ∀ (f p : Nat) (seen : Sre.Seen), ∃ seen', Sre.M.admitted m f p seen = .ok ((find2 T f p).map (·.1), seen')
  | 0, p, seen => ⟨seen, rfl⟩
  | f + 1, p, seen => by
    unfold Sre.M.admitted find2
    rw [hc, ht, hl]
    by_cases hp : p ≥ T.size
    · exact ⟨seen, by rw [if_pos hp, if_pos hp]; rfl⟩
    · obtain ⟨s1, e1⟩ := inSet2 (c := T.getD p 0) (seen := seen)
      rw [if_neg hp, if_neg hp, e1]
      show ∃ seen', (match (Except.ok (eol T p, s1) : Except String (Bool × Sre.Seen)) with | .ok (true, seen) => Except.ok (some p, seen) | .ok (false, seen) => Sre.M.admitted m f (p + 1) seen | .error why => .error why) = _
      cases h : eol T p with
      | true => exact ⟨s1, rfl⟩
      | false => exact admitted2 hc ht hl f (p + 1) s1
noncomputable def fresh2 (T : Array Nat) (p : Nat) : Sre.M := { code := code2, text := T, lim := T.size, start := p, pc := 10, pos := p, handed := p, marks := #[], mustAdvance := false, seen := ({} : Sre.Seen).add 14 }
theorem search2_eq {p : Nat} : Sre.forSearch code2 T 0 p T.size false = if (decide (p > T.size) || decide (T.size - p < 1)) = true then { fresh2 T p with answer := some false }
    else match Sre.M.admitted { fresh2 T p with lastStart := T.size } (T.size + 1 - p) p (({} : Sre.Seen).add 14) with
      | .ok (some s, seen) => Z0 T s true seen
      | .ok (none, seen) => { fresh2 T p with lastStart := T.size, seen, answer := some false }
      | .error why => { fresh2 T p with lastStart := T.size, outcome := some (.stuck why) } := by rfl
theorem find2_some : ∀ {f p b e : Nat}, find2 T f p = some (b, e) → p ≤ b ∧ b < T.size ∧ eol T b = true ∧ e = eolEnd T b ∧ ∀ q, p ≤ q → q < b → eol T q = false
  | 0, _, _, _, h => by cases h
  | f + 1, p, b, e, h => by
    unfold find2 at h
    by_cases hp : p ≥ T.size
    · rw [if_pos hp] at h; cases h
    · rw [if_neg hp] at h
      cases he : eol T p with
      | true =>
        rw [if_pos he] at h
        cases h
        exact ⟨Nat.le_refl _, by lia, he, rfl, fun q a b => by lia⟩
      | false =>
        rw [if_neg (by rw [he]; decide)] at h
        obtain ⟨a1, a2, a3, a4, a5⟩ := find2_some h
        refine ⟨by lia, a2, a3, a4, fun q h1 h2 => ?_⟩
        by_cases hq : q = p
        · subst hq; exact he
        · exact a5 q (by lia) h2
theorem find2_none : ∀ {f p : Nat}, find2 T f p = none → T.size < p + f → ∀ q, p ≤ q → q < T.size → eol T q = false
  | 0, p, _, hf, q, h1, h2 => by lia
  | f + 1, p, h, hf, q, h1, h2 => by
    unfold find2 at h
    rw [if_neg (by lia)] at h
    cases he : eol T p with
    | true => rw [if_pos he] at h; cases h
    | false =>
      rw [if_neg (by rw [he]; decide)] at h
      by_cases hq : q = p
      · subst hq; exact he
      · exact find2_none h (by lia) q (by lia) h2
theorem search2 {p : Nat} (h : p ≤ T.size) : Fin 30 (find2 T (T.size + 1 - p) p) (Sre.forSearch code2 T 0 p T.size false) := by
  rw [search2_eq]
  by_cases hp : p = T.size
  · subst hp
    rw [if_pos (by simp)]
    have e : find2 T (T.size + 1 - T.size) T.size = none := by
      rw [Nat.add_sub_cancel_left]
      unfold find2
      rw [if_pos (Nat.le_refl _)]
    rw [e]
    exact Fin.le (Fin.step (N := 0) rfl rfl (Fin.now rfl rfl)) (by lia)
  · rw [if_neg (by simp; lia)]
    obtain ⟨s', e⟩ := admitted2 (T := T) (m := { fresh2 T p with lastStart := T.size }) rfl rfl rfl (T.size + 1 - p) p (({} : Sre.Seen).add 14)
    rw [e]
    cases hf : find2 T (T.size + 1 - p) p with
    | none =>
      show Fin 30 none { fresh2 T p with lastStart := T.size, seen := s', answer := some false }
      exact Fin.le (Fin.step (N := 0) rfl rfl (Fin.now rfl rfl)) (by lia)
    | some be =>
      obtain ⟨b, e'⟩ := be
      obtain ⟨a1, a2, a3, a4, _⟩ := find2_some hf
      subst a4
      exact (look2 a2 a3).le (by lia)
theorem find1_some : ∀ {f p b e : Nat}, find1 T f p = some (b, e) → p ≤ b ∧ b < T.size ∧ at1 T b = true ∧ e = b + 1 ∧ ∀ q, p ≤ q → q < b → at1 T q = false
  | 0, _, _, _, h => by cases h
  | f + 1, p, b, e, h => by
    unfold find1 at h
    cases he : at1 T p with
    | true =>
      rw [if_pos he] at h
      cases h
      refine ⟨Nat.le_refl _, ?_, he, rfl, fun q a b => by lia⟩
      rcases Nat.lt_or_ge p T.size with h | h
      · exact h
      · rw [at1_end h] at he; cases he
    | false =>
      rw [if_neg (by rw [he]; decide)] at h
      obtain ⟨a1, a2, a3, a4, a5⟩ := find1_some h
      refine ⟨by lia, a2, a3, a4, fun q h1 h2 => ?_⟩
      by_cases hq : q = p
      · subst hq; exact he
      · exact a5 q (by lia) h2
theorem find1_none : ∀ {f p : Nat}, find1 T f p = none → T.size < p + f → ∀ q, p ≤ q → q < T.size → at1 T q = false
  | 0, p, _, hf, q, h1, h2 => by lia
  | f + 1, p, h, hf, q, h1, h2 => by
    unfold find1 at h
    cases he : at1 T p with
    | true => rw [if_pos he] at h; cases h
    | false =>
      rw [if_neg (by rw [he]; decide)] at h
      by_cases hq : q = p
      · subst hq; exact he
      · exact find1_none h (by lia) q (by lia) h2
end Mine
end
section
namespace Mine
open PySem PyProof.Rows
set_option autoImplicit false
set_option linter.unusedVariables false

section
variable {prog : Program} {w : World} {A : Around} {E : Value → Shared → Prop} {s : Shared} {a₀ : Array Keyed} {τ : Keyed → Nat}
-- by key, and where the keys are alike, by first place
noncomputable def Lex (τ : Keyed → Nat) (p q : Keyed) : Prop := numOf p.1 < numOf q.1 ∨ (numOf p.1 = numOf q.1 ∧ τ p < τ q)
theorem Lex.trans {p q r : Keyed} (h : Lex τ p q) (h' : Lex τ q r) : Lex τ p r := by
  rcases h with h | h <;> rcases h' with h' | h'
  · exact .inl (by lia)
  · exact .inl (by lia)
  · exact .inl (by lia)
  · exact .inr ⟨by lia, by lia⟩
noncomputable def StabTo (τ : Keyed → Nat) (xs : Array Keyed) (k : Nat) : Prop := ∀ i j p q, i < j → j < k → xs[i]? = some p → xs[j]? = some q → Lex τ p q
-- the first k stand among themselves, the rest as before
structure Pre (τ : Keyed → Nat) (a₀ xs : Array Keyed) (k : Nat) : Prop where
  rest : ∀ i, k ≤ i → xs[i]? = a₀[i]?
  first : ∀ i p, i < k → xs[i]? = some p → τ p < k
noncomputable def Places (τ : Keyed → Nat) (a₀ : Array Keyed) : Prop := ∀ i p, a₀[i]? = some p → τ p = i
theorem K_at {xs : Array Keyed} {i : Nat} {p : Keyed} (h : xs[i]? = some p) : K xs i = numOf p.1 := by unfold K; rw [h]
theorem Pre.at {xs : Array Keyed} {k : Nat} (h : Pre τ a₀ xs k) (hτ : Places τ a₀) {p : Keyed} (e : xs[k]? = some p) : τ p = k := hτ k p ((h.rest k (Nat.le_refl _)).symm.trans e)

theorem wpS_binS {st : SortSt} {n ok : Nat} {Q : Bool → SortSt → Prop} (h0 : IntKeys a₀) (hτ : Places τ a₀) (hn : n ≤ a₀.size) (h1 : 1 ≤ ok) (hok : ok ≤ n) (hB : SBase a₀ st) (hs : StabTo τ (arrOf st) ok) (hp : Pre τ a₀ (arrOf st) ok)
    (h : ∀ st', SBase a₀ st' → StabTo τ (arrOf st') n → Q true st') : wpS (model prog w) A E s (binarySort' 0 n ok) Q st := by
  rw [binarySort'_eq]
  simp only [Nat.zero_add]
  refine wpS_bind (wpS_mono (wpS_forRange (I := fun k c st' => c = (none, ()) ∧ SBase a₀ st' ∧ StabTo τ (arrOf st') (min k n) ∧ Pre τ a₀ (arrOf st') (min k n))
    (Q := fun c st' => c = (none, ()) ∧ SBase a₀ st' ∧ StabTo τ (arrOf st') n) ?step ?fin ?init) ?post)
  case post =>
    rintro c st' ⟨rfl, hB', hs'⟩
    exact wpS_pure (h st' hB' hs')
  case init =>
    rw [show min (max ok 1) n = ok by lia]
    exact ⟨rfl, hB, hs, hp⟩
  case fin =>
    rintro c st' ⟨hc, hB', hs', _⟩
    rw [show min (max (max ok 1) n) n = n by lia] at hs'
    exact ⟨hc, hB', hs'⟩
  case step =>
    rintro k c st' hak hkn ⟨rfl, hB', hs', hp'⟩
    rw [show min k n = k by lia] at hs' hp'
    have hk : k < a₀.size := by lia
    have hsz : (arrOf st').size = a₀.size := hB'.size
    obtain ⟨pk, epk⟩ : ∃ p, (arrOf st')[k]? = some p := ⟨_, getElem?_pos _ k (by lia)⟩
    have tpk := hp'.at hτ epk
    have low : ∀ i p, i < k → (arrOf st')[i]? = some p → numOf p.1 ≤ numOf pk.1 → Lex τ p pk := fun i p hi e hle => by
      have := hp'.first i p hi e
      rcases Int.lt_or_eq_of_le hle with h | h
      · exact .inl h
      · exact .inr ⟨h, by lia⟩
    refine wpS_bind (wpS_mono (wpS_forRange (I := fun x c st'' => st'' = st' ∧ ∃ l r, c = (none, l, r) ∧ l ≤ r ∧ r ≤ k ∧ r - l ≤ k - x ∧
        (∀ i p, i < l → (arrOf st')[i]? = some p → Lex τ p pk) ∧ (∀ i p, r ≤ i → i < k → (arrOf st')[i]? = some p → Lex τ pk p))
      (Q := fun c st'' => st'' = st' ∧ ∃ l r, c = (none, l, r) ∧ l ≤ k ∧
        (∀ i p, i < l → (arrOf st')[i]? = some p → Lex τ p pk) ∧ (∀ i p, l ≤ i → i < k → (arrOf st')[i]? = some p → Lex τ pk p)) ?istep ?ifin ?iinit) ?ipost)
    case iinit => exact ⟨rfl, 0, k, rfl, by lia, by lia, by lia, fun i p hi => by lia, fun i p h1 h2 => by lia⟩
    case ifin =>
      rintro c st'' ⟨rfl, l, r, rfl, hlr, hrk, hm, hlo, hhi⟩
      have : l = r := by lia
      subst this
      exact ⟨rfl, l, l, rfl, hrk, hlo, hhi⟩
    case istep =>
      rintro x c st'' _ hxk ⟨rfl, l, r, rfl, hlr, hrk, hm, hlo, hhi⟩
      dsimp only
      by_cases hge : l ≥ r
      · rw [if_pos hge]
        have : l = r := by lia
        subst this
        exact wpS_pure ⟨rfl, l, l, rfl, hrk, hlo, hhi⟩
      · rw [if_neg hge]
        have hlr' : l < r := Nat.lt_of_not_le hge
        have hmid : l ≤ (l + r) / 2 ∧ (l + r) / 2 < r := ⟨by omega, by omega⟩
        refine wpS_bind (wpS_ltK hB' h0 hk (by lia) ?_)
        obtain ⟨pm, epm⟩ : ∃ p, (arrOf st'')[(l + r) / 2]? = some p := ⟨_, getElem?_pos _ _ (by lia)⟩
        rw [K_at epk, K_at epm]
        by_cases hless : numOf pk.1 < numOf pm.1
        · rw [decide_eq_true hless]
          simp only [if_true]
          refine wpS_pure ⟨rfl, l, (l + r) / 2, rfl, hmid.1, by lia, by omega, hlo, fun i p a1 a2 e => ?_⟩
          by_cases hi : i = (l + r) / 2
          · subst hi; rw [epm] at e; cases e; exact .inl hless
          · exact Lex.trans (.inl hless) (hs' _ _ _ _ (by lia) (by lia) epm e)
        · rw [decide_eq_false hless]
          simp only [Bool.false_eq_true, if_false]
          refine wpS_pure ⟨rfl, (l + r) / 2 + 1, r, rfl, hmid.2, by lia, by omega, fun i p a1 e => ?_, hhi⟩
          by_cases hi : i = (l + r) / 2
          · subst hi; rw [epm] at e; cases e; exact low _ _ (by lia) epm (by lia)
          · exact Lex.trans (hs' _ _ _ _ (show i < (l + r) / 2 by lia) (by lia) e epm) (low _ _ (by lia) epm (by lia))
    case ipost =>
      rintro c st'' ⟨rfl, l, r, rfl, hlk, hlo, hhi⟩
      show wpS _ _ _ _ (do moveDown' k l; pure (ForInStep.yield (none, ()))) _ _
      rw [moveDown'_eq]
      refine wpS_bind (wpS_modify (wpS_pure ⟨rfl, hB'.setArr (bubble_perm _ _ _), ?_⟩))
      rw [show min (k + 1) n = k + 1 by lia]
      have hks : k < (arrOf st'').size := by rw [hB'.size]; exact hk
      have get : ∀ i : Nat, (bubble (arrOf st'') k (k - l))[i]? = if i = l then some pk else if l < i ∧ i ≤ k then (arrOf st'')[i - 1]? else (arrOf st'')[i]? := by
        intro i
        rw [getElem?_bubble hks (k - l) (Nat.sub_le _ _) i, Nat.sub_sub_self hlk, epk]
      refine ⟨fun i j p q hij hj ep eq => ?_, fun i hi => ?_, fun i p hi ep => ?_⟩
      · have ep' : (bubble (arrOf st'') k (k - l))[i]? = some p := ep
        have eq' : (bubble (arrOf st'') k (k - l))[j]? = some q := eq
        rw [get] at ep' eq'
        by_cases hjl : j = l
        · rw [if_pos hjl] at eq'; cases eq'
          rw [if_neg (by lia), if_neg (by lia)] at ep'
          exact hlo i p (by lia) ep'
        · rw [if_neg hjl] at eq'
          by_cases hj2 : l < j
          · rw [if_pos ⟨hj2, by lia⟩] at eq'
            by_cases hil : i = l
            · rw [if_pos hil] at ep'; cases ep'
              exact hhi _ _ (by lia) (by lia) eq'
            · rw [if_neg hil] at ep'
              by_cases hi2 : l < i
              · rw [if_pos ⟨hi2, by lia⟩] at ep'
                exact hs' _ _ _ _ (show i - 1 < j - 1 by lia) (by lia) ep' eq'
              · rw [if_neg (by lia)] at ep'
                exact hs' _ _ _ _ (show i < j - 1 by lia) (by lia) ep' eq'
          · rw [if_neg (by lia)] at eq'
            rw [if_neg (by lia), if_neg (by lia)] at ep'
            exact hs' _ _ _ _ hij (by lia) ep' eq'
      · show (bubble (arrOf st'') k (k - l))[i]? = _
        rw [get, if_neg (by lia), if_neg (by lia)]
        exact hp'.rest i (by lia)
      · have ep' : (bubble (arrOf st'') k (k - l))[i]? = some p := ep
        rw [get] at ep'
        by_cases hil : i = l
        · rw [if_pos hil] at ep'; cases ep'; lia
        · rw [if_neg hil] at ep'
          by_cases hi2 : l < i
          · rw [if_pos ⟨hi2, by lia⟩] at ep'
            have := hp'.first _ _ (show i - 1 < k by lia) ep'
            lia
          · rw [if_neg (by lia)] at ep'
            have := hp'.first _ _ (show i < k by lia) ep'
            lia
end
end Mine
end
section
namespace Mine
open PySem PyProof.Rows
set_option autoImplicit false
set_option linter.unusedVariables false

section
variable {prog : Program} {w : World} {A : Around} {E : Value → Shared → Prop} {s : Shared} {a₀ : Array Keyed} {τ : Keyed → Nat}

theorem Pre.succ {xs : Array Keyed} {k : Nat} (h : Pre τ a₀ xs k) (hτ : Places τ a₀) : Pre τ a₀ xs (k + 1) :=
  ⟨fun i hi => h.rest i (by lia), fun i p hi e => by
    by_cases hik : i = k
    · subst hik; have := h.at hτ e; lia
    · have := h.first i p (by lia) e; lia⟩
theorem get_some {xs : Array Keyed} {i : Nat} (h : i < xs.size) : ∃ p, xs[i]? = some p := ⟨_, getElem?_pos _ i h⟩

theorem wpS_ascS {st : SortSt} {a nrem : Nat} {Q : AscSt → SortSt → Prop} (h0 : IntKeys a₀) (hτ : Places τ a₀) (hn : nrem ≤ a₀.size) (ha : 1 ≤ a) (han : a ≤ nrem) (hB : SBase a₀ st)
    (hs : StabTo τ (arrOf st) a) (hp : Pre τ a₀ (arrOf st) a)
    (h : ∀ n, a ≤ n → n ≤ nrem → StabTo τ (arrOf st) n → Pre τ a₀ (arrOf st) n → (n = nrem ∨ K (arrOf st) n < K (arrOf st) (n - 1)) → Q (none, n) st) :
    wpS (model prog w) A E s (ascLoop a nrem) Q st := by
  unfold ascLoop
  refine wpS_forRange (I := fun x c st' => st' = st ∧ c = (none, x) ∧ StabTo τ (arrOf st) x ∧ Pre τ a₀ (arrOf st) x) ?step ?fin ⟨rfl, rfl, hs, hp⟩
  case fin =>
    rintro c st' ⟨rfl, rfl, hs', hp'⟩
    rw [show max a nrem = nrem by lia] at hs' hp' ⊢
    exact h nrem han (Nat.le_refl _) hs' hp' (.inl rfl)
  case step =>
    rintro x c st' hax hxn ⟨rfl, rfl, hs', hp'⟩
    dsimp only
    refine wpS_bind (wpS_ltK hB h0 (by lia) (by lia) ?_)
    by_cases hless : K (arrOf st') x < K (arrOf st') (x - 1)
    · rw [decide_eq_true hless]
      simp only [if_true]
      exact wpS_pure (h x hax (by lia) hs' hp' (.inr hless))
    · rw [decide_eq_false hless]
      simp only [Bool.false_eq_true, if_false]
      have hsz := hB.size
      refine wpS_pure ⟨rfl, rfl, fun i j p q hij hj ep eq => ?_, hp'.succ hτ⟩
      by_cases hjx : j < x
      · exact hs' i j p q hij hjx ep eq
      · have hj' : j = x := by lia
        subst hj'
        obtain ⟨r, er⟩ := get_some (xs := arrOf st') (i := j - 1) (by lia)
        rw [K_at eq, K_at er] at hless
        have t1 := hp'.at hτ eq
        have t2 := hp'.first _ _ (show j - 1 < j by lia) er
        have hlast : Lex τ r q := by
          rcases Int.lt_or_eq_of_le (show numOf r.1 ≤ numOf q.1 by lia) with h | h
          · exact .inl h
          · exact .inr ⟨h, by lia⟩
        by_cases hi : i = j - 1
        · subst hi; rw [er] at ep; cases ep; exact hlast
        · exact Lex.trans (hs' i (j - 1) p r (by lia) (by lia) ep er) hlast

-- falling, but the last like ones (from g on) stand as at first
noncomputable def Desc (τ : Keyed → Nat) (xs : Array Keyed) (x g : Nat) : Prop := ∀ i j p q, i < j → j < x → xs[i]? = some p → xs[j]? = some q →
  (g ≤ i → numOf p.1 = numOf q.1 ∧ τ p < τ q) ∧ (i < g → numOf q.1 < numOf p.1 ∨ (numOf p.1 = numOf q.1 ∧ j < g ∧ τ q < τ p))

theorem wpS_tail3S {st : SortSt} {n nrem : Nat} {Q : Option Nat → SortSt → Prop} (h0 : IntKeys a₀) (hτ : Places τ a₀) (hn : nrem ≤ a₀.size) (h1 : 1 ≤ n) (hnn : n ≤ nrem) (hB : SBase a₀ st)
    (hs : Desc τ (arrOf st) n n) (hp : Pre τ a₀ (arrOf st) n) (h : ∀ m st', SBase a₀ st' → 1 ≤ m → m ≤ nrem → StabTo τ (arrOf st') m → Pre τ a₀ (arrOf st') m → Q (some m) st') :
    wpS (model prog w) A E s (tail3 n nrem) Q st := by
  unfold tail3
  have hsz : n ≤ (arrOf st).size := by rw [hB.size]; lia
  refine wpS_bind (wpS_reverse ?_)
  have hB' : SBase a₀ (setArr st (mirror (arrOf st) 0 n ((n - 0) / 2))) := hB.setArr (mirror_perm _ _ _ _)
  have get : ∀ i : Nat, (arrOf (setArr st (mirror (arrOf st) 0 n ((n - 0) / 2))))[i]? = if i < n then (arrOf st)[n - 1 - i]? else (arrOf st)[i]? := fun i => by
    show (mirror (arrOf st) 0 n ((n - 0) / 2))[i]? = _
    rw [getElem?_mirror_all hsz]
    by_cases hi : i < n
    · rw [if_pos ⟨Nat.zero_le _, hi⟩, if_pos hi]; congr 1; lia
    · rw [if_neg (by lia), if_neg hi]
  refine wpS_bind (wpS_ascS h0 hτ hn h1 hnn hB' ?_ ?_ fun m hm1 hm2 hsm hpm _ => wpS_pure (h m _ hB' (by lia) hm2 hsm hpm))
  · intro i j p q hij hj ep eq
    rw [get, if_pos (by lia)] at ep
    rw [get, if_pos hj] at eq
    have := (hs (n - 1 - j) (n - 1 - i) q p (by lia) (by lia) eq ep).2 (by lia)
    rcases this with h | ⟨h1, _, h2⟩
    · exact .inl h
    · exact .inr ⟨h1.symm, h2⟩
  · refine ⟨fun i hi => ?_, fun i p hi ep => ?_⟩
    · rw [get, if_neg (by lia)]; exact hp.rest i hi
    · rw [get, if_pos hi] at ep
      exact hp.first _ _ (by lia) ep
-- the last like ones turned
theorem Desc.turn {xs : Array Keyed} {x g : Nat} (hx : x ≤ xs.size) (hg : g ≤ x) (h : Desc τ xs x g) : Desc τ (mirror xs g x ((x - g) / 2)) x x := by
  intro i j p q hij hj ep eq
  refine ⟨fun hi => by lia, fun _ => ?_⟩
  rw [getElem?_mirror_all hx] at ep eq
  by_cases hjg : j < g
  · rw [if_neg (by lia)] at ep eq
    rcases (h i j p q hij hj ep eq).2 (by lia) with a | ⟨a, _, b⟩
    · exact .inl a
    · exact .inr ⟨a, hj, b⟩
  · rw [if_pos ⟨by lia, hj⟩] at eq
    by_cases hig : i < g
    · rw [if_neg (by lia)] at ep
      rcases (h i (g + x - 1 - j) p q (by lia) (by lia) ep eq).2 hig with a | ⟨_, b, _⟩
      · exact .inl a
      · lia
    · rw [if_pos ⟨by lia, by lia⟩] at ep
      have := (h (g + x - 1 - j) (g + x - 1 - i) q p (by lia) (by lia) eq ep).1 (by lia)
      exact .inr ⟨this.1.symm, hj, this.2⟩
theorem Pre.turn {xs : Array Keyed} {x g k : Nat} (hx : x ≤ xs.size) (hk : x ≤ k) (h : Pre τ a₀ xs k) : Pre τ a₀ (mirror xs g x ((x - g) / 2)) k := by
  refine ⟨fun i hi => ?_, fun i p hi ep => ?_⟩
  · rw [getElem?_mirror_all hx, if_neg (by lia)]; exact h.rest i hi
  · rw [getElem?_mirror_all hx] at ep
    by_cases hi2 : g ≤ i ∧ i < x
    · rw [if_pos hi2] at ep; exact h.first _ _ (by lia) ep
    · rw [if_neg hi2] at ep; exact h.first _ _ hi ep
-- one more, less than all
theorem Desc.less {xs : Array Keyed} {x : Nat} (h : Desc τ xs x x) {r l : Keyed} (hr : xs[x]? = some r) (hl : xs[x - 1]? = some l) (h1 : 1 ≤ x) (hlt : numOf r.1 < numOf l.1) : Desc τ xs (x + 1) x := by
  intro i j p q hij hj ep eq
  refine ⟨fun hi => by lia, fun hi => ?_⟩
  by_cases hjx : j = x
  · subst hjx
    rw [hr] at eq; cases eq
    by_cases hil : i = j - 1
    · subst hil; rw [hl] at ep; cases ep; exact .inl hlt
    · rcases (h i (j - 1) p l (by lia) (by lia) ep hl).2 (by lia) with a | ⟨a, _, _⟩
      · exact .inl (by lia)
      · exact .inl (by lia)
  · rcases (h i j p q hij (by lia) ep eq).2 (by lia) with a | ⟨a, b, c⟩
    · exact .inl a
    · exact .inr ⟨a, b, c⟩
-- one more, like the last
theorem Desc.like {xs : Array Keyed} {x g : Nat} (h : Desc τ xs x g) (hg : g < x) (hp : Pre τ a₀ xs x) (hτ : Places τ a₀) {r l : Keyed} (hr : xs[x]? = some r) (hl : xs[x - 1]? = some l) (he : numOf r.1 = numOf l.1) : Desc τ xs (x + 1) g := by
  intro i j p q hij hj ep eq
  by_cases hjx : j = x
  · subst hjx
    rw [hr] at eq; cases eq
    have tr := hp.at hτ hr
    refine ⟨fun hi => ?_, fun hi => ?_⟩
    · have tp := hp.first i p hij ep
      refine ⟨?_, by lia⟩
      by_cases hil : i = j - 1
      · subst hil; rw [hl] at ep; cases ep; exact he.symm
      · have := ((h i (j - 1) p l (by lia) (by lia) ep hl).1 hi).1; lia
    · rcases (h i (j - 1) p l (by lia) (by lia) ep hl).2 hi with a | ⟨_, b, _⟩
      · exact .inl (by lia)
      · lia
  · exact h i j p q hij (by lia) ep eq
end
end Mine
end
section
namespace Mine
open PySem PyProof.Rows
set_option autoImplicit false
set_option linter.unusedVariables false

section
variable {prog : Program} {w : World} {A : Around} {E : Value → Shared → Prop} {s : Shared} {a₀ : Array Keyed} {τ : Keyed → Nat}

-- no like ones at the end: one group of one
theorem Desc.single {xs : Array Keyed} {x g : Nat} (h : Desc τ xs x g) (hg : g + 1 = x) : Desc τ xs x x := by
  intro i j p q hij hj ep eq
  refine ⟨fun hi => by lia, fun _ => ?_⟩
  rcases (h i j p q hij hj ep eq).2 (by lia) with a | ⟨a, b, c⟩
  · exact .inl a
  · exact .inr ⟨a, hj, c⟩

theorem wpS_descLoopS {st : SortSt} {n nrem : Nat} {Q : DescSt → SortSt → Prop} (h0 : IntKeys a₀) (hτ : Places τ a₀) (hn : nrem ≤ a₀.size) (h1 : 1 ≤ n) (hnn : n ≤ nrem) (hB : SBase a₀ st)
    (hs : Desc τ (arrOf st) n (n - 1)) (hp : Pre τ a₀ (arrOf st) n)
    (h : ∀ m neq st', SBase a₀ st' → n ≤ m → m ≤ nrem → neq + 1 ≤ m → Desc τ (arrOf st') m (m - (neq + 1)) → Pre τ a₀ (arrOf st') m → Q (none, m, neq) st') :
    wpS (model prog w) A E s (descLoop n nrem) Q st := by
  unfold descLoop
  refine wpS_forRange (I := fun x c st' => ∃ neq, c = (none, x, neq) ∧ SBase a₀ st' ∧ neq + 1 ≤ x ∧ Desc τ (arrOf st') x (x - (neq + 1)) ∧ Pre τ a₀ (arrOf st') x) ?step ?fin ⟨0, rfl, hB, by lia, hs, hp⟩
  case fin =>
    rintro c st' ⟨neq, rfl, hB', hq, hs', hp'⟩
    rw [show max n nrem = nrem by lia] at hs' hq hp' ⊢
    exact h nrem neq st' hB' hnn (Nat.le_refl _) hq hs' hp'
  case step =>
    rintro x c st' hax hxn ⟨neq, rfl, hB', hq, hs', hp'⟩
    dsimp only
    have hsz : (arrOf st').size = a₀.size := hB'.size
    have hx : x ≤ (arrOf st').size := by lia
    obtain ⟨r, er⟩ := get_some (xs := arrOf st') (i := x) (by lia)
    obtain ⟨l, el⟩ := get_some (xs := arrOf st') (i := x - 1) (by lia)
    refine wpS_bind (wpS_ltK hB' h0 (by lia) (by lia) ?_)
    rw [K_at er, K_at el]
    by_cases hless : numOf r.1 < numOf l.1
    · rw [decide_eq_true hless]
      simp only [if_true]
      by_cases hneq : neq > 0
      · rw [if_pos hneq]
        have hD := hs'.turn hx (Nat.sub_le _ _)
        have hP : Pre τ a₀ (mirror (arrOf st') (x - (neq + 1)) x ((x - (x - (neq + 1))) / 2)) x := hp'.turn hx (Nat.le_refl _)
        obtain ⟨l', el'⟩ := get_some (xs := mirror (arrOf st') (x - (neq + 1)) x ((x - (x - (neq + 1))) / 2)) (i := x - 1) (by rw [mirror_size]; lia)
        have er' : (mirror (arrOf st') (x - (neq + 1)) x ((x - (x - (neq + 1))) / 2))[x]? = some r := by rw [getElem?_mirror_all hx, if_neg (by lia)]; exact er
        have hll : numOf r.1 < numOf l'.1 := by
          have e2 := el'
          rw [getElem?_mirror_all hx, if_pos ⟨by lia, by lia⟩] at e2
          by_cases hi : x - (neq + 1) + x - 1 - (x - 1) = x - 1
          · rw [hi, el] at e2; cases e2; exact hless
          · have := ((hs' _ (x - 1) l' l (by lia) (by lia) e2 el).1 (by lia)).1
            lia
        refine wpS_bind (wpS_reverse (wpS_pure ⟨0, rfl, hB'.setArr (mirror_perm _ _ _ _), by lia, ?_, ?_⟩))
        · have := hD.less er' el' (by lia) hll
          exact this
        · exact hP.succ hτ
      · rw [if_neg hneq]
        have h00 : neq = 0 := by lia
        subst h00
        have hD : Desc τ (arrOf st') x x := hs'.single (by lia)
        exact wpS_pure ⟨0, rfl, hB', by lia, hD.less er el (by lia) hless, hp'.succ hτ⟩
    · rw [decide_eq_false hless]
      simp only [Bool.false_eq_true, if_false]
      refine wpS_bind (wpS_ltK hB' h0 (by lia) (by lia) ?_)
      rw [K_at er, K_at el]
      by_cases hlarger : numOf l.1 < numOf r.1
      · rw [decide_eq_true hlarger]
        simp only [if_true]
        exact wpS_pure (h x neq st' hB' hax (by lia) hq hs' hp')
      · rw [decide_eq_false hlarger]
        simp only [Bool.false_eq_true, if_false]
        refine wpS_pure ⟨neq + 1, rfl, hB', by lia, ?_, hp'.succ hτ⟩
        have := hs'.like (by lia) hp' hτ er el (by lia)
        rw [show x + 1 - (neq + 1 + 1) = x - (neq + 1) by lia]
        exact this

theorem wpS_descPartS {st : SortSt} {n nrem : Nat} {Q : Option Nat → SortSt → Prop} (h0 : IntKeys a₀) (hτ : Places τ a₀) (hn : nrem ≤ a₀.size) (hnn : n + 1 ≤ nrem) (hB : SBase a₀ st)
    (hs : Desc τ (arrOf st) (n + 1) n) (hp : Pre τ a₀ (arrOf st) (n + 1)) (h : ∀ m st', SBase a₀ st' → 1 ≤ m → m ≤ nrem → StabTo τ (arrOf st') m → Pre τ a₀ (arrOf st') m → Q (some m) st') :
    wpS (model prog w) A E s (descPart n nrem) Q st := by
  unfold descPart
  refine wpS_bind (wpS_lift (wpAny_rule ⟨rfl, ?_⟩))
  refine wpS_bind (wpS_descLoopS h0 hτ hn (by lia) hnn hB (by simpa using hs) hp fun m neq st' hB' hm1 hm2 hq hs' hp' => ?_)
  dsimp only
  have hsz : m ≤ (arrOf st').size := by rw [hB'.size]; lia
  by_cases hneq : neq > 0
  · rw [if_pos hneq]
    refine wpS_bind (wpS_reverse (wpS_tail3S h0 hτ hn (by lia) hm2 (hB'.setArr (mirror_perm _ _ _ _)) ?_ ?_ h))
    · exact hs'.turn hsz (Nat.sub_le _ _)
    · exact hp'.turn hsz (Nat.le_refl _)
  · rw [if_neg hneq]
    have h00 : neq = 0 := by lia
    subst h00
    exact wpS_tail3S h0 hτ hn (by lia) hm2 hB' (hs'.single (by lia)) hp' h

theorem wpS_countRunS {st : SortSt} {nrem : Nat} {Q : Option Nat → SortSt → Prop} (h0 : IntKeys a₀) (hτ : Places τ a₀) (hn : nrem ≤ a₀.size) (h1 : 1 ≤ nrem) (hB : SBase a₀ st) (hp : Pre τ a₀ (arrOf st) 0)
    (h : ∀ m st', SBase a₀ st' → 1 ≤ m → m ≤ nrem → StabTo τ (arrOf st') m → Pre τ a₀ (arrOf st') m → Q (some m) st') :
    wpS (model prog w) A E s (countRun' 0 nrem) Q st := by
  rw [countRun0_eq]
  refine wpS_bind (wpS_ascS h0 hτ hn (Nat.le_refl 1) h1 hB (fun i j p q hij hj => by lia) (hp.succ hτ) fun n hn1 hn2 hsn hpn hor => ?_)
  dsimp only
  by_cases hnn : n = nrem
  · rw [if_pos (by simpa using hnn)]
    exact wpS_pure (h n st hB hn1 hn2 hsn hpn)
  · rw [if_neg (by simpa using hnn)]
    have hlt := hor.resolve_left hnn
    have hsz : (arrOf st).size = a₀.size := hB.size
    obtain ⟨r, er⟩ := get_some (xs := arrOf st) (i := n) (by lia)
    obtain ⟨l, el⟩ := get_some (xs := arrOf st) (i := n - 1) (by lia)
    rw [K_at er, K_at el] at hlt
    by_cases hgt : n > 1
    · rw [if_pos hgt]
      obtain ⟨f, ef⟩ := get_some (xs := arrOf st) (i := 0) (by lia)
      refine wpS_bind (wpS_ltK hB h0 (by lia) (by lia) ?_)
      rw [K_at ef, K_at el]
      by_cases hrose : numOf f.1 < numOf l.1
      · rw [decide_eq_true hrose]
        simp only [if_true]
        exact wpS_pure (h n st hB hn1 hn2 hsn hpn)
      · rw [decide_eq_false hrose]
        simp only [Bool.false_eq_true, if_false]
        have le : ∀ p q, Lex τ p q → numOf p.1 ≤ numOf q.1 := fun p q h => by rcases h with h | h <;> lia
        have hall : ∀ i p, i < n → (arrOf st)[i]? = some p → numOf p.1 = numOf l.1 := fun i p hi ep => by
          have a1 : numOf f.1 ≤ numOf p.1 := by
            by_cases hi0 : i = 0
            · subst hi0; rw [ef] at ep; cases ep; exact Int.le_refl _
            · exact le _ _ (hsn 0 i f p (by lia) hi ef ep)
          have a2 : numOf p.1 ≤ numOf l.1 := by
            by_cases hi1 : i = n - 1
            · subst hi1; rw [el] at ep; cases ep; exact Int.le_refl _
            · exact le _ _ (hsn i (n - 1) p l (by lia) (by lia) ep el)
          lia
        have hx : n ≤ (arrOf st).size := by lia
        have hD0 : Desc τ (arrOf st) n 0 := fun i j p q hij hj ep eq => ⟨fun _ => by
          have b1 := hall i p (by lia) ep
          have b2 := hall j q hj eq
          refine ⟨by lia, ?_⟩
          rcases hsn i j p q hij hj ep eq with h | h
          · lia
          · exact h.2, fun hi => by lia⟩
        have hD := hD0.turn hx (Nat.zero_le _)
        obtain ⟨l', el'⟩ := get_some (xs := mirror (arrOf st) 0 n ((n - 0) / 2)) (i := n - 1) (by rw [mirror_size]; lia)
        have er' : (mirror (arrOf st) 0 n ((n - 0) / 2))[n]? = some r := by rw [getElem?_mirror_all hx, if_neg (by lia)]; exact er
        have hll : numOf r.1 < numOf l'.1 := by
          have e2 := el'
          rw [getElem?_mirror_all hx, if_pos ⟨by lia, by lia⟩] at e2
          have := hall _ _ (by lia) e2
          lia
        refine wpS_bind (wpS_reverse (wpS_descPartS h0 hτ hn (by lia) (hB.setArr (mirror_perm _ _ _ _)) ?_ ?_ h))
        · exact hD.less er' el' (by lia) hll
        · have hP : Pre τ a₀ (mirror (arrOf st) 0 n ((n - 0) / 2)) n := hpn.turn hx (Nat.le_refl _)
          exact hP.succ hτ
    · rw [if_neg hgt]
      have hn1' : n = 1 := by lia
      subst hn1'
      have hD : Desc τ (arrOf st) 1 1 := fun i j p q hij hj => by lia
      exact wpS_descPartS h0 hτ hn (by lia) hB (hD.less er el (by lia) hlt) (hpn.succ hτ) h

noncomputable def SDoneS (τ : Keyed → Nat) (a₀ : Array Keyed) (st : SortSt) : Prop :=
  (arrOf st).Perm a₀ ∧ failedOf st = none ∧ pendingOf st = #[(0, a₀.size, 0)] ∧ StabTo τ (arrOf st) a₀.size
theorem doneS {st : SortSt} (hB : SBase a₀ st) (hs : StabTo τ (arrOf st) a₀.size) : SDoneS τ a₀ (setPending st ((pendingOf st).push (0, a₀.size, 0))) :=
  ⟨hB.perm, hB.failed, by show (pendingOf st).push _ = _; rw [hB.pend]; rfl, hs⟩
theorem wpS_sortRunsS {st : SortSt} {Q : Unit → SortSt → Prop} (h0 : IntKeys a₀) (hτ : Places τ a₀) (hB : SBase a₀ st) (hp : Pre τ a₀ (arrOf st) 0) (h2 : 2 ≤ a₀.size) (h64 : a₀.size < 64)
    (h : ∀ st', (arrOf st').Perm a₀ → failedOf st' = none → StabTo τ (arrOf st') a₀.size → Q () st') : wpS (model prog w) A E s sortRuns' Q st := by
  rw [sortRuns'_eq]
  refine wpS_bind (wpS_get ?_)
  dsimp only
  have hmr : minRun' a₀.size a₀.size 0 = a₀.size := by
    obtain ⟨f, hf⟩ : ∃ f, a₀.size = f + 1 := ⟨a₀.size - 1, by lia⟩
    have : minRun' (f + 1) a₀.size 0 = a₀.size := by rw [minRun'_succ, if_pos h64]; rfl
    rwa [← hf] at this
  simp only [hB.size, hmr]
  refine wpS_bind (wpS_mono (wpS_forRange
    (I := fun x c st' => (x = 0 ∧ c = (none, 0) ∧ SBase a₀ st' ∧ Pre τ a₀ (arrOf st') 0) ∨ (1 ≤ x ∧ c = (none, a₀.size) ∧ SDoneS τ a₀ st'))
    (Q := fun c st' => c = (none, a₀.size) ∧ SDoneS τ a₀ st') ?step ?fin (.inl ⟨rfl, rfl, hB, hp⟩)) ?post)
  case fin =>
    rintro c st' (⟨hx, _, _⟩ | ⟨_, hc, hD⟩)
    · lia
    · exact ⟨hc, hD⟩
  case step =>
    rintro x c st' _ hx (⟨rfl, rfl, hB', hp'⟩ | ⟨hx1, rfl, hD⟩)
    · dsimp only
      rw [if_neg (by lia)]
      simp only [Nat.sub_zero, Nat.min_self, Nat.zero_add]
      refine wpS_bind (wpS_countRunS h0 hτ (Nat.le_refl _) (by lia) hB' hp' fun m st2 hB2 hm1 hm2 hs2 hp2 => ?_)
      dsimp only
      by_cases hlt : m < a₀.size
      · rw [if_pos hlt]
        refine wpS_bind (wpS_lift (wpAny_rule ⟨rfl, ?_⟩))
        refine wpS_bind (wpS_binS h0 hτ (Nat.le_refl _) hm1 hm2 hB2 hs2 hp2 fun st3 hB3 hs3 => ?_)
        simp only [Bool.not_true, Bool.false_eq_true, if_false]
        refine wpS_bind (wpS_get ?_)
        have hb : (pendingOf st3).back? = none := by rw [hB3.pend]; rfl
        rw [hb]
        dsimp only
        exact wpS_bind (wpS_modify (wpS_pure (.inr ⟨by lia, rfl, doneS hB3 hs3⟩)))
      · rw [if_neg hlt]
        have hm : m = a₀.size := by lia
        subst hm
        refine wpS_bind (wpS_get ?_)
        have hb : (pendingOf st2).back? = none := by rw [hB2.pend]; rfl
        rw [hb]
        dsimp only
        exact wpS_bind (wpS_modify (wpS_pure (.inr ⟨by lia, rfl, doneS hB2 hs2⟩)))
    · dsimp only
      rw [if_pos (Nat.le_refl _)]
      exact wpS_pure ⟨rfl, hD⟩
  case post =>
    rintro c st' ⟨rfl, hD⟩
    dsimp only
    refine wpS_bind (wpS_mono (wpS_forRange (I := fun _ c st'' => st'' = st' ∧ c = (none, ())) (Q := fun c st'' => st'' = st' ∧ c = (none, ())) ?_ (fun _ _ hh => hh) ⟨rfl, rfl⟩) ?_)
    · rintro x c st'' _ _ ⟨rfl, rfl⟩
      refine wpS_bind (wpS_get ?_)
      rw [if_pos (by rw [hD.2.2.1]; exact Nat.le_refl 1)]
      exact wpS_pure ⟨rfl, rfl⟩
    · rintro c st'' ⟨rfl, rfl⟩
      exact wpS_pure (h _ hD.1 hD.2.1 hD.2.2.2)
end
end Mine
end
section
namespace Mine
open PySem PySem.W PySem.Calls PyProof.Rows
set_option maxRecDepth 10000
set_option linter.unusedVariables false

/-! A statement's own run, seen in the whole text's. -/
section
variable {α : Type} {tb : String → Option Builtin} {p : Program} {w : World} {n₀ : Nat} {ann : Option Value} {B : List Frame} {K' : α → Sem PySem.Fin} {H' : Value → Sem PySem.Fin} {gd : Bool → Bool} {lv : List Value → List Value} {res : α → Flow}
noncomputable abbrev Twin (res : α → Flow) (K' : α → Sem PySem.Fin) (H' : Value → Sem PySem.Fin) (gd : Bool → Bool) (lv : List Value → List Value) (B : List Frame) := Rel2 (fun a : α => (.pure (.done (res a)) : Sem PySem.Fin)) K' deadEnd H' gd lv B

theorem twin_end {s : Shared} {t t' : Thread} {f : Flow} (R : Twin res K' H' gd lv B t t') (he : endAt B.length t = some f) : ∃ a, res a = f ∧ t' = ⟨K' a, t.code, t.pos, B⟩ := by
  obtain ⟨cur, code, pos, st⟩ := t
  obtain ⟨cur', code', pos', st'⟩ := t'
  obtain ⟨e1, e2, ⟨e3, e4, x, e5, e6⟩ | ⟨e3, F⟩⟩ := R
  · dsimp only at e1 e2 e3 e4 e5 e6
    subst e1 e2 e3 e4 e5 e6
    cases x with
    | pure a =>
      simp only [endAt, Sem.wrap, beq_self_eq_true, Option.some.injEq] at he
      exact ⟨a, he, rfl⟩
    | _ => simp [endAt, Sem.wrap] at he
  · have hl : (st.length == B.length) = false := beq_eq_false_iff_ne.mpr (Nat.ne_of_gt F.longer.1)
    simp only [endAt, hl] at he
    cases he
theorem twin_step (hB : splitAtGen B = none) {s s₂ : Shared} {t t' t₂ : Thread} (R : Twin res K' H' gd lv B t t') (he : endAt B.length t = none) (hk : stepOk n₀ ann t = true) (hs : step (denote tb) p w s t = .go s₂ t₂) :
    through t' = false ∧ stepOk n₀ ann t' = true ∧ ∃ t₂', step (denote tb) p w s t' = .go s₂ t₂' ∧ Twin res K' H' gd lv B t₂ t₂' := by
  obtain ⟨cur, code, pos, st⟩ := t
  obtain ⟨cur', code', pos', st'⟩ := t'
  obtain ⟨e1, e2, ⟨e3, e4, x, e5, e6⟩ | ⟨e3, F⟩⟩ := R
  · dsimp only at e1 e2 e3 e4 e5 e6
    subst e1 e2 e3 e4 e5 e6
    have hp : ∀ a, x ≠ .pure a := by
      intro a e
      subst e
      simp [endAt, Sem.wrap] at he
    have hr : ∀ e, x ≠ .raise e := by
      intro e ee
      subst ee
      obtain ⟨h1, h2, h3, h4, h5⟩ := s
      simp only [Sem.wrap, step] at hs
      cases hs
    obtain ⟨k1, k2⟩ := okOuter (K' := K') (H' := H') hp hr hk
    exact ⟨k2, k1, step_outer hB hp hs⟩
  · dsimp only at e1 e2 e3 F
    subst e1 e2 e3
    obtain ⟨k1, k2⟩ := okInner hB F hk
    exact ⟨k2, k1, step_inner hB F hs⟩
theorem seg_reach (hB : splitAtGen B = none) {n : Nat} {f : Flow} {s' : Shared} {c' : Code} {p' : Pos} : ∀ {s : Shared} {t t' : Thread}, Twin res K' H' gd lv B t t' →
    segRun tb p w n₀ ann B.length n s t = some (f, s', c', p') → ∃ a m, res a = f ∧ topGo tb p w n₀ ann m s t' = some (s', ⟨K' a, c', p', B⟩) := by
  induction n with
  | zero => intro s t t' R h; cases h
  | succ n ih =>
    intro s t t' R h
    rw [segRun] at h
    cases he : endAt B.length t with
    | some g =>
      simp only [he, Option.some.injEq, Prod.mk.injEq] at h
      obtain ⟨rfl, rfl, rfl, rfl⟩ := h
      obtain ⟨a, ha, rfl⟩ := twin_end (s := s) R he
      exact ⟨a, 0, ha, rfl⟩
    | none =>
      simp only [he] at h
      cases hk : stepOk n₀ ann t with
      | false => simp only [hk] at h; cases h
      | true =>
        simp only [hk] at h
        cases hs : step (denote tb) p w s t with
        | halt o s₂ => simp only [hs] at h; cases h
        | go s₂ t₂ =>
          simp only [hs] at h
          obtain ⟨k1, k2, t₂', k3, R'⟩ := twin_step hB R he hk hs
          obtain ⟨a, m, ha, hm⟩ := ih R' h
          refine ⟨a, m + 1, ha, ?_⟩
          rw [topGo, k1, k2]
          simp only [k3]
          exact hm
end
section
variable {tb : String → Option Builtin} {p : Program} {w : World} {n₀ : Nat} {ann : Option Value} {env : Env} {q : Pos}
-- the first statements' run
theorem reach_app {n : Nat} {s s' : Shared} {l rest : List Stmt} {c : Code} {pos p' : Pos} (h : segRun tb p w n₀ ann 1 n s (piecesOf l env c pos [topFrame q]) = some (.next, s', c, p')) :
    ∃ m, topGo tb p w n₀ ann m s (restOf (l ++ rest) env c pos [topFrame q]) = some (s', restOf rest env c p' [topFrame q]) := by
  obtain ⟨a, m, ha, hm⟩ := seg_reach (res := id) (K' := fun f => match f with | .next => (execs rest env).wrap doneF (leaveH env) id id | f => doneF f) (H' := leaveH env) (B := [topFrame q]) (gd := id) (lv := id) rfl
    (t := piecesOf l env c pos [topFrame q]) (t' := restOf (l ++ rest) env c pos [topFrame q]) ⟨rfl, rfl, .inl ⟨rfl, rfl, execs l env, rfl, execs_app_wrap l rest doneF (leaveH env) id id⟩⟩ h
  subst ha
  exact ⟨m, hm⟩
theorem reach_block {n : Nat} {s s' : Shared} {b : List Stmt} {c : Code} {pos p' : Pos} (h : segRun tb p w n₀ ann 1 n s (blockOf b env c pos [topFrame q]) = some (.next, s', c, p')) :
    ∃ m, topGo tb p w n₀ ann m s ⟨denote tb (.body b env), c, pos, [topFrame q]⟩ = some (s', restOf b env c p' [topFrame q]) := by
  obtain ⟨a, m, ha, hm⟩ := seg_reach (res := fun _ : Unit => Flow.next) (K' := fun _ => (execs b env).wrap doneF (leaveH env) id id) (H' := Sem.raise) (B := [topFrame q]) (gd := id) (lv := id) rfl
    (t := blockOf b env c pos [topFrame q]) (t' := ⟨denote tb (.body b env), c, pos, [topFrame q]⟩) ⟨rfl, rfl, .inl ⟨rfl, rfl, blockStart b env, rfl, body_wrap (tb := tb) b⟩⟩ h
  exact ⟨m, hm⟩
theorem topGo_add : ∀ {n m : Nat} {s s' s'' : Shared} {t t' t'' : Thread}, topGo tb p w n₀ ann n s t = some (s', t') → topGo tb p w n₀ ann m s' t' = some (s'', t'') → topGo tb p w n₀ ann (n + m) s t = some (s'', t'')
  | 0, m, s, s', s'', t, t', t'', h, k => by
    obtain ⟨rfl, rfl⟩ : s = s' ∧ t = t' := by simpa [topGo] using h
    rw [Nat.zero_add]; exact k
  | n + 1, m, s, s', s'', t, t', t'', h, k => by
    rw [show n + 1 + m = n + m + 1 by lia, topGo]
    rw [topGo] at h
    cases ht : through t with
    | true => rw [ht] at h; cases h
    | false =>
      simp only [ht] at h ⊢
      cases hk : stepOk n₀ ann t with
      | false => rw [hk] at h; cases h
      | true =>
        simp only [hk] at h ⊢
        cases hs : step (denote tb) p w s t with
        | halt o s₂ => rw [hs] at h; cases h
        | go s₂ t₂ => simp only [hs] at h ⊢; exact topGo_add h k
end
-- what such a run keeps
theorem topGo_spec {p : Program} {w : World} {n₀ : Nat} {ann : Option Value} : ∀ {n : Nat} {s s' : Shared} {t t' : Thread}, s.asleep → topGo table p w n₀ ann n s t = some (s', t') →
    schedN (denote table) p w n (.single s t) = .running (.single s' t') ∧ s'.heap.life = s.heap.life ∧ s'.os = s.os ∧
    ∀ b o, b < n₀ → b ≠ mainNs → b ≠ cStatics → ann ≠ some (.ref b) → s.heap.get? b = some o → s'.heap.get? b = some o
  | 0, s, s', t, t', _, h => by
    obtain ⟨rfl, rfl⟩ : s = s' ∧ t = t' := by simpa [topGo] using h
    exact ⟨rfl, rfl, rfl, fun _ _ _ _ _ _ e => e⟩
  | n + 1, s, s', t, t', hz, h => by
    rw [topGo] at h
    cases ht : through t with
    | true => rw [ht] at h; cases h
    | false =>
      simp only [ht] at h
      cases hk : stepOk n₀ ann t with
      | false => rw [hk] at h; cases h
      | true =>
        simp only [hk] at h
        cases hs : step (denote table) p w s t with
        | halt o s₂ => rw [hs] at h; cases h
        | go s₂ t₂ =>
          simp only [hs] at h
          unfold stepOk at hk
          obtain ⟨hc, hk⟩ := Bool.and_eq_true_iff.mp hk
          have hl := step_life (denote table) p w s s₂ t t₂ hs
          have ho : s₂.os = s.os := step_os_same hs (by revert hk; cases t.cur <;> simp)
          obtain ⟨i1, i2, i3, i4⟩ := topGo_spec (Shared.asleep_of_life hl hz) h
          have e : sstep (denote table) p w (.single s t) = .go (.single s₂ t₂) := by
            rcases sstep_single (denote table) p w s t hc hz with e | e
            · rw [e, hs]; rfl
            · rw [hs] at e; cases e
          refine ⟨by simp only [schedN, e]; exact i1, i2.trans hl, i3.trans ho, fun b o h1 h2 h3 h4 h5 => i4 b o h1 h2 h3 h4 ?_⟩
          have hh := step_heap (denote table) p w s s₂ t t₂ hs
          cases hcur : t.cur with
          | update a x f y =>
            rw [hcur] at hh hk
            simp only at hh hk
            rw [hh]
            have hne : b ≠ a := by
              rintro rfl
              simp only [Bool.or_eq_true, Nat.ble_eq, beq_iff_eq] at hk
              rcases hk with ((q | q) | q) | q
              · exact Nat.not_le_of_gt h1 q
              · exact h2 q
              · exact h3 q
              · exact h4 q
            exact (Heap.get?_update_ne _ _ _ _ hne).trans h5
          | alloc x y => rw [hcur] at hh; simp only at hh; rw [hh]; exact Heap.get?_push_of_some x h5
          | _ => rw [hcur] at hh; simp only at hh; rw [hh]; exact h5
end Mine
end
section
namespace Mine
open PySem PySem.W PySem.Calls PyProof.Rows
set_option maxRecDepth 10000
set_option linter.unusedVariables false
variable {prog : Program} {w : World} {env : Env} {q : Pos}

theorem rest_tree (rest : List Stmt) (env : Env) : (execs rest env).wrap doneF (leaveH env) id id = ((execs rest env).onRaise (leaving env)).bind fun f => (Sem.pure (PySem.Fin.done f) : Sem PySem.Fin) := by
  symm
  rw [Sem.bind_eq_wrap, Sem.onRaise_eq_wrap, Sem.wrap_wrap]
  rfl
-- around the text's own statements
noncomputable def topA (env : Env) : Around := { depth := 2 + claimMargin, units := 8 }
theorem topA_in {b : List Stmt} : (Ctx.of (.body b env) [topFrame q]).In (topA env) := by
  refine ⟨rfl, ?_, fun l hl => (by cases hl), fun g hg => (by cases hg), ?_⟩
  · show frameCount [((.builtin "claim.caller" {} : Code), q)] + (Code.body b env).weight ≤ 2 + claimMargin
    show frameCount [((.builtin "claim.caller" {} : Code), q)] + 1 ≤ 2 + claimMargin
    have : frameCount [((.builtin "claim.caller" {} : Code), q)] = frameCount [((.builtin "claim.caller" {} : Code), default)] := rfl
    rw [this]; decide +kernel
  · show (Code.body b env).cUnits + unitsOf [((.builtin "claim.caller" {} : Code), q)] ≤ 8
    have h1 : (Code.body b env).cUnits = (Code.body [] { scope := { kind := .module, names := [], isGenerator := false, isCoroutine := false, more := [] }, locals := 0, globals := 0, cells := [] }).cUnits := rfl
    have h2 : unitsOf [((.builtin "claim.caller" {} : Code), q)] = unitsOf [((.builtin "claim.caller" {} : Code), default)] := rfl
    rw [h1, h2]; decide +kernel
theorem run_no_halt {den : Code → Sem PySem.Fin} {p : Program} {w : World} : ∀ {k n : Nat} {s s' s1 : Shared} {t t' t1 : Thread}, runN den p w n s t = .running s' t' → k < n → runN den p w k s t = .running s1 t1 → ∀ o s2, step den p w s1 t1 ≠ .halt o s2 := by
  intro k
  induction k with
  | zero =>
    intro n s s' s1 t t' t1 h hk h1 o s2 hs
    cases n with
    | zero => lia
    | succ n =>
      simp only [runN, Run.running.injEq] at h1
      obtain ⟨rfl, rfl⟩ := h1
      simp only [runN, hs] at h
      cases h
  | succ k ih =>
    intro n s s' s1 t t' t1 h hk h1
    cases n with
    | zero => lia
    | succ n =>
      simp only [runN] at h h1
      cases hs : step den p w s t with
      | go s₂ t₂ => simp only [hs] at h h1; exact ih h (by lia) h1
      | halt o s₂ => simp only [hs] at h; cases h
theorem rest_ends {rest b : List Stmt} {pos : Pos} {s : Shared} {Q : Shared → Prop} (hz : s.asleep) (hQ : ∀ s', Q s' → s'.gens = #[])
    (h : wpAny (model prog w) (topA env) (execs rest env) (fun f s' => f = .next ∧ Q s') (fun _ _ => False) s) :
    ∃ n s' t', schedN (denote table) prog w n (.single s (restOf rest env (.body b env) pos [topFrame q])) = .running (.single s' t') ∧ through t' = true ∧ Q s' ∧ s'.heap.life = s.heap.life := by
  have h1 : wpAny (model prog w) (topA env) (((execs rest env).onRaise (leaving env)).bind fun f => (Sem.pure (PySem.Fin.done f) : Sem PySem.Fin)) (fun x s' => x = .done .next ∧ Q s') (fun _ _ => False) s := by
    refine wpAny_bind (wpAny_onRaise (wpAny_mono h (fun f s' hx1_ => ?_) fun _ _ e => e.elim))
    obtain ⟨e, q⟩ := hx1_
    subst e
    exact wpAny_pure ⟨rfl, q⟩
  refine Classical.byContradiction fun hneg1_ => ?_
  obtain ⟨s', p', leaf, ⟨n, hn⟩, hl⟩ := wp_comes (Ctx.fits_of (.body b env) [topFrame q]) _ _ _ pos s (h1 _ pos topA_in)
  refine hneg1_ ?_
  rcases hl with ⟨a, rfl, rfl, hq⟩ | ⟨e, _, he⟩
  · have hg := hQ _ hq
    change (model prog w).runN n s ⟨_, .body b env, pos, [topFrame q]⟩ = .running s' ⟨_, .body b env, p', [topFrame q]⟩ at hn
    have h2 : (model prog w).runN (n + 1) s (restOf rest env (.body b env) pos [topFrame q]) = .running s' ⟨.pure (.done (.ret .none)), .builtin "claim.caller" {}, q, []⟩ := by
      unfold restOf
      rw [rest_tree, runN_snoc hn]
      have := step_leaf_ret (M := model prog w) (s := s') (c := .body b env) (p := p') (st := []) (.ok .next) topAfter none false [] (.builtin "claim.caller" {}) q []
      simp only [leafOf] at this
      rw [this]; rfl
    have h3 : (model prog w).runN (n + 1 + 1) s (restOf rest env (.body b env) pos [topFrame q]) = .halted (.done (.ret .none)) s' := by
      rw [runN_snoc h2]
      have := step_leaf_nil (M := model prog w) (s := s') (c := .builtin "claim.caller" {}) (p := q) (.ok (.ret .none))
      simp only [leafOf] at this
      rw [this]
      simp [finish, outcomeOf, hg, leftWithCleanup]
    refine Classical.byContradiction fun hneg2_ => ?_
    obtain ⟨s₁, h4, h5, h6⟩ := runNI_real _ _ _ h3 rfl
    obtain ⟨σ, τ, h7, h8, h9⟩ := runNI_running_real h2
    obtain rfl : σ = s' := Shared.eq_of_forget_eq h8 hg
    obtain ⟨cur, code, pos', stack⟩ := τ
    simp only [Thread.forget, Thread.mk.injEq, forgetAll] at h9
    obtain ⟨e1, e2, e3, e4⟩ := h9
    refine hneg2_ ?_
    have e5 : stack = [] := by cases stack with | nil => rfl | cons x xs => simp at e4
    refine Classical.byContradiction fun hneg3_ => ?_
    subst e1 e2 e3 e5
    refine hneg3_ ?_
    refine ⟨n + 1, σ, ⟨.pure (.done (.ret .none)), .builtin "claim.caller" {}, pos', []⟩, ?_, rfl, hq, ?_⟩
    · rw [schedN_prefix (denote table) prog w (n + 1) s _ hz fun k s₁ t₁ hk hr => ⟨h6 k s₁ t₁ hr, run_no_halt h7 hk hr _ _⟩]
      rw [show runN (denote table) prog w (n + 1) s _ = _ from h7]; rfl
    · exact runN_life_running (den := denote table) (prog := prog) (w := w) h7
  · exact he.elim
end Mine
end
section
namespace Mine
open PySem PySem.W PySem.Calls PyProof.Rows
set_option maxRecDepth 10000
set_option linter.unusedVariables false
variable {prog : Program} {w : World} {A : Around} {E : Value → Shared → Prop} {s : Shared}

/-! A long dict display of ints to strs. -/
structure Grow (s s' : Shared) : Prop where
  keep : ∀ b o, s.heap.get? b = some o → s'.heap.get? b = some o
  size : s.heap.objs.size ≤ s'.heap.objs.size
  rest : s' = { s with heap := s'.heap, toks := s'.toks }
theorem Grow.refl (s : Shared) : Grow s s := ⟨fun _ _ e => e, Nat.le_refl _, rfl⟩
theorem Grow.trans {s s' s'' : Shared} (x : Grow s s') (y : Grow s' s'') : Grow s s'' := ⟨fun b o e => y.keep b o (x.keep b o e), Nat.le_trans x.size y.size, by
  rw [y.rest]; conv => lhs; rw [x.rest]⟩
theorem Grow.toks (s : Shared) (t : Nat) : Grow s { s with toks := t } := ⟨fun _ _ e => e, Nat.le_refl _, rfl⟩
theorem Grow.push (s : Shared) (o : Obj) : Grow s { s with heap := s.heap.push o } := ⟨fun b p e => Heap.get?_push_of_some _ e, by rw [Heap.size_push]; exact Nat.le_succ _, rfl⟩
theorem Grow.turn {s s' : Shared} (x : Grow s s') {d : Addr} (hd : s.heap.objs.size ≤ d) {h' : Heap} (hs : Heap.SameBut d s'.heap h') (t : Nat) : Grow s { s' with heap := h', toks := t } :=
  ⟨fun b o e => (hs.2 b (Nat.ne_of_lt (Nat.lt_of_lt_of_le (Heap.lt_size e) hd))).trans (x.keep b o e), Nat.le_trans x.size (Nat.le_of_eq hs.1.symm), by conv => lhs; rw [x.rest]⟩

noncomputable abbrev keysOf (l : List (Int × Str)) : List Int := l.map (·.1)
noncomputable def Same (kvs : List (Int × Value)) (l : List (Int × Str)) : Prop := kvs.map (fun p => (p.1, er p.2)) = l.map fun p => (p.1, V.str p.2)
theorem Same.keys {kvs : List (Int × Value)} {l : List (Int × Str)} (h : Same kvs l) : kvs.map (·.1) = keysOf l := by
  have := congrArg (List.map Prod.fst) h
  simpa [keysOf, Function.comp_def] using this
theorem Same.length {kvs : List (Int × Value)} {l : List (Int × Str)} (h : Same kvs l) : kvs.length = l.length := by have := congrArg List.length h; simpa using this
theorem Same.snoc {kvs : List (Int × Value)} {l : List (Int × Str)} (h : Same kvs l) {k : Int} {v : Value} {x : Str} (e : er v = .str x) : Same (kvs ++ [(k, v)]) (l ++ [(k, x)]) := by
  unfold Same at h ⊢
  rw [List.map_append, List.map_append, h]
  simp [e]
noncomputable def TellsD (prog : Program) (w : World) (s : Shared) (d : Addr) (l : List (Int × Str)) : Prop := ∃ kvs, s.heap.DictOf (intKind prog w) d kvs ∧ Same kvs l
theorem TellsD.grown {s s' : Shared} {d : Addr} {l : List (Int × Str)} (h : TellsD prog w s d l) (k : ∀ o, s.heap.get? d = some o → s'.heap.get? d = some o) : TellsD prog w s' d l := by
  obtain ⟨kvs, ⟨o, es, ep, ho, r⟩, q⟩ := h
  exact ⟨kvs, ⟨o, es, ep, k o ho, r⟩, q⟩
theorem stored_fresh {kvs : List (Int × Value)} {k : Int} {v : Value} (h : k ∉ kvs.map (·.1)) : stored kvs k v = kvs ++ [(k, v)] := by
  unfold stored
  rw [if_neg]
  rw [List.any_eq_true]
  rintro ⟨kv, hkv, he⟩
  exact h (List.mem_map.mpr ⟨kv, hkv, of_decide_eq_true he⟩)
theorem set_ok {d : Addr} {l : List (Int × Str)} {k : Int} {x : Str} {kv v : Value} {Q : Unit → Shared → Prop} (hd : TellsD prog w s d l) (ek : er kv = .int k) (ev : er v = .str x) (hk : k ∉ keysOf l) (hz : l.length ≤ sizeLine)
    (h : ∀ h', Heap.SameBut d s.heap h' → TellsD prog w { s with heap := h', toks := s.toks + 1 } d (l ++ [(k, x)]) → Q () { s with heap := h', toks := s.toks + 1 }) : wpAny (model prog w) A (dictSet d kv v) Q E s := by
  obtain ⟨kvs, hm, hS⟩ := hd
  obtain ⟨t, rfl⟩ := er_int.mp ek
  have hf : k ∉ kvs.map (·.1) := by rw [hS.keys]; exact hk
  refine wpAny_dictSet_pairs (knd := intKind prog w) (k := k) (hsz := by rw [hS.length]; exact hz) (by simp [intKind, Value.isInt]) hm fun h' hm' hs' => h h' hs' ⟨_, hm', ?_⟩
  rw [stored_fresh hf]; exact hS.snoc ev

noncomputable def Gives (prog : Program) (w : World) (A : Around) (t : Sem Value) (v : V) : Prop := ∀ (s : Shared) (E : Value → Shared → Prop) (Q : Value → Shared → Prop), (∀ x tk, er x = v → Q x { s with toks := tk }) → wpAny (model prog w) A t Q E s
inductive Rows (prog : Program) (w : World) (A : Around) : List (Sem Value × Sem Value) → List (Int × Str) → Prop
  | nil : Rows prog w A [] []
  | cons {t u : Sem Value} {k : Int} {x : Str} {ts l} : Gives prog w A t (.int k) → Gives prog w A u (.str x) → Rows prog w A ts l → Rows prog w A ((t, u) :: ts) ((k, x) :: l)
theorem Rows.len {ts l} (h : Rows prog w A ts l) : ts.length = l.length := by
  induction h with
  | nil => rfl
  | cons _ _ _ ih => exact congrArg (· + 1) ih
theorem Rows.snoc {ts l t u k x} (h : Rows prog w A ts l) (c : Gives prog w A t (.int k)) (d : Gives prog w A u (.str x)) : Rows prog w A (ts ++ [(t, u)]) (l ++ [(k, x)]) := by
  induction h with
  | nil => exact .cons c d .nil
  | cons a b _ ih => exact .cons a b ih
noncomputable def RowVs (vs : List (Value × Value)) (l : List (Int × Str)) : Prop := vs.map (fun p => (er p.1, er p.2)) = l.map fun p => (V.int p.1, V.str p.2)
theorem pairs_ok {ts l} (r : Rows prog w A ts l) : ∀ {s : Shared} {Q : List (Value × Value) → Shared → Prop}, (∀ vs tk, RowVs vs l → Q vs { s with toks := tk }) → wpAny (model prog w) A (evalPairs ts) Q E s := by
  induction r with
  | nil => intro s Q h; exact evalPairs_nil (h [] s.toks rfl)
  | @cons t u k x ts l a b _ ih =>
    intro s Q h
    refine evalPairs_cons (a _ _ _ fun kv tk ek => b _ _ _ fun vv tk' ev => ih fun vs tk'' hv => h _ _ ?_)
    show (er kv, er vv) :: vs.map _ = (V.int k, V.str x) :: l.map _
    rw [ek, ev]; exact congrArg _ hv
theorem keys_split {l l0 l1 : List (Int × Str)} {k : Int} {x : Str} (hn : (keysOf (l0 ++ (k, x) :: l1)).Nodup) : k ∉ keysOf l0 := by
  intro hk
  rw [show keysOf (l0 ++ (k, x) :: l1) = keysOf l0 ++ k :: keysOf l1 by simp [keysOf], List.nodup_append] at hn
  exact hn.2.2 k hk k List.mem_cons_self rfl
theorem sub_ok {ts : List (Sem Value × Sem Value)} {l : List (Int × Str)} {Q : Addr → Shared → Prop} (hr : Rows prog w A ts l) (hl : l.length ≤ 17) (hn : (keysOf l).Nodup)
    (h : ∀ s', Grow s s' → s.heap.objs.size < s'.heap.objs.size → TellsD prog w s' s.heap.objs.size l → Q s.heap.objs.size s') : wpAny (model prog w) A (subDict ts) Q E s := by
  have hz : ∀ l0 : List (Int × Str), l0.length ≤ 17 → l0.length ≤ sizeLine := fun l0 h0 => by rw [sizeLine_eq]; lia
  unfold subDict
  refine wpAny_bind (wpAny_alloc (wpAny_bind (wpAny_holding ?_)))
  have g0 : Grow s { s with heap := s.heap.push { cls := .type "dict", data := .dict #[] } } := Grow.push _ _
  have t0 : TellsD prog w { s with heap := s.heap.push { cls := .type "dict", data := .dict #[] } } s.heap.objs.size [] := ⟨[], Heap.DictOf.new _, rfl⟩
  have fin : ∀ s', Grow s s' → s.heap.objs.size < s'.heap.objs.size → TellsD prog w s' s.heap.objs.size l → wpAny (model prog w) A (pure s.heap.objs.size : Sem Addr) Q E s' := fun s' a b c => wpAny_pure (h s' a b c)
  have lt0 : s.heap.objs.size < ({ s with heap := s.heap.push { cls := .type "dict", data := .dict #[] } } : Shared).heap.objs.size := by
    show _ < (s.heap.push _).objs.size
    rw [Heap.size_push]; exact Nat.lt_succ_self _
  revert t0 g0 lt0
  generalize ({ s with heap := s.heap.push { cls := .type "dict", data := .dict #[] } } : Shared) = s₁
  intro g0 t0 lt0
  by_cases hlen : ts.length ≤ 15
  · rw [if_pos hlen]
    refine wpAny_bind (pairs_ok hr fun vs tk hv => wpAny_holding (wpAny_bind (wpAny_forIn_list _ (fun rest _ s' => ∃ l0 l1, l = l0 ++ l1 ∧ RowVs rest l1 ∧ Grow s s' ∧ s.heap.objs.size < s'.heap.objs.size ∧ TellsD prog w s' s.heap.objs.size l0) _ ?_ ?_ vs PUnit.unit
      ⟨[], l, rfl, hv, g0.trans (Grow.toks _ _), lt0, t0.grown fun _ e => e⟩)))
    · rintro ⟨kv, vv⟩ rest _ s' ⟨l0, l1, rfl, hv, g, lt, t⟩
      cases l1 with
      | nil => simp [RowVs] at hv
      | cons p l1 =>
        obtain ⟨k, x⟩ := p
        simp only [RowVs, List.map_cons, List.cons.injEq, Prod.mk.injEq] at hv
        refine wpAny_bind (set_ok t hv.1.1 hv.1.2 (keys_split (l := []) hn) (hz _ (by rw [List.length_append] at hl; lia)) fun h' hs' t' => wpAny_pure ⟨l0 ++ [(k, x)], l1, by simp, hv.2, g.turn (Nat.le_refl _) hs' _, ?_, t'⟩)
        exact Nat.lt_of_lt_of_le lt (Nat.le_of_eq hs'.1.symm)
    · rintro _ s' ⟨l0, l1, rfl, hv, g, lt, t⟩
      cases l1 with
      | nil => rw [List.append_nil] at fin; exact wpAny_pure (fin s' g lt t)
      | cons p l1 => simp [RowVs] at hv
  · rw [if_neg hlen]
    refine wpAny_bind (wpAny_rule (wpAny_bind (wpAny_forIn_list _ (fun rest _ s' => ∃ l0 l1, l = l0 ++ l1 ∧ Rows prog w A rest l1 ∧ Grow s s' ∧ s.heap.objs.size < s'.heap.objs.size ∧ TellsD prog w s' s.heap.objs.size l0) _ ?_ ?_ ts PUnit.unit
      ⟨[], l, rfl, hr, g0, lt0, t0⟩)))
    · rintro ⟨tk, tv⟩ rest _ s' ⟨l0, l1, rfl, hv, g, lt, t⟩
      cases hv with
      | @cons _ _ k x _ l1 a b r =>
        refine wpAny_bind (a _ _ _ fun kv tk1 ek => wpAny_bind (wpAny_holding (b _ _ _ fun vv tk2 ev => wpAny_bind (wpAny_holding (set_ok (t.grown fun _ e => e) ek ev (keys_split (l := []) hn) (hz _ (by rw [List.length_append] at hl; lia))
          fun h' hs' t' => wpAny_pure ⟨l0 ++ [(k, x)], l1, by simp, r, g.turn (Nat.le_refl _) hs' _, ?_, t'⟩)))))
        exact Nat.lt_of_lt_of_le lt (Nat.le_of_eq hs'.1.symm)
    · rintro _ s' ⟨l0, l1, rfl, hv, g, lt, t⟩
      cases hv with
      | nil => rw [List.append_nil] at fin; exact wpAny_pure (fin s' g lt t)
end Mine
end
section
namespace Mine
open PySem PySem.W PySem.Calls PyProof.Rows
set_option maxRecDepth 10000
set_option linter.unusedVariables false
variable {prog : Program} {w : World} {A : Around} {E : Value → Shared → Prop} {s : Shared}

theorem put_ok {d : Addr} {kvs : List (Int × Value)} {k : Int} {key v : Value} {Q : Unit → Shared → Prop} (hm : s.heap.DictOf (intKind prog w) d kvs) (hkey : (intKind prog w).is k key = true) (hk : k ∉ kvs.map (·.1)) (hz : kvs.length ≤ sizeLine)
    (h : ∀ h', Heap.SameBut d s.heap h' → h'.DictOf (intKind prog w) d (kvs ++ [(k, v)]) → Q () { s with heap := h' }) : wpAny (model prog w) A (dictPut d ((intKind prog w).hash k) key v) Q E s := by
  refine Classical.byContradiction fun hneg1_ => ?_
  obtain ⟨o, es, ep, ho, hc, hd, hks, hp, hn⟩ := hm
  refine hneg1_ ?_
  have hsz : es.size ≤ sizeLine := by
    have e1 := hp.length
    have e2 : es.toList.length = es.size := by simp
    lia
  have hidx : (es.findIdx? fun e => (intKind prog w).is k e.key) = none := by
    have h1 : (es.findIdx? fun e => (intKind prog w).is k e.key) = kvs.findIdx? fun kv => decide (kv.1 = k) := by
      rw [← hp.findIdx k]; obtain ⟨l⟩ := es; simp
    rw [h1, List.findIdx?_eq_none_iff]
    intro kv hkv
    exact decide_eq_false fun e => hk (List.mem_map.mpr ⟨kv, hkv, e⟩)
  unfold dictPut
  refine wpAny_bind (wpAny_dictFind_of (knd := intKind prog w) hkey ho hd hks ?_)
  rw [hidx]
  refine wpAny_updateDictKeys (hz := hsz) ho hd (h _ (Heap.SameBut.update ..) ⟨_, _, ep + 1, Heap.get?_update_self _ ho (Obj.isFreed_of_dict (Obj.data_mapDictKeys hd _)), hc.mapDictKeys _, Obj.data_mapDictKeys hd _, hks.push hkey _, ?_, ?_⟩)
  · have := hp.append hkey ((intKind prog w).hash k) v
    obtain ⟨l⟩ := es
    simpa using this
  · rw [List.map_append, List.nodup_append]
    refine ⟨hn, by simp, fun a ha b hb => ?_⟩
    simp only [List.map_cons, List.map_nil, List.mem_singleton] at hb
    rintro rfl
    exact hk (hb ▸ ha)
theorem merge_ok {d m : Addr} {l l' : List (Int × Str)} {Q : Unit → Shared → Prop} (hd : TellsD prog w s d l) (hm : TellsD prog w s m l') (hne : d ≠ m) (hsys : (m == sysModules) = false) (h0 : l ≠ []) (hn : (keysOf (l ++ l')).Nodup) (hz : l.length + l'.length ≤ sizeLine)
    (h : ∀ h', Heap.SameBut d s.heap h' → TellsD prog w { s with heap := h' } d (l ++ l') → Q () { s with heap := h' }) : wpAny (model prog w) A (mergeMapping d (.ref m) false) Q E s := by
  refine Classical.byContradiction fun hneg2_ => ?_
  obtain ⟨kvs, hdd, hS⟩ := hd
  obtain ⟨more, hmm, hM⟩ := hm
  refine hneg2_ ?_
  have hlen := hS.length
  have hlen' := hM.length
  have hnn : ((kvs ++ more).map (·.1)).Nodup := by
    rw [List.map_append, hS.keys, hM.keys]
    simpa [keysOf] using hn
  refine Classical.byContradiction fun hneg3_ => ?_
  obtain ⟨oo, eso, epo, hoo, hco, hdo, hko, hpo, hno⟩ := id hmm
  refine hneg3_ ?_
  have hsize : more.length = eso.size := by rw [← hpo.length]; simp
  unfold mergeMapping
  refine wpAny_bind (wpAny_isInstance (T := "dict") (U := "dict") hmm.typeIs (b := true) (by kernel_rfl) ?_)
  simp only [if_true]
  refine wpAny_bind (wpAny_specialOf hmm.typeIs F.slot_dict_iter.lookup (wpAny_bind (wpAny_pure ?_)))
  simp only [beq_self_eq_true]
  refine Classical.byContradiction fun hneg4_ => ?_
  obtain ⟨od, esd, epd, hod, hcd, hddd, hkd, hpd, hnd⟩ := id hdd
  refine hneg4_ ?_
  have hes0 : esd.isEmpty = false := by
    have hl : esd.size = l.length := by rw [← hlen, ← hpd.length]; simp
    have : l.length ≠ 0 := fun e => h0 (List.length_eq_zero_iff.mp e)
    simp only [Array.isEmpty, decide_eq_false_iff_not]
    lia
  simp only [hsys, Bool.false_eq_true, if_false]
  refine wpAny_bind (wpAny_dictEntries hod hddd ?_)
  simp only [hes0, Bool.false_eq_true, if_false]
  refine wpAny_bind (wpAny_dictEntries hoo hdo (wpAny_bind (wpAny_dictEpoch hoo hdo ?_)))
  refine wpAny_bind (wpAny_forIn_list _ (fun rest _ s' => ∃ h' i, s' = { s with heap := h' } ∧ rest = (List.range eso.size).drop i ∧ i ≤ eso.size ∧ h'.DictOf (intKind prog w) d (kvs ++ more.take i) ∧ h'.get? m = some oo ∧ Heap.SameBut d s.heap h') _ ?_ ?_ _ PUnit.unit
    ⟨s.heap, 0, rfl, rfl, Nat.zero_le _, by simpa using hdd, hoo, Heap.SameBut.refl _ _⟩)
  · rintro x rest _ s' ⟨h', i, rfl, hr, hi, hd', hoo', hs'⟩
    have hlt : i < eso.size := by
      rcases Nat.lt_or_ge i eso.size with a | a
      · exact a
      · rw [List.drop_eq_nil_of_le (by simpa using a)] at hr; cases hr
    rw [List.drop_eq_getElem_cons (by simpa using hlt)] at hr
    simp only [List.getElem_range, List.cons.injEq] at hr
    obtain ⟨rfl, hrest⟩ := hr
    obtain ⟨kv, hkv⟩ : ∃ kv, more[x]? = some kv := ⟨more[x]'(by rw [hsize]; exact hlt), List.getElem?_eq_getElem _⟩
    refine Classical.byContradiction fun hneg5_ => ?_
    obtain ⟨k, v⟩ := kv
    obtain ⟨hkey, hval⟩ := hpo.get? (e := eso[x]) (by simp [hlt]) hkv
    obtain ⟨k', hkey', hhash⟩ := hko eso[x] (Array.getElem_mem hlt)
    obtain rfl : k' = k := (intKind prog w).inj _ _ _ hkey' hkey
    refine hneg5_ ?_
    refine wpAny_bind (wpAny_dictEntries hoo' hdo ?_)
    rw [Array.getElem?_eq_getElem hlt]
    dsimp only
    rw [hhash, hval]
    have hfresh : k' ∉ (kvs ++ more.take x).map (·.1) := by
      intro hm
      rw [show kvs ++ more = (kvs ++ more.take x) ++ more.drop x by rw [List.append_assoc, List.take_append_drop], List.map_append, List.nodup_append] at hnn
      refine hnn.2.2 k' hm k' ?_ rfl
      refine List.mem_map.mpr ⟨(k', v), ?_, rfl⟩
      have : (more.drop x)[0]? = some (k', v) := by simpa using hkv
      exact List.mem_of_getElem? this
    refine wpAny_bind (wpAny_holding (put_ok hd' hkey hfresh (by rw [List.length_append, List.length_take]; lia) fun h'' hs'' hd'' => ?_))
    have hoo'' : h''.get? m = some oo := (hs''.2 m (Ne.symm hne)).trans hoo'
    refine wpAny_bind (wpAny_dictEpoch hoo'' hdo ?_)
    rw [if_neg (by simp)]
    refine wpAny_pure ⟨h'', x + 1, rfl, hrest, hlt, ?_, hoo'', hs'.trans hs''⟩
    rw [List.take_add_one, hkv, ← List.append_assoc]
    exact hd''
  · rintro _ s' ⟨h', i, rfl, hr, hi, hd', hoo', hs'⟩
    have hi' : i = eso.size := by
      rcases Nat.lt_or_ge i eso.size with a | a
      · have := congrArg List.length hr
        simp at this; lia
      · lia
    subst hi'
    rw [← hsize, List.take_length] at hd'
    refine wpAny_pure (h h' hs' ⟨_, hd', ?_⟩)
    unfold Same at hS hM ⊢
    rw [List.map_append, List.map_append, hS, hM]
end Mine
end
section
namespace Mine
open PySem PySem.W PySem.Calls PyProof.Rows
set_option maxRecDepth 10000
set_option linter.unusedVariables false
variable {prog : Program} {w : World} {A : Around} {E : Value → Shared → Prop} {s s₀ : Shared}

noncomputable def MainIs (prog : Program) (w : World) (n : Nat) (s : Shared) : Option Addr → List (Int × Str) → Prop
  | none, l => l = []
  | some d, l => n ≤ d ∧ l ≠ [] ∧ TellsD prog w s d l
theorem TellsD.lt {d : Addr} {l : List (Int × Str)} (h : TellsD prog w s d l) : d < s.heap.objs.size := by
  obtain ⟨_, ⟨_, _, _, ho, _⟩, _⟩ := h
  exact Heap.lt_size ho
noncomputable def flushT (run : List (Sem Value × Sem Value)) (main : Option Addr) : Sem (Option Addr) := if run.isEmpty = true then pure main else match main with
  | none => do
    let d ← subDict run
    pure (some d)
  | some d => do
    let sub ← holding [Value.ref d] (subDict run)
    (holding [Value.ref d, Value.ref sub] (mergeMapping d (Value.ref sub) false)).onRaise fun x => do
      let _ ← holding [Value.ref d, x] (runValue (Code.builtin "proto.let_go" { }))
      pure ()
    pure (some d)
theorem flush_ok {run : List (Sem Value × Sem Value)} {main : Option Addr} {l0 l1 : List (Int × Str)} {Q : Option Addr → Shared → Prop} (hsys : sysModules < s₀.heap.objs.size) (g : Grow s₀ s) (hm : MainIs prog w s₀.heap.objs.size s main l0)
    (hr : Rows prog w A run l1) (hl : l1.length ≤ 17) (hn : (keysOf (l0 ++ l1)).Nodup) (hz : l0.length + l1.length ≤ sizeLine)
    (h : ∀ main' s', Grow s₀ s' → MainIs prog w s₀.heap.objs.size s' main' (l0 ++ l1) → Q main' s') :
    wpAny (model prog w) A (flushT run main) Q E s := by
  unfold flushT
  have hlen := hr.len
  have hn1 : (keysOf l1).Nodup := by
    rw [show keysOf (l0 ++ l1) = keysOf l0 ++ keysOf l1 by simp [keysOf], List.nodup_append] at hn
    exact hn.2.1
  cases hr with
  | nil => exact wpAny_pure (by simpa using h main s g (by simpa using hm))
  | @cons t u k x ts l a b r =>
    simp only [List.isEmpty_cons, Bool.false_eq_true, if_false]
    have hr : Rows prog w A ((t, u) :: ts) ((k, x) :: l) := .cons a b r
    cases main with
    | none =>
      obtain rfl : l0 = [] := hm
      refine wpAny_bind (sub_ok hr hl hn1 fun s' g' lt t' => wpAny_pure (h _ s' (g.trans g') ⟨g.size, by simp, t'⟩))
    | some d =>
      obtain ⟨hd1, hd2, hd3⟩ := hm
      refine wpAny_bind (wpAny_holding (sub_ok hr hl hn1 fun s' g' lt t' => ?_))
      have hd3' : TellsD prog w s' d l0 := hd3.grown fun o e => g'.keep d o e
      refine wpAny_bind (wpAny_onRaise ?_)
      refine wpAny_mono (wpAny_holding (merge_ok (E := fun _ _ => False) hd3' t' (Nat.ne_of_lt hd3.lt) ?_ hd2 hn hz fun h' hs' t'' => ?_)) (Q := fun _ s'' => wpAny (model prog w) A (pure (some d)) Q E s'') (fun _ _ h => h) fun _ _ x => x.elim
      · rw [beq_eq_false_iff_ne]
        exact Nat.ne_of_gt (Nat.lt_of_lt_of_le hsys g.size)
      · exact wpAny_pure (h _ _ ((g.trans g').turn hd1 hs' _) ⟨hd1, by simp [hd2], t''⟩)
theorem display_ok {ts : List (Sem Value × Sem Value)} {l : List (Int × Str)} {Q : Value → Shared → Prop} (hsys : sysModules < s.heap.objs.size) (hr : Rows prog w A ts l) (h0 : l ≠ []) (hn : (keysOf l).Nodup) (hz : l.length ≤ sizeLine)
    (h : ∀ d s', Grow s s' → s.heap.objs.size ≤ d → TellsD prog w s' d l → Q (.ref d) s') : wpAny (model prog w) A (dictDisplay (ts.map fun p => (some p.1, p.2))) Q E s := by
  unfold dictDisplay
  dsimp only
  refine wpAny_bind (wpAny_forIn_list _ (fun rest st s' => ∃ l0 l1 l2 tsr, l = l0 ++ (l1 ++ l2) ∧ Rows prog w A st.2 l1 ∧ l1.length < 17 ∧ Rows prog w A tsr l2 ∧ rest = tsr.map (fun p => (some p.1, p.2)) ∧ MainIs prog w s.heap.objs.size s' st.1 l0 ∧ Grow s s') _ ?_ ?_ _ _
    ⟨[], [], l, ts, rfl, .nil, by simp, hr, rfl, by show ([] : List (Int × Str)) = []; rfl, Grow.refl s⟩)
  · rintro ⟨ok, v⟩ rest ⟨main, run⟩ s' ⟨l0, l1, l2, tsr, rfl, r1, hl1, r2, hrest, hm, g⟩
    cases r2 with
    | nil => cases hrest
    | @cons t u k x tsr l2 a b r2 =>
      simp only [List.map_cons, List.cons.injEq, Prod.mk.injEq] at hrest
      obtain ⟨⟨rfl, rfl⟩, rfl⟩ := hrest
      dsimp only at r1 hm ⊢
      have r1' := r1.snoc a b
      have hlen : (run ++ [(t, v)]).length = l1.length + 1 := by rw [r1'.len]; simp
      by_cases h17 : l1.length + 1 = 17
      · rw [if_pos (by rw [hlen, h17]; rfl)]
        refine wpAny_bind (flush_ok hsys g hm r1' (by simp; lia) ?_ ?_ fun main' s'' g' hm' => wpAny_pure ⟨l0 ++ (l1 ++ [(k, x)]), [], l2, tsr, by simp, .nil, by simp, r2, rfl, hm', g'⟩)
        · rw [show l0 ++ (l1 ++ (k, x) :: l2) = (l0 ++ (l1 ++ [(k, x)])) ++ l2 by simp, show keysOf ((l0 ++ (l1 ++ [(k, x)])) ++ l2) = keysOf (l0 ++ (l1 ++ [(k, x)])) ++ keysOf l2 by simp [keysOf], List.nodup_append] at hn
          exact hn.1
        · simp only [List.length_append, List.length_cons, List.length_nil] at hz ⊢
          lia
      · rw [if_neg (by rw [hlen, beq_iff_eq]; exact h17)]
        exact wpAny_pure ⟨l0, l1 ++ [(k, x)], l2, tsr, by simp, r1', by simp; lia, r2, rfl, hm, g⟩
  · rintro ⟨main, run⟩ s' ⟨l0, l1, l2, tsr, rfl, r1, hl1, r2, hrest, hm, g⟩
    cases r2 with
    | cons => cases hrest
    | nil =>
      rw [List.append_nil] at h0 hn hz h
      refine wpAny_bind (flush_ok hsys g hm r1 (by lia) hn (by rw [← List.length_append]; exact hz) fun main' s'' g' hm' => ?_)
      cases main' with
      | none => exact absurd hm' h0
      | some d => exact wpAny_pure (h d s'' g' hm'.1 hm'.2.2)

/-! read off the text -/
noncomputable def intOf? : Option Expr → Option Int
  | some (.Constant (.int k) _ _) => some k
  | _ => none
noncomputable def strOf? : Expr → Option Str
  | .Constant (.str x) _ _ => some x
  | _ => none
noncomputable def readPairs : List (Option Expr) → List Expr → Option (List (Int × Str))
  | [], [] => some []
  | k :: ks, v :: vs => (intOf? k).bind fun k => (strOf? v).bind fun x => (readPairs ks vs).map ((k, x) :: ·)
  | _, _ => none
theorem intOf_spec {k : Option Expr} {i : Int} (h : intOf? k = some i) : ∃ kd p, k = some (.Constant (.int i) kd p) := by
  cases k with
  | none => cases h
  | some e => cases e with
    | Constant c kd p => cases c with
      | int j => cases h; exact ⟨_, _, rfl⟩
      | _ => cases h
    | _ => cases h
theorem strOf_spec {e : Expr} {x : Str} (h : strOf? e = some x) : ∃ kd p, e = .Constant (.str x) kd p := by
  cases e with
  | Constant c kd p => cases c with
    | str j => cases h; exact ⟨_, _, rfl⟩
    | _ => cases h
  | _ => cases h
theorem gives_int {k : Int} {kd pos env} : Gives prog w A (eval (.Constant (.int k) kd pos) env) (.int k) := fun s E Q h => wpAny_Constant_int (h _ _ rfl)
theorem gives_str {x : Str} {kd pos pos' env} : Gives prog w A (do let v ← eval (.Constant (.str x) kd pos) env; standAt pos'; pure v) (.str x) := fun s E Q h => wpAny_bind (wpAny_Constant_str (wpAny_bind (wpAny_standAt (wpAny_pure (h _ _ rfl)))))
theorem rows_of {env : Env} {pos : Pos} : ∀ {ks : List (Option Expr)} {vs : List Expr} {l : List (Int × Str)}, readPairs ks vs = some l → ∃ ts, Rows prog w A ts l ∧
    (evalEachOpt ks env).zip ((evalEach vs env).map fun v => do let x ← v; standAt pos; pure x) = ts.map fun p => (some p.1, p.2) := by
  intro ks
  induction ks with
  | nil =>
    intro vs l h
    cases vs with
    | nil => cases h; exact ⟨[], .nil, rfl⟩
    | cons _ _ => cases h
  | cons k ks ih =>
    intro vs l h
    cases vs with
    | nil => cases h
    | cons v vs =>
      obtain ⟨k', hk, h⟩ := Option.bind_eq_some_iff.mp (show (intOf? k).bind _ = some l from h)
      obtain ⟨x, hx, h⟩ := Option.bind_eq_some_iff.mp h
      obtain ⟨kd, p, rfl⟩ := intOf_spec hk
      obtain ⟨kd', p', rfl⟩ := strOf_spec hx
      obtain ⟨l', h', rfl⟩ := Option.map_eq_some_iff.mp h
      obtain ⟨ts, r, e⟩ := ih h'
      refine ⟨(_, _) :: ts, .cons (gives_int (kd := kd) (pos := p) (env := env)) (gives_str (kd := kd') (pos := p') (pos' := pos) (env := env)) r, ?_⟩
      show (some (eval (.Constant (.int k') kd p) env), _) :: (evalEachOpt ks env).zip _ = _
      rw [e]; rfl
theorem eval_dict {keys : List (Option Expr)} {values : List Expr} {pos : Pos} {env : Env} {l : List (Int × Str)} {Q : Value → Shared → Prop} (hl : readPairs keys values = some l) (hsys : sysModules < s.heap.objs.size) (h0 : l ≠ []) (hn : (keysOf l).Nodup) (hz : l.length ≤ sizeLine)
    (h : ∀ d s', Grow s s' → s.heap.objs.size ≤ d → TellsD prog w s' d l → Q (.ref d) s') : wpAny (model prog w) A (eval (.Dict keys values pos) env) Q E s := by
  rw [arm_eval_Dict]
  obtain ⟨ts, r, e⟩ := rows_of (prog := prog) (w := w) (A := A) (env := env) (pos := pos) hl
  rw [e]
  exact wpAny_bind (wpAny_standAt (display_ok hsys r h0 hn hz h))
end Mine
end
section
namespace Mine.MH
set_option linter.unusedVariables false

/-! Moore and Hodgson: the kept jobs, from short to long, against all ways. -/
noncomputable def psum (K : List Int) (j : Nat) : Int := (K.take j).sum
noncomputable def stepWays (c d : Int) (ws : List (Int × Int)) : List (Int × Int) := ws ++ (ws.filter fun p => decide (p.2 + c ≤ d)).map fun p => (p.1 + 1, p.2 + c)
structure Inv (K : List Int) (ws : List (Int × Int)) (d : Int) : Prop where
  sorted : K.Pairwise (· ≤ ·)
  pos : ∀ c ∈ K, 0 ≤ c
  all : ∀ j : Nat, j ≤ K.length → ((j : Int), psum K j) ∈ ws
  least : ∀ p ∈ ws, ∃ j : Nat, j ≤ K.length ∧ p.1 = j ∧ psum K j ≤ p.2 ∧ p.2 ≤ d
theorem psum_succ {K : List Int} {j : Nat} (h : j < K.length) : psum K (j + 1) = psum K j + K[j] := by
  unfold psum
  rw [List.take_add_one, List.getElem?_eq_getElem h, List.sum_append]
  simp
theorem psum_mono {K : List Int} (hp : ∀ c ∈ K, 0 ≤ c) : ∀ (k i : Nat), psum K i ≤ psum K (i + k)
  | 0, i => Int.le_refl _
  | k + 1, i => by
    have := psum_mono hp k i
    by_cases h : i + k < K.length
    · rw [← Nat.add_assoc, psum_succ h]
      have := hp K[i + k] (List.getElem_mem h)
      lia
    · have e : psum K (i + (k + 1)) = psum K (i + k) := by
        unfold psum; rw [List.take_of_length_le (by lia), List.take_of_length_le (by lia)]
      lia
theorem psum_le {K : List Int} (hp : ∀ c ∈ K, 0 ≤ c) {i j : Nat} (h : i ≤ j) : psum K i ≤ psum K j := by
  have := psum_mono hp (j - i) i
  rwa [Nat.add_sub_cancel' h] at this
theorem inv_start : Inv [] [(0, 0)] 0 := by
  refine ⟨.nil, fun _ h => (by cases h), fun j hj => ?_, fun p hp => ?_⟩
  · have : j = 0 := by simpa using hj
    subst this; simp [psum]
  · simp at hp
    subst hp
    exact ⟨0, Nat.le_refl _, rfl, Int.le_refl _, Int.le_refl _⟩
-- the kept with one more at its place
noncomputable def ins (K : List Int) (i : Nat) (c : Int) : List Int := K.take i ++ c :: K.drop i
theorem ins_len {K : List Int} {i : Nat} {c : Int} (h : i ≤ K.length) : (ins K i c).length = K.length + 1 := by unfold ins; simp; lia
theorem psum_ins_lo {K : List Int} {i : Nat} {c : Int} (h : i ≤ K.length) {j : Nat} (hj : j ≤ i) : psum (ins K i c) j = psum K j := by
  unfold psum ins
  rw [List.take_append_of_le_length (by simp; lia), List.take_take, Nat.min_eq_left hj]
theorem psum_ins_hi {K : List Int} {i : Nat} {c : Int} (h : i ≤ K.length) {j : Nat} (hj : i ≤ j) (hjl : j ≤ K.length) : psum (ins K i c) (j + 1) = psum K j + c := by
  unfold psum ins
  have e : (K.take i).length = i := by simp; lia
  rw [List.take_append, e, List.take_of_length_le (by rw [e]; lia), show j + 1 - i = (j - i) + 1 by lia, List.take_succ_cons, List.sum_append, List.sum_cons]
  have : K.take j = K.take i ++ (K.drop i).take (j - i) := by
    have := List.take_add (l := K) (i := i) (j := j - i)
    rwa [Nat.add_sub_cancel' hj] at this
  rw [this, List.sum_append]
  lia
-- K⁺'s sums: the lesser of two
theorem psum_ins_min {K : List Int} {i : Nat} {c : Int} (h : i ≤ K.length) (hlo : ∀ (j : Nat) (hj : j < K.length), j < i → K[j] ≤ c) (hhi : ∀ (j : Nat) (hj : j < K.length), i ≤ j → c ≤ K[j]) {j : Nat} (hj : j < K.length) :
    psum (ins K i c) (j + 1) = min (psum K (j + 1)) (psum K j + c) := by
  by_cases hi : j < i
  · rw [psum_ins_lo h (by lia), psum_succ hj]
    have := hlo j hj hi
    lia
  · rw [psum_ins_hi h (by lia) (by lia), psum_succ hj]
    have := hhi j hj (by lia)
    lia
theorem psum_dropLast {K : List Int} {j : Nat} (h : j ≤ K.length - 1) : psum K.dropLast j = psum K j := by
  unfold psum
  rw [List.dropLast_eq_take, List.take_take, Nat.min_eq_left h]
theorem psum_all {K : List Int} {j : Nat} (h : K.length ≤ j) : psum K j = K.sum := by unfold psum; rw [List.take_of_length_le h]
noncomputable def keepIt (K : List Int) (d : Int) : List Int := if K.sum > d then K.dropLast else K

theorem ins_sorted {K : List Int} {i : Nat} {c : Int} (hs : K.Pairwise (· ≤ ·)) (h : i ≤ K.length) (hlo : ∀ (j : Nat) (hj : j < K.length), j < i → K[j] ≤ c) (hhi : ∀ (j : Nat) (hj : j < K.length), i ≤ j → c ≤ K[j]) :
    (ins K i c).Pairwise (· ≤ ·) := by
  unfold ins
  have hs' : (K.take i ++ K.drop i).Pairwise (· ≤ ·) := by rw [List.take_append_drop]; exact hs
  rw [List.pairwise_append] at hs' ⊢
  refine ⟨hs'.1, ?_, ?_⟩
  · rw [List.pairwise_cons]
    refine ⟨fun x hx => ?_, hs'.2.1⟩
    obtain ⟨k, hk, rfl⟩ := List.mem_iff_getElem.mp hx
    rw [List.getElem_drop]
    exact hhi _ _ (by lia)
  · intro a ha b hb
    rcases List.mem_cons.mp hb with rfl | hb
    · obtain ⟨k, hk, rfl⟩ := List.mem_iff_getElem.mp ha
      rw [List.getElem_take]
      rw [List.length_take] at hk
      exact hlo _ _ (by lia)
    · exact hs'.2.2 a ha b hb
theorem step {K : List Int} {ws : List (Int × Int)} {d₀ d c : Int} {i : Nat} (I : Inv K ws d₀) (hd : d₀ ≤ d) (hc : 0 ≤ c) (h : i ≤ K.length)
    (hlo : ∀ (j : Nat) (hj : j < K.length), j < i → K[j] ≤ c) (hhi : ∀ (j : Nat) (hj : j < K.length), i ≤ j → c ≤ K[j]) : Inv (keepIt (ins K i c) d) (stepWays c d ws) d := by
  have hl := ins_len (c := c) h
  have hsum : (ins K i c).sum = psum K K.length + c := by rw [← psum_all (K := ins K i c) (j := K.length + 1) (by lia)]; exact psum_ins_hi h h (Nat.le_refl _)
  have hle : ∀ j : Nat, j ≤ K.length → psum K j ≤ d := fun j hj => by
    obtain ⟨j', a, b, e, f⟩ := I.least _ (I.all j hj)
    simp only at b e f
    lia
  have hsub : ∀ x, x ∈ keepIt (ins K i c) d → x ∈ ins K i c := fun x hx => by
    unfold keepIt at hx; split at hx
    · exact List.dropLast_subset _ hx
    · exact hx
  have hposI : ∀ x ∈ ins K i c, 0 ≤ x := fun x hx => by
    unfold ins at hx
    rcases List.mem_append.mp hx with hx | hx
    · exact I.pos _ (List.mem_of_mem_take hx)
    · rcases List.mem_cons.mp hx with rfl | hx
      · exact hc
      · exact I.pos _ (List.mem_of_mem_drop hx)
  have hlen : (keepIt (ins K i c) d).length = if psum K K.length + c > d then K.length else K.length + 1 := by
    unfold keepIt; rw [hsum]; split
    · rw [List.length_dropLast, hl]; rfl
    · exact hl
  have hps : ∀ j, j ≤ (keepIt (ins K i c) d).length → psum (keepIt (ins K i c) d) j = psum (ins K i c) j := fun j hj => by
    unfold keepIt at hj ⊢; split
    · rename_i q; rw [if_pos q, List.length_dropLast] at hj; exact psum_dropLast hj
    · rfl
  refine ⟨?_, fun x hx => hposI x (hsub x hx), fun j hj => ?_, fun p hp => ?_⟩
  · unfold keepIt; split
    · exact (ins_sorted I.sorted h hlo hhi).sublist (List.dropLast_sublist _)
    · exact ins_sorted I.sorted h hlo hhi
  · rw [hps j hj]
    unfold stepWays
    rw [List.mem_append]
    cases j with
    | zero => exact .inl (I.all 0 (Nat.zero_le _))
    | succ j =>
      rw [hlen] at hj
      by_cases hj2 : j < K.length
      · rw [psum_ins_min h hlo hhi hj2]
        by_cases hq : psum K (j + 1) ≤ psum K j + c
        · rw [Int.min_eq_left hq]; exact .inl (I.all (j + 1) (by lia))
        · rw [Int.min_eq_right (by lia)]
          refine .inr (List.mem_map.mpr ⟨(((j : Nat) : Int), psum K j), List.mem_filter.mpr ⟨I.all j (by lia), ?_⟩, ?_⟩)
          · have := hle (j + 1) (by lia)
            simp; lia
          · simp
      · have hjm : j = K.length := by split at hj <;> lia
        subst hjm
        rw [psum_ins_hi h h (Nat.le_refl _)]
        have hfit : ¬ psum K K.length + c > d := by intro q; rw [if_pos q] at hj; lia
        refine .inr (List.mem_map.mpr ⟨((K.length : Nat), psum K K.length), List.mem_filter.mpr ⟨I.all _ (Nat.le_refl _), ?_⟩, ?_⟩)
        · simp; lia
        · simp
  · unfold stepWays at hp
    rcases List.mem_append.mp hp with hp | hp
    · obtain ⟨j, a, b, e, f⟩ := I.least p hp
      have hjl : j ≤ (keepIt (ins K i c) d).length := by rw [hlen]; split <;> lia
      refine ⟨j, hjl, b, ?_, by lia⟩
      rw [hps j hjl]
      cases j with
      | zero => simpa [psum] using e
      | succ j =>
        rw [psum_ins_min h hlo hhi (by lia)]
        lia
    · obtain ⟨q, hq, rfl⟩ := List.mem_map.mp hp
      obtain ⟨hq1, hq2⟩ := List.mem_filter.mp hq
      have hq3 : q.2 + c ≤ d := of_decide_eq_true hq2
      obtain ⟨j, a, b, e, f⟩ := I.least q hq1
      by_cases hj2 : j < K.length
      · have hjl : j + 1 ≤ (keepIt (ins K i c) d).length := by rw [hlen]; split <;> lia
        refine ⟨j + 1, hjl, by simp [b], ?_, hq3⟩
        rw [hps _ hjl, psum_ins_min h hlo hhi hj2]
        show _ ≤ q.2 + c
        lia
      · have hjm : j = K.length := by lia
        subst hjm
        have hfit : ¬ psum K K.length + c > d := by lia
        have hjl : K.length + 1 ≤ (keepIt (ins K i c) d).length := by rw [hlen, if_neg hfit]; exact Nat.le_refl _
        refine ⟨K.length + 1, hjl, by simp [b], ?_, hq3⟩
        rw [hps _ hjl, psum_ins_hi h h (Nat.le_refl _)]
        show _ ≤ q.2 + c
        lia
end Mine.MH
end
section
namespace Mine
open PySem PySem.W PySem.Calls PyProof.Rows
section
set_option maxRecDepth 100000
set_option linter.unusedVariables false

/-! What a statement of the text makes. -/
noncomputable def pst (p : Program) (i : Nat) : Stmt := (p.main.body[i]?).getD (.Pass ⟨0, 0, 0, 0⟩)
-- what a statement holds; what an expression holds
noncomputable def noP : Pos := ⟨0, 0, 0, 0⟩
noncomputable def noE : Expr := .Constant .none 0 noP
noncomputable def stV : Stmt → List Stmt × List Stmt × Expr × Arguments × Scope × Str × Pos × List Expr
  | .FunctionDef n a b _ _ _ sc _ _ pos => (b, [], noE, a, sc, n, pos, [])
  | .If _ b e pos => (b, e, noE, ⟨[], [], none, [], [], none, []⟩, { kind := .function, names := [], isGenerator := false, isCoroutine := false, more := [] }, Str.empty, pos, [])
  | .For _ _ b e pos => (b, e, noE, ⟨[], [], none, [], [], none, []⟩, { kind := .function, names := [], isGenerator := false, isCoroutine := false, more := [] }, Str.empty, pos, [])
  | .Assign ts v pos => ([], [], v, ⟨[], [], none, [], [], none, []⟩, { kind := .function, names := [], isGenerator := false, isCoroutine := false, more := [] }, Str.empty, pos, ts)
  | .Return (some e) pos => ([], [], e, ⟨[], [], none, [], [], none, []⟩, { kind := .function, names := [], isGenerator := false, isCoroutine := false, more := [] }, Str.empty, pos, [])
  | _ => ([], [], noE, ⟨[], [], none, [], [], none, []⟩, { kind := .function, names := [], isGenerator := false, isCoroutine := false, more := [] }, Str.empty, noP, [])
noncomputable def exV : Expr → List Expr × Option Expr × Option Const × Option (List (Option Expr) × List Expr) × Pos
  | .Tuple es _ p => (es, none, none, none, p)
  | .List es p => (es, none, none, none, p)
  | .Subscript v _ p => ([], some v, none, none, p)
  | .Constant c _ p => ([], none, some c, none, p)
  | .Dict ks vs p => ([], none, none, some (ks, vs), p)
  | .Name _ p => ([], none, none, none, p)
  | _ => ([], none, none, none, noP)
noncomputable def fbody (s : Stmt) : List Stmt := (stV s).1
noncomputable def fparams (s : Stmt) : Arguments := (stV s).2.2.2.1
noncomputable def fscope (s : Stmt) : Scope := (stV s).2.2.2.2.1
noncomputable def fname (s : Stmt) : Str := (stV s).2.2.2.2.2.1
noncomputable def fpos (s : Stmt) : Pos := (stV s).2.2.2.2.2.2.1
noncomputable def fdOf (st : Stmt) (dV kV doc pm : Value) (an : Option Addr) (cdv ct : Value) : FuncData :=
  fnOf (fname st) (fname st) (fparams st) (fbody st) (fscope st) dV kV doc pm an cdv ct

theorem ite_both {c : Bool} {P Q : Prop} (h1 : c = true → P) (h2 : c = false → Q) : if c = true then P else Q := by
  cases c
  · exact h2 rfl
  · exact h1 rfl
theorem ite_true' {c : Bool} {P Q : Prop} (h : c = true) (h1 : P) : if c = true then P else Q := by rw [if_pos h]; exact h1
theorem ite_false' {c : Bool} {P Q : Prop} (h : c = false) (h1 : Q) : if c = true then P else Q := by rw [h]; exact h1

/-! A tree that looks at given objects alone, in their order. -/
noncomputable def peekL {α : Type} (S : Setting) : Sem α → List Obj → Option (α × List Addr)
  | .pure a, _ => some (a, [])
  | .rule _ k, l => peekL S (k ()) l
  | .point _ k, l => peekL S (k ()) l
  | .ask k, l => peekL S (k S) l
  | .load a _ k, o :: l => (peekL S (k o) l).map fun p => (p.1, a :: p.2)
  | _, _ => none
noncomputable def HoldL (h : Heap) : List Obj → List Addr → Prop
  | _, [] => True
  | o :: l, a :: as => h.get? a = some o ∧ HoldL h l as
  | [], _ :: _ => False
theorem noneSome {α : Type _} {a : α} {P : Prop} (h : none = some a) : P := by cases h
theorem wp_of_peekL {α : Type} {M : Model} {Γ : Ctx} {Q : α → Pos → Shared → Prop} {E : Value → Pos → Shared → Prop} {p : Pos} {s : Shared} {a : α} (q : Q a p s) :
    ∀ (t : Sem α) (l : List Obj) (as : List Addr), peekL ⟨M.prog, M.w.params⟩ t l = some (a, as) → HoldL s.heap l as → Sem.wp M Γ t Q E p s := by
  intro t
  induction t with
  | pure b => intro l as e _; cases e; exact q
  | rule _ k ih => intro l as e h; exact ih () l as e h
  | point _ k ih => intro l as e h; exact ih () l as e h
  | ask k ih => intro l as e h; exact ih _ l as e h
  | load b _ k ih =>
    intro l as e h
    cases l with
    | nil => exact noneSome e
    | cons o l =>
      obtain ⟨⟨a', as'⟩, e1, e2⟩ := Option.map_eq_some_iff.mp e
      cases e2
      exact ⟨o, h.1, ih o l as' e1 h.2⟩
  | _ => intro l as e _; cases l <;> exact noneSome e
theorem binds_L {s : Shared} {fd : FuncData} {args : Args} {binds : List (Str × Value)} {l : List Obj} {as : List Addr} (e : ∀ S, peekL S (bindArgs fd args) l = some (binds, as)) (h : HoldL s.heap l as) :
    BindsTo s fd args binds := fun M _ _ _ q Γ p _ => wp_of_peekL q _ l as (e _) h

-- closed looks
local macro_rules | `(tactic| walk_at "k") => `(tactic| first | rfl | kernel_rfl! | decide +kernel)
end
local macro_rules | `(tactic| walk_at "k") => `(tactic| first | rfl | kernel_rfl! | decide +kernel)
local macro_rules | `(tactic| walk_at "m") => `(tactic| first | with_reducible exact Loc.set_same _ _ _ | ((with_reducible refine' (Loc.set_ne ?hne).trans ?hrest); (case hne => decide +kernel); (case hrest => walk_at "m")) | with_reducible assumption)
local macro_rules | `(tactic| walk_at "e") => `(tactic| first
  | (with_reducible first | refine W_int ?_ | refine W_str ?_ | refine W_none ?_ | refine W_bool ?_ | refine W_BinOp ?_ | refine W_IfExp ?_ | refine W_UnaryOp ?_ | refine W_Subscript ?_)
  | ((with_reducible refine' W_Name (W_load ?hm ?_ ?h1 ?h2 ?h3) ?h4); (case hm => walk_at "m"); (case h1 | h2 | h3 => walk_at "k"); (case h4 => decide +kernel))
  | ((with_reducible refine W_Compare1 ?_ ?hm); (case hm => walk_at "k")))
local macro_rules | `(tactic| walk_at "i") => `(tactic| first
  | ((with_reducible refine WI_Compare1 ?_ ?hm); (case hm => walk_at "k")) | (with_reducible first | refine WI_Not ?_ | refine WI_And ?_ | refine WI_Or ?_)
  | ((with_reducible refine WI_value ?_ ?hm); (case hm => rfl)))
local macro_rules | `(tactic| walk_at "o") => `(tactic| with_reducible first
  | refine WB_add ?_ | refine WB_sub ?_ | refine WC_lt ?_ | refine WC_le ?_ | refine WC_gt ?_ | refine WC_eq ?_ | refine WC_ne ?_ | refine WC_eqS ?_ | refine WC_neS ?_ | refine WC_isNone ?_ | refine WC_isNotNone ?_
  | refine WT_bool ?_ | refine WT_int ?_)
local macro_rules | `(tactic| walk_at "t") => `(tactic| first
  | (with_reducible first | refine WS_nil ?_ | refine WS_cons (WS_If ?_)) | ((with_reducible refine WS_cons (WS_Assign ?_ ?hs)); (case hs => walk_at "k"))
  | (with_reducible first | refine WS_cons (WS_Return ?_) | refine WS_cons (WS_Aug ?_) | refine WS_cons ?_)
  | ((with_reducible refine WSt_local ?_ ?h1 ?h2 ?h3); (case h1 | h2 | h3 => walk_at "k")))
local macro_rules | `(tactic| walk_at "s") => `(tactic| first | walk_at "e" | walk_at "i" | walk_at "o" | walk_at "t")
section
set_option maxRecDepth 100000
set_option linter.unusedVariables false

variable {base : Heap} {os : OsState} {H H' : HP} {n n' : Nat} {s s' : Shared} {prog : Program} {w : World} {A : Around} {L : Addr} {σ : St} {m : Loc} {env : Env} {Q : V → St → Prop} {R : Flow → St → Prop}



theorem fdiv2 {a b : Nat} : ((a : Int) + b).fdiv 2 = ((a + b) / 2 : Nat) := by
  rw [Int.fdiv_eq_ediv_of_nonneg _ (by decide)]; lia
-- where a row parts: none of `p` ahead, all behind
noncomputable def Parts (p : Nat → Bool) (lo hi r : Nat) : Prop := lo ≤ r ∧ r ≤ hi ∧ (∀ i, lo ≤ i → i < r → p i = false) ∧ ∀ i, r ≤ i → i < hi → p i = true
noncomputable def Rises (p : Nat → Bool) (lo hi : Nat) : Prop := ∀ i j, lo ≤ i → i ≤ j → j < hi → p i = true → p j = true

-- the names that the text leaves to the built-ins
noncomputable def biOf (x : Str) : Option Value := List.lookup x
  ([("len", .builtin "len"), ("sum", .builtin "sum"), ("min", .builtin "min"), ("max", .builtin "max"), ("abs", .builtin "abs"), ("chr", .builtin "chr"), ("ord", .builtin "ord"), ("sorted", .builtin "sorted"),
    ("range", .type "range"), ("list", .type "list"), ("enumerate", .type "enumerate"), ("zip", .type "zip")] : List (Str × Value))
structure Gl (base : Heap) (mg mb : Str → Option Value) : Prop where
  g : base.Ns mainGlobals mg
  b : base.Ns builtinsNs mb
  lim : base.NoLimit
  bi : ∀ x v, biOf x = some v → mg x = none ∧ mb x = some v

section
variable {dV kV doc pm cdv ct : Value} {an : Option Addr} {f : Addr}
noncomputable abbrev bR := pst PySem.Challenge.pw_rw0112_01 3
noncomputable abbrev bL := pst PySem.Challenge.pw_rw0112_01 5
-- a key: what it gives of each item, leaving all as it was
noncomputable def KeyOk (prog : Program) (w : World) (base : Heap) (os : OsState) (d : Nat) (g : Addr) (H : HP) (n : Nat) (vs : List V) (ks : Nat → Int) : Prop :=
  ∀ i v, vs[i]? = some v → ∀ A H' n' a', A.depth + d < recursionLimit → A.handled = none → (∀ a o, H a = some o → H' a = some o) → n ≤ n' → er a' = v →
    C prog w base os A (.call (.ref g) ⟨[a'], []⟩) (fun u H'' n'' => u = .int (ks i) ∧ H'' = H' ∧ n' ≤ n'') H' n'
-- the loop's word
structure BisI (H : HP) (n : Nat) (a : Addr) (x key : V) (p : Nat → Bool) (lo₀ hi₀ k : Nat) (σ : St) : Prop where
  a : σ.m "a" = some (.ref a)
  x : σ.m "x" = some x
  key : σ.m "key" = some key
  H : σ.H = H
  n : n ≤ σ.n
  b : ∃ lo hi : Nat, k = hi - lo ∧ σ.m "lo" = some (.int lo) ∧ σ.m "hi" = some (.int hi) ∧ lo₀ ≤ lo ∧ lo ≤ hi ∧ hi ≤ hi₀ ∧ (∀ i, lo₀ ≤ i → i < lo → p i = false) ∧ ∀ i, hi ≤ i → i < hi₀ → p i = true

theorem bis_head_bR {mg mb : Str → Option Value} (G : Gl base mg mb) {vs : List V} {a : Addr} {lo hi : Nat} (h1 : σ.m "a" = some (.ref a)) (h3 : σ.m "lo" = some (.int lo)) (h4 : σ.m "hi" = some (.int hi) ∨ (σ.m "hi" = some .none ∧ hi = vs.length))
    (ha : σ.H a = some (.list vs)) (hz : vs.length ≤ sizeLine)
    (h : ∀ m', (∀ x, x ≠ Str.ofString "hi" → m' x = σ.m x) → m' "hi" = some (.int hi) → WS prog w base os A L ((fbody bR).drop 2) (callEnv (fdOf bR dV kV doc pm an cdv ct) L f) R ⟨m', σ.H, σ.n⟩) :
    WS prog w base os A L (fbody bR) (callEnv (fdOf bR dV kV doc pm an cdv ct) L f) R σ := by
  refine WS_cons (WS_If ?_)
  repeat walk_at "s"
  refine ite_false' (by simp) ?_
  refine WS_nil ?_
  dsimp only
  rcases h4 with h4 | ⟨h4, h5⟩
  · repeat walk_at "s"
    refine ite_false' rfl ?_
    refine WS_nil ?_
    exact h _ (fun _ _ => rfl) h4
  · repeat walk_at "s"
    refine ite_true' rfl ?_
    repeat walk_at "s"
    refine W_Call rfl rfl ?_ rfl
    refine W_builtin G.g G.b (v := .builtin "len") (G.bi _ (.builtin "len") (by kernel_rfl!)).1 (G.bi _ (.builtin "len") (by kernel_rfl!)).2 ?_ (by walk_at "k") (by walk_at "k") (by walk_at "k") (by walk_at "k") (by decide +kernel)
    dsimp only [WArgs]
    repeat walk_at "s"
    dsimp only [WKws, kwNames]
    refine ⟨trivial, WCall_len ha ?_ hz⟩
    walk_at "t"
    refine WS_nil ?_
    subst h5
    exact h _ (fun x hx => Loc.set_ne hx) (Loc.set_same _ _ _)

theorem bis_head_bL {mg mb : Str → Option Value} (G : Gl base mg mb) {vs : List V} {a : Addr} {lo hi : Nat} (h1 : σ.m "a" = some (.ref a)) (h3 : σ.m "lo" = some (.int lo)) (h4 : σ.m "hi" = some (.int hi) ∨ (σ.m "hi" = some .none ∧ hi = vs.length))
    (ha : σ.H a = some (.list vs)) (hz : vs.length ≤ sizeLine)
    (h : ∀ m', (∀ x, x ≠ Str.ofString "hi" → m' x = σ.m x) → m' "hi" = some (.int hi) → WS prog w base os A L ((fbody bL).drop 2) (callEnv (fdOf bL dV kV doc pm an cdv ct) L f) R ⟨m', σ.H, σ.n⟩) :
    WS prog w base os A L (fbody bL) (callEnv (fdOf bL dV kV doc pm an cdv ct) L f) R σ := by
  refine WS_cons (WS_If ?_)
  repeat walk_at "s"
  refine ite_false' (by simp) ?_
  refine WS_nil ?_
  dsimp only
  rcases h4 with h4 | ⟨h4, h5⟩
  · repeat walk_at "s"
    refine ite_false' rfl ?_
    refine WS_nil ?_
    exact h _ (fun _ _ => rfl) h4
  · repeat walk_at "s"
    refine ite_true' rfl ?_
    repeat walk_at "s"
    refine W_Call rfl rfl ?_ rfl
    refine W_builtin G.g G.b (v := .builtin "len") (G.bi _ (.builtin "len") (by kernel_rfl!)).1 (G.bi _ (.builtin "len") (by kernel_rfl!)).2 ?_ (by walk_at "k") (by walk_at "k") (by walk_at "k") (by walk_at "k") (by decide +kernel)
    dsimp only [WArgs]
    repeat walk_at "s"
    dsimp only [WKws, kwNames]
    refine ⟨trivial, WCall_len ha ?_ hz⟩
    walk_at "t"
    refine WS_nil ?_
    subst h5
    exact h _ (fun x hx => Loc.set_ne hx) (Loc.set_same _ _ _)

-- a bisection's loop, whatever the test of its middle
theorem bis_gen {env : Env} {cond : Expr} {b1 b2 : List Stmt} {sw : Bool} {p : Nat → Bool} {a : Addr} {x key : V} {lo hi : Nat} {k₁ k₂ : Nat} {p0 p1 p2 p3 p4 p5 p6 p7 p8 p9 p10 p11 q1 q2 q3 q4 q5 q6 q7 q8 : Pos} {R : Flow → St → Prop}
    (hk : env.scope.kind = .function) (kl : env.kindOf "lo" = some .local) (kh : env.kindOf "hi" = some .local) (km : env.kindOf "mid" = some .local) (hL : env.locals = L)
    (hb : (b1, b2) = if sw = true then ([.Assign [.Name "lo" q1] (.BinOp (.Name "mid" q2) .Add (.Constant (.int 1) k₂ q3) q4) q5], [.Assign [.Name "hi" q6] (.Name "mid" q7) q8])
      else ([.Assign [.Name "hi" q6] (.Name "mid" q7) q8], [.Assign [.Name "lo" q1] (.BinOp (.Name "mid" q2) .Add (.Constant (.int 1) k₂ q3) q4) q5]))
    (h1 : σ.m "a" = some (.ref a)) (h2 : σ.m "x" = some x) (h5 : σ.m "key" = some key) (h3 : σ.m "lo" = some (.int lo)) (h4 : σ.m "hi" = some (.int hi)) (hlo : lo ≤ hi) (hm : Rises p lo hi)
    (hc : ∀ m₁ n₁ mid R', m₁ "a" = some (.ref a) → m₁ "x" = some x → m₁ "key" = some key → m₁ "mid" = some (.int (mid : Nat)) → lo ≤ mid → mid < hi → σ.n ≤ n₁ →
      (∀ n₂, n₁ ≤ n₂ → R' (p mid != sw) ⟨m₁, σ.H, n₂⟩) → WI prog w base os A L cond env R' ⟨m₁, σ.H, n₁⟩)
    (h : ∀ r n' m', σ.n ≤ n' → Parts p lo hi r → m' "lo" = some (.int (r : Nat)) → R .next ⟨m', σ.H, n'⟩) :
    W prog w base os A L (exec (.While (.Compare (.Name "lo" p1) [.Lt] [.Name "hi" p2] p3)
      [.Assign [.Name "mid" p4] (.BinOp (.BinOp (.Name "lo" p5) .Add (.Name "hi" p6) p7) .FloorDiv (.Constant (.int 2) k₁ p8) p9) p10, .If cond b1 b2 p11] [] p0) env) R σ := by
  have nl : (Str.ofString "lo" == ("__debug__" : Str)) = false := by decide +kernel
  have nh : (Str.ofString "hi" == ("__debug__" : Str)) = false := by decide +kernel
  have nm : (Str.ofString "mid" == ("__debug__" : Str)) = false := by decide +kernel
  refine WS_While (BisI σ.H σ.n a x key p lo hi) (hi - lo)
    ⟨h1, h2, h5, rfl, Nat.le_refl _, lo, hi, rfl, h3, h4, Nat.le_refl _, hlo, Nat.le_refl _, fun i h h' => absurd h' (Nat.not_lt.mpr h), fun i h h' => absurd h' (Nat.not_lt.mpr h)⟩ ?_
  intro k ⟨m₁, H₁, n₁⟩ I
  obtain ⟨i1, i2, i3, i4, i5, l, r, rfl, i6, i7, i8, i9, i10, i11, i12⟩ := I
  obtain rfl : H₁ = σ.H := i4
  dsimp only at i1 i2 i3 i5 i6 i7
  refine WI_Compare1 (W_Name (W_load i6 (W_Name (W_load i7 (WC_lt (WT_bool (ite_both (fun c => ?_) fun c => ?_))) hk kh hL) nh) hk kl hL) nl) rfl
  · have c : l < r := by simpa using c
    have hlr := c
    have hmid : l ≤ (l + r) / 2 ∧ (l + r) / 2 < r := ⟨by omega, by omega⟩
    refine WS_cons (WS_Assign (W_BinOp (W_BinOp (W_Name (W_load i6 (W_Name (W_load i7 (WB_add (W_int (WB_div ?_ (by decide) (PyProof.noPylong_small (by decide))))) hk kh hL) nh) hk kl hL) nl))) rfl)
    rw [fdiv2]
    refine WSt_local (WS_cons (WS_If (hc _ _ ((l + r) / 2) _ ((Loc.set_ne (by decide +kernel)).trans i1) ((Loc.set_ne (by decide +kernel)).trans i2) ((Loc.set_ne (by decide +kernel)).trans i3) (Loc.set_same _ _ _) (by lia) (by lia) i5 fun n₂ hn₂ => ?_))) km hk hL
    have setHi : p ((l + r) / 2) = true → ∀ R₂ : Flow → St → Prop, (∀ σ₃, (∃ j, j < r - l ∧ BisI σ.H σ.n a x key p lo hi j σ₃) → R₂ .next σ₃) → WS prog w base os A L [.Assign [.Name "hi" q6] (.Name "mid" q7) q8] env R₂ ⟨Loc.set m₁ "mid" (.int (((l + r) / 2 : Nat) : Int)), σ.H, n₂⟩ := fun c R₂ k => by
      refine WS_cons (WS_Assign (W_Name (W_load (show (Loc.set m₁ "mid" (.int (((l + r) / 2 : Nat) : Int))) "mid" = _ from Loc.set_same _ _ _) (WSt_local (WS_nil ?_) kh hk hL) hk km hL) nm) rfl)
      exact k _ ⟨(l + r) / 2 - l, Nat.sub_lt_sub_right hmid.1 hmid.2, ⟨by walk_at "m", by walk_at "m",
        by walk_at "m", rfl, Nat.le_trans i5 hn₂, l, (l + r) / 2, rfl, by walk_at "m", by walk_at "m",
        i8, by lia, by lia, i11, fun i h1 h2 => hm _ _ (by lia) h1 h2 c⟩⟩
    have setLo : p ((l + r) / 2) = false → ∀ R₂ : Flow → St → Prop, (∀ σ₃, (∃ j, j < r - l ∧ BisI σ.H σ.n a x key p lo hi j σ₃) → R₂ .next σ₃) → WS prog w base os A L [.Assign [.Name "lo" q1] (.BinOp (.Name "mid" q2) .Add (.Constant (.int 1) k₂ q3) q4) q5] env R₂ ⟨Loc.set m₁ "mid" (.int (((l + r) / 2 : Nat) : Int)), σ.H, n₂⟩ := fun c R₂ k => by
      refine WS_cons (WS_Assign (W_BinOp (W_Name (W_load (show (Loc.set m₁ "mid" (.int (((l + r) / 2 : Nat) : Int))) "mid" = _ from Loc.set_same _ _ _) (W_int (WB_add (WSt_local (WS_nil ?_) kl hk hL))) hk km hL) nm)) rfl)
      refine k _ ⟨r - ((l + r) / 2 + 1), Nat.sub_lt_sub_left hlr (Nat.lt_succ_of_le hmid.1), ⟨by walk_at "m", by walk_at "m",
        by walk_at "m", rfl, Nat.le_trans i5 hn₂, (l + r) / 2 + 1, r, rfl, (by rw [show (((l + r) / 2 + 1 : Nat) : Int) = (((l + r) / 2 : Nat) : Int) + 1 by lia]; walk_at "m"),
        by walk_at "m", by lia, by lia, i10, fun i h1 h2 => ?_, i12⟩⟩
      cases q : p i with
      | false => rfl
      | true => exact absurd ((hm i ((l + r) / 2) h1 (by lia) (by lia) q).symm.trans c) Bool.noConfusion
    cases hp : p ((l + r) / 2) <;> cases sw <;> cases hb
    · exact setLo hp _ fun σ₃ q => WS_nil q
    · exact setLo hp _ fun σ₃ q => WS_nil q
    · exact setHi hp _ fun σ₃ q => WS_nil q
    · exact setHi hp _ fun σ₃ q => WS_nil q
  · have c : ¬ l < r := by simpa using c
    have e : l = r := by lia
    subst e
    exact h l _ _ i5 ⟨i8, i10, i11, i12⟩ i6
theorem bisR_ints {vs : List V} {ks : Nat → Int} {a : Addr} {x : Int} {lo hi : Nat} (h1 : σ.m "a" = some (.ref a)) (h2 : σ.m "x" = some (.int x)) (h3 : σ.m "lo" = some (.int lo)) (h4 : σ.m "hi" = some (.int hi))
    (h5 : σ.m "key" = some .none) (ha : σ.H a = some (.list vs)) (hz : vs.length ≤ sizeLine) (hlo : lo ≤ hi) (hhi : hi ≤ vs.length) (hks : ∀ i, i < vs.length → vs[i]? = some (.int (ks i)))
    (hm : Rises (fun i => decide (x < ks i)) lo hi) (h : ∀ r n' m', σ.n ≤ n' → Parts (fun i => decide (x < ks i)) lo hi r → ∀ v, er v = .int r → R (.ret v) ⟨m', σ.H, n'⟩) :
    WS prog w base os A L ((fbody bR).drop 2) (callEnv (fdOf bR dV kV doc pm an cdv ct) L f) R σ := by
  refine WS_cons (WS_If ?_)
  repeat walk_at "s"
  refine ite_true' rfl ?_
  rw [sizeLine_eq] at hz
  refine WS_cons (bis_gen (sw := false) (p := fun i => decide (x < ks i)) (by walk_at "k") (by walk_at "k") (by walk_at "k") (by walk_at "k") rfl rfl h1 h2 h5 h3 h4 hlo hm (fun m₁ n₁ mid R' c1 c2 c3 c4 c5 c6 c7 q => ?_) fun r n' m' hn hp hm' => ?_)
  · have hmid : mid < vs.length := Nat.lt_of_lt_of_le c6 hhi
    repeat walk_at "s"
    refine WSub_list (v := .int (ks mid)) ha (Int.natCast_nonneg _) (by rw [Int.toNat_natCast]; exact hks _ hmid) (by rw [sizeLine_eq]; exact hz) ?_ rfl
    repeat walk_at "s"
    have e : (decide (x < ks mid) != false) = decide (x < ks mid) := by simp
    exact e ▸ q _ (Nat.le_refl _)
  · refine WS_nil ?_
    dsimp only
    repeat walk_at "s"
    exact h r _ _ hn hp
theorem bisR_key {g : Addr} {d : Nat} {vs : List V} {ks : Nat → Int} {a : Addr} {x : Int} {lo hi : Nat} (h1 : σ.m "a" = some (.ref a)) (h2 : σ.m "x" = some (.int x)) (h3 : σ.m "lo" = some (.int lo)) (h4 : σ.m "hi" = some (.int hi))
    (h5 : σ.m "key" = some (.ref g)) (hg : KeyOk prog w base os d g σ.H σ.n vs ks) (hcal : Callee base σ.H (.ref g)) (hA : A.depth + d < recursionLimit) (hA2 : A.handled = none) (ha : σ.H a = some (.list vs)) (hz : vs.length ≤ sizeLine) (hlo : lo ≤ hi) (hhi : hi ≤ vs.length) 
    (hm : Rises (fun i => decide (x < ks i)) lo hi) (h : ∀ r n' m', σ.n ≤ n' → Parts (fun i => decide (x < ks i)) lo hi r → ∀ v, er v = .int r → R (.ret v) ⟨m', σ.H, n'⟩) :
    WS prog w base os A L ((fbody bR).drop 2) (callEnv (fdOf bR dV kV doc pm an cdv ct) L f) R σ := by
  refine WS_cons (WS_If ?_)
  repeat walk_at "s"
  refine ite_false' rfl ?_
  rw [sizeLine_eq] at hz
  refine WS_cons (bis_gen (sw := false) (p := fun i => decide (x < ks i)) (by walk_at "k") (by walk_at "k") (by walk_at "k") (by walk_at "k") rfl rfl h1 h2 h5 h3 h4 hlo hm (fun m₁ n₁ mid R' c1 c2 c3 c4 c5 c6 c7 q => ?_) fun r n' m' hn hp hm' => ?_)
  · have hmid : mid < vs.length := Nat.lt_of_lt_of_le c6 hhi
    repeat walk_at "s"
    refine W_Call rfl rfl ?_ rfl
    repeat walk_at "s"
    dsimp only [WArgs]
    repeat walk_at "s"
    refine WSub_list (v := vs[mid]) ha (Int.natCast_nonneg _) (by rw [Int.toNat_natCast]; exact List.getElem?_eq_getElem hmid) (by rw [sizeLine_eq]; exact hz) ?_ rfl
    dsimp only [WKws, kwNames]
    refine ⟨hcal, fun f' as ks' e1 e2 e3 => ?_⟩
    rw [er_ref] at e1; subst e1
    obtain ⟨a', rfl, e4⟩ := map_one e2
    cases ks' with
    | cons _ _ => cases e3
    | nil => ?_
    refine W_pure (v := .int (ks mid)) (fun q1 q2 => hg _ _ (List.getElem?_eq_getElem hmid) A _ _ _ hA hA2 (upd_sub q2) c7 e4) fun n₂ hn₂ => ?_
    repeat walk_at "s"
    have e : (decide (x < ks mid) != false) = decide (x < ks mid) := by simp
    exact e ▸ q _ hn₂
  · refine WS_nil ?_
    dsimp only
    repeat walk_at "s"
    exact h r _ _ hn hp
theorem bisL_ints {vs : List V} {ks : Nat → Int} {a : Addr} {x : Int} {lo hi : Nat} (h1 : σ.m "a" = some (.ref a)) (h2 : σ.m "x" = some (.int x)) (h3 : σ.m "lo" = some (.int lo)) (h4 : σ.m "hi" = some (.int hi))
    (h5 : σ.m "key" = some .none) (ha : σ.H a = some (.list vs)) (hz : vs.length ≤ sizeLine) (hlo : lo ≤ hi) (hhi : hi ≤ vs.length) (hks : ∀ i, i < vs.length → vs[i]? = some (.int (ks i)))
    (hm : Rises (fun i => !decide (ks i < x)) lo hi) (h : ∀ r n' m', σ.n ≤ n' → Parts (fun i => !decide (ks i < x)) lo hi r → ∀ v, er v = .int r → R (.ret v) ⟨m', σ.H, n'⟩) :
    WS prog w base os A L ((fbody bL).drop 2) (callEnv (fdOf bL dV kV doc pm an cdv ct) L f) R σ := by
  refine WS_cons (WS_If ?_)
  repeat walk_at "s"
  refine ite_true' rfl ?_
  rw [sizeLine_eq] at hz
  refine WS_cons (bis_gen (sw := true) (p := fun i => !decide (ks i < x)) (by walk_at "k") (by walk_at "k") (by walk_at "k") (by walk_at "k") rfl rfl h1 h2 h5 h3 h4 hlo hm (fun m₁ n₁ mid R' c1 c2 c3 c4 c5 c6 c7 q => ?_) fun r n' m' hn hp hm' => ?_)
  · have hmid : mid < vs.length := Nat.lt_of_lt_of_le c6 hhi
    repeat walk_at "s"
    refine WSub_list (v := .int (ks mid)) ha (Int.natCast_nonneg _) (by rw [Int.toNat_natCast]; exact hks _ hmid) (by rw [sizeLine_eq]; exact hz) ?_ rfl
    repeat walk_at "s"
    have e : ((!decide (ks mid < x)) != true) = decide (ks mid < x) := by simp
    exact e ▸ q _ (Nat.le_refl _)
  · refine WS_nil ?_
    dsimp only
    repeat walk_at "s"
    exact h r _ _ hn hp
theorem bisL_key {g : Addr} {d : Nat} {vs : List V} {ks : Nat → Int} {a : Addr} {x : Int} {lo hi : Nat} (h1 : σ.m "a" = some (.ref a)) (h2 : σ.m "x" = some (.int x)) (h3 : σ.m "lo" = some (.int lo)) (h4 : σ.m "hi" = some (.int hi))
    (h5 : σ.m "key" = some (.ref g)) (hg : KeyOk prog w base os d g σ.H σ.n vs ks) (hcal : Callee base σ.H (.ref g)) (hA : A.depth + d < recursionLimit) (hA2 : A.handled = none) (ha : σ.H a = some (.list vs)) (hz : vs.length ≤ sizeLine) (hlo : lo ≤ hi) (hhi : hi ≤ vs.length) 
    (hm : Rises (fun i => !decide (ks i < x)) lo hi) (h : ∀ r n' m', σ.n ≤ n' → Parts (fun i => !decide (ks i < x)) lo hi r → ∀ v, er v = .int r → R (.ret v) ⟨m', σ.H, n'⟩) :
    WS prog w base os A L ((fbody bL).drop 2) (callEnv (fdOf bL dV kV doc pm an cdv ct) L f) R σ := by
  refine WS_cons (WS_If ?_)
  repeat walk_at "s"
  refine ite_false' rfl ?_
  rw [sizeLine_eq] at hz
  refine WS_cons (bis_gen (sw := true) (p := fun i => !decide (ks i < x)) (by walk_at "k") (by walk_at "k") (by walk_at "k") (by walk_at "k") rfl rfl h1 h2 h5 h3 h4 hlo hm (fun m₁ n₁ mid R' c1 c2 c3 c4 c5 c6 c7 q => ?_) fun r n' m' hn hp hm' => ?_)
  · have hmid : mid < vs.length := Nat.lt_of_lt_of_le c6 hhi
    repeat walk_at "s"
    refine W_Call rfl rfl ?_ rfl
    repeat walk_at "s"
    dsimp only [WArgs]
    repeat walk_at "s"
    refine WSub_list (v := vs[mid]) ha (Int.natCast_nonneg _) (by rw [Int.toNat_natCast]; exact List.getElem?_eq_getElem hmid) (by rw [sizeLine_eq]; exact hz) ?_ rfl
    dsimp only [WKws, kwNames]
    refine ⟨hcal, fun f' as ks' e1 e2 e3 => ?_⟩
    rw [er_ref] at e1; subst e1
    obtain ⟨a', rfl, e4⟩ := map_one e2
    cases ks' with
    | cons _ _ => cases e3
    | nil => ?_
    refine W_pure (v := .int (ks mid)) (fun q1 q2 => hg _ _ (List.getElem?_eq_getElem hmid) A _ _ _ hA hA2 (upd_sub q2) c7 e4) fun n₂ hn₂ => ?_
    repeat walk_at "s"
    have e : ((!decide (ks mid < x)) != true) = decide (ks mid < x) := by simp
    exact e ▸ q _ hn₂
  · refine WS_nil ?_
    dsimp only
    repeat walk_at "s"
    exact h r _ _ hn hp
end
end
section
set_option maxRecDepth 100000
set_option linter.unusedVariables false
variable {base : Heap} {os : OsState} {H H' : HP} {n n' : Nat} {s s' : Shared} {prog : Program} {w : World} {A : Around} {L : Addr} {σ : St} {m : Loc} {env : Env} {Q : V → St → Prop} {R : Flow → St → Prop}
variable {dV kV doc pm cdv ct : Value} {an : Option Addr} {f : Addr} {mg mb : Str → Option Value}

theorem KeyOk.up {d g : Nat} {vs : List V} {ks : Nat → Int} {H₂ : HP} {n₂ : Nat} (h : KeyOk prog w base os d g H n vs ks) (hH : ∀ a o, H a = some o → H₂ a = some o) (hn : n ≤ n₂) : KeyOk prog w base os d g H₂ n₂ vs ks :=
  fun i v hv A H' n' a' h1 h2 h3 h4 h5 => h i v hv A H' n' a' h1 h2 (fun a o e => h3 a o (hH a o e)) (Nat.le_trans hn h4) h5
theorem Callee.up {v : V} {H₂ : HP} (h : Callee base H v) (hH : ∀ a o, H a = some o → H₂ a = some o) : Callee base H₂ v := by
  cases v <;> first | exact h | exact h.imp id fun ⟨o, fd, e1, e2⟩ => ⟨o, fd, hH _ _ e1, e2⟩

theorem noCells {sc : Scope} (h : (sc.names.all fun x => x.2 != .cell) = true) : ∀ x ∈ sc.names, x.2 ≠ .cell := fun x hx e => by
  have := List.all_eq_true.mp h x hx
  rw [e] at this; cases this
-- the defaults of bisect's four: lo = 0, hi = None; key = None
structure Dfl (base : Heap) (T D : Addr) : Prop where
  pos : ∃ (t : Tok) (k : Nat), base.get? T = some { cls := .type "tuple", data := .seq #[.int 0 t, .none] k }
  kw : ∃ (hh : Int) (t : Tok) (k : Nat), base.get? D = some { cls := .type "dict", data := .dict #[⟨hh, .str "key" t, .none⟩] k }

section
variable {T D : Addr} {g : Addr} {d : Nat} {vs : List V} {ks : Nat → Int} {a : Addr} {x : Int} {lo hi : Nat} {a' x' lo' hi' K' : Value}
theorem C_bisR_key (G : Gl base mg mb) (hf : FnAt base f (fdOf bR (.ref T) (.ref D) doc pm an cdv ct)) (hT : Dfl base T D) (e1 : er a' = .ref a) (e2 : er x' = .int x) (e3 : er lo' = .int lo)
    (e4 : er hi' = .int hi ∨ (er hi' = .none ∧ hi = vs.length)) (e5 : er K' = .ref g) (hg : KeyOk prog w base os d g H n vs ks) (hcal : Callee base H (.ref g)) (hA : A.depth + d + 1 < recursionLimit) (hA2 : A.handled = none)
    (ha : H a = some (.list vs)) (hz : vs.length ≤ sizeLine) (hlo : lo ≤ hi) (hhi : hi ≤ vs.length) (hm : Rises (fun i => decide (x < ks i)) lo hi) :
    C prog w base os A (.call (.ref f) ⟨[a', x', lo', hi'], [("key", K')]⟩) (fun v H' n' => (∃ r : Nat, v = .int r ∧ Parts (fun i => decide (x < ks i)) lo hi r) ∧ H' = H ∧ n ≤ n') H n := by
  obtain ⟨t, k, ho⟩ := hT.pos
  refine C_def (binds := [("a", a'), ("x", x'), ("lo", lo'), ("hi", hi'), ("key", K')]) (fun s r => hf.keeps r.keep) G.lim (by lia) rfl (fun s r => binds_L (l := [{ cls := .type "tuple", data := .seq #[.int 0 t, .none] k }]) (as := [T])
    (fun S => by kernel_rfl!) ⟨r.keep _ _ ho, trivial⟩) (noCells (by kernel_rfl!)) (locs (by kernel_rfl!)) (fun L hL => ?_) rfl rfl rfl
  refine bis_head_bR G (vs := vs) (a := a) (lo := lo) (hi := hi) (by rw [← e1]; rfl) (by rw [← e3]; rfl) (e4.imp (fun e => by rw [← e]; rfl) fun e => ⟨by rw [← e.1]; rfl, e.2⟩) ha hz fun m' hm' hh => ?_
  refine bisR_key (g := g) (d := d) (vs := vs) (ks := ks) (a := a) (x := x) (lo := lo) (hi := hi) ((hm' _ (by decide +kernel)).trans (by rw [← e1]; rfl)) ((hm' _ (by decide +kernel)).trans (by rw [← e2]; rfl))
    ((hm' _ (by decide +kernel)).trans (by rw [← e3]; rfl)) hh ((hm' _ (by decide +kernel)).trans (by rw [← e5]; rfl)) (hg.up (fun _ _ e => e) (Nat.le_succ_of_le hL)) hcal (by show A.depth + 1 + d < _; lia) hA2 ha hz hlo hhi hm fun r n' m'' hn hp v ev => ?_
  exact ⟨H, fun _ _ e => e, ⟨r, ev, hp⟩, rfl, Nat.le_trans (Nat.le_succ_of_le hL) hn⟩
theorem C_bisL_key (G : Gl base mg mb) (hf : FnAt base f (fdOf bL (.ref T) (.ref D) doc pm an cdv ct)) (hT : Dfl base T D) (e1 : er a' = .ref a) (e2 : er x' = .int x) (e3 : er lo' = .int lo)
    (e4 : er hi' = .int hi ∨ (er hi' = .none ∧ hi = vs.length)) (e5 : er K' = .ref g) (hg : KeyOk prog w base os d g H n vs ks) (hcal : Callee base H (.ref g)) (hA : A.depth + d + 1 < recursionLimit) (hA2 : A.handled = none)
    (ha : H a = some (.list vs)) (hz : vs.length ≤ sizeLine) (hlo : lo ≤ hi) (hhi : hi ≤ vs.length) (hm : Rises (fun i => !decide (ks i < x)) lo hi) :
    C prog w base os A (.call (.ref f) ⟨[a', x', lo', hi'], [("key", K')]⟩) (fun v H' n' => (∃ r : Nat, v = .int r ∧ Parts (fun i => !decide (ks i < x)) lo hi r) ∧ H' = H ∧ n ≤ n') H n := by
  obtain ⟨t, k, ho⟩ := hT.pos
  refine C_def (binds := [("a", a'), ("x", x'), ("lo", lo'), ("hi", hi'), ("key", K')]) (fun s r => hf.keeps r.keep) G.lim (by lia) rfl (fun s r => binds_L (l := [{ cls := .type "tuple", data := .seq #[.int 0 t, .none] k }]) (as := [T])
    (fun S => by kernel_rfl!) ⟨r.keep _ _ ho, trivial⟩) (noCells (by kernel_rfl!)) (locs (by kernel_rfl!)) (fun L hL => ?_) rfl rfl rfl
  refine bis_head_bL G (vs := vs) (a := a) (lo := lo) (hi := hi) (by rw [← e1]; rfl) (by rw [← e3]; rfl) (e4.imp (fun e => by rw [← e]; rfl) fun e => ⟨by rw [← e.1]; rfl, e.2⟩) ha hz fun m' hm' hh => ?_
  refine bisL_key (g := g) (d := d) (vs := vs) (ks := ks) (a := a) (x := x) (lo := lo) (hi := hi) ((hm' _ (by decide +kernel)).trans (by rw [← e1]; rfl)) ((hm' _ (by decide +kernel)).trans (by rw [← e2]; rfl))
    ((hm' _ (by decide +kernel)).trans (by rw [← e3]; rfl)) hh ((hm' _ (by decide +kernel)).trans (by rw [← e5]; rfl)) (hg.up (fun _ _ e => e) (Nat.le_succ_of_le hL)) hcal (by show A.depth + 1 + d < _; lia) hA2 ha hz hlo hhi hm fun r n' m'' hn hp v ev => ?_
  exact ⟨H, fun _ _ e => e, ⟨r, ev, hp⟩, rfl, Nat.le_trans (Nat.le_succ_of_le hL) hn⟩
theorem C_bisR_ints (G : Gl base mg mb) (hf : FnAt base f (fdOf bR (.ref T) (.ref D) doc pm an cdv ct)) (hT : Dfl base T D) (e1 : er a' = .ref a) (e2 : er x' = .int x) (e3 : er lo' = .int lo)
    (e4 : er hi' = .int hi ∨ (er hi' = .none ∧ hi = vs.length)) (hks : ∀ i, i < vs.length → vs[i]? = some (.int (ks i))) (hA : A.depth < recursionLimit)
    (ha : H a = some (.list vs)) (hz : vs.length ≤ sizeLine) (hlo : lo ≤ hi) (hhi : hi ≤ vs.length) (hm : Rises (fun i => decide (x < ks i)) lo hi) :
    C prog w base os A (.call (.ref f) ⟨[a', x', lo', hi'], []⟩) (fun v H' n' => (∃ r : Nat, v = .int r ∧ Parts (fun i => decide (x < ks i)) lo hi r) ∧ H' = H ∧ n ≤ n') H n := by
  obtain ⟨t, k, ho⟩ := hT.pos
  obtain ⟨hh, t', k', ho'⟩ := hT.kw
  refine C_def (binds := [("a", a'), ("x", x'), ("lo", lo'), ("hi", hi'), ("key", .none)]) (fun s r => hf.keeps r.keep) G.lim hA rfl (fun s r => binds_L (l := [{ cls := .type "tuple", data := .seq #[.int 0 t, .none] k },
    { cls := .type "dict", data := .dict #[⟨hh, .str "key" t', .none⟩] k' }]) (as := [T, D]) (fun S => by kernel_rfl!) ⟨r.keep _ _ ho, r.keep _ _ ho', trivial⟩) (noCells (by kernel_rfl!)) (locs (by kernel_rfl!)) (fun L hL => ?_) rfl rfl rfl
  refine bis_head_bR G (vs := vs) (a := a) (lo := lo) (hi := hi) (by rw [← e1]; rfl) (by rw [← e3]; rfl) (e4.imp (fun e => by rw [← e]; rfl) fun e => ⟨by rw [← e.1]; rfl, e.2⟩) ha hz fun m' hm' hh => ?_
  refine bisR_ints (vs := vs) (ks := ks) (a := a) (x := x) (lo := lo) (hi := hi) ((hm' _ (by decide +kernel)).trans (by rw [← e1]; rfl)) ((hm' _ (by decide +kernel)).trans (by rw [← e2]; rfl))
    ((hm' _ (by decide +kernel)).trans (by rw [← e3]; rfl)) hh ((hm' _ (by decide +kernel)).trans rfl) ha hz hlo hhi hks hm fun r n' m'' hn hp v ev => ?_
  exact ⟨H, fun _ _ e => e, ⟨r, ev, hp⟩, rfl, Nat.le_trans (Nat.le_succ_of_le hL) hn⟩
theorem C_bisL_ints (G : Gl base mg mb) (hf : FnAt base f (fdOf bL (.ref T) (.ref D) doc pm an cdv ct)) (hT : Dfl base T D) (e1 : er a' = .ref a) (e2 : er x' = .int x) (e3 : er lo' = .int lo)
    (e4 : er hi' = .int hi ∨ (er hi' = .none ∧ hi = vs.length)) (hks : ∀ i, i < vs.length → vs[i]? = some (.int (ks i))) (hA : A.depth < recursionLimit)
    (ha : H a = some (.list vs)) (hz : vs.length ≤ sizeLine) (hlo : lo ≤ hi) (hhi : hi ≤ vs.length) (hm : Rises (fun i => !decide (ks i < x)) lo hi) :
    C prog w base os A (.call (.ref f) ⟨[a', x', lo', hi'], []⟩) (fun v H' n' => (∃ r : Nat, v = .int r ∧ Parts (fun i => !decide (ks i < x)) lo hi r) ∧ H' = H ∧ n ≤ n') H n := by
  obtain ⟨t, k, ho⟩ := hT.pos
  obtain ⟨hh, t', k', ho'⟩ := hT.kw
  refine C_def (binds := [("a", a'), ("x", x'), ("lo", lo'), ("hi", hi'), ("key", .none)]) (fun s r => hf.keeps r.keep) G.lim hA rfl (fun s r => binds_L (l := [{ cls := .type "tuple", data := .seq #[.int 0 t, .none] k },
    { cls := .type "dict", data := .dict #[⟨hh, .str "key" t', .none⟩] k' }]) (as := [T, D]) (fun S => by kernel_rfl!) ⟨r.keep _ _ ho, r.keep _ _ ho', trivial⟩) (noCells (by kernel_rfl!)) (locs (by kernel_rfl!)) (fun L hL => ?_) rfl rfl rfl
  refine bis_head_bL G (vs := vs) (a := a) (lo := lo) (hi := hi) (by rw [← e1]; rfl) (by rw [← e3]; rfl) (e4.imp (fun e => by rw [← e]; rfl) fun e => ⟨by rw [← e.1]; rfl, e.2⟩) ha hz fun m' hm' hh => ?_
  refine bisL_ints (vs := vs) (ks := ks) (a := a) (x := x) (lo := lo) (hi := hi) ((hm' _ (by decide +kernel)).trans (by rw [← e1]; rfl)) ((hm' _ (by decide +kernel)).trans (by rw [← e2]; rfl))
    ((hm' _ (by decide +kernel)).trans (by rw [← e3]; rfl)) hh ((hm' _ (by decide +kernel)).trans rfl) ha hz hlo hhi hks hm fun r n' m'' hn hp v ev => ?_
  exact ⟨H, fun _ _ e => e, ⟨r, ev, hp⟩, rfl, Nat.le_trans (Nat.le_succ_of_le hL) hn⟩
end
end
section
set_option maxRecDepth 100000
set_option linter.unusedVariables false
variable {base : Heap} {os : OsState} {H H' : HP} {n n' : Nat} {s s' : Shared} {prog : Program} {w : World} {A : Around} {L : Addr} {σ : St} {m : Loc} {env : Env} {Q : V → St → Prop} {R : Flow → St → Prop}
variable {dV kV doc pm cdv ct : Value} {an : Option Addr} {f : Addr} {mg mb : Str → Option Value}




theorem WCall_ref {g : Addr} {vs : List V} {names : List Str} {kvs : List V} {Q : V → St → Prop} (h : ∀ as ks, as.map er = vs → ks.map er = kvs → WV prog w base os A L (call (.ref g) as (names.zip ks)) Q σ) :
    WCall prog w base os A L (.ref g) vs names kvs Q σ := fun f as ks ef ea ek => by rw [er_ref] at ef; subst ef; exact h as ks ea ek
theorem WCall_ref0 {g : Addr} {vs : List V} {Q : V → St → Prop} (h : ∀ as, as.map er = vs → WV prog w base os A L (call (.ref g) as []) Q σ) :
    WCall prog w base os A L (.ref g) vs [] [] Q σ := WCall_ref fun as ks ea ek => by
  cases ks with
  | nil => exact h as ea
  | cons _ _ => cases ek
section
variable {T D : Addr} {g : Addr} {d : Nat} {vs : List V} {ks : Nat → Int} {a : Addr} {x : V} {kx : Int} {a' x' K' : Value} {fb : Addr}
noncomputable abbrev iR := pst PySem.Challenge.pw_rw0112_01 2
noncomputable abbrev iL := pst PySem.Challenge.pw_rw0112_01 4
theorem C_insR_key {doc₂ pm₂ cdv₂ ct₂ : Value} {an₂ : Option Addr} {T₂ D₂ : Addr} (G : Gl base mg mb) (hf : FnAt base f (fdOf iR (.ref T) (.ref D) doc pm an cdv ct)) (hT : Dfl base T D)
    (hb : FnAt base fb (fdOf bR (.ref T₂) (.ref D₂) doc₂ pm₂ an₂ cdv₂ ct₂)) (hT₂ : Dfl base T₂ D₂) (hmg : mg "bisect_right" = some (.ref fb))
    (e1 : er a' = .ref a) (e2 : er x' = x) (e5 : er K' = .ref g) (hg : KeyOk prog w base os d g H n vs ks) (hgx : KeyOk prog w base os d g H n [x] (fun _ => kx)) (hcal : Callee base H (.ref g)) (hA : A.depth + d + 2 < recursionLimit)
    (hA2 : A.handled = none) (ha : H a = some (.list vs)) (hba : base.objs.size ≤ a) (hz : vs.length ≤ sizeLine) (hm : Rises (fun i => decide (kx < ks i)) 0 vs.length) :
    C prog w base os A (.call (.ref f) ⟨[a', x'], [("key", K')]⟩) (fun v H' n' => v = .none ∧ (∃ o, (∃ r : Nat, o = .list (vs.take r ++ x :: vs.drop r) ∧ r ≤ vs.length ∧ Parts (fun i => decide (kx < ks i)) 0 vs.length r) ∧ H' = upd H a o) ∧ n ≤ n') H n := by
  obtain ⟨t, k, ho⟩ := hT.pos
  refine C_def (binds := [("a", a'), ("x", x'), ("lo", .int 0 t), ("hi", .none), ("key", K')]) (fun s r => hf.keeps r.keep) G.lim (by lia) rfl (fun s r => binds_L (l := [{ cls := .type "tuple", data := .seq #[.int 0 t, .none] k }]) (as := [T])
    (fun S => by kernel_rfl!) ⟨r.keep _ _ ho, trivial⟩) (noCells (by kernel_rfl!)) (locs (by kernel_rfl!)) (fun L hL => ?_) rfl rfl rfl
  have q1 : (fun y => ((([("a", a'), ("x", x'), ("lo", .int 0 t), ("hi", .none), ("key", K')] : List (Str × Value)).reverse.lookup y).map er : Option V)) "a" = some (.ref a) := by rw [← e1]; rfl
  have q2 : (fun y => ((([("a", a'), ("x", x'), ("lo", .int 0 t), ("hi", .none), ("key", K')] : List (Str × Value)).reverse.lookup y).map er : Option V)) "x" = some x := by rw [← e2]; rfl
  have q3 : (fun y => ((([("a", a'), ("x", x'), ("lo", .int 0 t), ("hi", .none), ("key", K')] : List (Str × Value)).reverse.lookup y).map er : Option V)) "lo" = some (.int 0) := rfl
  have q4 : (fun y => ((([("a", a'), ("x", x'), ("lo", .int 0 t), ("hi", .none), ("key", K')] : List (Str × Value)).reverse.lookup y).map er : Option V)) "hi" = some .none := rfl
  have q5 : (fun y => ((([("a", a'), ("x", x'), ("lo", .int 0 t), ("hi", .none), ("key", K')] : List (Str × Value)).reverse.lookup y).map er : Option V)) "key" = some (.ref g) := by rw [← e5]; rfl
  revert q1 q2 q3 q4 q5
  generalize (fun y => ((([("a", a'), ("x", x'), ("lo", .int 0 t), ("hi", .none), ("key", K')] : List (Str × Value)).reverse.lookup y).map er : Option V)) = m₀
  intro q1 q2 q3 q4 q5
  refine WS_cons (WS_If ?_)
  repeat walk_at "s"
  refine ite_false' rfl ?_
  walk_at "t"
  refine W_Call rfl rfl ?_ rfl
  refine W_global G.g hmg ?_ (by walk_at "k") (by walk_at "k") (by walk_at "k") (by decide +kernel)
  dsimp only [WArgs]
  repeat walk_at "s"
  refine W_Call rfl rfl ?_ rfl
  repeat walk_at "s"
  dsimp only [WArgs]
  repeat walk_at "s"
  dsimp only [WKws, kwNames]
  refine ⟨hcal, WCall_ref0 fun as ea => ?_⟩
  obtain ⟨y, rfl, ey⟩ := map_one ea
  refine W_pure (v := .int kx) (fun l1 l2 => hgx 0 x rfl (A.deeper _) _ _ _ (by show A.depth + 1 + d < _; lia) hA2 (upd_sub l2) (Nat.le_succ_of_le hL) ey) fun n₂ hn₂ => ?_
  repeat walk_at "s"
  dsimp only [WKws, kwNames]
  repeat walk_at "s"
  refine ⟨.inl (let ⟨o, e1, e2⟩ := hb.at_; ⟨o, _, e1, e2⟩), WCall_ref fun as ks' ea ek => ?_⟩
  obtain ⟨b1, b2, b3, b4, rfl, z1, z2, z3, z4⟩ := map_four ea
  obtain ⟨b5, rfl, z5⟩ := map_one ek
  refine W_pureP (fun l1 l2 => C_bisR_key (x := kx) (lo := 0) (hi := vs.length) (d := d) (ks := ks) G hb hT₂ z1 z2 z3 (.inr ⟨z4, rfl⟩) z5 (hg.up (upd_sub l2) (Nat.le_trans hL (Nat.le_of_succ_le hn₂))) (hcal.up (upd_sub l2))
    (by show A.depth + 1 + d + 1 < _; lia) hA2 (upd_sub l2 _ _ ha) hz (Nat.zero_le _) (Nat.le_refl _) hm) fun v n₃ hv hn₃ => ?_
  obtain ⟨r, rfl, hp⟩ := hv
  walk_at "t"
  refine WS_nil ?_
  refine WS_cons (WS_Expr ?_ rfl rfl)
  refine W_Method rfl rfl ?_ rfl
  repeat walk_at "s"
  refine WM_list ha PySem.F.slot_list_insert PySem.F.type_list_insert ?_
  dsimp only [WArgs]
  repeat walk_at "s"
  dsimp only [WKws, kwNames]
  refine WCall_insert ha hba hz (by lia) (by have := hp.2.1; lia) ?_
  refine ⟨trivial, WS_nil ⟨upd H a (.list (vs.take r ++ x :: vs.drop r)), fun _ _ e => e, rfl, ⟨_, ⟨r, rfl, hp.2.1, hp⟩, rfl⟩, ?_⟩⟩
  exact Nat.le_trans (Nat.le_succ_of_le hL) (Nat.le_trans hn₂ hn₃)
theorem C_insL_key {doc₂ pm₂ cdv₂ ct₂ : Value} {an₂ : Option Addr} {T₂ D₂ : Addr} (G : Gl base mg mb) (hf : FnAt base f (fdOf iL (.ref T) (.ref D) doc pm an cdv ct)) (hT : Dfl base T D)
    (hb : FnAt base fb (fdOf bL (.ref T₂) (.ref D₂) doc₂ pm₂ an₂ cdv₂ ct₂)) (hT₂ : Dfl base T₂ D₂) (hmg : mg "bisect_left" = some (.ref fb))
    (e1 : er a' = .ref a) (e2 : er x' = x) (e5 : er K' = .ref g) (hg : KeyOk prog w base os d g H n vs ks) (hgx : KeyOk prog w base os d g H n [x] (fun _ => kx)) (hcal : Callee base H (.ref g)) (hA : A.depth + d + 2 < recursionLimit)
    (hA2 : A.handled = none) (ha : H a = some (.list vs)) (hba : base.objs.size ≤ a) (hz : vs.length ≤ sizeLine) (hm : Rises (fun i => !decide (ks i < kx)) 0 vs.length) :
    C prog w base os A (.call (.ref f) ⟨[a', x'], [("key", K')]⟩) (fun v H' n' => v = .none ∧ (∃ o, (∃ r : Nat, o = .list (vs.take r ++ x :: vs.drop r) ∧ r ≤ vs.length ∧ Parts (fun i => !decide (ks i < kx)) 0 vs.length r) ∧ H' = upd H a o) ∧ n ≤ n') H n := by
  obtain ⟨t, k, ho⟩ := hT.pos
  refine C_def (binds := [("a", a'), ("x", x'), ("lo", .int 0 t), ("hi", .none), ("key", K')]) (fun s r => hf.keeps r.keep) G.lim (by lia) rfl (fun s r => binds_L (l := [{ cls := .type "tuple", data := .seq #[.int 0 t, .none] k }]) (as := [T])
    (fun S => by kernel_rfl!) ⟨r.keep _ _ ho, trivial⟩) (noCells (by kernel_rfl!)) (locs (by kernel_rfl!)) (fun L hL => ?_) rfl rfl rfl
  have q1 : (fun y => ((([("a", a'), ("x", x'), ("lo", .int 0 t), ("hi", .none), ("key", K')] : List (Str × Value)).reverse.lookup y).map er : Option V)) "a" = some (.ref a) := by rw [← e1]; rfl
  have q2 : (fun y => ((([("a", a'), ("x", x'), ("lo", .int 0 t), ("hi", .none), ("key", K')] : List (Str × Value)).reverse.lookup y).map er : Option V)) "x" = some x := by rw [← e2]; rfl
  have q3 : (fun y => ((([("a", a'), ("x", x'), ("lo", .int 0 t), ("hi", .none), ("key", K')] : List (Str × Value)).reverse.lookup y).map er : Option V)) "lo" = some (.int 0) := rfl
  have q4 : (fun y => ((([("a", a'), ("x", x'), ("lo", .int 0 t), ("hi", .none), ("key", K')] : List (Str × Value)).reverse.lookup y).map er : Option V)) "hi" = some .none := rfl
  have q5 : (fun y => ((([("a", a'), ("x", x'), ("lo", .int 0 t), ("hi", .none), ("key", K')] : List (Str × Value)).reverse.lookup y).map er : Option V)) "key" = some (.ref g) := by rw [← e5]; rfl
  revert q1 q2 q3 q4 q5
  generalize (fun y => ((([("a", a'), ("x", x'), ("lo", .int 0 t), ("hi", .none), ("key", K')] : List (Str × Value)).reverse.lookup y).map er : Option V)) = m₀
  intro q1 q2 q3 q4 q5
  refine WS_cons (WS_If ?_)
  repeat walk_at "s"
  refine ite_false' rfl ?_
  walk_at "t"
  refine W_Call rfl rfl ?_ rfl
  refine W_global G.g hmg ?_ (by walk_at "k") (by walk_at "k") (by walk_at "k") (by decide +kernel)
  dsimp only [WArgs]
  repeat walk_at "s"
  refine W_Call rfl rfl ?_ rfl
  repeat walk_at "s"
  dsimp only [WArgs]
  repeat walk_at "s"
  dsimp only [WKws, kwNames]
  refine ⟨hcal, WCall_ref0 fun as ea => ?_⟩
  obtain ⟨y, rfl, ey⟩ := map_one ea
  refine W_pure (v := .int kx) (fun l1 l2 => hgx 0 x rfl (A.deeper _) _ _ _ (by show A.depth + 1 + d < _; lia) hA2 (upd_sub l2) (Nat.le_succ_of_le hL) ey) fun n₂ hn₂ => ?_
  repeat walk_at "s"
  dsimp only [WKws, kwNames]
  repeat walk_at "s"
  refine ⟨.inl (let ⟨o, e1, e2⟩ := hb.at_; ⟨o, _, e1, e2⟩), WCall_ref fun as ks' ea ek => ?_⟩
  obtain ⟨b1, b2, b3, b4, rfl, z1, z2, z3, z4⟩ := map_four ea
  obtain ⟨b5, rfl, z5⟩ := map_one ek
  refine W_pureP (fun l1 l2 => C_bisL_key (x := kx) (lo := 0) (hi := vs.length) (d := d) (ks := ks) G hb hT₂ z1 z2 z3 (.inr ⟨z4, rfl⟩) z5 (hg.up (upd_sub l2) (Nat.le_trans hL (Nat.le_of_succ_le hn₂))) (hcal.up (upd_sub l2))
    (by show A.depth + 1 + d + 1 < _; lia) hA2 (upd_sub l2 _ _ ha) hz (Nat.zero_le _) (Nat.le_refl _) hm) fun v n₃ hv hn₃ => ?_
  obtain ⟨r, rfl, hp⟩ := hv
  walk_at "t"
  refine WS_nil ?_
  refine WS_cons (WS_Expr ?_ rfl rfl)
  refine W_Method rfl rfl ?_ rfl
  repeat walk_at "s"
  refine WM_list ha PySem.F.slot_list_insert PySem.F.type_list_insert ?_
  dsimp only [WArgs]
  repeat walk_at "s"
  dsimp only [WKws, kwNames]
  refine WCall_insert ha hba hz (by lia) (by have := hp.2.1; lia) ?_
  refine ⟨trivial, WS_nil ⟨upd H a (.list (vs.take r ++ x :: vs.drop r)), fun _ _ e => e, rfl, ⟨_, ⟨r, rfl, hp.2.1, hp⟩, rfl⟩, ?_⟩⟩
  exact Nat.le_trans (Nat.le_succ_of_le hL) (Nat.le_trans hn₂ hn₃)
end
end
section
set_option maxRecDepth 10000
set_option linter.unusedVariables false

variable {base : Heap} {os : OsState} {H H' : HP} {n n' : Nat} {s s' : Shared} {prog : Program} {w : World} {A : Around} {L : Addr} {σ : St} {m : Loc} {env : Env} {Q : V → St → Prop} {R : Flow → St → Prop}

theorem WCall_ord {c : Nat} (h : Q (.int c) σ) : WCall prog w base os A L (.bi "ord") [.str ⟨#[c]⟩] [] [] Q σ := WCall_bi fun as e => by
  obtain ⟨x, rfl, ex⟩ := map_one e
  obtain ⟨t, rfl⟩ := er_str.mp ex
  intro s r
  exact P.ord_of_char ⟨σ, r.toks _, h⟩
theorem WCall_chr {i : Int} (h0 : 0 ≤ i) (h1 : i ≤ 1114111) (h : Q (.str ⟨#[i.toNat]⟩) σ) : WCall prog w base os A L (.bi "chr") [.int i] [] [] Q σ := WCall_bi fun as e => by
  obtain ⟨x, rfl, ex⟩ := map_one e
  obtain ⟨t, rfl⟩ := er_int.mp ex
  intro s r
  exact chr_of_range h0 h1 ⟨σ, r.toks _, h⟩
-- a set of ints of the base
noncomputable def BaseSet (prog : Program) (w : World) (base : Heap) (a : Addr) (S : Int → Bool) : Prop := ∃ k, base.SetOf (intKind prog w) a S k
theorem WC_inSet {a : Addr} {S : Int → Bool} {i : Int} (hS : BaseSet prog w base a S) (h : Q (.bool (S i)) σ) : WC prog w base os A L .In (.int i) (.ref a) Q σ := fun x y ex ey => by
  obtain ⟨t, rfl⟩ := er_int.mp ex
  rw [er_ref] at ey; subst ey
  intro s r
  obtain ⟨k, o, es, ep, t', ho, q⟩ := hS
  exact wpAny_inSet_of (knd := intKind prog w) (k := i) (intKind_is prog w i t) rfl ⟨o, es, ep, t', r.1.keep _ _ ho, q⟩ ⟨σ, r.toks _, h⟩
-- a dict of the base, by ints
noncomputable def BaseMap (prog : Program) (w : World) (base : Heap) (a : Addr) (f : Int → Option Value) : Prop := base.MapOf (intKind prog w) a f
theorem WM_dict {a : Addr} {f : Int → Option Value} {name : Str} {id : String} {Q : String → St → Prop} (hM : BaseMap prog w base a f) (slot : Slot "dict" name id) (hty : typeOf (.builtin id) = pure (.type "method_descriptor")) (h : Q id σ) :
    WM prog w base os A L (.ref a) name Q σ := by
  obtain ⟨o, es, ep, ho, q⟩ := hM
  have key : ∀ s, RepF base os L σ s → s.heap.MapOf (intKind prog w) a f := fun s r => ⟨o, es, ep, r.1.keep _ _ ho, q⟩
  exact WM_of PySem.F.plainAttrs_dict slot hty (fun b s e r => by rw [er_ref] at e; subst e; exact (key s r).typeIs) (fun b s y e r q' => by rw [er_ref] at e; subst e; exact (key s r).noDict y q') h
theorem WCall_get {a : Addr} {f : Int → Option Value} {i : Int} (hM : BaseMap prog w base a f) (hs : (a == sysModules) = false) (h : Q (er ((f i).getD .none)) σ) :
    WCall prog w base os A L (.bi "dict.get") [.ref a, .int i] [] [] Q σ := WCall_bi fun as e => by
  obtain ⟨x, y, rfl, ex, ey⟩ := map_two e
  rw [er_ref] at ex; subst ex
  obtain ⟨t, rfl⟩ := er_int.mp ey
  intro s r
  obtain ⟨o, es, ep, ho, q⟩ := hM
  have key : s.heap.MapOf (intKind prog w) a f := ⟨o, es, ep, r.1.keep _ _ ho, q⟩
  exact call_meetsIn PySem.F.slot_dict_get key.typeIs PySem.F.entry_dict_get (PySem.F.args_dict_get_2 _ _) (meets_dict_get (intKind prog w) (k := i) a (intKind_is prog w i t) hs) ⟨f, key, ⟨σ, r.toks _, h⟩⟩
theorem WCall_lower {x : Str} (hz : x.length ≤ 5592405) (h : Q (.str (Txt.lower x)) σ) : WCall prog w base os A L (.bi "str.lower") [.str x] [] [] Q σ := WCall_bi fun as e => by
  obtain ⟨y, rfl, ex⟩ := map_one e
  obtain ⟨t, rfl⟩ := er_str.mp ex
  intro s r
  exact SCL.lower hz (fun _ => ⟨σ, r.toks _, h⟩)
end
section
set_option maxRecDepth 100000
set_option linter.unusedVariables false
variable {base : Heap} {os : OsState} {H H' : HP} {n n' : Nat} {s s' : Shared} {prog : Program} {w : World} {A : Around} {L : Addr} {σ : St} {m : Loc} {env : Env} {Q : V → St → Prop} {R : Flow → St → Prop}
variable {dV kV doc pm cdv ct : Value} {an : Option Addr} {f : Addr} {mg mb : Str → Option Value}




noncomputable abbrev inB1 := pst PySem.Challenge.pw_rw0112_01 13
noncomputable abbrev mapB3 := pst PySem.Challenge.pw_rw0112_01 15

theorem C_inB1 {b : Addr} {S : Int → Bool} {c : Nat} {c' : Value} (G : Gl base mg mb) (hf : FnAt base f (fdOf inB1 .none .none doc pm an cdv ct)) (hmg : mg "b1_set" = some (.ref b)) (hS : BaseSet prog w base b S)
    (e1 : er c' = .str ⟨#[c]⟩) (hA : A.depth < recursionLimit) : C prog w base os A (.call (.ref f) ⟨[c'], []⟩) (fun v H' n' => v = .bool (S c) ∧ H' = H ∧ n ≤ n') H n := by
  refine C_def (binds := [("code", c')]) (fun s r => hf.keeps r.keep) G.lim hA rfl (fun s r => BindsTo.of_eq (by kernel_rfl!)) (noCells (by kernel_rfl!)) (locs (by kernel_rfl!)) (fun L hL => ?_) rfl rfl rfl
  have q1 : (fun y => ((([("code", c')] : List (Str × Value)).reverse.lookup y).map er : Option V)) "code" = some (.str ⟨#[c]⟩) := by rw [← e1]; rfl
  revert q1
  generalize (fun y => ((([("code", c')] : List (Str × Value)).reverse.lookup y).map er : Option V)) = m₀
  intro q1
  refine WS_cons (WS_Return ?_)
  walk_at "s"
  refine W_Call rfl rfl ?_ rfl
  refine W_builtin G.g G.b (v := .builtin "ord") (G.bi _ (.builtin "ord") (by kernel_rfl!)).1 (G.bi _ (.builtin "ord") (by kernel_rfl!)).2 ?_ (by walk_at "k") (by walk_at "k") (by walk_at "k") (by walk_at "k") (by decide +kernel)
  dsimp only [WArgs]
  repeat walk_at "s"
  dsimp only [WKws, kwNames]
  refine ⟨trivial, WCall_ord ?_⟩
  refine W_global G.g hmg ?_ (by walk_at "k") (by walk_at "k") (by walk_at "k") (by decide +kernel)
  refine WC_inSet hS ?_
  intro a ea
  exact ⟨H, fun _ _ e => e, ea, rfl, Nat.le_succ_of_le hL⟩

-- what stringprep's table B.3 makes of one sign
noncomputable def mapped (f : Int → Option Value) (c : Nat) : V := match f c with
  | some v => er v
  | none => .str (Txt.lower ⟨#[c]⟩)
theorem C_mapB3 {d : Addr} {t3 : Int → Option Value} {c : Nat} {c' : Value} (G : Gl base mg mb) (hf : FnAt base f (fdOf mapB3 .none .none doc pm an cdv ct)) (hmg : mg "b3_exceptions" = some (.ref d)) (hM : BaseMap prog w base d t3)
    (hds : (d == sysModules) = false) (hstr : ∀ v, t3 c = some v → (er v).isNone = false) (e1 : er c' = .str ⟨#[c]⟩) (hA : A.depth < recursionLimit) :
    C prog w base os A (.call (.ref f) ⟨[c'], []⟩) (fun v H' n' => v = mapped t3 c ∧ H' = H ∧ n ≤ n') H n := by
  refine C_def (binds := [("code", c')]) (fun s r => hf.keeps r.keep) G.lim hA rfl (fun s r => BindsTo.of_eq (by kernel_rfl!)) (noCells (by kernel_rfl!)) (locs (by kernel_rfl!)) (fun L hL => ?_) rfl rfl rfl
  have q1 : (fun y => ((([("code", c')] : List (Str × Value)).reverse.lookup y).map er : Option V)) "code" = some (.str ⟨#[c]⟩) := by rw [← e1]; rfl
  revert q1
  generalize (fun y => ((([("code", c')] : List (Str × Value)).reverse.lookup y).map er : Option V)) = m₀
  intro q1
  refine WS_cons (WS_Assign ?_ (by walk_at "k"))
  refine W_Method rfl rfl ?_ rfl
  refine W_global G.g hmg ?_ (by walk_at "k") (by walk_at "k") (by walk_at "k") (by decide +kernel)
  refine WM_dict hM PySem.F.slot_dict_get PySem.F.type_dict_get ?_
  dsimp only [WArgs]
  refine W_Call rfl rfl ?_ rfl
  refine W_builtin G.g G.b (v := .builtin "ord") (G.bi _ (.builtin "ord") (by kernel_rfl!)).1 (G.bi _ (.builtin "ord") (by kernel_rfl!)).2 ?_ (by walk_at "k") (by walk_at "k") (by walk_at "k") (by walk_at "k") (by decide +kernel)
  dsimp only [WArgs]
  repeat walk_at "s"
  dsimp only [WKws, kwNames]
  refine ⟨trivial, WCall_ord ?_⟩
  refine WCall_get hM hds ?_
  repeat walk_at "s"
  cases ht : t3 c with
  | some v =>
    refine ite_true' (by show (!(er v).isNone) = true; rw [hstr v ht]; rfl) ?_
    repeat walk_at "s"
    intro a ea
    exact ⟨H, fun _ _ e => e, by unfold mapped; rw [ht]; exact ea, rfl, Nat.le_succ_of_le hL⟩
  | none =>
    refine ite_false' rfl ?_
    refine WS_nil ?_
    dsimp only
    refine WS_cons (WS_Return ?_)
    refine W_Method rfl rfl ?_ rfl
    repeat walk_at "s"
    refine WM_str PySem.F.slot_str_lower PySem.F.type_str_lower ?_
    dsimp only [WArgs, WKws, kwNames]
    refine WCall_lower (by show 1 ≤ 5592405; decide) ?_
    intro a ea
    exact ⟨H, fun _ _ e => e, by unfold mapped; rw [ht]; exact ea, rfl, Nat.le_succ_of_le hL⟩
end
section
open PySem.Builtin.Re
set_option maxRecDepth 100000
set_option linter.unusedVariables false

theorem plainAttrs_pat : PlainAttrs "re.Pattern" :=
  ⟨⟨"object.__getattribute__", by rw [typeLookup_type, builtinLookup_eq_fast]; kernel_rfl, by decide +kernel⟩, by rw [typeLookup_type, builtinLookup_eq_fast]; kernel_rfl⟩
theorem slot_pat_sub : Slot "re.Pattern" "sub" "re.Pattern.sub" :=
  .of (owner := "re.Pattern") (n := "sub") (by rw [typeLookup_type, builtinLookup_eq_fast]; kernel_rfl) (by decide +kernel) (by decide +kernel) (by decide +kernel)
    (by first | exact .inl (by decide +kernel) | exact .inr (by decide +kernel)) (by rw [isSubtype_type]; kernel_rfl)
theorem type_pat_sub : typeOf (.builtin "re.Pattern.sub") = pure (.type "method_descriptor") := by show builtinType _ = _; rw [builtinType_eq_fast]; kernel_rfl
theorem entry_pat_sub : entryFor table "re.Pattern.sub" = some Builtin.«re.Pattern.sub» := entryFor_of_tree (by kernel_rfl)
theorem entry_pat_loop : entryFor table "re.Pattern.sub.loop" = some Builtin.«re.Pattern.sub.loop» := entryFor_of_tree (by kernel_rfl)
theorem args_pat_sub (a b c : Value) : argsOk "re.Pattern.sub" ⟨[a, b, c], []⟩ := by
  unfold argsOk
  kernel_rfl

variable {base : Heap} {os : OsState} {H H' : HP} {n n' : Nat} {s s' : Shared} {prog : Program} {w : World} {A : Around} {L : Addr} {σ : St} {m : Loc} {env : Env} {Q : V → St → Prop} {T : Array Nat} {M : Model} {E : Value → Shared → Prop}

structure IsPat (h : Heap) (pa : Addr) (code : Array Nat) : Prop where
  at_ : ∃ o fs ca oc xs k, h.get? pa = some o ∧ o.cls = .type "re.Pattern" ∧ o.dict = none ∧ o.data = .fields fs ∧ fs.getD 2 .none = rawInt 0 ∧ fs.getD 6 .none = rawInt 0 ∧ fs.getD 5 .none = .ref ca ∧
    h.get? ca = some oc ∧ oc.data = .seq xs k ∧ (xs.map reRawOf).map (·.toNat) = code
theorem IsPat.keeps {h h' : Heap} {pa : Addr} {code : Array Nat} (x : IsPat h pa code) (k : ∀ b o, h.get? b = some o → h'.get? b = some o) : IsPat h' pa code := by
  obtain ⟨o, fs, ca, oc, xs, j, a1, a2, a3, a4, a5, a6, a7, a8, a9⟩ := x.at_
  exact ⟨o, fs, ca, oc, xs, j, k _ _ a1, a2, a3, a4, a5, a6, a7, k _ _ a8, a9⟩
theorem IsPat.typeIs {s : Shared} {pa : Addr} {code : Array Nat} (x : IsPat s.heap pa code) : s.TypeIs (.ref pa) "re.Pattern" := by
  obtain ⟨o, _, _, _, _, _, a1, a2, _⟩ := x.at_
  exact ⟨o, a1, a2⟩

theorem wpAny_reWholeTarget {pa : Addr} {code : Array Nat} {t : Tok} {Q : ReTarget → Shared → Prop} (x : IsPat s.heap pa code)
    (h : Q { pattern := .ref pa, string := .str ⟨T⟩ t, code := code, text := T, kind := 0, groups := 0, pos := 0, lim := T.size } s) : wpAny M A (reWholeTarget (.ref pa) (.str ⟨T⟩ t)) Q E s := by
  refine Classical.byContradiction fun hneg1_ => ?_
  obtain ⟨o, fs, ca, oc, xs, k, a1, a2, a3, a4, a5, a6, a7, a8, a9, a10⟩ := x.at_
  refine hneg1_ ?_
  unfold reWholeTarget
  refine wpAny_bind (wpAny_fieldsOf a1 a4 ?_)
  refine wpAny_bind (wpAny_pure ?_)
  show wpAny M A (if (reRawNat (fs.getD 6 .none) == 0 && (0 == 1)) = true then _ else _) Q E s
  rw [a6]
  refine wpAny_bind (wpAny_pure ?_)
  refine wpAny_bind ?_
  unfold reRawItems
  rw [a7]
  refine wpAny_bind (wpAny_seqItems a8 a9 (wpAny_pure ?_))
  refine wpAny_pure ?_
  show Q { pattern := .ref pa, string := .str ⟨T⟩ t, code := (xs.map reRawOf).map (·.toNat), text := T, kind := 0, groups := reRawNat (fs.getD 2 .none), pos := 0, lim := T.size } s
  rw [a10, a5]
  exact h
end
section
open PySem.Builtin.Re
set_option maxRecDepth 100000
set_option linter.unusedVariables false
variable {base : Heap} {os : OsState} {H H' : HP} {n n' : Nat} {s s' : Shared} {prog : Program} {w : World} {A : Around} {L : Addr} {σ : St} {m : Loc} {env : Env} {Q : V → St → Prop} {T : Array Nat} {M : Model} {E : Value → Shared → Prop}

-- what is built from place p on, as a list of chars
inductive Built (T : Array Nat) (rep : List Nat) (fnd : Nat → Option (Nat × Nat)) : Nat → List Nat → Prop
  | done {p} : fnd p = none → p ≤ T.size → Built T rep fnd p (T.extract p T.size).toList
  | more {p b e r} : fnd p = some (b, e) → p ≤ b → b < e → e ≤ T.size → Built T rep fnd e r → Built T rep fnd p ((T.extract p b).toList ++ rep ++ r)
noncomputable def flat (ps : List Str) : List Nat := ps.flatMap (·.cps.toList)
theorem flat_append {ps qs : List Str} : flat (ps ++ qs) = flat ps ++ flat qs := by unfold flat; simp
theorem foldl_flat : ∀ (ps : List Str) (a : Array Nat), ps.foldl (fun acc p => acc ++ (#[] : Array Nat) ++ p.cps) a = a ++ (flat ps).toArray
  | [], a => by unfold flat; simp
  | x :: r, a => by
    rw [List.foldl_cons, foldl_flat r]
    apply Array.ext'
    unfold flat
    simp
theorem join_flat (ps : List Str) : Txt.join ⟨#[]⟩ ps = ⟨(flat ps).toArray⟩ := by
  cases ps with
  | nil => rfl
  | cons x r =>
    show (⟨r.foldl (fun acc p => acc ++ (#[] : Array Nat) ++ p.cps) x.cps⟩ : Str) = _
    rw [foldl_flat]
    congr 1
    apply Array.ext'
    unfold flat
    simp
theorem quiet_pat_loop (args : Args) : (Code.builtin "re.Pattern.sub.loop" args).quiet = true := plainId_quiet (by decide +kernel) args

-- pushing a string on the list of pieces
theorem push_piece {D : Addr} {ps : List Str} {x : Str} {t : Tok} (r : RepF base os L σ s) (hD : σ.H D = some (.list (ps.map V.str))) (hb : base.objs.size ≤ D) (hz : ps.length ≤ 10000) {P : Unit → Shared → Prop}
    (h : ∀ s', RepF base os L ⟨σ.m, upd σ.H D (.list ((ps ++ [x]).map V.str)), σ.n⟩ s' → P () s') : wpAny M A (updateSeq D (·.push (.str x t))) P E s := by
  obtain ⟨xs, k, g, e⟩ := r.at_ hD
  have hl : xs.length = ps.length := by have := congrArg List.length e; simpa using this
  refine wpAny_updateSeq g rfl (h _ ?_) (by rw [List.size_toArray, hl]; show ps.length ≤ 2 ^ 24; lia) (by rw [Array.size_push, List.size_toArray, hl]; show ps.length + 1 ≤ 2 ^ 24 + 1; lia)
  have := turn_list hD hb r g (fun z => z.push (.str x t)) (xs ++ [.str x t]) (by simp) s.toks
  rw [List.map_append, e] at this
  rw [List.map_append]
  exact this
theorem strs_of {xs : List Value} {ps : List Str} (h : xs.map er = ps.map V.str) : ∃ l : List (Str × Tok), xs = strValues l ∧ l.map (·.1) = ps := by
  induction ps generalizing xs with
  | nil => cases xs with
    | nil => exact ⟨[], rfl, rfl⟩
    | cons _ _ => simp at h
  | cons p r ih => cases xs with
    | nil => simp at h
    | cons x xs =>
      simp only [List.map_cons, List.cons.injEq] at h
      obtain ⟨t, rfl⟩ := er_str.mp h.1
      obtain ⟨l, rfl, rfl⟩ := ih h.2
      exact ⟨(p, t) :: l, rfl, rfl⟩

theorem wpAny_found {m : Sre.M} {N : Nat} {fr : Option (Nat × Nat)} {Q : Option Sre.M → Shared → Prop} (x : Fin N fr m) (hN : N ≤ 2 ^ 66)
    (h : match fr with | none => Q none s | some (b, e) => ∀ m' : Sre.M, m'.start = b → m'.handed = e → Q (some m') s) : wpAny M A (reRunToEnd m) Q E s := by
  obtain ⟨k, m', hk, en, fd⟩ := x
  cases fr with
  | none => exact wpAny_reRunToEnd en (by lia) (r := none) (by unfold endOf; rw [show m'.outcome = some .failed from fd]) h
  | some be =>
    obtain ⟨b, e⟩ := be
    obtain ⟨f1, f2, f3⟩ := fd
    exact wpAny_reRunToEnd en (by lia) (r := some m') (by unfold endOf; rw [f1]) (h m' f2 f3)
-- the list that holds the pieces is forgotten after
noncomputable def LoopPost (base : Heap) (os : OsState) (L : Addr) (σ : St) (D : Addr) (res : List Nat) (R : Result → Shared → Prop) : Prop :=
  ∀ v s' ps, RepF base os L ⟨σ.m, upd σ.H D (.list ps), σ.n⟩ s' → er v = .str ⟨res.toArray⟩ → R (.ok (.ret v)) s'

theorem sub_loop {code : Array Nat} {rep : Str} {fnd : Nat → Option (Nat × Nat)} {pa D : Addr} {N : Nat} (hpat : IsPat base pa code) (hN : N ≤ 2 ^ 66) (hT : T.size ≤ 1000) (hrep : rep.length ≤ 1000)
    (hfind : ∀ p, p ≤ T.size → Fin N (fnd p) (Sre.forSearch code T 0 p T.size false)) (hb : base.objs.size ≤ D) {R : Result → Shared → Prop} {t u : Tok} :
    ∀ {p : Nat} {res : List Nat}, Built T rep.cps.toList fnd p res → ∀ {n : Int} {ps : List Str} {σ : St} {s : Shared}, ps.length ≤ 2 * p → (∀ y ∈ ps, y.length ≤ 1000) → σ.H D = some (.list (ps.map V.str)) → RepF base os L σ s →
      LoopPost base os L σ D (flat ps ++ res) R →
      codeAny (model prog w) A (.builtin "re.Pattern.sub.loop" ⟨[.ref pa, .str ⟨T⟩ t, .str rep u, rawInt 0, rawInt 0, rawInt n, rawInt (p : Nat), rawInt (p : Nat), .bool false, .ref D, .bool false], []⟩) R s := by
  intro p res hB
  induction hB with
  | @done p hf hp =>
    intro n ps σ s hps hlen hD r hR
    refine codeAny_builtin entry_pat_loop ?_
    show wpAny _ _ (reWholeTarget _ _ >>= _) _ _ _
    refine wpAny_bind (wpAny_reWholeTarget (hpat.keeps r.1.keep) ?_)
    show wpAny _ _ (reLiteralCannotBeTurned _ >>= _) _ _ _
    refine wpAny_bind ?_
    show wpAny _ _ (Pure.pure _ >>= _) _ _ _
    refine wpAny_bind (wpAny_pure ?_)
    refine wpAny_pure ?_
    show wpAny _ _ (reNextFound _ (Int.toNat (p : Int)) false >>= _) _ _ _
    refine wpAny_bind ?_
    show wpAny _ _ (reRunToEnd (Sre.forSearch code T 0 p T.size false)) _ _ _
    refine wpAny_found (hfind p hp) hN ?_
    rw [hf]
    have size : (T.extract p T.size).size ≤ 1000 := by rw [Array.size_extract]; lia
    have ending : ∀ (qs : List Str) (σ' : St) (s' : Shared), RepF base os L σ' s' → σ'.H D = some (.list (qs.map V.str)) → qs.length ≤ 2 * p + 1 → (∀ y ∈ qs, y.length ≤ 1000) → LoopPost base os L σ' D (flat qs) R →
        wpAny (model prog w) (A.under (.builtin "re.Pattern.sub.loop" ⟨[.ref pa, .str ⟨T⟩ t, .str rep u, rawInt 0, rawInt 0, rawInt n, rawInt (p : Nat), rawInt (p : Nat), .bool false, .ref D, .bool false], []⟩))
          (do
            let joiner ← reSlice T 0 0 0
            let text ← if ((← seqItems? (.ref D)).getD #[]).isEmpty then pure joiner else call (.builtin "str.join") [joiner, .ref D]
            ret text)
          (fun fin s' => match fin with | .done f => R (.ok f) s' | .again c' => c'.quiet = true ∧ codeAny (model prog w) A c' R s') (fun e s' => R (.error e) s') s' := by
      intro qs σ' s' r' hD' hq hql hP
      have e0 : T.extract 0 0 = #[] := by simp
      refine wpAny_bind ?_
      show wpAny _ _ (mkStr ⟨T.extract 0 0⟩) _ _ _
      rw [e0]
      refine wpAny_mkStr ?_ (by show 0 ≤ _; lia)
      obtain ⟨xs, k, g, e⟩ := r'.at_ hD'
      obtain ⟨l, rfl, hl⟩ := strs_of e
      refine wpAny_bind (wpAny_seqItems g rfl ?_)
      have hPost : ∀ (tt : Tok) (kk : Nat) , R (.ok (.ret (.str ⟨(flat qs).toArray⟩ tt))) { s' with toks := kk } := fun tt kk => by
        refine hP _ _ (qs.map V.str) (RepF.weaken (σ := σ') (r'.toks kk) rfl (fun a o ea => ?_) rfl) rfl
        dsimp only at ea
        by_cases ha : a = D
        · subst ha; rw [upd_same] at ea; cases ea; exact hD'
        · rw [upd_ne ha] at ea; exact ea
      cases hqs : qs with
      | nil =>
        subst hqs
        have : l = [] := by simpa using hl
        subst this
        exact wpAny_bind (wpAny_pure (wpAny_pure (hPost _ _)))
      | cons q1 qr =>
        have : l ≠ [] := by rintro rfl; rw [hqs] at hl; simp at hl
        have h2 : ((some (strValues l).toArray).getD #[]).isEmpty = false := by
          cases l with
          | nil => exact absurd rfl this
          | cons a b => rfl
        rw [h2]
        refine wpAny_bind (SC.join (s := { s' with toks := s'.toks + 1 }) (texts := qs) ⟨_, g, rfl, k, rfl⟩ hl ?_ fun t' kk => ?_)
        · unfold JoinOk
          rw [StrLaws.joinFits (B := 1000) hql]
          · rfl
          · show qs.length * 1000 + qs.length * 0 ≤ _
            lia
        · show wpAny _ _ (ret (.str (Txt.join ⟨#[]⟩ qs) t')) _ _ _
          rw [join_flat]
          exact wpAny_pure (hPost _ kk)
    by_cases hlt : p < T.size
    · show wpAny _ _ (if p < T.size then _ else _) _ _ _
      rw [if_pos hlt]
      refine wpAny_bind ?_
      show wpAny _ _ (mkStr ⟨T.extract p T.size⟩) _ _ _
      refine wpAny_mkStr ?_ (by show (T.extract p T.size).size ≤ 2 ^ 24; lia)
      refine wpAny_bind (push_piece (r.toks _) hD hb (by lia) fun s₁ r₁ => ?_)
      refine ending (ps ++ [⟨T.extract p T.size⟩]) _ s₁ r₁ (upd_same _ _ _) (by simp; lia) (fun y hy => ?_) ?_
      · rcases List.mem_append.mp hy with h | h
        · exact hlen y h
        · rw [List.mem_singleton] at h; subst h; exact size
      · intro v s₂ qs r₂ ev
        rw [upd_upd] at r₂
        refine hR v s₂ qs r₂ (ev.trans ?_)
        rw [flat_append]
        unfold flat
        simp
    · show wpAny _ _ (if p < T.size then _ else _) _ _ _
      rw [if_neg hlt]
      refine ending ps σ s r hD (by lia) hlen ?_
      have e1 : (T.extract p T.size).toList = [] := by
        have : T.extract p T.size = #[] := by rw [Array.extract_eq_empty_iff]; lia
        rw [this]
      rw [e1, List.append_nil] at hR
      exact hR
  | @more p b e r' hf h1 h2 h3 hrest ih =>
    intro n ps σ s hps hlen hD r hR
    refine codeAny_builtin entry_pat_loop ?_
    show wpAny _ _ (reWholeTarget _ _ >>= _) _ _ _
    refine wpAny_bind (wpAny_reWholeTarget (hpat.keeps r.1.keep) ?_)
    show wpAny _ _ (reLiteralCannotBeTurned _ >>= _) _ _ _
    refine wpAny_bind ?_
    show wpAny _ _ (Pure.pure _ >>= _) _ _ _
    refine wpAny_bind (wpAny_pure ?_)
    refine wpAny_pure ?_
    show wpAny _ _ (reNextFound _ (Int.toNat (p : Int)) false >>= _) _ _ _
    refine wpAny_bind ?_
    show wpAny _ _ (reRunToEnd (Sre.forSearch code T 0 p T.size false)) _ _ _
    refine wpAny_found (hfind p (by lia)) hN ?_
    rw [hf]
    intro m' e1 e2
    have ending : ∀ (qs : List Str) (σ' : St) (s' : Shared), RepF base os L σ' s' → σ'.H D = some (.list (qs.map V.str)) → qs.length ≤ 2 * p + 1 → (∀ y ∈ qs, y.length ≤ 1000) → LoopPost base os L σ' D (flat qs ++ (rep.cps.toList ++ r')) R →
        wpAny (model prog w) (A.under (.builtin "re.Pattern.sub.loop" ⟨[.ref pa, .str ⟨T⟩ t, .str rep u, rawInt 0, rawInt 0, rawInt n, rawInt (p : Nat), rawInt (p : Nat), .bool false, .ref D, .bool false], []⟩))
          (do
            updateSeq D (·.push (.str rep u))
            again (.builtin "re.Pattern.sub.loop" ⟨[.ref pa, .str ⟨T⟩ t, .str rep u, rawInt 0, rawInt 0, rawInt (n + 1), rawInt m'.handed, rawInt m'.handed, .bool (m'.handed == b), .ref D, .bool false], []⟩))
          (fun fin s' => match fin with | .done f => R (.ok f) s' | .again c' => c'.quiet = true ∧ codeAny (model prog w) A c' R s') (fun e s' => R (.error e) s') s' := by
      intro qs σ' s' r' hD' hq hql hP
      refine wpAny_bind (push_piece r' hD' hb (by lia) fun s₁ r₁ => ?_)
      refine wpAny_pure (And.intro (quiet_pat_loop _) ?_)
      have hne : (m'.handed == b) = false := by rw [e2]; simp; lia
      rw [hne, e2]
      refine ih (ps := qs ++ [rep]) (by simp; lia) (fun y hy => ?_) (upd_same _ _ _) r₁ ?_
      · rcases List.mem_append.mp hy with h | h
        · exact hql y h
        · rw [List.mem_singleton] at h; subst h; exact hrep
      · intro v s₂ qs' r₂ ev
        rw [upd_upd] at r₂
        refine hP v s₂ qs' r₂ (ev.trans ?_)
        rw [flat_append]
        unfold flat
        simp
    by_cases hlt : p < b
    · show wpAny _ _ (if p < m'.start then _ else _) _ _ _
      rw [e1, if_pos hlt]
      refine wpAny_bind ?_
      show wpAny _ _ (mkStr ⟨T.extract p b⟩) _ _ _
      have size : (T.extract p b).size ≤ 1000 := by rw [Array.size_extract]; lia
      refine wpAny_mkStr ?_ (by show (T.extract p b).size ≤ 2 ^ 24; lia)
      refine wpAny_bind (push_piece (r.toks _) hD hb (by lia) fun s₁ r₁ => ?_)
      show wpAny _ _ (Pure.pure _ >>= _) _ _ _
      refine wpAny_bind (wpAny_pure ?_)
      show wpAny _ _ (if (Value.str rep u != Value.none) = true then _ else _) _ _ _
      rw [if_pos (by rfl)]
      refine ending (ps ++ [⟨T.extract p b⟩]) _ s₁ r₁ (upd_same _ _ _) (by simp; lia) (fun y hy => ?_) ?_
      · rcases List.mem_append.mp hy with h | h
        · exact hlen y h
        · rw [List.mem_singleton] at h; subst h; exact size
      · intro v s₂ qs r₂ ev
        rw [upd_upd] at r₂
        refine hR v s₂ qs r₂ (ev.trans ?_)
        rw [flat_append]
        unfold flat
        simp
    · show wpAny _ _ (if p < m'.start then _ else _) _ _ _
      rw [e1, if_neg hlt]
      show wpAny _ _ (Pure.pure _ >>= _) _ _ _
      refine wpAny_bind (wpAny_pure ?_)
      show wpAny _ _ (if (Value.str rep u != Value.none) = true then _ else _) _ _ _
      rw [if_pos (by rfl)]
      refine ending ps σ s r hD (by lia) hlen ?_
      have e1 : (T.extract p b).toList = [] := by
        have : T.extract p b = #[] := by rw [Array.extract_eq_empty_iff]; lia
        rw [this]
      rw [e1, List.nil_append] at hR
      exact hR

theorem no_call_str : typeLookup (.type "str") "__call__" = pure none := by rw [typeLookup_type, builtinLookup_eq_fast]; kernel_rfl
theorem WCall_sub {code : Array Nat} {rep : Str} {fnd : Nat → Option (Nat × Nat)} {pa : Addr} {N : Nat} {res : List Nat} (hpat : IsPat base pa code) (hN : N ≤ 2 ^ 66) (hT : T.size ≤ 1000) (hrep : rep.length ≤ 1000)
    (hbs : rep.cps.contains 92 = false) (hfind : ∀ p, p ≤ T.size → Fin N (fnd p) (Sre.forSearch code T 0 p T.size false)) (hB : Built T rep.cps.toList fnd 0 res)
    (h : ∀ n', σ.n ≤ n' → Q (.str ⟨res.toArray⟩) ⟨σ.m, σ.H, n'⟩) : WCall prog w base os A L (.bi "re.Pattern.sub") [.ref pa, .str rep, .str ⟨T⟩] [] [] Q σ := WCall_bi fun as e => by
  obtain ⟨x, y, z, rfl, ex, ey, ez⟩ := map_three e
  rw [er_ref] at ex; subst ex
  obtain ⟨u, rfl⟩ := er_str.mp ey
  obtain ⟨t, rfl⟩ := er_str.mp ez
  intro s r
  refine wpAny_call (codeAny_call_builtin slot_pat_sub.plain entry_pat_sub (slot_pat_sub.check _ _ _ _ _ _ _ _ (hpat.keeps r.1.keep).typeIs (args_pat_sub _ _ _) ?_))
  show wpAny _ _ (reNamed "re.Pattern.sub" "sub" ["repl", "string", "count"] 2 [.str rep u, .str ⟨T⟩ t] [] >>= _) _ _ _
  have e1 : reNamed "re.Pattern.sub" "sub" ["repl", "string", "count"] 2 [.str rep u, .str ⟨T⟩ t] [] = pure [some (.str rep u), some (.str ⟨T⟩ t), none] := by rfl
  rw [e1]
  refine wpAny_bind (wpAny_pure ?_)
  show wpAny _ _ (Pure.pure (0 : Int) >>= _) _ _ _
  refine wpAny_bind (wpAny_pure ?_)
  refine wpAny_bind (wpAny_specialOf (typeIs_str _ _ _) no_call_str ?_)
  show wpAny _ _ (Pure.pure (some rep) >>= _) _ _ _
  refine wpAny_bind (wpAny_pure ?_)
  show wpAny _ _ (Pure.pure (!rep.cps.contains 92) >>= _) _ _ _
  rw [hbs]
  refine wpAny_bind (wpAny_pure ?_)
  show wpAny _ _ (Pure.pure (Value.str rep u, 0) >>= _) _ _ _
  refine wpAny_bind (wpAny_pure ?_)
  show wpAny _ _ (holding [Value.str rep u] (reWholeTarget (Value.ref pa) (Value.str ⟨T⟩ t)) >>= _) _ _ _
  refine wpAny_bind (wpAny_holding (wpAny_reWholeTarget (hpat.keeps r.1.keep) ?_))
  show wpAny _ _ (newList [] >>= _) _ _ _
  refine wpAny_bind (wpAny_newList ?_ (by show 0 ≤ _; lia))
  refine wpAny_pure (And.intro (quiet_pat_loop _) ?_)
  have r₁ : RepF base os L ⟨σ.m, upd σ.H s.heap.objs.size (.list ([].map V.str)), s.heap.objs.size + 1⟩ { s with heap := s.heap.push { cls := .type "list", data := .seq [].toArray } } := by
    refine RepF.more (σ := σ) (s := { s with heap := s.heap.push { cls := .type "list", data := .seq [].toArray } }) (r.grown (fun b o e => Heap.get?_push_of_some _ e) s.toks (by rw [Heap.size_push]; exact Nat.le_succ _)) r.1.le ?_
    exact ⟨[], _, Heap.get?_push_size _ rfl, rfl⟩
  have hnone : σ.H s.heap.objs.size = none := by
    cases q : σ.H s.heap.objs.size with
    | none => rfl
    | some o' => exact absurd (Nat.lt_of_lt_of_le (r.lt q) r.1.le) (Nat.lt_irrefl _)
  refine sub_loop (code := code) hpat hN hT hrep hfind (Nat.le_trans r.1.base_le r.1.le) hB (n := 0) (ps := []) (Nat.zero_le _) (fun y hy => by cases hy) (upd_same _ _ _) r₁ ?_
  intro v s' ps r' ev
  rw [upd_upd] at r'
  refine ⟨⟨σ.m, σ.H, s.heap.objs.size + 1⟩, r'.weaken rfl (fun a o ea => ?_) rfl, ?_⟩
  · dsimp only at ea ⊢
    exact (upd_ne (by rintro rfl; rw [hnone] at ea; cases ea)).trans ea
  · show Q (er v) _
    rw [ev]
    exact h _ (Nat.le_succ_of_le r.1.le)
theorem WM_pat {a : Addr} {code : Array Nat} {name : Str} {id : String} {Q : String → St → Prop} (hpat : IsPat base a code) (slot : Slot "re.Pattern" name id) (hty : typeOf (.builtin id) = pure (.type "method_descriptor"))
    (h : Q id σ) : WM prog w base os A L (.ref a) name Q σ :=
  WM_of plainAttrs_pat slot hty (fun b s e r => by rw [er_ref] at e; subst e; exact (hpat.keeps r.1.keep).typeIs)
    (fun b s y e r q => by rw [er_ref] at e; subst e; cases q; obtain ⟨o, _, _, _, _, _, a1, a2, a3, _⟩ := hpat.at_; exact ⟨o, r.1.keep _ _ a1, a3⟩) h
end
section
set_option maxRecDepth 10000
set_option linter.unusedVariables false
variable {T : Array Nat}

noncomputable def crlfS : Bool → List Nat → List Nat
  | _, [] => []
  | k, c :: r => if c = 10 then (if k then crlfS false r else 13 :: 10 :: crlfS false r) else if c = 13 then 13 :: 10 :: crlfS true r else c :: crlfS false r
noncomputable def dotS : Bool → List Nat → List Nat
  | _, [] => []
  | k, c :: r => if k = true ∧ c = 46 then 46 :: 46 :: dotS false r else c :: dotS (c == 10) r

theorem drop_at {p : Nat} (h : p < T.size) : T.toList.drop p = T.getD p 0 :: T.toList.drop (p + 1) := by
  rw [List.drop_eq_getElem_cons (by simpa using h)]
  congr 1
  simp [Array.getD, h]
theorem drop_end {p : Nat} (h : T.size ≤ p) : T.toList.drop p = [] := List.drop_eq_nil_of_le (by simpa using h)
theorem ext_self {p : Nat} : (T.extract p p).toList = [] := by
  have : T.extract p p = #[] := by rw [Array.extract_eq_empty_iff]; lia
  rw [this]
theorem ext_at {p b : Nat} (h : p < b) (hb : b ≤ T.size) : (T.extract p b).toList = T.getD p 0 :: (T.extract (p + 1) b).toList := by
  rw [Array.toList_extract, Array.toList_extract, List.extract_eq_take_drop, List.extract_eq_take_drop, drop_at (by lia)]
  have : b - p = (b - (p + 1)) + 1 := by lia
  rw [this, List.take_succ_cons]

theorem crlf_plain {c : Nat} {r : List Nat} {k : Bool} (h1 : (c == 10) = false) (h2 : (c == 13) = false) : crlfS k (c :: r) = c :: crlfS false r := by
  rw [crlfS, if_neg (by simpa using h1), if_neg (by simpa using h2)]
theorem crlf_run : ∀ (k p b : Nat), b = p + k → b ≤ T.size → (∀ q, p ≤ q → q < b → eol T q = false) → crlfS false (T.toList.drop p) = (T.extract p b).toList ++ crlfS false (T.toList.drop b)
  | 0, p, b, e, hb, h => by
    have : b = p := by lia
    subst this
    rw [ext_self]; rfl
  | k + 1, p, b, e, hb, h => by
    have hp := h p (Nat.le_refl _) (by lia)
    unfold eol at hp
    rw [Bool.or_eq_false_iff] at hp
    rw [drop_at (by lia), crlf_plain hp.1 hp.2, ext_at (by lia) hb, crlf_run k (p + 1) b (by lia) hb (fun q h1 h2 => h q (by lia) h2)]
    rfl
theorem built2 : ∀ (k p : Nat), T.size - p ≤ k → p ≤ T.size → Built T [13, 10] (fun p => find2 T (T.size + 1 - p) p) p (crlfS false (T.toList.drop p)) := by
  intro k
  induction k with
  | zero =>
    intro p hk hp
    have : p = T.size := by lia
    subst this
    have e : crlfS false (T.toList.drop T.size) = (T.extract T.size T.size).toList := by rw [drop_end (Nat.le_refl _), ext_self]; rfl
    rw [e]
    refine .done ?_ hp
    show find2 T (T.size + 1 - T.size) T.size = none
    rw [Nat.add_sub_cancel_left]
    unfold find2
    rw [if_pos (Nat.le_refl _)]
  | succ k ih =>
    intro p hk hp
    cases hf : find2 T (T.size + 1 - p) p with
    | none =>
      have hn := find2_none hf (by lia)
      have e : crlfS false (T.toList.drop p) = (T.extract p T.size).toList := by
        rw [crlf_run (T.size - p) p T.size (by lia) (Nat.le_refl _) hn, drop_end (Nat.le_refl _)]
        exact List.append_nil _
      rw [e]
      exact .done hf hp
    | some be =>
      obtain ⟨b, e⟩ := be
      obtain ⟨a1, a2, a3, a4, a5⟩ := find2_some hf
      rw [crlf_run (b - p) p b (by lia) (by lia) a5]
      have he : b < e ∧ e ≤ T.size ∧ crlfS false (T.toList.drop b) = [13, 10] ++ crlfS false (T.toList.drop e) := by
        rw [drop_at a2]
        unfold eol at a3
        unfold eolEnd at a4
        cases h13 : T.getD b 0 == 13 with
        | false =>
          rw [h13, Bool.or_false] at a3
          rw [h13] at a4
          rw [if_neg (by simp)] at a4
          subst a4
          refine ⟨by lia, by lia, ?_⟩
          rw [beq_iff_eq] at a3
          rw [crlfS, if_pos a3]; rfl
        | true =>
          rw [h13, Bool.true_and] at a4
          rw [beq_iff_eq] at h13
          rw [h13]
          cases hn : (T.getD (b + 1) 0 == 10 && decide (b + 1 < T.size)) with
          | true =>
            rw [hn, if_pos rfl] at a4
            subst a4
            rw [Bool.and_eq_true, decide_eq_true_eq, beq_iff_eq] at hn
            refine ⟨by lia, by lia, ?_⟩
            rw [drop_at hn.2, hn.1]; rfl
          | false =>
            rw [hn, if_neg (by decide)] at a4
            subst a4
            refine ⟨by lia, by lia, ?_⟩
            show 13 :: 10 :: crlfS true (T.toList.drop (b + 1)) = _
            by_cases hs : b + 1 < T.size
            · have h10 : (T.getD (b + 1) 0 == 10) = false := by
                cases q : (T.getD (b + 1) 0 == 10) with
                | false => rfl
                | true => rw [q, Bool.true_and] at hn; simp at hn; lia
              rw [drop_at hs]
              have : ¬ T.getD (b + 1) 0 = 10 := by simpa using h10
              show _ = 13 :: 10 :: crlfS false _
              rw [crlfS, crlfS, if_neg this, if_neg this]
            · rw [drop_end (by lia)]; rfl
      rw [he.2.2, ← List.append_assoc]
      refine .more hf a1 he.1 he.2.1 (ih e (by lia) he.2.1)

/-! dots -/
noncomputable def head1 (T : Array Nat) (p : Nat) : Bool := p == 0 || T.getD (p - 1) 0 == 10
theorem dot_run : ∀ (k p b : Nat), b = p + k → b ≤ T.size → (∀ q, p ≤ q → q < b → at1 T q = false) → dotS (head1 T p) (T.toList.drop p) = (T.extract p b).toList ++ dotS (head1 T b) (T.toList.drop b)
  | 0, p, b, e, hb, h => by
    have : b = p := by lia
    subst this
    rw [ext_self]; rfl
  | k + 1, p, b, e, hb, h => by
    have hp := h p (Nat.le_refl _) (by lia)
    have hlt : p < T.size := by lia
    unfold at1 at hp
    rw [decide_eq_true hlt, Bool.and_true] at hp
    rw [drop_at hlt, ext_at (by lia) hb, dotS, if_neg]
    · have e1 : (T.getD p 0 == 10) = head1 T (p + 1) := by unfold head1; simp
      rw [e1, dot_run k (p + 1) b (by lia) hb (fun q h1 h2 => h q (by lia) h2)]
      rfl
    · intro ⟨q1, q2⟩
      unfold head1 at q1
      rw [q1, q2] at hp
      simp at hp
theorem built1 : ∀ (k p : Nat), T.size - p ≤ k → p ≤ T.size → Built T [46, 46] (fun p => find1 T (T.size + 1 - p) p) p (dotS (head1 T p) (T.toList.drop p)) := by
  intro k
  induction k with
  | zero =>
    intro p hk hp
    have : p = T.size := by lia
    subst this
    have e : dotS (head1 T T.size) (T.toList.drop T.size) = (T.extract T.size T.size).toList := by rw [drop_end (Nat.le_refl _), ext_self]; rfl
    rw [e]
    refine .done ?_ hp
    show find1 T (T.size + 1 - T.size) T.size = none
    rw [Nat.add_sub_cancel_left]
    unfold find1
    rw [at1_end (Nat.le_refl _)]; rfl
  | succ k ih =>
    intro p hk hp
    cases hf : find1 T (T.size + 1 - p) p with
    | none =>
      have hn := find1_none hf (by lia)
      have e : dotS (head1 T p) (T.toList.drop p) = (T.extract p T.size).toList := by
        rw [dot_run (T.size - p) p T.size (by lia) (Nat.le_refl _) hn, drop_end (Nat.le_refl _)]
        exact List.append_nil _
      rw [e]
      exact .done hf hp
    | some be =>
      obtain ⟨b, e⟩ := be
      obtain ⟨a1, a2, a3, a4, a5⟩ := find1_some hf
      subst a4
      rw [dot_run (b - p) p b (by lia) (by lia) a5]
      have he : dotS (head1 T b) (T.toList.drop b) = [46, 46] ++ dotS (head1 T (b + 1)) (T.toList.drop (b + 1)) := by
        unfold at1 at a3
        simp only [Bool.and_eq_true, decide_eq_true_eq, beq_iff_eq] at a3
        rw [drop_at a2, dotS, if_pos ⟨by unfold head1; exact a3.1.1, a3.2⟩]
        have e1 : head1 T (b + 1) = false := by
          unfold head1
          rw [Nat.add_sub_cancel, a3.2]; simp
        rw [e1]; rfl
      rw [he, ← List.append_assoc]
      exact .more hf a1 (by lia) (by lia) (ih (b + 1) (by lia) (by lia))
theorem built_crlf : Built T [13, 10] (fun p => find2 T (T.size + 1 - p) p) 0 (crlfS false T.toList) := by simpa using built2 (T := T) T.size 0 (by lia) (Nat.zero_le _)
theorem built_dot : Built T [46, 46] (fun p => find1 T (T.size + 1 - p) p) 0 (dotS true T.toList) := by simpa [head1] using built1 (T := T) T.size 0 (by lia) (Nat.zero_le _)
theorem crlf_len : ∀ (k : Bool) (l : List Nat), (crlfS k l).length ≤ 2 * l.length
  | _, [] => by simp [crlfS]
  | k, c :: r => by
    have h1 := crlf_len false r
    have h2 := crlf_len true r
    rw [crlfS]
    split
    · split <;> simp <;> lia
    · split <;> simp <;> lia
end
section
set_option maxRecDepth 100000
set_option linter.unusedVariables false
variable {base : Heap} {os : OsState} {H H' : HP} {n n' : Nat} {s s' : Shared} {prog : Program} {w : World} {A : Around} {L : Addr} {σ : St} {m : Loc} {env : Env} {Q : V → St → Prop} {R : Flow → St → Prop}
variable {dV kV doc pm cdv ct : Value} {an : Option Addr} {f : Addr} {mg mb : Str → Option Value}




noncomputable abbrev quoteF := pst PySem.Challenge.pw_rw0112_01 10
theorem C_quote {p1 p2 : Addr} {T : Array Nat} {x' : Value} {tc : Tok} (G : Gl base mg mb) (hf : FnAt base f (fdOf quoteF .none .none doc pm an cdv ct)) (h1 : mg "_twin_re_1" = some (.ref p1)) (h2 : mg "_twin_re_2" = some (.ref p2))
    (h3 : mg "CRLF" = some (.str ⟨#[13, 10]⟩ tc)) (hp1 : IsPat base p1 code1) (hp2 : IsPat base p2 code2) (e1 : er x' = .str ⟨T⟩) (hT : T.size ≤ 400) (hA : A.depth < recursionLimit) :
    C prog w base os A (.call (.ref f) ⟨[x'], []⟩) (fun v H' n' => v = .str ⟨(dotS true (crlfS false T.toList)).toArray⟩ ∧ H' = H ∧ n ≤ n') H n := by
  refine C_def (binds := [("data", x')]) (fun s r => hf.keeps r.keep) G.lim hA rfl (fun s r => BindsTo.of_eq (by kernel_rfl!)) (noCells (by kernel_rfl!)) (locs (by kernel_rfl!)) (fun L hL => ?_) rfl rfl rfl
  have q1 : (fun y => ((([("data", x')] : List (Str × Value)).reverse.lookup y).map er : Option V)) "data" = some (.str ⟨T⟩) := by rw [← e1]; rfl
  revert q1
  generalize (fun y => ((([("data", x')] : List (Str × Value)).reverse.lookup y).map er : Option V)) = m₀
  intro q1
  refine WS_cons (WS_Return ?_)
  refine W_Method rfl rfl ?_ rfl
  refine W_global G.g h1 ?_ (by walk_at "k") (by walk_at "k") (by walk_at "k") (by decide +kernel)
  refine WM_pat hp1 slot_pat_sub type_pat_sub ?_
  dsimp only [WArgs]
  repeat walk_at "s"
  refine W_Method rfl rfl ?_ rfl
  refine W_global G.g h2 ?_ (by walk_at "k") (by walk_at "k") (by walk_at "k") (by decide +kernel)
  refine WM_pat hp2 slot_pat_sub type_pat_sub ?_
  dsimp only [WArgs]
  refine W_global G.g h3 ?_ (by walk_at "k") (by walk_at "k") (by walk_at "k") (by decide +kernel)
  repeat walk_at "s"
  dsimp only [WKws, kwNames]
  refine WCall_sub (code := code2) (fnd := fun p => find2 T (T.size + 1 - p) p) (N := 30) hp2 (by decide) (by lia) (by decide) (by decide +kernel) (fun p hp => search2 hp) built_crlf fun n1 hn1 => ?_
  have hl : (crlfS false T.toList).toArray.size ≤ 1000 := by
    have := crlf_len false T.toList
    simp at this ⊢; lia
  refine WCall_sub (code := code1) (fnd := fun p => find1 (crlfS false T.toList).toArray ((crlfS false T.toList).toArray.size + 1 - p) p) (N := 3 * (crlfS false T.toList).toArray.size + 10) hp1 (by lia) hl (by decide) (by decide +kernel) (fun p hp => search1 hp) built_dot fun n2 hn2 => ?_
  intro a ea
  exact ⟨H, fun _ _ e => e, by rw [ea], rfl, Nat.le_trans (Nat.le_succ_of_le hL) (Nat.le_trans hn1 hn2)⟩
end
section
set_option maxRecDepth 100000
set_option linter.unusedVariables false
variable {base : Heap} {os : OsState} {H H' : HP} {n n' : Nat} {s s' : Shared} {prog : Program} {w : World} {A : Around} {L : Addr} {σ : St} {m : Loc} {env : Env} {Q : V → St → Prop} {R : Flow → St → Prop}

-- a new object
theorem RepF.push (r : RepF base os L σ s) (c : Obj) {o : O} (x : At (s.heap.push c) s.heap.objs.size o) :
    RepF base os L ⟨σ.m, upd σ.H s.heap.objs.size o, s.heap.objs.size + 1⟩ { s with heap := s.heap.push c } :=
  RepF.more (σ := σ) (s := { s with heap := s.heap.push c }) (r.grown (fun b o e => Heap.get?_push_of_some _ e) s.toks (by rw [Heap.size_push]; exact Nat.le_succ _)) r.1.le x
-- a new object that nothing tells of
theorem RepF.push' (r : RepF base os L σ s) (c : Obj) (t : Nat) : RepF base os L σ { s with heap := s.heap.push c, toks := t } :=
  r.grown (fun b o e => Heap.get?_push_of_some _ e) t (by rw [Heap.size_push]; exact Nat.le_succ _)

theorem W_Tuple {elts : List Expr} {k : Nat} {pos : Pos} (hp : plainArgs elts = true)
    (h : WArgs prog w base os A L env elts (fun vs σ' => vs.length ≤ sizeLine ∧ ∀ a, σ'.n ≤ a → Q (.ref a) ⟨σ'.m, upd σ'.H a (.tup vs), a + 1⟩) σ) : WV prog w base os A L (eval (.Tuple elts k pos) env) Q σ := fun s r =>
  wpAny_Tuple (wpAny_mono (WArgs.sound hp h s r) (fun vs s₁ ⟨σ₁, r₁, h₁, h₂⟩ => ⟨by rw [List.length_map] at h₁; exact h₁,
    ⟨_, r₁.push _ (o := .tup (vs.map er)) ⟨vs, _, Heap.get?_push_size _ rfl, rfl⟩, h₂ _ r₁.1.le⟩⟩) fun _ _ x => x)
theorem W_List {elts : List Expr} {pos : Pos} (hp : plainArgs elts = true)
    (h : WArgs prog w base os A L env elts (fun vs σ' => vs.length ≤ sizeLine ∧ ∀ a, σ'.n ≤ a → Q (.ref a) ⟨σ'.m, upd σ'.H a (.list vs), a + 1⟩) σ) : WV prog w base os A L (eval (.List elts pos) env) Q σ := fun s r =>
  wpAny_List (wpAny_mono (WArgs.sound hp h s r) (fun vs s₁ ⟨σ₁, r₁, h₁, h₂⟩ => ⟨by rw [List.length_map] at h₁; exact h₁,
    ⟨_, r₁.push _ (o := .list (vs.map er)) ⟨vs, _, Heap.get?_push_size _ rfl, rfl⟩, h₂ _ r₁.1.le⟩⟩) fun _ _ x => x)

/-! ## a target's assignment -/
noncomputable def WA (prog : Program) (w : World) (base : Heap) (os : OsState) (A : Around) (L : Addr) (env : Env) (t : Expr) (v : V) (Q : Unit → St → Prop) (σ : St) : Prop :=
  ∀ a, er a = v → W prog w base os A L (assign t env a) Q σ
noncomputable def WAs (prog : Program) (w : World) (base : Heap) (os : OsState) (A : Around) (L : Addr) (env : Env) : List Expr → List V → (Unit → St → Prop) → St → Prop
  | [], [], Q, σ => Q () σ
  | t :: ts, v :: vs, Q, σ => WA prog w base os A L env t v (fun _ => WAs prog w base os A L env ts vs Q) σ
  | _, _, _, _ => False
theorem WA_Name {x : Str} {pos : Pos} {v : V} {Q : Unit → St → Prop} (h : WSt prog w base os A L env x v Q σ) : WA prog w base os A L env (.Name x pos) v Q σ := fun a e s r => wpAny_assign_Name (h a e s r)
theorem assignEach_plain {e : Expr} {r : List Expr} (h : plainArgs (e :: r) = true) : assignEach (e :: r) env = (false, assign e env) :: assignEach r env ∧ plainArgs r = true := by
  cases e <;> first | exact ⟨rfl, h⟩ | exact Bool.noConfusion h
theorem WAs.sound : ∀ {ts : List Expr} {vs : List V} {Q : Unit → St → Prop} {σ : St} {xs : List Value}, plainArgs ts = true → xs.map er = vs → WAs prog w base os A L env ts vs Q σ →
    W prog w base os A L (assignInOrder ((assignEach ts env).map (·.2)) xs) Q σ
  | [], [], Q, σ, [], _, _, h => fun s r => wpAny_pure ⟨σ, r, h⟩
  | [], _ :: _, _, _, _, _, _, h => h.elim
  | _ :: _, [], _, _, _, _, _, h => h.elim
  | [], [], _, _, _ :: _, _, e, _ => by simp at e
  | _ :: _, _ :: _, _, _, [], _, e, _ => by simp at e
  | t :: ts, v :: vs, Q, σ, x :: xs, hp, e, h => fun s r => by
    obtain ⟨he, hr⟩ := assignEach_plain (env := env) hp
    simp only [List.map_cons, List.cons.injEq] at e
    rw [he]
    exact wpAny_assignInOrder_more (W.run (h x e.1) r (fun _ s₁ σ₁ r₁ h₁ => WAs.sound hr e.2 h₁ s₁ r₁))
theorem assignEach_len : ∀ {ts : List Expr}, plainArgs ts = true → (assignEach ts env).length = ts.length ∧ (assignEach ts env).findIdx? (·.1) = none
  | [], _ => ⟨rfl, rfl⟩
  | t :: ts, hp => by
    obtain ⟨he, hr⟩ := assignEach_plain (env := env) hp
    obtain ⟨a, b⟩ := assignEach_len hr
    rw [he]
    refine ⟨by rw [List.length_cons, List.length_cons, a], ?_⟩
    rw [List.findIdx?_cons, b]; rfl

-- the base's last object stands: whatever keeps the base is no smaller
noncomputable def Full (base : Heap) : Prop := ∃ o, base.get? (base.objs.size - 1) = some o
theorem Full.le (F : Full base) {h : Heap} (k : ∀ b o, base.get? b = some o → h.get? b = some o) : base.objs.size ≤ h.objs.size := by
  obtain ⟨o, e⟩ := F
  have : base.objs.size - 1 < h.objs.size := Heap.lt_size (k _ _ e)
  lia
-- all but one address keeps its object: what is told of the others is told still
theorem RepF.ext (r : RepF base os L σ s) (F : Full base) {c : Addr} {h' : Heap} (he : Heap.ExtBut c s.heap h') (hc : base.objs.size ≤ c) (hcL : c ≠ L) {H' : HP} (hs : ∀ a o, H' a = some o → σ.H a = some o) (h0 : H' c = none) (t : Nat) :
    RepF base os L ⟨σ.m, H', h'.objs.size⟩ { s with heap := h', toks := t } := by
  have hL : H' L = none := by
    cases q : H' L with
    | none => rfl
    | some o => have := hs _ _ q; rw [r.2.1] at this; cases this
  have kb : ∀ b o, base.get? b = some o → h'.get? b = some o := fun b o e => he b o (by rintro rfl; exact absurd (Heap.lt_size e) (Nat.not_lt.mpr hc)) (r.1.keep b o e)
  refine ⟨⟨kb, fun a o e => ?_, Nat.le_refl _, F.le kb, r.1.gens, r.1.os⟩, hL, r.2.2⟩
  have ha : a ≠ c := by
    rintro rfl
    by_cases hl : a = L
    · exact hcL hl
    · have e' := (upd_ne (H := H') hl).symm.trans e
      rw [h0] at e'; cases e'
  have ht : At s.heap a o := by
    by_cases hl : a = L
    · refine Classical.byContradiction fun hneg1_ => ?_
      subst hl; rw [upd_same] at e; cases e
      refine hneg1_ ?_
      exact (r.1.tells _ _ (upd_same _ _ _)).2
    · exact r.at_ (hs _ _ ((upd_ne (H := H') hl).symm.trans e))
  have := ht.same (h' := h') fun c' q => he a c' ha q
  exact ⟨this.lt, this⟩
-- what every state holds
theorem W.fact {α : Type} {t : Sem α} {Q : α → St → Prop} (h : (∀ a o, σ.H a = some o → a < σ.n) → L < σ.n → σ.H L = none → base.objs.size ≤ L → W prog w base os A L t Q σ) : W prog w base os A L t Q σ := fun s r =>
  h (fun _ _ e => r.lt e) r.Llt r.2.1 r.2.2 s r

theorem WA_Tuple {ts : List Expr} {k : Nat} {pos : Pos} {t : Addr} {vs : List V} {Q : Unit → St → Prop} (F : Full base) (hp : plainArgs ts = true) (hh : A.handled = none) (ht : σ.H t = some (.tup vs)) (hl : ts.length = vs.length)
    (h : ∀ n', WAs prog w base os A L env ts vs Q ⟨σ.m, σ.H, n'⟩) : WA prog w base os A L env (.Tuple ts k pos) (.ref t) Q σ := fun a e s r => by
  rw [er_ref] at e; subst e
  refine Classical.byContradiction fun hneg2_ => ?_
  obtain ⟨xs, j, g, ex⟩ := r.at_ ht
  obtain ⟨a1, a2⟩ := assignEach_len (env := env) hp
  refine hneg2_ ?_
  have hx : xs.length = vs.length := by rw [← ex, List.length_map]
  refine wpAny_assign_Tuple hh ⟨_, g, rfl, j, rfl⟩ (by rw [a1, hl, List.size_toArray, hx]) a2 fun h' he => ?_
  have hn : σ.H s.heap.objs.size = none := by
    cases q : σ.H s.heap.objs.size with
    | none => rfl
    | some o' => exact absurd (Nat.lt_of_lt_of_le (r.lt q) r.1.le) (Nat.lt_irrefl _)
  exact WAs.sound hp ex (h _) _ (r.ext F he (Nat.le_trans r.1.base_le r.1.le) (Nat.ne_of_gt (Nat.lt_of_lt_of_le r.Llt r.1.le)) (fun _ _ e => e) hn s.toks)
-- a statement that parts a tuple
theorem WS_AssignT {ts : List Expr} {k : Nat} {tpos pos : Pos} {value : Expr} (h : WV prog w base os A L (eval value env) (fun v => WA prog w base os A L env (.Tuple ts k tpos) v (fun _ => R .next)) σ)
    (hs : swapsWithSole [.Tuple ts k tpos] value pos.line env = pure false) (hw : swappedStores [.Tuple ts k tpos] value env = pure none) :
    W prog w base os A L (exec (.Assign [.Tuple ts k tpos] value pos) env) R σ := fun s r =>
  Assign_Tuple (W.run h r (fun a s₁ _ r₁ h₁ => h₁ a rfl s₁ r₁)) hs hw
/-! ## strings' items and slices, lists' slices -/
theorem WSub_str {value slice : Expr} {x : Str} {i : Int} {c : Nat} (h0 : 0 ≤ i) (hv : x.cps[i.toNat]? = some c) (hz : x.length ≤ sizeLine) (h : Q (.str ⟨#[c]⟩) σ) (hs : notSlice slice = true) :
    WSub prog w base os A L value slice (.str x) (.int i) Q σ := fun a b ea eb s r => by
  obtain ⟨t, rfl⟩ := er_str.mp ea
  obtain ⟨u, rfl⟩ := er_int.mp eb
  have hlt : i.toNat < x.cps.size := (Array.getElem?_eq_some_iff.mp hv).1
  have hz' : x.cps.size ≤ 16777216 := by rw [sizeLine_eq] at hz; exact hz
  refine tail_any (typeIs_str _ _ _) PySem.F.slot_str_getitem.lookup (P.getItem_str (c := c) ?_ ?_ ⟨σ, r.toks _, h⟩) (sub_int hs)
  · simp; lia
  · have : seqIndex? i x.length = some i.toNat := by
      unfold seqIndex?
      show (let j := if i < 0 then i + (x.cps.size : Nat) else i; if (decide (0 ≤ j) && decide (j < (x.cps.size : Nat))) = true then some j.toNat else none) = _
      have hn : ¬ i < 0 := by lia
      simp only [hn, if_false]
      exact if_pos (by simp; lia)
    rw [this]; exact hv

noncomputable def WSl (prog : Program) (w : World) (base : Heap) (os : OsState) (A : Around) (L : Addr) (env : Env) : Option Expr → (V → St → Prop) → St → Prop
  | none, Q, σ => Q .none σ
  | some e, Q, σ => WV prog w base os A L (eval e env) Q σ
theorem WSl.sound {p : Option Expr} (h : WSl prog w base os A L env p Q σ) : WV prog w base os A L (evalPart p env) Q σ := by
  cases p with
  | none => exact fun s r => wpAny_pure ⟨σ, r, h⟩
  | some e => exact h
noncomputable def Part (v : V) (k : Option Int) : Prop := v = (match k with | none => .none | some i => .int i)
theorem Part.is {v : V} {k : Option Int} (h : Part v k) {a : Value} (e : er a = v) : IsPart a k := by
  unfold Part at h
  subst h
  cases k with
  | none => rw [er_none.mp e]; exact .none
  | some i => obtain ⟨t, rfl⟩ := er_int.mp e; exact .int i t
-- the items that a slice picks
noncomputable def pick (vs : List V) (lo hi st : Option Int) : List V :=
  (sliceRange (sliceBounds lo hi st vs.length).1 (sliceBounds lo hi st vs.length).2.1 (sliceBounds lo hi st vs.length).2.2).filterMap (vs[·]?)
theorem pick_map (xs : List Value) (lo hi st : Option Int) : (slicePick xs.toArray lo hi st).toList.map er = pick (xs.map er) lo hi st := by
  unfold pick
  simp only [slicePick, List.length_map]
  simp only [List.size_toArray, List.getElem?_toArray, List.map_filterMap, List.getElem?_map]
-- a list's slice
theorem W_sliceL {value : Expr} {lo hi st : Option Expr} {p pos : Pos} 
    (h : WV prog w base os A L (eval value env) (fun o => WSl prog w base os A L env lo (fun x => WSl prog w base os A L env hi (fun y => WSl prog w base os A L env st (fun z σ' =>
      ∃ a vs l u k, o = .ref a ∧ σ'.H a = some (.list vs) ∧ vs.length ≤ sizeLine ∧ Part x l ∧ Part y u ∧ Part z k ∧ k ≠ some 0 ∧ ∀ b, σ'.n ≤ b → Q (.ref b) ⟨σ'.m, upd σ'.H b (.list (pick vs l u k)), b + 1⟩)))) σ)
    (hs : ∀ a b, ∃ ops, subscripted (.Slice lo hi st p) false (.ref a) (.ref b) = operate ops (getItem (.ref a) (.ref b))) (ht : ∀ o r, letTemporaryGo value o r = pure ()) :
    WV prog w base os A L (eval (.Subscript value (.Slice lo hi st p) pos) env) Q σ := fun s r => by
  refine Subscript_ (W.run h r (fun o s₁ _ r₁ h₁ => wpAny_Slice (W.run (WSl.sound h₁) r₁ (fun x s₂ _ r₂ h₂ => W.run (WSl.sound h₂) r₂ (fun y s₃ _ r₃ h₃ =>
    W.run (WSl.sound h₃) r₃ (fun z s₄ σ₄ r₄ h₄ => ?_))))))
  refine Classical.byContradiction fun hneg3_ => ?_
  obtain ⟨a, vs, l, u, k, e, ha, hz, p1, p2, p3, h0, hq⟩ := h₄
  refine hneg3_ ?_
  rw [er_ref] at e; subst e
  refine Classical.byContradiction fun hneg4_ => ?_
  obtain ⟨xs, j, g, ex⟩ := r₄.at_ ha
  have hx : xs.length = vs.length := by rw [← ex, List.length_map]
  obtain ⟨ops, hs'⟩ := hs a s₄.heap.objs.size
  refine hneg4_ ?_
  have hl : s₄.heap.IsList a xs.toArray := ⟨_, g, rfl, j, rfl⟩
  refine subscriptTail_ops (Heap.IsList.typeIs (s := { s₄ with heap := s₄.heap.push { cls := .type "slice", data := .fields #[x, y, z] } }) (hl.push _)) list_getitem_lookup
    (wpAny_getItem_list_slice (hl.push _) (Heap.IsSliceOf.new ..) (p1.is rfl) (p2.is rfl) (p3.is rfl) h0 ?_ (by rw [List.size_toArray, hx]; exact hz)) hs' (ht _)
  refine ⟨_, RepF.push (r₄.push' { cls := .type "slice", data := .fields #[x, y, z] } s₄.toks) _ (o := .list ((slicePick xs.toArray l u k).toList.map er)) ⟨(slicePick xs.toArray l u k).toList, _, by
    show Heap.get? _ _ = _
    exact Heap.get?_push_size _ rfl, rfl⟩, ?_⟩
  rw [pick_map, ex]
  exact hq _ (Nat.le_trans r₄.1.le (by show _ ≤ (s₄.heap.push _).objs.size; rw [Heap.size_push]; exact Nat.le_succ _))
end
section
set_option maxRecDepth 100000
set_option linter.unusedVariables false
variable {base : Heap} {os : OsState} {H H' : HP} {n n' : Nat} {s s' : Shared} {prog : Program} {w : World} {A : Around} {L : Addr} {σ : St} {m : Loc} {env : Env} {Q : V → St → Prop} {R : Flow → St → Prop}

-- a string's last sign, and such slices
theorem W_sliceS {value : Expr} {lo : Option Expr} {p pos : Pos}
    (h : WV prog w base os A L (eval value env) (fun o => WSl prog w base os A L env lo (fun x σ' => ∃ y l, o = .str y ∧ x = .int l ∧ y.length ≤ sizeLine ∧ Q (.str (Txt.slice y (some l) none)) σ')) σ)
    (hs : ∀ a t b, ∃ ops, subscripted (.Slice lo none none p) false (.str a t) (.ref b) = operate ops (getItem (.str a t) (.ref b))) (ht : ∀ o r, letTemporaryGo value o r = pure ()) :
    WV prog w base os A L (eval (.Subscript value (.Slice lo none none p) pos) env) Q σ := fun s r => by
  refine Subscript_ (W.run h r (fun o s₁ _ r₁ h₁ => wpAny_Slice (W.run (WSl.sound h₁) r₁ (fun x s₂ σ₂ r₂ h₂ => ?_))))
  refine wpAny_pure (wpAny_pure ?_)
  refine Classical.byContradiction fun hneg1_ => ?_
  obtain ⟨y, l, e1, e2, hz, hq⟩ := h₂
  obtain ⟨t, rfl⟩ := er_str.mp e1
  obtain ⟨u, rfl⟩ := er_int.mp e2
  obtain ⟨ops, hs'⟩ := hs y t s₂.heap.objs.size
  refine hneg1_ ?_
  refine tail_of_ItemOn ⟨"str", _, PySem.F.slot_str_getitem.lookup, typeIs_str _ _ _, wpAny_getItem_str_slice (l := some (l, u)) (u := none) (st := none) ⟨_, Heap.get?_push_size _ rfl, rfl, rfl⟩ rfl
    (post_val_or_str ⟨Nat.le_trans (Txt.slice_le y _ _) hz, fun t' k => ?_⟩)⟩ hs' (ht _)
  exact ⟨σ₂, r₂.push' _ k, hq⟩
-- in a row of strings
theorem WC_inStrs {a : Addr} {ys : List Str} {x : Str} (ha : σ.H a = some (.list (ys.map V.str))) (h : Q (.bool (ys.any fun y => y.cps.toList == x.cps.toList)) σ) : WC prog w base os A L .In (.str x) (.ref a) Q σ := fun u v eu ev => by
  obtain ⟨t, rfl⟩ := er_str.mp eu
  rw [er_ref] at ev; subst ev
  intro s r
  refine Classical.byContradiction fun hneg2_ => ?_
  obtain ⟨xs, k, g, e⟩ := r.at_ ha
  obtain ⟨l, rfl, hl⟩ := strs_of e
  refine hneg2_ ?_
  have key : ∀ l : List (Str × Tok), (strValues l).any (fun v => match v with | .str y _ => y.cps.toList == x.cps.toList | _ => false) = (l.map (·.1)).any fun y => y.cps.toList == x.cps.toList := fun l => by
    induction l with
    | nil => rfl
    | cons p r ih => show (_ || (strValues r).any _) = _; rw [ih]; rfl
  refine SeqAt.in_listAt (fun v => match v with | .str y _ => y.cps.toList == x.cps.toList | _ => false) ⟨_, g, rfl, k, rfl⟩ (fun y hy => ?_) ⟨σ, r, ?_⟩
  · have hy' : y ∈ strValues l := by simpa using hy
    unfold strValues at hy'
    obtain ⟨p, _, rfl⟩ := List.mem_map.mp hy'
    exact (SeqRoads2.EqGives.str _ _ _ _).at _ _
  · show Q (.bool ((strValues l).toArray.any _)) σ
    rw [List.any_toArray, key l, hl]
    exact h

/-! ## iterators -/
noncomputable def del (H : HP) (a : Addr) : HP := fun b => if b = a then none else H b
theorem del_same (H : HP) (a : Addr) : del H a a = none := if_pos rfl
theorem del_ne {H : HP} {a b : Addr} (h : b ≠ a) : del H a b = H b := if_neg h
theorem del_upd {H : HP} {a : Addr} {o : O} (h : H a = none) : del (upd H a o) a = H := by
  funext b; unfold del upd; split
  · rename_i e; subst e; exact h.symm
  · rfl
theorem del_sub {H : HP} {a b : Addr} {o : O} (h : del H a b = some o) : H b = some o := by
  unfold del at h; split at h
  · cases h
  · exact h
noncomputable def ownedTuple : List String := ["enumerate", "zip", "dict_itemiterator", "dict_reverseitemiterator", "odict_iterator", "itertools.zip_longest", "itertools.pairwise"]
set_option genInjectivity false in
-- what may be walked: x gives vs, as long as K stands
structure Src (prog : Program) (w : World) (base : Heap) (os : OsState) (x : V) (vs : List V) (K : HP → Prop) where
  I : List V → Obj → Prop
  iter : ∀ (A : Around) (L : Addr) (σ : St) (a : Value), K σ.H → er a = x → W prog w base os A L (pyIter a) (fun r σ' => ∃ it o, r = .ref it ∧ σ.n ≤ it ∧ I vs o ∧ σ' = ⟨σ.m, upd σ.H it (.raw o), it + 1⟩) σ
  self : ∀ (A : Around) (L : Addr) (σ : St) (it : Addr) (o : Obj), I vs o → σ.H it = some (.raw o) → W prog w base os A L (pyIter (.ref it)) (fun r σ' => r = .ref it ∧ σ' = σ) σ
  next : ∀ (A : Around) (L : Addr) (σ : St) (it : Addr) (v : V) (rem : List V) (o : Obj), I (v :: rem) o → σ.H it = some (.raw o) → base.objs.size ≤ it → K σ.H →
    W prog w base os A L (pyNext (.ref it)) (fun r σ' => ∃ a o', r = some a ∧ er a = v ∧ I rem o' ∧ σ' = ⟨σ.m, upd σ.H it (.raw o'), σ.n⟩) σ
  stop : ∀ (A : Around) (L : Addr) (σ : St) (it : Addr) (o : Obj), Full base → A.handled = none → I [] o → σ.H it = some (.raw o) → base.objs.size ≤ it → K σ.H →
    W prog w base os A L (pyNext (.ref it)) (fun r σ' => r = none ∧ σ'.m = σ.m ∧ σ'.H = del σ.H it) σ
  cls : ∀ rem o, I rem o → ∃ n, o.cls = .type n ∧ ownedTuple.contains n = false

theorem RepF.same (r : RepF base os L σ s) {a : Addr} {p o' : O} {h' : Heap} (e : σ.H a = some p) (ha : base.objs.size ≤ a) (x : At h' a o') (k : Heap.SameBut a s.heap h') (t : Nat) :
    RepF base os L ⟨σ.m, upd σ.H a o', σ.n⟩ { s with heap := h', toks := t } := r.turn e ha x (fun b c hb e => (k.2 b hb).trans e) t (Nat.le_of_eq k.1.symm)
theorem RepF.ended (r : RepF base os L σ s) (F : Full base) {it : Addr} {o : O} {h' : Heap} (e : σ.H it = some o) (hb : base.objs.size ≤ it) (he : Heap.ExtBut it s.heap h') (t : Nat) :
    RepF base os L ⟨σ.m, del σ.H it, h'.objs.size⟩ { s with heap := h', toks := t } :=
  r.ext F he hb (r.ne e) (fun a o e => del_sub e) (del_same _ _) t

-- a list
noncomputable def srcList (l : Addr) (vs : List V) : Src prog w base os (.ref l) vs (fun H => H l = some (.list vs)) where
  I rem o := o.cls = .type "list_iterator" ∧ ∃ i : Nat, o.data = .fields #[.ref l, .int i 0] ∧ rem = vs.drop i
  iter A L σ a hK e s r := by
    rw [er_ref] at e; subst e
    obtain ⟨xs, k, g, ex⟩ := r.at_ hK
    refine wpAny_pyIter_list ⟨_, g, rfl, k, rfl⟩ ?_
    exact ⟨_, r.push _ (o := .raw _) (Heap.get?_push_size _ rfl), _, _, rfl, r.1.le, ⟨rfl, 0, rfl, rfl⟩, rfl⟩
  self A L σ it o hI h s r := by
    obtain ⟨hc, i, hd, _⟩ := hI
    exact wpAny_pyIter_listiter (l := l) (i := i) ⟨_, r.at_ h, hc, hd⟩ ⟨σ, r, rfl, rfl⟩
  next A L σ it v rem o hI h hb hK s r := by
    refine Classical.byContradiction fun hneg3_ => ?_
    obtain ⟨hc, i, hd, hr⟩ := hI
    obtain ⟨xs, k, g, ex⟩ := r.at_ hK
    refine hneg3_ ?_
    have hv : vs[i]? = some v := by
      have := congrArg (·[0]?) hr
      simpa using this.symm
    have hrem : rem = vs.drop (i + 1) := by
      have := congrArg List.tail hr
      simpa using this
    rw [← ex, List.getElem?_map] at hv
    obtain ⟨a, ha, hea⟩ := Option.map_eq_some_iff.mp hv
    refine wpAny_pyNext_list_item (l := l) (i := i) ⟨_, r.at_ h, hc, hd⟩ ⟨_, g, rfl, k, rfl⟩ (x := a) (by simpa using ha) fun h' hit hs => ?_
    obtain ⟨o', ho', hc', hd'⟩ := hit
    exact ⟨_, r.same h hb (o' := .raw o') ho' hs s.toks, a, o', rfl, hea, ⟨hc', i + 1, by rw [hd'], hrem⟩, rfl⟩
  stop A L σ it o F hh hI h hb hK s r := by
    refine Classical.byContradiction fun hneg4_ => ?_
    obtain ⟨hc, i, hd, hr⟩ := hI
    obtain ⟨xs, k, g, ex⟩ := r.at_ hK
    refine hneg4_ ?_
    have hv : xs.toArray[i]? = none := by
      have : vs.length ≤ i := by
        have := congrArg List.length hr
        simp at this; lia
      rw [← ex, List.length_map] at this
      simpa using this
    refine wpAny_pyNext_list_end hh (l := l) (i := i) ⟨_, r.at_ h, hc, hd⟩ ⟨_, g, rfl, k, rfl⟩ hv fun h' he => ?_
    exact ⟨_, r.ended F h hb he s.toks, rfl, rfl, rfl⟩
  cls rem o hI := ⟨_, hI.1, by decide⟩

-- a range object
noncomputable def IsRng (H : HP) (r : Addr) (a b c : Int) : Prop := ∃ t u v, H r = some (.raw { cls := .type "range", dict := none, data := .fields #[.int a t, .int b u, .int c v], slots := #[] })
noncomputable def rngV (a c : Int) : Nat → List V
  | 0 => []
  | n + 1 => .int a :: rngV (a + c) c n
theorem rngV_get : ∀ (n i : Nat) (a c : Int), i < n → (rngV a c n)[i]? = some (.int (a + c * i))
  | 0, i, _, _, h => absurd h (Nat.not_lt_zero _)
  | n + 1, 0, a, c, _ => by simp [rngV]
  | n + 1, i + 1, a, c, h => by
    show (rngV (a + c) c n)[i]? = _
    rw [rngV_get n i (a + c) c (by lia)]
    congr 2
    rw [Int.natCast_succ, Int.mul_add]; lia
noncomputable def srcRange (x : Addr) (a b c : Int) (hs : Builtin.Range.small a b c = true) : Src prog w base os (.ref x) (rngV a c (Builtin.Range.rangeSize a b c).toNat) (fun H => IsRng H x a b c) where
  I rem o := ∃ (y : Int) (k : Nat), o = { cls := .type "range_iterator", dict := none, data := .fields #[rawInt y, rawInt (k : Int), rawInt c], slots := #[] } ∧ rem = rngV y c k
  iter A L σ v hK e s r := by
    rw [er_ref] at e; subst e
    obtain ⟨t, u, w', ho⟩ := hK
    have hpos : 0 ≤ Builtin.Range.rangeSize a b c := by
      unfold Builtin.Range.rangeSize
      split <;> split <;> first | lia | (have := Int.ediv_nonneg (a := b - a - 1) (b := c) (by lia) (by lia); lia) | (have := Int.ediv_nonneg (a := a - b - 1) (b := -c) (by lia) (by lia); lia)
    refine wpAny_pyIter_range (r.at_ ho) hs ?_
    refine ⟨_, r.push _ (o := .raw _) (Heap.get?_push_size _ rfl), _, _, rfl, r.1.le, ⟨a, (Builtin.Range.rangeSize a b c).toNat, ?_, rfl⟩, rfl⟩
    rw [Int.toNat_of_nonneg hpos]
  self A L σ it o hI h s r := by
    obtain ⟨y, k, rfl, _⟩ := hI
    exact wpAny_pyIter_rangeiter (r.at_ h) ⟨σ, r, rfl, rfl⟩
  next A L σ it v rem o hI h hb hK s r := by
    obtain ⟨y, k, rfl, hr⟩ := hI
    cases k with
    | zero => cases hr
    | succ k =>
      simp only [rngV, List.cons.injEq] at hr
      refine wpAny_pyNext_range_item (r.at_ h) (by lia) fun h' hit hk => ?_
      exact ⟨_, r.same h hb (o' := .raw _) hit hk _, _, _, rfl, hr.1.symm, ⟨y + c, k, by congr 6; lia, hr.2⟩, rfl⟩
  stop A L σ it o F hh hI h hb hK s r := by
    obtain ⟨y, k, rfl, hr⟩ := hI
    cases k with
    | succ k => cases hr
    | zero =>
      refine wpAny_pyNext_range_end hh (r.at_ h) (by lia) fun h' he => ?_
      exact ⟨_, r.ended F h hb he s.toks, rfl, rfl, rfl⟩
  cls rem o hI := by obtain ⟨y, k, rfl, _⟩ := hI; exact ⟨_, rfl, by decide⟩
-- a string
noncomputable def strIterT (x : Str) : String := if x.cps.all (· < 128) = true then "str_ascii_iterator" else "str_iterator"
noncomputable def srcStr (x : Str) : Src prog w base os (.str x) (x.cps.toList.map fun c => .str ⟨#[c]⟩) (fun _ => True) where
  I rem o := o.cls = .type (strIterT x) ∧ ∃ (i : Nat) (t : Tok), o.data = .fields #[.str x t, .int i 0] ∧ rem = (x.cps.toList.drop i).map fun c => .str ⟨#[c]⟩
  iter A L σ v hK e s r := by
    obtain ⟨t, rfl⟩ := er_str.mp e
    cases ha : x.cps.all (· < 128) with
    | true =>
      refine wpAny_pyIter_ascii ha ?_
      exact ⟨_, r.push _ (o := .raw _) (Heap.get?_push_size _ rfl), _, _, rfl, r.1.le, ⟨by unfold strIterT; rw [ha]; rfl, 0, t, rfl, rfl⟩, rfl⟩
    | false =>
      refine wpAny_pyIter_wide ha ?_
      exact ⟨_, r.push _ (o := .raw _) (Heap.get?_push_size _ rfl), _, _, rfl, r.1.le, ⟨by unfold strIterT; rw [ha]; rfl, 0, t, rfl, rfl⟩, rfl⟩
  self A L σ it o hI h s r := by
    refine Classical.byContradiction fun hneg5_ => ?_
    obtain ⟨hc, i, t, hd, _⟩ := hI
    refine hneg5_ ?_
    cases ha : x.cps.all (· < 128) with
    | true =>
      rw [show strIterT x = "str_ascii_iterator" by unfold strIterT; rw [ha]; rfl] at hc
      exact wpAny_pyIter_striter_ascii (x := x) (t := t) (i := i) ⟨_, r.at_ h, hc, hd⟩ ⟨σ, r, rfl, rfl⟩
    | false =>
      rw [show strIterT x = "str_iterator" by unfold strIterT; rw [ha]; rfl] at hc
      exact wpAny_pyIter_striter_wide (x := x) (t := t) (i := i) ⟨_, r.at_ h, hc, hd⟩ ⟨σ, r, rfl, rfl⟩
  next A L σ it v rem o hI h hb hK s r := by
    refine Classical.byContradiction fun hneg6_ => ?_
    obtain ⟨hc, i, t, hd, hr⟩ := hI
    refine hneg6_ ?_
    cases hdr : x.cps.toList.drop i with
    | nil => rw [hdr] at hr; cases hr
    | cons c rest =>
      rw [hdr] at hr
      simp only [List.map_cons, List.cons.injEq] at hr
      have hx : x.cps[i]? = some c := by
        have := congrArg (·[0]?) hdr
        simpa using this
      have hrest : rest = x.cps.toList.drop (i + 1) := by
        have := congrArg List.tail hdr
        simpa using this.symm
      cases ha : x.cps.all (· < 128) with
      | true =>
        have hT : strIterT x = "str_ascii_iterator" := by unfold strIterT; rw [ha]; rfl
        rw [hT] at hc
        refine wpAny_pyNext_ascii_item (x := x) (t := t) (i := i) ⟨_, r.at_ h, hc, hd⟩ hx fun h' hit hs => ?_
        obtain ⟨o', ho', hc', hd'⟩ := hit
        exact ⟨_, r.same h hb (o' := .raw o') ho' hs _, _, o', rfl, hr.1.symm, ⟨by rw [hT]; exact hc', i + 1, t, by rw [hd'], by rw [hr.2, hrest]⟩, rfl⟩
      | false =>
        have hT : strIterT x = "str_iterator" := by unfold strIterT; rw [ha]; rfl
        rw [hT] at hc
        refine wpAny_pyNext_wide_item (x := x) (t := t) (i := i) ⟨_, r.at_ h, hc, hd⟩ hx fun h' hit hs => ?_
        obtain ⟨o', ho', hc', hd'⟩ := hit
        exact ⟨_, r.same h hb (o' := .raw o') ho' hs _, _, o', rfl, hr.1.symm, ⟨by rw [hT]; exact hc', i + 1, t, by rw [hd'], by rw [hr.2, hrest]⟩, rfl⟩
  stop A L σ it o F hh hI h hb hK s r := by
    refine Classical.byContradiction fun hneg7_ => ?_
    obtain ⟨hc, i, t, hd, hr⟩ := hI
    refine hneg7_ ?_
    have hx : x.cps[i]? = none := by
      have : x.cps.toList.length ≤ i := by
        have := congrArg List.length hr
        simp at this; simp; lia
      simpa using this
    cases ha : x.cps.all (· < 128) with
    | true =>
      have hT : strIterT x = "str_ascii_iterator" := by unfold strIterT; rw [ha]; rfl
      rw [hT] at hc
      refine wpAny_pyNext_ascii_end (x := x) (t := t) (i := i) hh ⟨_, r.at_ h, hc, hd⟩ hx fun h' he => ?_
      exact ⟨_, r.ended F h hb he s.toks, rfl, rfl, rfl⟩
    | false =>
      have hT : strIterT x = "str_iterator" := by unfold strIterT; rw [ha]; rfl
      rw [hT] at hc
      refine wpAny_pyNext_wide_end (x := x) (t := t) (i := i) hh ⟨_, r.at_ h, hc, hd⟩ hx fun h' he => ?_
      exact ⟨_, r.ended F h hb he s.toks, rfl, rfl, rfl⟩
  cls rem o hI := ⟨_, hI.1, by unfold strIterT; split <;> decide⟩

theorem W_letGo {target : Expr} {it : Addr} {o : Obj} {v : Value} {Q : Unit → St → Prop} {c : String} (ho : σ.H it = some (.raw o)) (hc : o.cls = .type c) (hn : ownedTuple.contains c = false) (h : Q () σ) :
    W prog w base os A L (letOwnedTupleGo target (.ref it) v) Q σ := fun s r => by
  have key : ∀ b : Addr, wpAny (model prog w) A (do
      let o ← load it
      match o.cls, o.data with
      | .type n, .fields vs => if ownedTuple.contains n && vs[0]? == some (rawInt b) then do rule "for.unpacks-the-owned-tuple"; updateField it 0 .none
      | _, _ => pure ()) (fun a s' => ∃ σ', RepF base os L σ' s' ∧ Q a σ') (fun _ _ => False) s := fun b => by
    refine wpAny_bind (wpAny_load (r.at_ ho) ?_)
    rw [hc]
    cases o.data <;> first | exact wpAny_pure ⟨σ, r, h⟩ | skip
    dsimp only
    rw [hn, Bool.false_and, if_neg (by decide)]
    exact wpAny_pure ⟨σ, r, h⟩
  cases target <;> first
    | exact wpAny_pure ⟨σ, r, h⟩
    | (cases v <;> first | exact wpAny_pure ⟨σ, r, h⟩ | exact key _)
-- what a loop's turns are
noncomputable def Turns (prog : Program) (w : World) (base : Heap) (os : OsState) (A : Around) (L : Addr) (env : Env) (K : HP → Prop) (it : Addr) (J : List V → St → Prop) (turn : V → (Flow → St → Prop) → St → Prop) (R : Flow → St → Prop) : Prop :=
  (∀ rem σ o, J rem σ → σ.H it = some (.raw o) → K σ.H ∧ ∀ o', J rem ⟨σ.m, upd σ.H it (.raw o'), σ.n⟩) ∧
  (∀ v rem σ o, J (v :: rem) σ → σ.H it = some (.raw o) → turn v (fun f σ' => match f with
      | .next | .cont => σ'.H it = some (.raw o) ∧ J rem σ'
      | .brk => R .next σ'
      | .ret u => R (.ret u) σ') σ) ∧
  ∀ σ n' o, J [] σ → σ.H it = some (.raw o) → R .next ⟨σ.m, del σ.H it, n'⟩

theorem WS_For {target iter : Expr} {body : List Stmt} {pos : Pos} (F : Full base) (hh : A.handled = none)
    (h : WV prog w base os A L (eval iter env) (fun x σ₁ => ∃ vs K, Nonempty (Src prog w base os x vs K) ∧ K σ₁.H ∧ ∀ it, σ₁.n ≤ it → base.objs.size ≤ it → ∃ J : List V → St → Prop,
      (∀ o, J vs ⟨σ₁.m, upd σ₁.H it (.raw o), it + 1⟩) ∧ Turns prog w base os A L env K it J (fun v R' => WA prog w base os A L env target v (fun _ => WS prog w base os A L body env R')) R) σ)
    (hs : ∀ x, foldedSetIterable iter env x = pure x) : W prog w base os A L (exec (.For target iter body [] pos) env) R σ := fun s r => by
  refine wpAny_For (W.run h r (fun x s₁ σ₁ r₁ hx2_ => ?_)) hs
  obtain ⟨vs, K, ⟨S⟩, hK, hT⟩ := hx2_
  refine W.run (S.iter A L σ₁ x hK rfl) r₁ (fun itv s₂ σ₂ r₂ hx3_ => ?_)
  obtain ⟨it, o, e, hn, hI, e₂⟩ := hx3_
  refine Classical.byContradiction fun hneg8_ => ?_
  subst e e₂
  obtain ⟨J, hJ, hst, hturn, hend⟩ := hT it hn (Nat.le_trans r₁.1.base_le hn)
  refine hneg8_ ?_
  have hb : base.objs.size ≤ it := Nat.le_trans r₁.1.base_le hn
  refine codeAny_forLoop_any (fun k s => ∃ σ rem o, RepF base os L σ s ∧ k = rem.length ∧ S.I rem o ∧ σ.H it = some (.raw o) ∧ J rem σ) (fun k s hx4_ => ?_) vs.length ⟨_, vs, o, r₂, rfl, hI, upd_same _ _ _, hJ o⟩
  obtain ⟨σ, rem, o, r, hk, hI, ho, hJ⟩ := hx4_
  have hK' := hst rem σ o hJ ho
  cases rem with
  | nil =>
    refine W.run (S.stop A L σ it o F hh hI ho hb hK'.1) r (fun a s' σ' r' hx5_ => ?_)
    obtain ⟨e1, e2, e3⟩ := hx5_
    refine Classical.byContradiction fun hneg9_ => ?_
    subst e1
    obtain ⟨m', H', n'⟩ := σ'
    simp only at e2 e3
    subst e2 e3
    refine hneg9_ ?_
    exact wpAny_execs_nil ⟨_, r', hend σ n' o hJ ho⟩
  | cons v rem =>
    refine W.run (S.next A L σ it v rem o hI ho hb hK'.1) r (fun a s' σ' r' hx6_ => ?_)
    obtain ⟨a', o', e1, e2, hI', e3⟩ := hx6_
    refine Classical.byContradiction fun hneg10_ => ?_
    subst e1 e3
    obtain ⟨c, hc1, hc2⟩ := S.cls _ _ hI'
    refine hneg10_ ?_
    refine W.run (W_letGo (Q := fun _ σ'' => σ'' = ⟨σ.m, upd σ.H it (.raw o'), σ.n⟩) (upd_same σ.H it _) hc1 hc2 rfl) r' (fun _ s₃ σ₃ r₃ e₃ => ?_)
    subst e₃
    have ht := hturn v rem ⟨σ.m, upd σ.H it (.raw o'), σ.n⟩ o' (hK'.2 o') (upd_same _ _ _) a' e2 s₃ r₃
    refine wpAny_mono ht (fun _ s₄ ⟨σ₄, r₄, h₄⟩ => W.run h₄ r₄ (fun f s₅ σ₅ r₅ h₅ => ?_)) fun _ _ x => x.elim
    cases f with
    | next => exact ⟨rem.length, by rw [hk]; exact Nat.lt_succ_self _, σ₅, rem, o', r₅, rfl, hI', h₅.1, h₅.2⟩
    | cont => exact ⟨rem.length, by rw [hk]; exact Nat.lt_succ_self _, σ₅, rem, o', r₅, rfl, hI', h₅.1, h₅.2⟩
    | brk => exact ⟨σ₅, r₅, h₅⟩
    | ret u => exact ⟨σ₅, r₅, h₅⟩
end
section
set_option maxRecDepth 100000
set_option linter.unusedVariables false
variable {base : Heap} {os : OsState} {H H' : HP} {n n' : Nat} {s s' : Shared} {prog : Program} {w : World} {A : Around} {L : Addr} {σ : St} {m : Loc} {env : Env} {Q : V → St → Prop} {R : Flow → St → Prop}

noncomputable def Sub (H H' : HP) : Prop := ∀ a o, H a = some o → H' a = some o
theorem Sub.refl (H : HP) : Sub H H := fun _ _ e => e
theorem Sub.trans {H₁ H₂ H₃ : HP} (h : Sub H₁ H₂) (h' : Sub H₂ H₃) : Sub H₁ H₃ := fun a o e => h' a o (h a o e)
theorem Sub.upd_new {H : HP} {a : Addr} {o : O} (h : H a = none) : Sub H (upd H a o) := fun b p e => (upd_ne (by rintro rfl; rw [h] at e; cases e)).trans e

-- the same state seen from another frame
theorem RepF.switch {C : Addr} {mL : Loc} (r : RepF base os C σ s) (h : σ.H L = some (.ns mL)) (hb : base.objs.size ≤ L) : RepF base os L ⟨mL, del (upd σ.H C (.ns σ.m)) L, σ.n⟩ s := by
  refine ⟨?_, del_same _ _, hb⟩
  have hne : L ≠ C := by rintro rfl; rw [r.2.1] at h; cases h
  have e : upd (del (upd σ.H C (.ns σ.m)) L) L (.ns mL) = upd σ.H C (.ns σ.m) := by
    funext b
    by_cases hbL : b = L
    · subst hbL; rw [upd_same, upd_ne hne]; exact h.symm
    · rw [upd_ne hbL, del_ne hbL]
  show Rep base os (upd (del (upd σ.H C (.ns σ.m)) L) L (.ns mL)) σ.n s
  rw [e]; exact r.1

-- what stands in a row: a value, or a tuple of values
inductive Y where
  | val (v : V)
  | tup (vs : List V)
noncomputable def Y.at (H : HP) (y : V) : Y → Prop
  | .val v => y = v
  | .tup vs => ∃ a, y = .ref a ∧ H a = some (.tup vs)
theorem Y.at.mono {H H' : HP} {y : V} (k : ∀ a vs, H a = some (.tup vs) → H' a = some (.tup vs)) : ∀ {Z : Y}, Z.at H y → Z.at H' y
  | .val _, h => h
  | .tup _, ⟨a, e, h⟩ => ⟨a, e, k _ _ h⟩
inductive All (H : HP) : List Y → List V → Prop
  | nil : All H [] []
  | cons {Z y Zs ys} : Y.at H y Z → All H Zs ys → All H (Z :: Zs) (y :: ys)
theorem All.mono {H H' : HP} (k : ∀ a vs, H a = some (.tup vs) → H' a = some (.tup vs)) {Zs ys} (h : All H Zs ys) : All H' Zs ys := by
  induction h with
  | nil => exact .nil
  | cons h _ ih => exact .cons (h.mono k) ih
theorem All.snoc {H : HP} {Zs ys Z y} (h : All H Zs ys) (h' : Y.at H y Z) : All H (Zs ++ [Z]) (ys ++ [y]) := by
  induction h with
  | nil => exact .cons h' .nil
  | cons h _ ih => exact .cons h ih
theorem All.append {H : HP} {Zs ys Zs' ys'} (h : All H Zs ys) (h' : All H Zs' ys') : All H (Zs ++ Zs') (ys ++ ys') := by
  induction h with
  | nil => exact h'
  | cons h _ ih => exact .cons h ih
theorem All.len {H : HP} {Zs ys} (h : All H Zs ys) : ys.length = Zs.length := by
  induction h with
  | nil => rfl
  | cons _ _ ih => exact congrArg (· + 1) ih
theorem All.vals {H : HP} {vs : List V} : ∀ {ys : List V}, All H (vs.map Y.val) ys → ys = vs := by
  induction vs with
  | nil => intro ys h; cases h; rfl
  | cons v vs ih =>
    intro ys h
    cases h with
    | cons h r => rw [show _ = v from h, ih r]

-- a comprehension's tests
noncomputable def WIfs (prog : Program) (w : World) (base : Heap) (os : OsState) (A : Around) (L : Addr) (env : Env) : List Expr → (Bool → St → Prop) → St → Prop
  | [], Q, σ => Q true σ
  | [c], Q, σ => WI prog w base os A L c env Q σ
  | _, _, _ => False
theorem WIfs.sound {ifs : List Expr} {Q : Bool → St → Prop} (h : WIfs prog w base os A L env ifs Q σ) :
    W prog w base os A L (forIn ifs true fun c r => if r = true then do let ok ← isTrue c env (eval c env); pure (ForInStep.yield ok) else pure (ForInStep.yield r)) Q σ := fun s r => by
  match ifs, h with
  | [], h => exact wpAny_tests_nil ⟨σ, r, h⟩
  | [c], h => exact wpAny_tests_one (h s r)

-- one turn: of item v; nothing, or one more item
noncomputable def CTurn (prog : Program) (w : World) (base : Heap) (os : OsState) (A : Around) (C : Addr) (cenv : Env) (target elt : Expr) (ifs : List Expr) (v : V) (Z : Option Y) (σ : St) : Prop :=
  WA prog w base os A C cenv target v (fun _ => WIfs prog w base os A C cenv ifs (fun ok σ' => match Z with
    | none => ok = false ∧ Sub σ.H σ'.H
    | some Z => ok = true ∧ WV prog w base os A C (eval elt cenv) (fun y σ'' => Z.at σ''.H y ∧ Sub σ.H σ''.H) σ')) σ


theorem Src.selfAny {x : V} {vs : List V} {K : HP → Prop} (S : Src prog w base os x vs K) {it : Addr} {o : Obj} (hI : S.I vs o) (hi : σ.H it = some (.raw o)) {P : Value → Shared → Prop} (r : RepF base os L σ s)
    {E : Value → Shared → Prop} (h : ∀ s', RepF base os L σ s' → P (.ref it) s') : wpAny (model prog w) A (pyIter (.ref it)) P E s :=
  wpAny_mono (S.self A L σ it o hI hi s r) (fun a s' ⟨σ', r', e1, e2⟩ => by subst e1 e2; exact h s' r') fun _ _ x => x.elim
/-! Comprehensions told by what their turns keep; of one clause or of two. -/
-- a clause's turn, whatever is done with its item
noncomputable def clauseTurn (target : Expr) (ifs : List Expr) (p : Pos) (e : Expr) (d : Nat) (it acc : Value) (cenv : Env) (bodyK : Sem PySem.Fin → Sem PySem.Fin) : Sem PySem.Fin := do
  standAt p
  match ← pyNext it with
  | none => pure (.done .next)
  | some v =>
    letOwnedTupleGo target it v
    assign target cenv v
    let mut ok := true
    for c in ifs do
      if ok then ok ← isTrue c cenv (eval c cenv)
    if ok then bodyK (again (.compLoop e d it acc cenv)) else again (.compLoop e d it acc cenv)
-- the last clause's: one item more
noncomputable def emitOne (elt : Expr) (acc : Value) (cenv : Env) : Sem Unit := do let _ ← call (.builtin "list.append") [acc, ← eval elt cenv]
theorem turn_1 (elt target iter : Expr) (ifs : List Expr) (scope : Scope) (pos : Pos) (it acc : Value) (env : Env) :
    compTurn (.ListComp elt [⟨target, iter, ifs, 0⟩] scope pos) 0 it acc env = clauseTurn target ifs iter.pos (.ListComp elt [⟨target, iter, ifs, 0⟩] scope pos) 0 it acc env (fun k => emitOne elt acc env >>= fun _ => k) := by rfl
-- what a clause's turns keep
noncomputable def Clause (prog : Program) (w : World) (base : Heap) (os : OsState) (A : Around) (C : Addr) (cenv : Env) (K : HP → Prop) (it : Addr) (J : List V → St → Prop) (target : Expr) (ifs : List Expr)
    (body : (St → Prop) → St → Prop) (R : St → Prop) : Prop :=
  (∀ rem σ o, J rem σ → σ.H it = some (.raw o) → K σ.H ∧ ∀ o', J rem ⟨σ.m, upd σ.H it (.raw o'), σ.n⟩) ∧
  (∀ v rem σ o, J (v :: rem) σ → σ.H it = some (.raw o) → WA prog w base os A C cenv target v (fun _ => WIfs prog w base os A C cenv ifs (fun ok σ' =>
    if ok = true then body (fun σ'' => σ''.H it = some (.raw o) ∧ J rem σ'') σ' else σ'.H it = some (.raw o) ∧ J rem σ')) σ) ∧
  ∀ σ n' o, J [] σ → σ.H it = some (.raw o) → R ⟨σ.m, del σ.H it, n'⟩

theorem clause_loop {target elt : Expr} {gens : List Comprehension} {ifs : List Expr} {scope : Scope} {pos pp : Pos} {it C : Addr} {d : Nat} {acc : Value} {cenv : Env} {x : V} {vs : List V} {K : HP → Prop} {body : (St → Prop) → St → Prop} {bodyK : Sem PySem.Fin → Sem PySem.Fin} (F : Full base) (hh : A.handled = none)
    (S : Src prog w base os x vs K) (hb : base.objs.size ≤ it)
    (hbody : ∀ (k : Sem PySem.Fin) (Q : St → Prop) (QQ : PySem.Fin → Shared → Prop) (EE : Value → Shared → Prop) (σ : St), body Q σ → (∀ σ' s', RepF base os C σ' s' → Q σ' → wpAny (model prog w) A k QQ EE s') → ∀ s, RepF base os C σ s → wpAny (model prog w) A (bodyK k) QQ EE s)
    (heq : compTurn (.ListComp elt gens scope pos) d (.ref it) acc cenv = clauseTurn target ifs pp (.ListComp elt gens scope pos) d (.ref it) acc cenv bodyK)
    {J : List V → St → Prop} {R : St → Prop} (h : Clause prog w base os A C cenv K it J target ifs body R)
    {o : Obj} (r : RepF base os C σ s) (hI : S.I vs o) (hi : σ.H it = some (.raw o)) (hJ : J vs σ) :
    codeAny (model prog w) A (.compLoop (.ListComp elt gens scope pos) d (.ref it) acc cenv) (fun q s' => q = .ok .next ∧ ∃ σ', RepF base os C σ' s' ∧ R σ') s := by
  obtain ⟨hst, hturn, hend⟩ := h
  refine codeAny_loop rfl (fun k s => ∃ σ rem o, RepF base os C σ s ∧ k = rem.length ∧ S.I rem o ∧ σ.H it = some (.raw o) ∧ J rem σ) (fun k s hx1_ => ?_) vs.length ⟨σ, vs, o, r, rfl, hI, hi, hJ⟩
  obtain ⟨σ, rem, o, r, hk, hI, hi, hJ⟩ := hx1_
  show wpAny _ A ((compTurn (.ListComp elt gens scope pos) d (.ref it) acc cenv).onRaise (fun x => do noteFrame x cenv; theTreesLotGoes x)) _ _ s
  refine wpAny_noted ?_
  rw [heq]
  unfold clauseTurn
  refine wpAny_bind (wpAny_standAt (wpAny_bind ?_))
  have hK := hst rem σ o hJ hi
  cases rem with
  | nil =>
    refine W.run (S.stop A C σ it o F hh hI hi hb hK.1) r (fun a s' σ' r' hx2_ => ?_)
    obtain ⟨e1, e2, e3⟩ := hx2_
    refine Classical.byContradiction fun hneg1_ => ?_
    subst e1
    obtain ⟨m', H', n'⟩ := σ'
    simp only at e2 e3
    subst e2 e3
    refine hneg1_ ?_
    exact wpAny_pure ⟨rfl, _, r', hend σ n' o hJ hi⟩
  | cons v rem =>
    refine W.run (S.next A C σ it v rem o hI hi hb hK.1) r (fun a s' σ' r' hx3_ => ?_)
    obtain ⟨a', o', e1, e2, hI', e3⟩ := hx3_
    refine Classical.byContradiction fun hneg2_ => ?_
    subst e1 e3
    obtain ⟨c, hc1, hc2⟩ := S.cls _ _ hI'
    refine hneg2_ ?_
    refine wpAny_bind (W.run (W_letGo (Q := fun _ σ'' => σ'' = ⟨σ.m, upd σ.H it (.raw o'), σ.n⟩) (upd_same σ.H it _) hc1 hc2 rfl) r' (fun _ s₃ σ₃ r₃ e₃ => ?_))
    subst e₃
    have ht := hturn v rem ⟨σ.m, upd σ.H it (.raw o'), σ.n⟩ o' (hK.2 o') (upd_same _ _ _) a' e2 s₃ r₃
    refine wpAny_bind (wpAny_mono ht (fun _ s₄ hx4_ => ?_) fun _ _ x => x.elim)
    obtain ⟨σ₄, r₄, h₄⟩ := hx4_
    refine wpAny_bind (W.run (WIfs.sound h₄) r₄ (fun ok s₅ σ₅ r₅ h₅ => ?_))
    cases ok with
    | false =>
      simp only [Bool.false_eq_true, if_false] at h₅ ⊢
      exact wpAny_pure ⟨rfl, rem.length, by rw [hk]; exact Nat.lt_succ_self _, σ₅, rem, o', r₅, rfl, hI', h₅.1, h₅.2⟩
    | true =>
      simp only [if_true] at h₅ ⊢
      refine hbody _ _ _ _ _ h₅ (fun σ₆ s₆ r₆ h₆ => ?_) s₅ r₅
      exact wpAny_pure ⟨rfl, rem.length, by rw [hk]; exact Nat.lt_succ_self _, σ₆, rem, o', r₆, rfl, hI', h₆.1, h₆.2⟩

-- one item more
noncomputable def Emit (prog : Program) (w : World) (base : Heap) (os : OsState) (A : Around) (C : Addr) (cenv : Env) (elt : Expr) (D : Addr) (Q : St → Prop) (σ : St) : Prop :=
  WV prog w base os A C (eval elt cenv) (fun y σ' => ∃ ys, σ'.H D = some (.list ys) ∧ base.objs.size ≤ D ∧ ys.length ≤ sizeLine ∧ Q ⟨σ'.m, upd σ'.H D (.list (ys ++ [y])), σ'.n⟩) σ
theorem emit_one {elt : Expr} {D C : Addr} {cenv : Env} (k : Sem PySem.Fin) (Q : St → Prop) (QQ : PySem.Fin → Shared → Prop) (EE : Value → Shared → Prop) (σ : St) (h : Emit prog w base os A C cenv elt D Q σ)
    (hk : ∀ σ' s', RepF base os C σ' s' → Q σ' → wpAny (model prog w) A k QQ EE s') (s : Shared) (r : RepF base os C σ s) : wpAny (model prog w) A (emitOne elt (.ref D) cenv >>= fun _ => k) QQ EE s := by
  unfold emitOne
  refine wpAny_bind (wpAny_bind (W.run h r (fun y s₆ σ₆ r₆ hx6_ => ?_)))
  obtain ⟨ys, hD, hb, hl, hq⟩ := hx6_
  have app := WCall_append (prog := prog) (w := w) (base := base) (os := os) (A := A) (L := C) (σ := σ₆) (a := D) (vs := ys) (v := er y) (Q := fun _ σ' => σ' = ⟨σ₆.m, upd σ₆.H D (.list (ys ++ [er y])), σ₆.n⟩) hD hb hl rfl
    (.builtin "list.append") [.ref D, y] [] rfl rfl rfl s₆ r₆
  refine wpAny_bind (wpAny_mono app (fun _ s₇ hx7_ => ?_) fun _ _ x => x.elim)
  obtain ⟨σ₇, r₇, h₇⟩ := hx7_
  subst h₇
  exact wpAny_pure (hk _ _ r₇ hq)

theorem cellsFrom_nil : ∀ (names : List (Str × NameKind)) (n : Nat) (acc : List (Str × Addr)) (h : Heap), names.filter (fun y => y.2 == .cell) = [] → cellsFrom n names acc = acc ∧ pushCells h names = h
  | [], _, _, _, _ => ⟨rfl, rfl⟩
  | (x, k) :: r, n, acc, h, e => by
    unfold cellsFrom pushCells
    rw [List.filter_cons] at e
    cases hk : (k == NameKind.cell) with
    | true => simp [hk] at e
    | false =>
      simp only [hk, Bool.false_eq_true, if_false] at e ⊢
      exact cellsFrom_nil r n acc h e

theorem cellsFrom_one {nm : Str} : ∀ (names : List (Str × NameKind)) (n : Nat) (acc : List (Str × Addr)) (h : Heap), names.filter (fun y => y.2 == .cell) = [(nm, .cell)] →
    cellsFrom n names acc = (nm, n) :: acc ∧ pushCells h names = h.push { cls := .type "cell", data := .cell none }
  | [], _, _, _, e => by simp at e
  | (x, k) :: r, n, acc, h, e => by
    unfold cellsFrom pushCells
    rw [List.filter_cons] at e
    cases hk : (k == NameKind.cell) with
    | true =>
      simp only [hk, if_true] at e ⊢
      obtain ⟨e1, e2⟩ := List.cons.inj e
      cases e1
      exact cellsFrom_nil r _ _ _ e2
    | false =>
      simp only [hk, Bool.false_eq_true, if_false] at e ⊢
      exact cellsFrom_one r n acc h e


/-! a comprehension's own names: no cell, or one -/
noncomputable def ce (nm : Option Str) (C : Addr) : List (Str × Addr) := match nm with | none => [] | some x => [(x, C + 1)]
noncomputable def cellH (nm : Option Str) (C : Addr) (H : HP) : HP := match nm with | none => H | some _ => upd H (C + 1) (.cell none)
noncomputable def ownCells (nm : Option Str) : List (Str × NameKind) := match nm with | none => [] | some x => [(x, .cell)]
theorem wpAny_compEnv {M : Model} {E : Value → Shared → Prop} {scope : Scope} {globals : Addr} {closure : List (Str × Addr)} {qual : Str} {outer : Env} {nm : Option Str} {QQ : Env → Shared → Prop}
    (hc : scope.names.filter (fun y => y.2 == .cell) = ownCells nm)
    (hQ : ∀ h', h'.Ns s.heap.objs.size (fun _ => none) → Heap.SameBut s.heap.objs.size (s.heap.push { cls := .type "dict", data := .dict #[] }) h' →
      QQ { scope, locals := s.heap.objs.size, globals, cells := ce nm s.heap.objs.size ++ closure, qual, func := none, code := outer.code, frame := outer.frame, builtins := outer.builtins }
        { s with heap := (match nm with | none => h' | some _ => h'.push { cls := .type "cell", data := .cell none }) }) :
    wpAny M A (newFunctionEnv scope globals closure [] qual none .none (some outer)) QQ E s := by
  simp only [newFunctionEnv, Option.isSome_some, if_true]
  refine wpAny_bind (wpAny_alloc ?_)
  refine wpAny_bind (wpAny_layCells _ (fun name kind cells => by cases hkc : kind == NameKind.cell <;> simp [hkc]) _ _ _ _ ?_)
  have hh := hQ _ (Heap.Ns.new s.heap (.type "dict")) (Heap.SameBut.refl ..)
  cases nm with
  | none =>
    obtain ⟨e1, e2⟩ := cellsFrom_nil scope.names (s.heap.objs.size + 1) closure (s.heap.push { cls := .type "dict", data := .dict #[] }) hc
    rw [show ({ s with heap := s.heap.push { cls := .type "dict", data := .dict #[] } } : Shared).heap.objs.size = s.heap.objs.size + 1 from Heap.size_push ..]
    dsimp only
    rw [e1, e2]
    refine wpAny_bind ?_
    rw [List.forIn_nil]
    exact wpAny_pure (wpAny_pure hh)
  | some x =>
    obtain ⟨e1, e2⟩ := cellsFrom_one scope.names (s.heap.objs.size + 1) closure (s.heap.push { cls := .type "dict", data := .dict #[] }) hc
    rw [show ({ s with heap := s.heap.push { cls := .type "dict", data := .dict #[] } } : Shared).heap.objs.size = s.heap.objs.size + 1 from Heap.size_push ..]
    dsimp only
    rw [e1, e2]
    refine wpAny_bind ?_
    rw [List.forIn_nil]
    exact wpAny_pure (wpAny_pure hh)

-- how a comprehension begins
structure CompAt (L : Addr) (σ σ₀ : St) (nm : Option Str) (it D C : Addr) : Prop where
  hit : σ.n ≤ it
  hD : it < D
  hC : D < C
  it0 : upd σ.H L (.ns σ.m) it = none
  D0 : upd σ.H L (.ns σ.m) D = none
  X0 : upd σ.H L (.ns σ.m) (C + 1) = none
  sub : Sub (upd σ.H L (.ns σ.m)) σ₀.H
  list : σ₀.H D = some (.list [])
  cell : ∀ x, nm = some x → σ₀.H (C + 1) = some (.cell none)

theorem comp_core {nm : Option Str} {elt target iter : Expr} {ifs : List Expr} {rest : List Comprehension} {scope : Scope} {cl : List (Str × Addr)} {pos : Pos} {x : V} {vs : List V} {K : HP → Prop}
    {body : Addr → Addr → (St → Prop) → St → Prop} {bodyK : Value → Env → Sem PySem.Fin → Sem PySem.Fin} (F : Full base) (hh : A.handled = none) {RR : Value → Addr → Result → Shared → Prop} {xv : Value}
    (hcell : scope.names.filter (fun y => y.2 == .cell) = ownCells nm)
    (heq : ∀ it acc cenv, compTurn (.ListComp elt (⟨target, iter, ifs, 0⟩ :: rest) scope pos) 0 it acc cenv = clauseTurn target ifs iter.pos (.ListComp elt (⟨target, iter, ifs, 0⟩ :: rest) scope pos) 0 it acc cenv (bodyK acc cenv))
    (hbody : ∀ (D C : Addr) (k : Sem PySem.Fin) (Q : St → Prop) (QQ : PySem.Fin → Shared → Prop) (EE : Value → Shared → Prop) (σ : St), body D C Q σ →
      (∀ σ' s', RepF base os C σ' s' → Q σ' → wpAny (model prog w) A k QQ EE s') → ∀ s, RepF base os C σ s → wpAny (model prog w) A (bodyK (.ref D) (compEnvC scope (ce nm C ++ cl) C env) k) QQ EE s)
    (r : RepF base os L σ s) (ex : er xv = x) (S : Src prog w base os x vs K) (hK : K σ.H) (J : Addr → Addr → Addr → List V → St → Prop) (R : Addr → Addr → Addr → St → Prop)
    (h : ∀ it D C σ₀, base.objs.size ≤ it → C ≠ L → CompAt L σ σ₀ nm it D C → J it D C vs σ₀ ∧ Clause prog w base os A C (compEnvC scope (ce nm C ++ cl) C env) K it (J it D C) target ifs (body D C) (R it D C) ∧
      ∀ σ' s', RepF base os C σ' s' → R it D C σ' → RR (.ref D) C (.ok .next) s') :
    wpAny (model prog w) A (pyIter xv) (fun itv s₂ => wpAny (model prog w) A (newList []) (fun acc s₃ => wpAny (model prog w) A (newFunctionEnv scope env.globals cl [] env.qual none .none (some env)) (fun cenv s₄ =>
      codeAny (model prog w) A (.compStart (.ListComp elt (⟨target, iter, ifs, 0⟩ :: rest) scope pos) 0 itv acc { cenv with scope := relabel scope env }) (RR acc cenv.locals) s₄) (fun _ _ => False) s₃) (fun _ _ => False) s₂) (fun _ _ => False) s := by
  refine wpAny_mono (S.iter A L σ xv hK ex s r) (fun itv s₂ hx => ?_) fun _ _ x => x
  refine Classical.byContradiction fun hneg4_ => ?_
  obtain ⟨σ₂, r₂, it, o, e, hn, hI, e₂⟩ := hx
  subst e e₂
  refine hneg4_ ?_
  have hbi : base.objs.size ≤ it := Nat.le_trans r.1.base_le hn
  have free : ∀ a, σ.n ≤ a → upd σ.H L (.ns σ.m) a = none := fun a ha => by
    rw [upd_ne (Nat.ne_of_gt (Nat.lt_of_lt_of_le r.Llt ha))]
    cases q : σ.H a with
    | none => rfl
    | some o' => exact absurd (Nat.lt_of_lt_of_le (r.lt q) ha) (Nat.lt_irrefl _)
  refine wpAny_newList ?_ (Nat.zero_le _)
  have r₃ := r₂.push { cls := .type "list", data := .seq ([] : List Value).toArray } (o := .list ([].map er)) ⟨[], _, Heap.get?_push_size _ rfl, rfl⟩
  have hitD : it < s₂.heap.objs.size := r₂.1.le
  generalize hD : s₂.heap.objs.size = D at r₃ hitD
  have hDn : σ.n ≤ D := Nat.le_trans hn (Nat.le_of_lt hitD)
  refine wpAny_compEnv hcell (fun h₁ hns₁ hsb₁ => ?_)
  generalize hs₃ : ({ s₂ with heap := s₂.heap.push { cls := .type "list", data := .seq ([] : List Value).toArray } } : Shared) = s₃ at *
  have hCD : D < s₃.heap.objs.size := r₃.1.le
  generalize hC : s₃.heap.objs.size = C at *
  have hCn : σ.n ≤ C := Nat.le_trans hDn (Nat.le_of_lt hCD)
  have hCL : C ≠ L := Nat.ne_of_gt (Nat.lt_of_lt_of_le r.Llt hCn)
  have htells := r₃.1.tells
  have eH : upd (upd (upd σ.H it (.raw o)) D (.list ([].map er))) L (.ns σ.m) = upd (upd (upd σ.H L (.ns σ.m)) it (.raw o)) D (.list []) := by
    rw [upd_comm (Nat.ne_of_gt (Nat.lt_of_lt_of_le r.Llt hDn)), upd_comm (Nat.ne_of_gt (Nat.lt_of_lt_of_le r.Llt hn))]; rfl
  have rC : RepF base os C ⟨fun y => none, upd (upd (upd σ.H L (.ns σ.m)) it (.raw o)) D (.list []), C + 1⟩ { s₃ with heap := h₁ } := by
    rw [← eH]
    have hnone : upd (upd (upd σ.H it (.raw o)) D (.list ([].map er))) L (.ns σ.m) C = none := by
      cases q : upd (upd (upd σ.H it (.raw o)) D (.list ([].map er))) L (.ns σ.m) C with
      | none => rfl
      | some o' => exact absurd (Nat.lt_of_lt_of_le (htells _ _ q).1 hCD) (Nat.lt_irrefl _)
    refine ⟨?_, hnone, Nat.le_trans hbi (Nat.le_of_lt (Nat.lt_trans hitD hCD))⟩
    have old : ∀ b o, s₃.heap.get? b = some o → h₁.get? b = some o := fun b o e => hsb₁.extBut b o (by rw [← hC]; exact Nat.ne_of_lt (Heap.lt_size e)) (Heap.get?_push_of_some _ e)
    exact Rep.more (s := { s₃ with heap := h₁ }) (r₃.1.grown old _ (by rw [hsb₁.1, Heap.size_push]; exact Nat.le_succ _)) hCD (o := .ns _) ⟨_, hns₁, fun _ => rfl⟩
  have go : ∀ (σ₀ : St) (s₄ : Shared), σ₀.H it = some (.raw o) → CompAt L σ σ₀ nm it D C → RepF base os C σ₀ s₄ →
      codeAny (model prog w) A (.compStart (.ListComp elt (⟨target, iter, ifs, 0⟩ :: rest) scope pos) 0 (.ref it) (.ref D) (compEnvC scope (ce nm C ++ cl) C env)) (RR (.ref D) C) s₄ := fun σ₀ s₄ hi at_ r₄ => by
    obtain ⟨hJ, hcl, hR⟩ := h it D C σ₀ hbi hCL at_
    have loop : ∀ s', RepF base os C σ₀ s' → codeAny (model prog w) A (.compLoop (.ListComp elt (⟨target, iter, ifs, 0⟩ :: rest) scope pos) 0 (.ref it) (.ref D) (compEnvC scope (ce nm C ++ cl) C env)) (RR (.ref D) C) s' := fun s' r' =>
      codeAny_mono (clause_loop F hh S hbi (hbody D C) (heq ..) hcl r' hI hi hJ) fun q s'' hq => by
        refine Classical.byContradiction fun hneg5_ => ?_
        obtain ⟨e, σ', r'', hq'⟩ := hq
        subst e
        refine hneg5_ ?_
        exact hR σ' s'' r'' hq'
    exact codeAny_compStart_list (loop _ r₄) (S.selfAny hI hi r₄ loop)
  have hCX : upd σ.H L (.ns σ.m) (C + 1) = none := free _ (Nat.le_succ_of_le hCn)
  have h0 : Sub (upd σ.H L (.ns σ.m)) (upd (upd (upd σ.H L (.ns σ.m)) it (.raw o)) D (.list [])) :=
    (Sub.upd_new (free _ hn)).trans (Sub.upd_new ((upd_ne (Nat.ne_of_gt hitD)).trans (free _ hDn)))
  have hi : upd (upd (upd σ.H L (.ns σ.m)) it (.raw o)) D (.list []) it = some (.raw o) := (upd_ne (Nat.ne_of_lt hitD)).trans (upd_same _ _ _)
  cases nm with
  | none => exact go _ _ hi ⟨hn, hitD, hCD, free _ hn, free _ hDn, hCX, h0, upd_same _ _ _, fun _ e => by cases e⟩ rC
  | some x =>
    have rC' := rC.push { cls := .type "cell", data := .cell none } (o := .cell none) ⟨_, none, Heap.get?_push_size _ rfl, rfl, rfl⟩
    have hC1 : ({ s₃ with heap := h₁ } : Shared).heap.objs.size = C + 1 := by show h₁.objs.size = _; rw [hsb₁.1, Heap.size_push, hC]
    rw [hC1] at rC'
    have ne1 : it ≠ C + 1 := Nat.ne_of_lt (Nat.lt_succ_of_lt (Nat.lt_trans hitD hCD))
    have ne2 : D ≠ C + 1 := Nat.ne_of_lt (Nat.lt_succ_of_lt hCD)
    exact go _ _ ((upd_ne ne1).trans hi) ⟨hn, hitD, hCD, free _ hn, free _ hDn, hCX,
      h0.trans (Sub.upd_new ((upd_ne (Ne.symm ne2)).trans ((upd_ne (Ne.symm ne1)).trans hCX))), (upd_ne ne2).trans (upd_same _ _ _), fun _ _ => upd_same _ _ _⟩ rC'
-- the comprehension's frame is left
theorem RepF.leave {C : Addr} {mL : Loc} (r : RepF base os L σ s) (F : Full base) (hC : σ.H C = some (.ns mL)) (hb : base.objs.size ≤ C) {h' : Heap} (hs : Heap.SameBut C s.heap h') :
    RepF base os L ⟨σ.m, del σ.H C, σ.n⟩ { s with heap := h' } := by
  have hne := r.ne hC
  have k : ∀ b o, b ≠ C → s.heap.get? b = some o → h'.get? b = some o := fun b o hbc e => (hs.2 b hbc).trans e
  refine ⟨⟨fun b o e => k b o (by rintro rfl; exact absurd (Heap.lt_size e) (Nat.not_lt.mpr hb)) (r.1.keep b o e), fun a o e => ?_, Nat.le_trans r.1.le (Nat.le_of_eq hs.1.symm), r.1.base_le, r.1.gens, r.1.os⟩, (del_ne (Ne.symm hne)).trans r.2.1, r.2.2⟩
  by_cases haL : a = L
  · refine Classical.byContradiction fun hneg6_ => ?_
    subst haL; rw [upd_same] at e; cases e
    refine hneg6_ ?_
    exact ⟨r.Llt, (r.1.tells _ _ (upd_same _ _ _)).2.same fun c q => k _ c (Ne.symm hne) q⟩
  · have e' := (upd_ne (H := del σ.H C) haL).symm.trans e
    have hac : a ≠ C := by rintro rfl; rw [del_same] at e'; cases e'
    rw [del_ne hac] at e'
    exact ⟨r.lt e', (r.at_ e').same fun c q => k _ c hac q⟩


-- a comprehension is over, its frame still stands
noncomputable def CompDone (L : Addr) (m : Loc) (Q : Addr → St → Prop) (D : Addr) (σ' : St) : Prop := σ'.H L = some (.ns m) ∧ ∀ H' n', (∀ a o, a ≠ L → σ'.H a = some o → H' a = some o) → Q D ⟨m, H', n'⟩
theorem left_of {C : Addr} {σ' : St} (r' : RepF base os C σ' s') : ∀ a o, a ≠ L → σ'.H a = some o → del (del (upd σ'.H C (.ns σ'.m)) L) C a = some o := fun a o hal e => by
  have hac : a ≠ C := by rintro rfl; rw [r'.2.1] at e; cases e
  rw [del_ne hac, del_ne hal, upd_ne hac]; exact e
-- what a comprehension asks: what its turns keep
noncomputable def CompJ (prog : Program) (w : World) (base : Heap) (os : OsState) (A : Around) (L : Addr) (env : Env) (nm : Option Str) (target : Expr) (ifs : List Expr) (scope : Scope) (cl : List (Str × Addr))
    (body : Addr → Addr → (St → Prop) → St → Prop) (Q : Addr → St → Prop) (x : V) (σ₁ : St) : Prop :=
  ∃ vs K, Nonempty (Src prog w base os x vs K) ∧ K σ₁.H ∧ ∃ J : Addr → Addr → Addr → List V → St → Prop, ∀ it D C σ₀, base.objs.size ≤ it → C ≠ L → CompAt L σ₁ σ₀ nm it D C →
    J it D C vs σ₀ ∧ Clause prog w base os A C (compEnvC scope (ce nm C ++ cl) C env) K it (J it D C) target ifs (body D C) (CompDone L σ₁.m Q D)
-- how a comprehension's clauses are walked
noncomputable def Walked (prog : Program) (w : World) (base : Heap) (os : OsState) (A : Around) (env : Env) (nm : Option Str) (elt target iter : Expr) (ifs : List Expr) (rest : List Comprehension) (scope : Scope) (pos : Pos) (cl : List (Str × Addr))
    (body : Addr → Addr → (St → Prop) → St → Prop) : Prop :=
  ∃ bodyK : Value → Env → Sem PySem.Fin → Sem PySem.Fin,
    (∀ it acc cenv, compTurn (.ListComp elt (⟨target, iter, ifs, 0⟩ :: rest) scope pos) 0 it acc cenv = clauseTurn target ifs iter.pos (.ListComp elt (⟨target, iter, ifs, 0⟩ :: rest) scope pos) 0 it acc cenv (bodyK acc cenv)) ∧
    ∀ (D C : Addr) (k : Sem PySem.Fin) (Q : St → Prop) (QQ : PySem.Fin → Shared → Prop) (EE : Value → Shared → Prop) (σ : St), body D C Q σ →
      (∀ σ' s', RepF base os C σ' s' → Q σ' → wpAny (model prog w) A k QQ EE s') → ∀ s, RepF base os C σ s → wpAny (model prog w) A (bodyK (.ref D) (compEnvC scope (ce nm C ++ cl) C env) k) QQ EE s
theorem walked_1 {nm : Option Str} {elt target iter : Expr} {ifs : List Expr} {scope : Scope} {pos : Pos} {cl : List (Str × Addr)} :
    Walked prog w base os A env nm elt target iter ifs [] scope pos cl (fun D C => Emit prog w base os A C (compEnvC scope (ce nm C ++ cl) C env) elt D) :=
  ⟨_, fun it acc cenv => turn_1 .., fun D C k Q QQ EE σ h hk s r => emit_one k Q QQ EE σ h hk s r⟩
theorem W_CompJ {nm : Option Str} {elt target iter : Expr} {ifs : List Expr} {rest : List Comprehension} {scope : Scope} {cl : List (Str × Addr)} {pos : Pos} {body : Addr → Addr → (St → Prop) → St → Prop} (F : Full base) (hh : A.handled = none)
    (hw : Walked prog w base os A env nm elt target iter ifs rest scope pos cl body)
    (h : WV prog w base os A L (eval iter env) (CompJ prog w base os A L env nm target ifs scope cl body (fun D => Q (.ref D))) σ)
    (hs : ∀ x, foldedSetIterable iter env x = pure x) (hclos : closureFor scope env = pure cl) (hcell : scope.names.filter (fun y => y.2 == .cell) = ownCells nm) (hkind : scope.kind = .function)
    (hnames : ∀ x ∈ scope.names, x.2 = .local → scope.names.lookup x.1 = some .local) : WV prog w base os A L (eval (.ListComp elt (⟨target, iter, ifs, 0⟩ :: rest) scope pos) env) Q σ := fun s r => by
  obtain ⟨bodyK, heq, hbody⟩ := hw
  rw [eval_ListComp]
  refine wpAny_comprehension_free (use := none) rfl hs hclos hkind hnames (wpAny_mono (h s r) (fun xv s₁ hx => ?_) fun _ _ e => e)
  refine Classical.byContradiction fun hneg7_ => ?_
  obtain ⟨σ₁, r₁, vs, K, ⟨S⟩, hK, J, hJ⟩ := hx
  refine hneg7_ ?_
  refine comp_core (RR := fun acc C => compPost (model prog w) A (fun _ _ => False) none _ acc C) F hh hcell heq hbody r₁ rfl S hK J (fun _ D _ => CompDone L σ₁.m (fun D => Q (.ref D)) D)
    fun it D C σ₀ hb hCL at_ => ⟨(hJ it D C σ₀ hb hCL at_).1, (hJ it D C σ₀ hb hCL at_).2, fun σ' s' r' hq => ?_⟩
  have rL := r'.switch hq.1 r₁.2.2
  obtain ⟨mC, hmC, _⟩ := (r'.1.tells C _ (upd_same _ _ _)).2
  have hbC : base.objs.size ≤ C := Nat.le_trans hb (Nat.le_of_lt (Nat.lt_trans at_.hD at_.hC))
  exact ⟨mC, hmC, fun h' hs' => ⟨_, rL.leave F ((del_ne hCL).trans (upd_same _ _ _)) hbC hs', hq.2 _ _ (left_of r')⟩⟩
theorem WS_AssignCompJ {nm : Option Str} {elt target iter : Expr} {ifs : List Expr} {rest : List Comprehension} {scope : Scope} {cl : List (Str × Addr)} {pos py spos : Pos} {y : Str} {body : Addr → Addr → (St → Prop) → St → Prop} (F : Full base) (hh : A.handled = none)
    (hw : Walked prog w base os A env nm elt target iter ifs rest scope pos cl body)
    (h : WV prog w base os A L (eval iter env) (CompJ prog w base os A L env nm target ifs scope cl body (fun D σ' => R .next ⟨σ'.m.set y (.ref D), σ'.H, σ'.n⟩)) σ)
    (hsw : swapsWith (.ListComp elt (⟨target, iter, ifs, 0⟩ :: rest) scope pos) (some (.Name y py)) spos.line env = pure true)
    (hs : ∀ x, foldedSetIterable iter env x = pure x) (hclos : closureFor scope env = pure cl) (hcell : scope.names.filter (fun y => y.2 == .cell) = ownCells nm) (hkind : scope.kind = .function)
    (hnames : ∀ x ∈ scope.names, x.2 = .local → scope.names.lookup x.1 = some .local) (hy : env.kindOf y = some .local) (hk : env.scope.kind = .function) (hL' : env.locals = L) :
    W prog w base os A L (exec (.Assign [.Name y py] (.ListComp elt (⟨target, iter, ifs, 0⟩ :: rest) scope pos) spos) env) R σ := fun s r => by
  obtain ⟨bodyK, heq, hbody⟩ := hw
  rw [exec_Assign_Name_used _ _ _ _ hsw]
  refine wpAny_bind (wpAny_standAt (wpAny_bind ?_))
  show wpAny _ A (do let _ ← comprehension (.ListComp elt (⟨target, iter, ifs, 0⟩ :: rest) scope pos) scope env _ (newList []) false (eval iter env) (some (assign (.Name y py) env))) _ _ s
  refine wpAny_bind (wpAny_mono (wpAny_comprehension_free (use := some (assign (.Name y py) env)) (Q := fun _ s' => ∃ σ', RepF base os L σ' s' ∧ R .next σ') (E := fun _ _ => False) rfl hs hclos hkind hnames
    (wpAny_mono (h s r) (fun xv s₁ hx => ?_) fun _ _ e => e)) (fun _ s' hq => wpAny_pure (wpAny_pure hq)) fun _ _ e => e)
  refine Classical.byContradiction fun hneg8_ => ?_
  obtain ⟨σ₁, r₁, vs, K, ⟨S⟩, hK, J, hJ⟩ := hx
  refine hneg8_ ?_
  refine comp_core (RR := fun acc C => compPost (model prog w) A (fun _ _ => False) (some (assign (.Name y py) env)) (fun _ s' => ∃ σ', RepF base os L σ' s' ∧ R .next σ') acc C) F hh hcell heq hbody r₁ rfl S hK J
    (fun _ D _ => CompDone L σ₁.m (fun D σ' => R .next ⟨σ'.m.set y (.ref D), σ'.H, σ'.n⟩) D)
    fun it D C σ₀ hb hCL at_ => ⟨(hJ it D C σ₀ hb hCL at_).1, (hJ it D C σ₀ hb hCL at_).2, fun σ' s' r' hq => ?_⟩
  have rL := r'.switch hq.1 r₁.2.2
  have hbC : base.objs.size ≤ C := Nat.le_trans hb (Nat.le_of_lt (Nat.lt_trans at_.hD at_.hC))
  show wpAny _ A (assign (.Name y py) env (.ref D)) _ _ _
  have st : WA prog w base os A L env (.Name y py) (.ref D) (fun _ σ'' => σ'' = ⟨σ₁.m.set y (.ref D), del (upd σ'.H C (.ns σ'.m)) L, σ'.n⟩) ⟨σ₁.m, del (upd σ'.H C (.ns σ'.m)) L, σ'.n⟩ :=
    WA_Name (WSt_local rfl hy hk hL')
  refine wpAny_mono (st (.ref D) rfl s' rL) (fun _ s'' hx => ?_) fun _ _ x => x.elim
  refine Classical.byContradiction fun hneg9_ => ?_
  obtain ⟨σ'', r'', e''⟩ := hx
  subst e''
  have hCin : del (upd σ'.H C (.ns σ'.m)) L C = some (.ns σ'.m) := (del_ne hCL).trans (upd_same _ _ _)
  obtain ⟨mC, hmC, _⟩ := r''.at_ hCin
  refine hneg9_ ?_
  exact ⟨mC, hmC, fun h' hs' => ⟨_, r''.leave F hCin hbC hs', hq.2 _ _ (left_of r')⟩⟩

/-! Comprehensions whose turns give one item or none. -/
-- all but one address keeps its object; there stands a cell
noncomputable def SubO (X : Option Addr) (H H' : HP) : Prop := (∀ a o, X ≠ some a → H a = some o → H' a = some o) ∧ ∀ x, X = some x → ∃ v, H' x = some (.cell v)
noncomputable def CTurnO (X : Option Addr) (prog : Program) (w : World) (base : Heap) (os : OsState) (A : Around) (C : Addr) (cenv : Env) (target elt : Expr) (ifs : List Expr) (v : V) (Z : Option Y) (σ : St) : Prop :=
  WA prog w base os A C cenv target v (fun _ => WIfs prog w base os A C cenv ifs (fun ok σ' => match Z with
    | none => ok = false ∧ SubO X σ.H σ'.H
    | some Z => ok = true ∧ WV prog w base os A C (eval elt cenv) (fun y σ'' => Z.at σ''.H y ∧ SubO X σ.H σ''.H) σ')) σ
theorem WA.mono {t : Expr} {v : V} {Q Q' : Unit → St → Prop} (h : WA prog w base os A L env t v Q σ) (k : ∀ a σ, Q a σ → Q' a σ) : WA prog w base os A L env t v Q' σ := fun a e => (h a e).mono k
theorem WIfs.mono {ifs : List Expr} {Q Q' : Bool → St → Prop} (h : WIfs prog w base os A L env ifs Q σ) (k : ∀ a σ, Q a σ → Q' a σ) : WIfs prog w base os A L env ifs Q' σ := by
  cases ifs with
  | nil => exact k _ _ h
  | cons c r => cases r with
    | nil => exact W.mono h k
    | cons _ _ => exact h.elim
theorem Emit.mono {elt : Expr} {D : Addr} {Q Q' : St → Prop} (h : Emit prog w base os A L env elt D Q σ) (k : ∀ σ, Q σ → Q' σ) : Emit prog w base os A L env elt D Q' σ :=
  W.mono h fun v σ' hx => by
    refine Classical.byContradiction fun hneg10_ => ?_
    obtain ⟨ys, a, b, c, d⟩ := hx
    refine hneg10_ ?_
    exact ⟨ys, a, b, c, k _ d⟩
-- where the comprehension's own cell stands
noncomputable def cellOf (nm : Option Str) (C : Addr) : Option Addr := nm.map fun _ => C + 1
structure CompOkO (prog : Program) (w : World) (base : Heap) (os : OsState) (A : Around) (L : Addr) (env : Env) (nm : Option Str) (target elt : Expr) (ifs : List Expr) (scope : Scope) (cl : List (Str × Addr)) (x : V) (fs : List (V × Option Y)) (σ₁ : St) : Prop where
  src : ∃ K, Nonempty (Src prog w base os x (fs.map (·.1)) K) ∧ ∀ H, Sub σ₁.H H → K H
  size : fs.length ≤ sizeLine
  turn : ∀ C v Z, (v, Z) ∈ fs → ∀ σ, σ₁.n ≤ C → Sub (upd σ₁.H L (.ns σ₁.m)) σ.H → (∀ x, cellOf nm C = some x → ∃ v, σ.H x = some (.cell v)) → CTurnO (cellOf nm C) prog w base os A C (compEnvC scope (ce nm C ++ cl) C env) target elt ifs v Z σ
-- no list, no tuple stands where a cell stands
theorem notCell {H : HP} {X : Option Addr} {a : Addr} {o : O} (h : ∀ x, X = some x → ∃ v, H x = some (.cell v)) (e : H a = some o) (hn : ∀ v, o ≠ .cell v) : X ≠ some a := fun q => by
  obtain ⟨v, hv⟩ := h a q
  rw [hv] at e
  exact hn v (Option.some.inj e).symm
-- what the turns keep
inductive CompRow (fs : List (V × Option Y)) (H₀ : HP) (X : Option Addr) (D : Addr) (rem : List V) (τ : St) : Prop
  | mk (done rem' : List (V × Option Y)) (ys : List V) (e1 : fs = done ++ rem') (e2 : rem = rem'.map (·.1)) (hD : τ.H D = some (.list ys)) (hs : Sub H₀ τ.H) (hX : ∀ x, X = some x → ∃ v, τ.H x = some (.cell v))
    (ha : All τ.H (done.filterMap (·.2)) ys) : CompRow fs H₀ X D rem τ
theorem CompOkO.toJ {nm : Option Str} {target elt : Expr} {ifs : List Expr} {scope : Scope} {cl : List (Str × Addr)} {x : V} {fs : List (V × Option Y)} {σ₁ : St} {Q : Addr → St → Prop}
    (ok : CompOkO prog w base os A L env nm target elt ifs scope cl x fs σ₁) (hL0 : σ₁.H L = none)
    (hq : ∀ D ys H' n', σ₁.n ≤ D → Sub σ₁.H H' → H' D = some (.list ys) → All H' (fs.filterMap (·.2)) ys → Q D ⟨σ₁.m, H', n'⟩) :
    CompJ prog w base os A L env nm target ifs scope cl (fun D C => Emit prog w base os A C (compEnvC scope (ce nm C ++ cl) C env) elt D) Q x σ₁ := by
  obtain ⟨K, S, hK⟩ := ok.src
  refine ⟨fs.map (·.1), K, S, hK _ (Sub.refl _), fun it D C => CompRow fs (upd σ₁.H L (.ns σ₁.m)) (cellOf nm C) D, fun it D C σ₀ hb hCL at_ => ⟨⟨[], fs, [], rfl, rfl, at_.list, at_.sub, fun x e => ?_, .nil⟩, ?_, ?_, ?_⟩⟩
  · cases nm with
    | none => cases e
    | some y => cases e; exact ⟨none, at_.cell y rfl⟩
  · intro rem σ' o hJ hi
    refine Classical.byContradiction fun hneg11_ => ?_
    obtain ⟨done, rem', ys, e1, e2, hD, hs, hX, ha⟩ := hJ
    refine hneg11_ ?_
    have hDi : D ≠ it := by rintro rfl; rw [hD] at hi; cases hi
    refine ⟨hK _ fun a p e => hs a p ((upd_ne (by rintro rfl; rw [hL0] at e; cases e)).trans e), fun o' => ⟨done, rem', ys, e1, e2, (upd_ne hDi).trans hD, fun a p e => (upd_ne (by rintro rfl; rw [at_.it0] at e; cases e)).trans (hs a p e), fun x e => ?_, ha.mono fun a vs e => (upd_ne (by rintro rfl; rw [hi] at e; cases e)).trans e⟩⟩
    obtain ⟨v, hv⟩ := hX x e
    exact ⟨v, (upd_ne (by rintro rfl; rw [hi] at hv; cases hv)).trans hv⟩
  · intro v rem σ' o hJ hi
    refine Classical.byContradiction fun hneg12_ => ?_
    obtain ⟨done, rem', ys, e1, e2, hD, hs, hX, ha⟩ := hJ
    refine hneg12_ ?_
    cases rem' with
    | nil => cases e2
    | cons f rem' =>
      obtain ⟨v', Z⟩ := f
      simp only [List.map_cons, List.cons.injEq] at e2
      obtain ⟨rfl, rfl⟩ := e2
      have X0 : ∀ a o, upd σ₁.H L (.ns σ₁.m) a = some o → cellOf nm C ≠ some a := fun a o e q => by
        cases nm with
        | none => cases q
        | some y => cases q; rw [at_.X0] at e; cases e
      have Xi := notCell hX hi (fun _ q => by cases q)
      have XD := notCell hX hD (fun _ q => by cases q)
      refine (ok.turn C v Z (by rw [e1]; simp) σ' (Nat.le_trans at_.hit (Nat.le_of_lt (Nat.lt_trans at_.hD at_.hC))) hs hX).mono fun _ σ₂ h₂ => h₂.mono fun okk σ₃ h₃ => ?_
      cases Z with
      | none =>
        obtain ⟨rfl, hsub⟩ := h₃
        rw [if_neg Bool.false_ne_true]
        exact ⟨hsub.1 _ _ Xi hi, done ++ [(v, none)], rem', ys, by rw [e1, List.append_assoc]; rfl, rfl, hsub.1 _ _ XD hD, fun a p e => hsub.1 a p (X0 a p e) (hs a p e), hsub.2, by
          rw [List.filterMap_append]; simpa using ha.mono fun a vs e => hsub.1 _ _ (notCell hX e (fun _ q => by cases q)) e⟩
      | some Z =>
        obtain ⟨rfl, hev⟩ := h₃
        rw [if_pos rfl]
        refine W.mono hev fun y σ₄ h₄ => ?_
        obtain ⟨hy, hsub⟩ := h₄
        have hD₄ := hsub.1 _ _ XD hD
        have hi₄ := hsub.1 _ _ Xi hi
        refine ⟨ys, hD₄, Nat.le_trans hb (Nat.le_of_lt at_.hD), ?_, ?_⟩
        · have h1 := ha.len
          have h2 : (done.filterMap (·.2)).length ≤ done.length := List.length_filterMap_le _ _
          have h3 : done.length ≤ fs.length := by rw [e1, List.length_append]; exact Nat.le_add_right _ _
          exact h1 ▸ Nat.le_trans h2 (Nat.le_trans h3 ok.size)
        have k : ∀ a vs, σ₄.H a = some (.tup vs) → upd σ₄.H D (.list (ys ++ [er y])) a = some (.tup vs) := fun a vs e => (upd_ne (by rintro rfl; rw [hD₄] at e; cases e)).trans e
        refine ⟨(upd_ne (by rintro rfl; rw [hD₄] at hi₄; cases hi₄)).trans hi₄, done ++ [(v, some Z)], rem', ys ++ [er y], by rw [e1, List.append_assoc]; rfl, rfl, upd_same _ _ _,
          fun a p e => (upd_ne (by rintro rfl; rw [at_.D0] at e; cases e)).trans (hsub.1 a p (X0 a p e) (hs a p e)), fun x e => ?_, ?_⟩
        · obtain ⟨v', hv'⟩ := hsub.2 x e
          exact ⟨v', (upd_ne (by rintro rfl; rw [hv'] at hD₄; cases hD₄)).trans hv'⟩
        · rw [List.filterMap_append]
          exact ((ha.mono fun a vs e => hsub.1 _ _ (notCell hX e (fun _ q => by cases q)) e).mono k).snoc (hy.mono k)
  · intro σ' n' o hJ hi
    refine Classical.byContradiction fun hneg13_ => ?_
    obtain ⟨done, rem', ys, e1, e2, hD, hs, hX, ha⟩ := hJ
    have e3 : rem' = [] := List.map_eq_nil_iff.mp e2.symm
    subst e3
    rw [List.append_nil] at e1
    subst e1
    refine hneg13_ ?_
    have hDi : D ≠ it := by rintro rfl; rw [hD] at hi; cases hi
    have hLi : L ≠ it := by rintro rfl; have := hs L _ (upd_same _ _ _); rw [this] at hi; cases hi
    refine ⟨(del_ne hLi).trans (hs _ _ (upd_same _ _ _)), fun H' n' low => hq D ys H' n' (Nat.le_trans at_.hit (Nat.le_of_lt at_.hD)) (fun a p e => ?_) (low _ _ ?_ ((del_ne hDi).trans hD)) (ha.mono fun a vs e => low a _ ?_ ((del_ne ?_).trans e))⟩
    · have hal : a ≠ L := by rintro rfl; rw [hL0] at e; cases e
      have e' := (upd_ne (H := σ₁.H) (o := .ns σ₁.m) hal).trans e
      exact low a p hal ((del_ne (by rintro rfl; rw [at_.it0] at e'; cases e')).trans (hs a p e'))
    · rintro rfl; have := hs D _ (upd_same _ _ _); rw [this] at hD; cases hD
    · rintro rfl; have := hs a _ (upd_same _ _ _); rw [this] at e; cases e
    · rintro rfl; rw [hi] at e; cases e

-- what a comprehension asks
structure CompOk (prog : Program) (w : World) (base : Heap) (os : OsState) (A : Around) (L : Addr) (env : Env) (target elt iter : Expr) (ifs : List Expr) (scope : Scope) (cl : List (Str × Addr)) (x : V) (fs : List (V × Option Y)) (σ₁ : St) : Prop where
  src : ∃ K, Nonempty (Src prog w base os x (fs.map (·.1)) K) ∧ ∀ H, Sub σ₁.H H → K H
  size : fs.length ≤ sizeLine
  turn : ∀ C v Z, (v, Z) ∈ fs → ∀ σ, σ₁.n ≤ C → Sub (upd σ₁.H L (.ns σ₁.m)) σ.H → CTurn prog w base os A C (compEnvC scope cl C env) target elt ifs v Z σ
theorem Sub.o {H H' : HP} (h : Sub H H') : SubO none H H' := ⟨fun a o _ e => h a o e, fun _ e => by cases e⟩
theorem CompOk.o {target elt iter : Expr} {ifs : List Expr} {scope : Scope} {cl : List (Str × Addr)} {x : V} {fs : List (V × Option Y)} {σ₁ : St} (ok : CompOk prog w base os A L env target elt iter ifs scope cl x fs σ₁) :
    CompOkO prog w base os A L env none target elt ifs scope cl x fs σ₁ :=
  ⟨ok.src, ok.size, fun C v Z hv σ hn hs _ => WA.mono (ok.turn C v Z hv σ hn hs) fun _ σ₂ h₂ => h₂.mono fun okk σ₃ h₃ => by
    cases Z with
    | none => exact ⟨h₃.1, h₃.2.o⟩
    | some Z => exact ⟨h₃.1, W.mono h₃.2 fun y σ₄ h₄ => ⟨h₄.1, h₄.2.o⟩⟩⟩
theorem noCell {names : List (Str × NameKind)} (h : ∀ y ∈ names, y.2 ≠ .cell) : names.filter (fun y => y.2 == .cell) = ownCells none :=
  List.filter_eq_nil_iff.mpr fun y hy q => h y hy (by simpa using q)
theorem W_ListComp {elt target iter : Expr} {ifs : List Expr} {scope : Scope} {cl : List (Str × Addr)} {pos : Pos} (F : Full base) (hh : A.handled = none)
    (h : WV prog w base os A L (eval iter env) (fun x σ₁ => ∃ fs, CompOk prog w base os A L env target elt iter ifs scope cl x fs σ₁ ∧
      ∀ D ys H' n', σ₁.n ≤ D → Sub σ₁.H H' → H' D = some (.list ys) → All H' (fs.filterMap (·.2)) ys → Q (.ref D) ⟨σ₁.m, H', n'⟩) σ)
    (hs : ∀ x, foldedSetIterable iter env x = pure x) (hclos : closureFor scope env = pure cl) (hcell : ∀ y ∈ scope.names, y.2 ≠ .cell) (hkind : scope.kind = .function)
    (hnames : ∀ x ∈ scope.names, x.2 = .local → scope.names.lookup x.1 = some .local) : WV prog w base os A L (eval (.ListComp elt [⟨target, iter, ifs, 0⟩] scope pos) env) Q σ := by
  refine W_CompJ F hh walked_1 (fun s r => wpAny_mono (h s r) (fun xv s₁ hx => ?_) fun _ _ e => e) hs hclos (noCell hcell) hkind hnames
  refine Classical.byContradiction fun hneg14_ => ?_
  obtain ⟨σ₁, r₁, fs, ok, hq⟩ := hx
  refine hneg14_ ?_
  exact ⟨σ₁, r₁, ok.o.toJ r₁.2.1 hq⟩
theorem WS_AssignComp {elt target iter : Expr} {ifs : List Expr} {scope : Scope} {cl : List (Str × Addr)} {pos py spos : Pos} {y : Str} (F : Full base) (hh : A.handled = none)
    (h : WV prog w base os A L (eval iter env) (fun x σ₁ => ∃ fs, CompOk prog w base os A L env target elt iter ifs scope cl x fs σ₁ ∧
      ∀ D ys H' n', σ₁.n ≤ D → Sub σ₁.H H' → H' D = some (.list ys) → All H' (fs.filterMap (·.2)) ys → R .next ⟨σ₁.m.set y (.ref D), H', n'⟩) σ)
    (hsw : swapsWith (.ListComp elt [⟨target, iter, ifs, 0⟩] scope pos) (some (.Name y py)) spos.line env = pure true)
    (hs : ∀ x, foldedSetIterable iter env x = pure x) (hclos : closureFor scope env = pure cl) (hcell : ∀ y ∈ scope.names, y.2 ≠ .cell) (hkind : scope.kind = .function)
    (hnames : ∀ x ∈ scope.names, x.2 = .local → scope.names.lookup x.1 = some .local) (hy : env.kindOf y = some .local) (hk : env.scope.kind = .function) (hL' : env.locals = L) :
    W prog w base os A L (exec (.Assign [.Name y py] (.ListComp elt [⟨target, iter, ifs, 0⟩] scope pos) spos) env) R σ := by
  refine WS_AssignCompJ F hh walked_1 (fun s r => wpAny_mono (h s r) (fun xv s₁ hx => ?_) fun _ _ e => e) hsw hs hclos (noCell hcell) hkind hnames hy hk hL'
  refine Classical.byContradiction fun hneg15_ => ?_
  obtain ⟨σ₁, r₁, fs, ok, hq⟩ := hx
  refine hneg15_ ?_
  exact ⟨σ₁, r₁, ok.o.toJ r₁.2.1 hq⟩
end
section
set_option maxRecDepth 100000
set_option linter.unusedVariables false
variable {base : Heap} {os : OsState} {H H' : HP} {n n' : Nat} {s s' : Shared} {prog : Program} {w : World} {A : Around} {L : Addr} {σ : St} {m : Loc} {env : Env} {Q : V → St → Prop} {R : Flow → St → Prop}

-- every object is kept
theorem RepF.kept (r : RepF base os L σ s) (F : Full base) {h' : Heap} (k : ∀ b o, s.heap.get? b = some o → h'.get? b = some o) (t : Nat) :
    RepF base os L ⟨σ.m, σ.H, h'.objs.size⟩ { s with heap := h', toks := t } := by
  have hn : σ.H s.heap.objs.size = none := by
    cases q : σ.H s.heap.objs.size with
    | none => rfl
    | some o' => exact absurd (Nat.lt_of_lt_of_le (r.lt q) r.1.le) (Nat.lt_irrefl _)
  exact r.ext F (c := s.heap.objs.size) (fun b o _ e => k b o e) (Nat.le_trans r.1.base_le r.1.le) (Nat.ne_of_gt (Nat.lt_of_lt_of_le r.Llt r.1.le)) (fun _ _ e => e) hn t
theorem ints_of {xs : List Value} {ks : List Int} (h : xs.map er = ks.map V.int) : ∃ l : Array (Int × Tok), xs.toArray = intItems l ∧ l.toList.map (·.1) = ks := by
  induction ks generalizing xs with
  | nil => cases xs with
    | nil => exact ⟨#[], by simp [intItems], rfl⟩
    | cons _ _ => simp at h
  | cons p r ih => cases xs with
    | nil => simp at h
    | cons x xs =>
      simp only [List.map_cons, List.cons.injEq] at h
      obtain ⟨t, rfl⟩ := er_int.mp h.1
      obtain ⟨l, e1, e2⟩ := ih h.2
      refine ⟨((p, t) :: l.toList).toArray, ?_, by simp [e2]⟩
      have e1' := congrArg Array.toList e1
      simp only [intItems, Array.toList_map] at e1'
      apply Array.ext'
      simp [intItems, ← e1']
theorem numAt_ks {l : Array (Int × Tok)} {ks : List Int} (h : l.toList.map (·.1) = ks) (i : Nat) : numAt l i = ks.getD i 0 := by
  subst h
  unfold numAt
  rw [List.getD_eq_getElem?_getD, List.getElem?_map]
  simp

section
variable {a : Addr} {ks : List Int}
theorem WCall_sum (F : Full base) (hh : A.handled = none) (ha : σ.H a = some (.list (ks.map V.int))) (h : ∀ n', Q (.int ks.sum) ⟨σ.m, σ.H, n'⟩) : WCall prog w base os A L (.bi "sum") [.ref a] [] [] Q σ := WCall_bi fun as e => by
  obtain ⟨x, rfl, ex⟩ := map_one e
  rw [er_ref] at ex; subst ex
  intro s r
  obtain ⟨xs, k, g, e⟩ := r.at_ ha
  obtain ⟨l, e1, e2⟩ := ints_of e
  refine sum_intListG hh (xs := l) ⟨_, g, rfl, k, by rw [e1]⟩ fun h' tk t' hk => ⟨_, r.kept F hk tk, ?_⟩
  rw [preSum_eq, List.take_of_length_le (by simp), e2]
  exact h _
theorem WCall_maxL (F : Full base) (hh : A.handled = none) (ha : σ.H a = some (.list (ks.map V.int))) (hne : ks ≠ []) (h : ∀ k n', k ∈ ks → (∀ j ∈ ks, j ≤ k) → Q (.int k) ⟨σ.m, σ.H, n'⟩) :
    WCall prog w base os A L (.bi "max") [.ref a] [] [] Q σ := WCall_bi fun as e => by
  obtain ⟨x, rfl, ex⟩ := map_one e
  rw [er_ref] at ex; subst ex
  intro s r
  obtain ⟨xs, k, g, e⟩ := r.at_ ha
  obtain ⟨l, e1, e2⟩ := ints_of e
  have hl : l.size = ks.length := by rw [← e2]; simp
  have h0 : 0 < l.size := by rw [hl]; exact List.length_pos_iff.mpr hne
  obtain ⟨b1, b2⟩ := argBest_gt (numAt l) (l.size - 1)
  refine max_intList hh (xs := l) ⟨_, g, rfl, k, by rw [e1]⟩ h0 fun v h' tk hv hk => ?_
  obtain ⟨t, rfl⟩ := intItems_at hv
  refine ⟨_, r.kept F hk tk, ?_⟩
  have hb : argBest (fun i j => decide (numAt l i > numAt l j)) (l.size - 1) < ks.length := by lia
  show Q (.int (numAt l _)) _
  refine h _ _ ?_ fun j hj => ?_
  · rw [numAt_ks e2, List.getD_eq_getElem?_getD, List.getElem?_eq_getElem hb]; exact List.getElem_mem hb
  · obtain ⟨i, hi, rfl⟩ := List.mem_iff_getElem.mp hj
    have := b2 i (by lia)
    rw [numAt_ks e2 i, List.getD_eq_getElem?_getD, List.getElem?_eq_getElem hi] at this
    exact this
theorem WCall_minL (F : Full base) (hh : A.handled = none) (ha : σ.H a = some (.list (ks.map V.int))) (hne : ks ≠ []) (h : ∀ k n', k ∈ ks → (∀ j ∈ ks, k ≤ j) → Q (.int k) ⟨σ.m, σ.H, n'⟩) :
    WCall prog w base os A L (.bi "min") [.ref a] [] [] Q σ := WCall_bi fun as e => by
  obtain ⟨x, rfl, ex⟩ := map_one e
  rw [er_ref] at ex; subst ex
  intro s r
  obtain ⟨xs, k, g, e⟩ := r.at_ ha
  obtain ⟨l, e1, e2⟩ := ints_of e
  have hl : l.size = ks.length := by rw [← e2]; simp
  have h0 : 0 < l.size := by rw [hl]; exact List.length_pos_iff.mpr hne
  obtain ⟨b1, b2⟩ := argBest_lt (numAt l) (l.size - 1)
  refine min_intList hh (xs := l) ⟨_, g, rfl, k, by rw [e1]⟩ h0 fun v h' tk hv hk => ?_
  obtain ⟨t, rfl⟩ := intItems_at hv
  refine ⟨_, r.kept F hk tk, ?_⟩
  have hb : argBest (fun i j => decide (numAt l i < numAt l j)) (l.size - 1) < ks.length := by lia
  show Q (.int (numAt l _)) _
  refine h _ _ ?_ fun j hj => ?_
  · rw [numAt_ks e2, List.getD_eq_getElem?_getD, List.getElem?_eq_getElem hb]; exact List.getElem_mem hb
  · obtain ⟨i, hi, rfl⟩ := List.mem_iff_getElem.mp hj
    have := b2 i (by lia)
    rw [numAt_ks e2 i, List.getD_eq_getElem?_getD, List.getElem?_eq_getElem hi] at this
    exact this
end
theorem WCall_max2 {x y : Int} (F : Full base) (hh : A.handled = none) (h : ∀ n', Q (.int (max x y)) ⟨σ.m, σ.H, n'⟩) : WCall prog w base os A L (.bi "max") [.int x, .int y] [] [] Q σ := WCall_bi fun as e => by
  obtain ⟨a, b, rfl, ea, eb⟩ := map_two e
  obtain ⟨t, rfl⟩ := er_int.mp ea
  obtain ⟨u, rfl⟩ := er_int.mp eb
  intro s r
  refine max_two_ints hh fun h' tk hk => ⟨_, r.kept F hk tk, ?_⟩
  have : er (if y > x then Value.int y u else Value.int x t) = .int (max x y) := by
    split
    · show V.int y = _; congr 1; lia
    · show V.int x = _; congr 1; lia
  show Q (er _) _
  rw [this]; exact h _
theorem WCall_min2 {x y : Int} (F : Full base) (hh : A.handled = none) (h : ∀ n', Q (.int (min x y)) ⟨σ.m, σ.H, n'⟩) : WCall prog w base os A L (.bi "min") [.int x, .int y] [] [] Q σ := WCall_bi fun as e => by
  obtain ⟨a, b, rfl, ea, eb⟩ := map_two e
  obtain ⟨t, rfl⟩ := er_int.mp ea
  obtain ⟨u, rfl⟩ := er_int.mp eb
  intro s r
  refine min_two_ints hh fun h' tk hk => ⟨_, r.kept F hk tk, ?_⟩
  have : er (if y < x then Value.int y u else Value.int x t) = .int (min x y) := by
    split
    · show V.int y = _; congr 1; lia
    · show V.int x = _; congr 1; lia
  show Q (er _) _
  rw [this]; exact h _
theorem WCall_abs {x : Int} (h : Q (.int (if x < 0 then -x else x)) σ) : WCall prog w base os A L (.bi "abs") [.int x] [] [] Q σ := WCall_bi fun as e => by
  obtain ⟨a, rfl, ea⟩ := map_one e
  obtain ⟨t, rfl⟩ := er_int.mp ea
  intro s r
  exact call_abs_int fun u tk => ⟨σ, r.toks tk, h⟩
theorem WCall_ty {id : String} {vs : List V} {Q : V → St → Prop} (h : ∀ as, as.map er = vs → WV prog w base os A L (call (.type id) as []) Q σ) : WCall prog w base os A L (.ty id) vs [] [] Q σ := fun f as ks ef ea ek => by
  rw [er_ty] at ef; subst ef
  cases ks with
  | nil => exact h as ea
  | cons _ _ => simp at ek
theorem WCall_range1 {x : Int} (h : ∀ r, σ.n ≤ r → IsRng (upd σ.H r (.raw { cls := .type "range", dict := none, data := .fields #[.int 0 0, .int x 0, .int 1 0], slots := #[] })) r 0 x 1 ∨ True → ∀ o, IsRng (upd σ.H r (.raw o)) r 0 x 1 → Q (.ref r) ⟨σ.m, upd σ.H r (.raw o), r + 1⟩) :
    WCall prog w base os A L (.ty "range") [.int x] [] [] Q σ := WCall_ty fun as e => by
  obtain ⟨a, rfl, ea⟩ := map_one e
  obtain ⟨t, rfl⟩ := er_int.mp ea
  intro s r
  refine call_range_1 ⟨_, (r.push _ (o := .raw _) (Heap.get?_push_size _ rfl)).toks _, ?_⟩
  exact h _ r.1.le (.inr trivial) _ ⟨_, _, _, upd_same _ _ _⟩
theorem WCall_range3 {x y z : Int} (hz : z ≠ 0) (hp : Builtin.divisionGoesByPylong (y - x) z = false) (h : ∀ r, σ.n ≤ r → ∀ o, IsRng (upd σ.H r (.raw o)) r x y z → Q (.ref r) ⟨σ.m, upd σ.H r (.raw o), r + 1⟩) :
    WCall prog w base os A L (.ty "range") [.int x, .int y, .int z] [] [] Q σ := WCall_ty fun as e => by
  obtain ⟨a, b, c, rfl, ea, eb, ec⟩ := map_three e
  obtain ⟨t, rfl⟩ := er_int.mp ea
  obtain ⟨u, rfl⟩ := er_int.mp eb
  obtain ⟨v, rfl⟩ := er_int.mp ec
  intro s r
  refine call_range_3 hz ⟨_, (r.push _ (o := .raw _) (Heap.get?_push_size _ rfl)).toks _, ?_⟩ (.inl hp)
  exact h _ r.1.le _ ⟨_, _, _, upd_same _ _ _⟩
theorem WCall_pop {a : Addr} {vs : List V} {v : V} (ha : σ.H a = some (.list (vs ++ [v]))) (hb : base.objs.size ≤ a) (hz : vs.length < sizeLine) (h : Q v ⟨σ.m, upd σ.H a (.list vs), σ.n⟩) :
    WCall prog w base os A L (.bi "list.pop") [.ref a] [] [] Q σ := WCall_bi fun as e => by
  obtain ⟨x, rfl, ex⟩ := map_one e
  rw [er_ref] at ex; subst ex
  intro s r
  obtain ⟨xs, k, g, e⟩ := r.at_ ha
  obtain ⟨ys, y, rfl⟩ : ∃ ys y, xs = ys ++ [y] := by
    have : xs ≠ [] := by rintro rfl; simp at e
    exact ⟨xs.dropLast, xs.getLast this, (List.dropLast_concat_getLast this).symm⟩
  have e' : ys.map er = vs ∧ er y = v := by
    rw [List.map_append] at e
    have := List.append_inj' e rfl
    exact ⟨this.1, by simpa using this.2⟩
  have hlen : ys.length = vs.length := by rw [← e'.1, List.length_map]
  refine call_meets PySem.F.slot_list_pop ⟨_, g, rfl⟩ PySem.F.entry_list_pop (PySem.F.args_list_pop_1 _) (MeetsSeq.list_pop_last a (ys ++ [y]).toArray k y (by simp) (by simp; lia)) ⟨g, ?_⟩
  have := turn_list ha hb r g (fun z => z.eraseIdxIfInBounds ((ys ++ [y]).toArray.size - 1)) ys (by simp [Array.eraseIdxIfInBounds, List.eraseIdx_append_of_length_le]) s.toks
  rw [e'.1] at this
  exact ⟨_, this, by show Q (er y) _; rw [e'.2]; exact h⟩
-- pieces joined
theorem WCall_joinL {a : Addr} {x : Str} {ys : List Str} (ha : σ.H a = some (.list (ys.map V.str))) (hok : JoinOk x ys = true) (h : Q (.str (Txt.join x ys)) σ) :
    WCall prog w base os A L (.bi "str.join") [.str x, .ref a] [] [] Q σ := WCall_bi fun as e => by
  obtain ⟨u, v, rfl, eu, ev⟩ := map_two e
  obtain ⟨t, rfl⟩ := er_str.mp eu
  rw [er_ref] at ev; subst ev
  intro s r
  obtain ⟨xs, k, g, e⟩ := r.at_ ha
  obtain ⟨l, rfl, hl⟩ := strs_of e
  exact SC.join (texts := ys) ⟨_, g, rfl, k, rfl⟩ hl hok fun t' kk => ⟨σ, r.toks kk, h⟩
-- two lists, one after the other
theorem WB_addL {a b : Addr} {vs ws : List V} (ha : σ.H a = some (.list vs)) (hb : σ.H b = some (.list ws)) (hz : vs.length + ws.length ≤ sizeLine) (h : ∀ c, σ.n ≤ c → Q (.ref c) ⟨σ.m, upd σ.H c (.list (vs ++ ws)), c + 1⟩) :
    WB prog w base os A L .Add (.ref a) (.ref b) Q σ := fun x y ex ey s r => by
  rw [er_ref] at ex ey; subst ex ey
  obtain ⟨xs, k, g, e⟩ := r.at_ ha
  obtain ⟨ys, k', g', e'⟩ := r.at_ hb
  have hl : xs.length + ys.length ≤ sizeLine := by rw [← List.length_map (f := er) (as := xs), ← List.length_map (f := er) (as := ys), e, e']; exact hz
  have ee : xs.toArray ++ ys.toArray = (xs ++ ys).toArray := by simp
  refine concat_meets ⟨_, g, rfl⟩ ⟨_, g', rfl⟩ noFill_list_add seq_list_add PySem.F.slot_list_add PySem.F.entry_list_add (PySem.F.args_list_add_2 _ _) (list_addW a b xs.toArray ys.toArray k k' none none #[] #[] (by simpa using hl)) ⟨g, g', ?_⟩
  rw [ee]
  refine ⟨_, r.push _ (o := .list ((xs ++ ys).map er)) ⟨xs ++ ys, _, Heap.get?_push_size _ rfl, rfl⟩, ?_⟩
  rw [List.map_append, e, e']
  exact h _ r.1.le
theorem fills_list_iadd : fillsInplaceSlot (.type "list") "add" true = pure false := by
  unfold fillsInplaceSlot
  show (typeLookup (.type "list") (dunderI "add") >>= fun fi => pure (fi.isSome && !isSeqSlot fi)) = pure false
  rw [PySem.F.slot_list_iadd.lookup]; kernel_rfl
theorem seq_list_iadd : seqSlot? (.type "list") (dunderI "add") = pure (some (.builtin "list.__iadd__")) := by
  unfold seqSlot?
  rw [PySem.F.slot_list_iadd.lookup]; kernel_rfl
theorem WA_addL {a b : Addr} {vs ws : List V} {x y : Value} (ex : er x = .ref a) (ey : er y = .ref b) (ha : σ.H a = some (.list vs)) (hba : base.objs.size ≤ a) (hb : σ.H b = some (.list ws)) (hz : vs.length + ws.length ≤ 1000)
    (h : Q (.ref a) ⟨σ.m, upd σ.H a (.list (vs ++ ws)), σ.n⟩) : WV prog w base os A L (inplaceOp .Add x y) Q σ := fun s r => by
  rw [er_ref] at ex ey; subst ex ey
  obtain ⟨xs, k, g, e⟩ := r.at_ ha
  obtain ⟨ys, k', g', e'⟩ := r.at_ hb
  have hl : xs.length + ys.length ≤ 1000 := by rw [← List.length_map (f := er) (as := xs), ← List.length_map (f := er) (as := ys), e, e']; exact hz
  have hT : s.TypeIs (.ref a) "list" := ⟨_, g, rfl⟩
  unfold inplaceOp
  refine wpAny_holding ?_
  refine wpAny_bind (wpAny_typeOf hT (wpAny_bind (wpAny_of_eq fills_list_iadd ?_)))
  show wpAny _ A (if false = true then _ else _) _ _ s
  rw [if_neg Bool.false_ne_true]
  refine wpAny_bind (binaryOp1_none (nm := "add") hT ⟨_, g', rfl⟩ noFill_list_add ?_)
  refine wpAny_bind (wpAny_of_eq seq_list_iadd ?_)
  refine wpAny_bind (wpAny_rule ?_)
  refine call_meets PySem.F.slot_list_iadd hT PySem.F.entry_list_iadd (PySem.F.args_list_iadd_2 _ _) (AutoSeq1.list___iadd___list_list_0 a xs.toArray k b ys.toArray k' ?_ (by rw [sizeLine_eq, List.size_toArray]; lia) (by rw [sizeLine_eq, List.size_toArray, List.size_toArray]; lia)) ⟨g, g', ?_⟩
  · have : Builtin.List.listTooLong (xs.toArray.size + ys.toArray.size) = false := by
      unfold Builtin.List.listTooLong
      rw [List.size_toArray, List.size_toArray]
      have := sizeLine_eq
      simp
      lia
    rw [this]; simp
  · have := turn_list ha hba r g (fun z => z ++ ys.toArray) (xs ++ ys) (by simp) s.toks
    rw [List.map_append, e, e'] at this
    exact ⟨_, this, h⟩
-- two rows of ints, compared
theorem reads_ints {h : Heap} {l : Array (Int × Tok)} : ∀ {ks : List Int} {xs : List Value}, xs.map er = ks.map V.int → ReadsAll h xs (ks.map PyData.int) []
  | [], [], _ => .nil
  | [], _ :: _, e => by simp at e
  | _ :: _, [], e => by simp at e
  | k :: ks, x :: xs, e => by
    simp only [List.map_cons, List.cons.injEq] at e
    obtain ⟨t, rfl⟩ := er_int.mp e.1
    exact .cons (as := []) (bs := []) (.int k t) (reads_ints (l := l) e.2)
theorem WC_neInts {a b : Addr} {ks ls : List Int} (ha : σ.H a = some (.list (ks.map V.int))) (hb : σ.H b = some (.list (ls.map V.int))) (hu : A.units + 10 < cLine) (h : Q (.bool (!(ks == ls))) σ) :
    WC prog w base os A L .NotEq (.ref a) (.ref b) Q σ := fun x y ex ey s r => by
  rw [er_ref] at ex ey; subst ex ey
  obtain ⟨xs, k, g, e⟩ := r.at_ ha
  obtain ⟨ys, k', g', e'⟩ := r.at_ hb
  have lay : ∀ ms : List Int, PyData.canLayAll0 (ms.map PyData.int) = true := fun ms => by
    induction ms with
    | nil => rfl
    | cons _ _ ih => simpa [PyData.canLayAll0, PyData.canLay0] using ih
  have eqv : ∀ ks ls : List Int, PyData.eqvAll (ks.map PyData.int) (ls.map PyData.int) = (ks == ls) := fun ks => by
    induction ks with
    | nil => intro ls; cases ls <;> rfl
    | cons k ks ih =>
      intro ls
      cases ls with
      | nil => rfl
      | cons l ls => show ((k == l) && _) = _; rw [ih]; rfl
  refine SeqAt.compareNe_reads (da := .list (ks.map .int)) (db := .list (ls.map .int)) (.list g rfl rfl (reads_ints (l := #[]) e)) (.list g' rfl rfl (reads_ints (l := #[]) e')) ?_ ?_ ?_ ⟨σ, r, ?_⟩
  · simpa [PyData.canLay0] using lay ks
  · simpa [PyData.canLay0] using lay ls
  · have dep : ∀ ms : List Int, PyData.depthAll (ms.map PyData.int) = 0 := fun ms => by
      induction ms with
      | nil => rfl
      | cons m ms ih => show max (PyData.depth (.int m)) (PyData.depthAll (ms.map PyData.int)) = 0; rw [ih]; rfl
    have : PyData.depth (.list (ks.map PyData.int)) = 1 := by show PyData.depthAll _ + 1 = 1; rw [dep]
    have h2 : min (PyData.depth (.list (ks.map PyData.int))) (PyData.depth (.list (ls.map PyData.int))) ≤ _ := Nat.min_le_left _ _
    lia
  · show Q (.bool (!PyData.eqvAll _ _)) σ
    rw [eqv]; exact h
end
section
set_option maxRecDepth 100000
set_option linter.unusedVariables false
variable {base : Heap} {os : OsState} {H H' : HP} {n n' : Nat} {s s' : Shared} {prog : Program} {w₀ : World} {A : Around} {L : Addr} {σ : St} {m : Loc} {env : Env} {Q : V → St → Prop} {R : Flow → St → Prop}
variable {dV kV doc pm cdv ct : Value} {an : Option Addr} {f : Addr} {mg mb : Str → Option Value}




noncomputable abbrev sgF := pst PySem.Challenge.pw_rw0112_01 17
noncomputable def ifB (s : Stmt) : List Stmt := (stV s).1
noncomputable def asV (s : Stmt) : Expr := (stV s).2.2.1
noncomputable def retE (s : Stmt) : Expr := (stV s).2.2.1
noncomputable def eltsE (e : Expr) : List Expr := (exV e).1
noncomputable def subV (e : Expr) : Expr := (exV e).2.1.getD e
noncomputable def cS (e : Expr) : Str := match (exV e).2.2.1 with
  | some (.str x) => x
  | _ => Str.empty
noncomputable def cI (e : Expr) : Int := match (exV e).2.2.1 with
  | some (.int i) => i
  | _ => 0
noncomputable def nE (l : List Expr) (i : Nat) : Expr := (l[i]?).getD (.Constant .none 0 ⟨0, 0, 0, 0⟩)
noncomputable def nS (l : List Stmt) (i : Nat) : Stmt := (l[i]?).getD (.Pass ⟨0, 0, 0, 0⟩)
-- the rows of signs that the text holds
noncomputable def row0 : Str := cS (subV (nE (eltsE (retE (nS (ifB (nS (fbody sgF) 0)) 0))) 0))
noncomputable def row1 : Str := cS (subV (nE (eltsE (retE (nS (ifB (nS (fbody sgF) 1)) 0))) 0))
noncomputable def row3 : Str := cS (asV (nS (ifB (nS (fbody sgF) 3)) 0))
noncomputable def row5 : List Int := (eltsE (subV (asV (nS (ifB (nS (fbody sgF) 5)) 0)))).map cI
noncomputable def row6 : List Str := (eltsE (asV (nS (fbody sgF) 6))).map cS
noncomputable def row7 : Str := cS (subV (nE (eltsE (retE (nS (fbody sgF) 7))) 0))
noncomputable def one (c : Nat) : Str := ⟨#[c]⟩
-- what the text makes of a kind and a number
noncomputable def sgn (k w : Nat) : Nat × Str :=
  if k < 4 then (row0.cps.getD k 0, one (row0.cps.getD k 0))
  else if k = 4 ∧ 15 < w then (row1.cps.getD (w - 16) 0, Str.empty)
  else if k = 4 then (65024 + w, Str.empty)
  else if k = 5 then (row3.cps.getD (w % 16) 0, one (row3.cps.getD (w % 16) 0))
  else if k = 6 ∧ w < 13 then (65 + 2 * w, one (97 + 2 * w))
  else if k = 6 then ((119808 + 52 * (row5.getD (w % 10) 0) + w - 13).toNat, one (97 + w - 13))
  else (row7.cps.getD (w % 8) 0, row6.getD (w % 8) Str.empty)
theorem getD_some {x : Str} {i : Nat} (h : i < x.cps.size) : x.cps[i]? = some (x.cps.getD i 0) := by
  simp [Array.getD, h]
theorem row5_get {i : Nat} (h : i < 10) : ∃ j : Int, row5[i]? = some j ∧ row5.getD i 0 = j ∧ 0 ≤ j ∧ j ≤ 12 := by
  have : ∀ i : Nat, i < 10 → (match (row5[i]? : Option Int) with | some j => decide (0 ≤ j) && decide (j ≤ 12) | none => false) = true := by decide +kernel
  have := this i h
  cases e : row5[i]? with
  | none => rw [e] at this; cases this
  | some j =>
    rw [e] at this
    simp at this
    exact ⟨j, rfl, by rw [List.getD_eq_getElem?_getD, e]; rfl, this.1, this.2⟩

set_option maxHeartbeats 4000000 in
theorem C_sign {k w : Nat} {k' w' : Value} (G : Gl base mg mb) (hf : FnAt base f (fdOf sgF .none .none doc pm an cdv ct)) (e1 : er k' = .int k) (e2 : er w' = .int w) (hk : k < 8) (hw : w < 27) (hA : A.depth < recursionLimit) :
    C prog w₀ base os A (.call (.ref f) ⟨[k', w'], []⟩) (fun v H' n' => ∃ a, v = .ref a ∧ H' = upd H a (.tup [.str (one (sgn k w).1), .str (sgn k w).2]) ∧ n ≤ a ∧ a < n') H n := by
  refine C_def (binds := [("kind", k'), ("which", w')]) (fun s r => hf.keeps r.keep) G.lim hA rfl (fun s r => BindsTo.of_eq (by kernel_rfl!)) (noCells (by kernel_rfl!)) (locs (by kernel_rfl!)) (fun L hL => ?_) rfl rfl rfl
  have q1 : (fun y => ((([("kind", k'), ("which", w')] : List (Str × Value)).reverse.lookup y).map er : Option V)) "kind" = some (.int k) := by rw [← e1]; rfl
  have q2 : (fun y => ((([("kind", k'), ("which", w')] : List (Str × Value)).reverse.lookup y).map er : Option V)) "which" = some (.int w) := by rw [← e2]; rfl
  revert q1 q2
  generalize (fun y => ((([("kind", k'), ("which", w')] : List (Str × Value)).reverse.lookup y).map er : Option V)) = m₀
  intro q1 q2
  refine W.fact fun told _ _ _ => ?_
  have hfresh : ∀ b, L + 1 ≤ b → H b = none := fun b hb => by
    cases q : H b with
    | none => rfl
    | some o => exact absurd (Nat.lt_of_lt_of_le (told _ _ q) hb) (Nat.lt_irrefl _)
  have fin : ∀ (a : Addr) (H₂ : HP) (c : Nat) (mn : Str), L + 1 ≤ a → sgn k w = (c, mn) → Sub H H₂ → ∀ a', er a' = .ref a →
      ∃ H', (∀ b o, H' b = some o → upd H₂ a (.tup [.str (one c), .str mn]) b = some o) ∧ ∃ b, er a' = .ref b ∧ H' = upd H b (.tup [.str (one (sgn k w).1), .str (sgn k w).2]) ∧ n ≤ b ∧ b < a + 1 := by
    intro a H₂ c mn ha hs hsub a' ea
    refine ⟨_, fun b o e => ?_, a, ea, rfl, Nat.le_trans hL (Nat.le_of_succ_le ha), Nat.lt_succ_self _⟩
    rw [hs] at e
    by_cases hb : b = a
    · subst hb; rw [upd_same] at e ⊢; exact e
    · rw [upd_ne hb] at e ⊢; exact hsub _ _ e
  refine WS_cons (WS_If ?_)
  repeat walk_at "s"
  refine ite_both (fun t => ?_) (fun t => ?_)
  · have hk4 : k < 4 := by have := of_decide_eq_true t; lia
    refine WS_cons (WS_Return ?_)
    refine W_Tuple rfl ?_
    dsimp only [WArgs]
    walk_at "e"; walk_at "e"; walk_at "e"
    refine WSub_str (c := row0.cps.getD k 0) (by lia) (getD_some (x := row0) (Nat.lt_of_lt_of_le hk4 (by decide +kernel))) (by decide +kernel) ?_ rfl
    walk_at "e"; walk_at "e"; walk_at "e"
    refine WSub_str (c := row0.cps.getD k 0) (by lia) (getD_some (x := row0) (Nat.lt_of_lt_of_le hk4 (by decide +kernel))) (by decide +kernel) ?_ rfl
    refine ⟨(by show (2 : Nat) ≤ 2 ^ 24; decide), fun a ha => ?_⟩
    exact fin a _ _ _ ha (by unfold sgn; rw [if_pos hk4]; rfl) (Sub.refl _)
  have hk4 : ¬ k < 4 := by have := of_decide_eq_false t; lia
  refine WS_nil ?_
  dsimp only
  refine WS_cons (WS_If ?_)
  refine WI_And ?_
  repeat walk_at "s"
  refine ite_both (fun t => ?_) (fun t => ?_)
  · have hk : k = 4 := by have := eq_of_beq t; lia
    repeat walk_at "s"
    refine ite_both (fun t' => ?_) (fun t' => ?_)
    · have hw15 : 15 < w := by have := of_decide_eq_true t'; lia
      refine WS_cons (WS_Return ?_)
      refine W_Tuple rfl ?_
      dsimp only [WArgs]
      walk_at "e"; walk_at "e"; walk_at "e"; walk_at "e"; walk_at "e"; walk_at "o"
      refine WSub_str (c := row1.cps.getD (w - 16) 0) (by lia) ?_ (by decide +kernel) ?_ rfl
      · rw [show ((w : Int) - 16).toNat = w - 16 by lia]
        exact getD_some (x := row1) (Nat.lt_of_lt_of_le (show w - 16 < 11 by lia) (by decide +kernel))
      walk_at "e"
      refine ⟨(by show (2 : Nat) ≤ 2 ^ 24; decide), fun a ha => ?_⟩
      exact fin a _ _ _ ha (by unfold sgn; rw [if_neg hk4, if_pos ⟨hk, hw15⟩]; rfl) (Sub.refl _)
    · have hw15 : ¬ 15 < w := by have := of_decide_eq_false t'; lia
      refine WS_nil ?_
      dsimp only
      refine WS_cons (WS_If ?_)
      repeat walk_at "s"
      refine ite_true' t ?_
      refine WS_cons (WS_Return ?_)
      refine W_Tuple rfl ?_
      dsimp only [WArgs]
      refine W_Call rfl rfl ?_ rfl
      refine W_builtin G.g G.b (v := .builtin "chr") (G.bi _ (.builtin "chr") (by kernel_rfl!)).1 (G.bi _ (.builtin "chr") (by kernel_rfl!)).2 ?_ (by walk_at "k") (by walk_at "k") (by walk_at "k") (by walk_at "k") (by decide +kernel)
      dsimp only [WArgs]
      repeat walk_at "s"
      dsimp only [WKws, kwNames]
      refine ⟨trivial, WCall_chr (by lia) (by lia) ?_⟩
      walk_at "e"
      refine ⟨(by show (2 : Nat) ≤ 2 ^ 24; decide), fun a ha => ?_⟩
      rw [show ((65024 : Int) + w).toNat = 65024 + w by lia]
      exact fin a _ _ _ ha (by unfold sgn; rw [if_neg hk4, if_neg (by lia), if_pos hk]; rfl) (Sub.refl _)
  have hkn4 : ¬ k = 4 := by intro q; subst q; simp at t
  refine WS_nil ?_
  dsimp only
  refine WS_cons (WS_If ?_)
  repeat walk_at "s"
  refine ite_false' t ?_
  refine WS_nil ?_
  dsimp only
  refine WS_cons (WS_If ?_)
  repeat walk_at "s"
  refine ite_both (fun t5 => ?_) (fun t5 => ?_)
  · have hk5 : k = 5 := by have := eq_of_beq t5; lia
    walk_at "t"; walk_at "e"; walk_at "t"
    refine WS_cons (WS_Return ?_)
    refine W_Tuple rfl ?_
    dsimp only [WArgs]
    walk_at "e"; walk_at "e"; walk_at "e"; walk_at "e"; walk_at "e"
    refine WB_mod ?_ (by decide)
    rw [show ((w : Int).fmod 16) = ((w % 16 : Nat) : Int) by rw [Int.fmod_eq_emod_of_nonneg _ (by decide)]; lia]
    refine WSub_str (c := row3.cps.getD (w % 16) 0) (by lia) (getD_some (x := row3) (Nat.lt_of_lt_of_le (show w % 16 < 16 by lia) (by decide +kernel))) (by decide +kernel) ?_ rfl
    walk_at "e"; walk_at "e"; walk_at "e"; walk_at "e"; walk_at "e"
    refine WB_mod ?_ (by decide)
    rw [show ((w : Int).fmod 16) = ((w % 16 : Nat) : Int) by rw [Int.fmod_eq_emod_of_nonneg _ (by decide)]; lia]
    refine WSub_str (c := row3.cps.getD (w % 16) 0) (by lia) (getD_some (x := row3) (Nat.lt_of_lt_of_le (show w % 16 < 16 by lia) (by decide +kernel))) (by decide +kernel) ?_ rfl
    refine ⟨(by show (2 : Nat) ≤ 2 ^ 24; decide), fun a ha => ?_⟩
    exact fin a _ _ _ ha (by unfold sgn; rw [if_neg hk4, if_neg (by lia), if_neg hkn4, if_pos hk5]; rfl) (Sub.refl _)
  have hkn5 : ¬ k = 5 := by intro q; subst q; simp at t5
  refine WS_nil ?_
  dsimp only
  refine WS_cons (WS_If ?_)
  refine WI_And ?_
  repeat walk_at "s"
  refine ite_both (fun t6 => ?_) (fun t6 => ?_)
  · have hk6 : k = 6 := by have := eq_of_beq t6; lia
    repeat walk_at "s"
    refine ite_both (fun t' => ?_) (fun t' => ?_)
    · have hw13 : w < 13 := by have := of_decide_eq_true t'; lia
      refine WS_cons (WS_Return ?_)
      refine W_Tuple rfl ?_
      dsimp only [WArgs]
      refine W_Call rfl rfl ?_ rfl
      refine W_builtin G.g G.b (v := .builtin "chr") (G.bi _ (.builtin "chr") (by kernel_rfl!)).1 (G.bi _ (.builtin "chr") (by kernel_rfl!)).2 ?_ (by walk_at "k") (by walk_at "k") (by walk_at "k") (by walk_at "k") (by decide +kernel)
      dsimp only [WArgs]
      repeat walk_at "s"
      refine WB_mul ?_ (IntMulOk.of_left (by decide +kernel))
      repeat walk_at "s"
      dsimp only [WKws, kwNames]
      refine ⟨trivial, WCall_chr (by lia) (by lia) ?_⟩
      refine W_Call rfl rfl ?_ rfl
      refine W_builtin G.g G.b (v := .builtin "chr") (G.bi _ (.builtin "chr") (by kernel_rfl!)).1 (G.bi _ (.builtin "chr") (by kernel_rfl!)).2 ?_ (by walk_at "k") (by walk_at "k") (by walk_at "k") (by walk_at "k") (by decide +kernel)
      dsimp only [WArgs]
      repeat walk_at "s"
      refine WB_mul ?_ (IntMulOk.of_left (by decide +kernel))
      repeat walk_at "s"
      dsimp only [WKws, kwNames]
      refine ⟨trivial, WCall_chr (by lia) (by lia) ?_⟩
      refine ⟨(by show (2 : Nat) ≤ 2 ^ 24; decide), fun a ha => ?_⟩
      rw [show ((65 : Int) + 2 * w).toNat = 65 + 2 * w by lia, show ((97 : Int) + 2 * w).toNat = 97 + 2 * w by lia]
      exact fin a _ _ _ ha (by unfold sgn; rw [if_neg hk4, if_neg (by lia), if_neg hkn4, if_neg hkn5, if_pos ⟨hk6, hw13⟩]; rfl) (Sub.refl _)
    · have hw13 : ¬ w < 13 := by have := of_decide_eq_false t'; lia
      refine WS_nil ?_
      dsimp only
      refine WS_cons (WS_If ?_)
      repeat walk_at "s"
      refine ite_true' t6 ?_
      refine WS_cons (WS_Assign ?_ (by walk_at "k"))
      refine W_Subscript ?_
      refine W_List rfl ?_
      dsimp only [WArgs]
      repeat walk_at "s"
      refine ⟨(by show (10 : Nat) ≤ 2 ^ 24; decide), fun b hb => ?_⟩
      repeat walk_at "s"
      refine WB_mod ?_ (by decide)
      rw [show ((w : Int).fmod 10) = ((w % 10 : Nat) : Int) by rw [Int.fmod_eq_emod_of_nonneg _ (by decide)]; lia]
      obtain ⟨j, j1, j2, j3, j4⟩ := row5_get (i := w % 10) (by lia)
      refine WSub_list (vs := row5.map V.int) (v := .int j) (upd_same _ _ _) (by lia) (by rw [List.getElem?_map]; show Option.map V.int (row5[w % 10]?) = _; rw [j1]; rfl) (by decide +kernel) ?_ rfl
      walk_at "t"
      refine WS_cons (WS_Return ?_)
      refine W_Tuple rfl ?_
      dsimp only [WArgs]
      refine W_Call rfl rfl ?_ rfl
      refine W_builtin G.g G.b (v := .builtin "chr") (G.bi _ (.builtin "chr") (by kernel_rfl!)).1 (G.bi _ (.builtin "chr") (by kernel_rfl!)).2 ?_ (by walk_at "k") (by walk_at "k") (by walk_at "k") (by walk_at "k") (by decide +kernel)
      dsimp only [WArgs]
      repeat walk_at "s"
      refine WB_mul ?_ (IntMulOk.of_left (by decide +kernel))
      repeat walk_at "s"
      dsimp only [WKws, kwNames]
      refine ⟨trivial, WCall_chr (by lia) (by lia) ?_⟩
      refine W_Call rfl rfl ?_ rfl
      refine W_builtin G.g G.b (v := .builtin "chr") (G.bi _ (.builtin "chr") (by kernel_rfl!)).1 (G.bi _ (.builtin "chr") (by kernel_rfl!)).2 ?_ (by walk_at "k") (by walk_at "k") (by walk_at "k") (by walk_at "k") (by decide +kernel)
      dsimp only [WArgs]
      repeat walk_at "s"
      dsimp only [WKws, kwNames]
      refine ⟨trivial, WCall_chr (by lia) (by lia) ?_⟩
      refine ⟨(by show (2 : Nat) ≤ 2 ^ 24; decide), fun a ha => ?_⟩
      rw [show ((97 : Int) + w - 13).toNat = 97 + w - 13 by lia]
      exact fin a _ _ _ (Nat.le_trans hb (Nat.le_of_succ_le ha)) (by unfold sgn; rw [if_neg hk4, if_neg (by lia), if_neg hkn4, if_neg hkn5, if_neg (by lia), if_pos hk6, j2]; rfl) (Sub.upd_new (hfresh b hb))
  have hkn6 : ¬ k = 6 := by intro q; subst q; simp at t6
  have hk7 : k = 7 := by lia
  refine WS_nil ?_
  dsimp only
  refine WS_cons (WS_If ?_)
  repeat walk_at "s"
  refine ite_false' t6 ?_
  refine WS_nil ?_
  dsimp only
  refine WS_cons (WS_Assign ?_ (by walk_at "k"))
  refine W_List rfl ?_
  dsimp only [WArgs]
  repeat walk_at "e"
  refine ⟨(by show (8 : Nat) ≤ 2 ^ 24; decide), fun b hb => ?_⟩
  walk_at "t"
  refine WS_cons (WS_Return ?_)
  refine W_Tuple rfl ?_
  dsimp only [WArgs]
  walk_at "e"; walk_at "e"; walk_at "e"; walk_at "e"; walk_at "e"
  refine WB_mod ?_ (by decide)
  rw [show ((w : Int).fmod 8) = ((w % 8 : Nat) : Int) by rw [Int.fmod_eq_emod_of_nonneg _ (by decide)]; lia]
  refine WSub_str (c := row7.cps.getD (w % 8) 0) (by lia) (getD_some (x := row7) (Nat.lt_of_lt_of_le (show w % 8 < 8 by lia) (by decide +kernel))) (by decide +kernel) ?_ rfl
  walk_at "e"; walk_at "e"; walk_at "e"; walk_at "e"; walk_at "e"
  refine WB_mod ?_ (by decide)
  rw [show ((w : Int).fmod 8) = ((w % 8 : Nat) : Int) by rw [Int.fmod_eq_emod_of_nonneg _ (by decide)]; lia]
  refine WSub_list (vs := row6.map V.str) (v := .str (row6.getD (w % 8) Str.empty)) (upd_same _ _ _) (by lia) (by
    rw [List.getElem?_map]
    show Option.map V.str (row6[w % 8]?) = _
    have : w % 8 < row6.length := Nat.lt_of_lt_of_le (show w % 8 < 8 by lia) (by decide +kernel)
    rw [List.getElem?_eq_getElem this, List.getD_eq_getElem?_getD, List.getElem?_eq_getElem this]; rfl) (by decide +kernel) ?_ rfl
  refine ⟨(by show (2 : Nat) ≤ 2 ^ 24; decide), fun a ha => ?_⟩
  exact fin a _ _ _ (Nat.le_trans hb (Nat.le_of_succ_le ha)) (by unfold sgn; rw [if_neg hk4, if_neg (by lia), if_neg hkn4, if_neg hkn5, if_neg (by lia), if_neg hkn6]) (Sub.upd_new (hfresh b hb))
end
section
set_option maxRecDepth 100000
set_option linter.unusedVariables false
variable {base : Heap} {os : OsState} {H H' : HP} {n n' : Nat} {s s' : Shared} {prog : Program} {w₀ : World} {A : Around} {L : Addr} {σ : St} {m : Loc} {env : Env} {Q : V → St → Prop} {R : Flow → St → Prop}
variable {dV kV doc pm cdv ct : Value} {an : Option Addr} {f : Addr} {mg mb : Str → Option Value}




noncomputable abbrev ltF := pst PySem.Challenge.pw_rw0112_01 18
noncomputable def toldOf (mn told last : Str) : Str :=
  if (mn == Str.ofString "\r" || (mn == Str.ofString "\n" && last != Str.ofString "\r")) = true then told ++ Str.ofString "\r\n"
  else if (mn == Str.ofString "." && [Str.empty, Str.ofString "\n"].any fun y => y.cps.toList == (Txt.slice told (some (-1)) none).cps.toList) = true then told ++ Str.ofString ".."
  else if (mn != Str.ofString "\n") = true then told ++ mn else told
-- the letter's signs and what they mean, turn by turn
noncomputable def letterGo : Nat → Nat → Str → Str → Str → Str × Str
  | 0, _, typed, told, _ => (typed, told)
  | t + 1, rest, typed, told, last =>
    let p := sgn (rest % 8) (rest / 8 % 27)
    letterGo t (rest / 216) (typed ++ one p.1) (toldOf p.2 told last) (if p.2.length = 0 then last else p.2)
theorem rngV_len : ∀ (a c : Int) (n : Nat), (rngV a c n).length = n
  | _, _, 0 => rfl
  | a, c, n + 1 => by show (rngV (a + c) c n).length + 1 = _; rw [rngV_len]
theorem sgn_len {k w : Nat} (hk : k < 8) (hw : w < 27) : (sgn k w).2.length ≤ 8 := by
  have : ∀ k : Nat, k < 8 → ∀ w : Nat, w < 27 → (sgn k w).2.length ≤ 8 := by decide +kernel
  exact this k hk w hw
theorem toldOf_len {mn told last : Str} (h : mn.length ≤ 8) : (toldOf mn told last).length ≤ told.length + 8 := by
  have e : ∀ a b : Str, (a ++ b).length = a.length + b.length := fun a b => by show (a.cps ++ b.cps).size = _; rw [Array.size_append]; rfl
  have h1 : (Str.ofString "\r\n").length = 2 := by decide +kernel
  have h2 : (Str.ofString "..").length = 2 := by decide +kernel
  unfold toldOf
  split
  · rw [e, h1]; lia
  · split
    · rw [e, h2]; lia
    · split
      · rw [e]; lia
      · lia

noncomputable def forB (s : Stmt) : List Stmt := (stV s).1
noncomputable def elseB (s : Stmt) : List Stmt := (stV s).2.1
set_option maxHeartbeats 4000000 in
theorem letter_ifs {fb : Addr} {S : Int → Bool} {sb : Addr} {doc₂ pm₂ cdv₂ ct₂ : Value} {an₂ : Option Addr} {c : Nat} {mn told last : Str} (G : Gl base mg mb)
    (hfb : FnAt base fb (fdOf inB1 .none .none doc₂ pm₂ an₂ cdv₂ ct₂)) (hmb : mg "in_table_b1" = some (.ref fb)) (hmS : mg "b1_set" = some (.ref sb)) (hS : BaseSet prog w₀ base sb S) (hS0 : mn.length = 0 → S c = true)
    (hA : A.depth + 1 < recursionLimit) (h1 : σ.m "sign" = some (.str (one c))) (h2 : σ.m "meant" = some (.str mn)) (h3 : σ.m "told" = some (.str told)) (h4 : σ.m "last" = some (.str last)) (z1 : mn.length ≤ 8) (z2 : told.length ≤ 40) (z3 : last.length ≤ 8)
    (k : ∀ m' H' n', (∀ x, x ≠ Str.ofString "told" → x ≠ Str.ofString "last" → m' x = σ.m x) → m' "told" = some (.str (toldOf mn told last)) → m' "last" = some (.str (if mn.length = 0 then last else mn)) → Sub σ.H H' → R .next ⟨m', H', n'⟩) :
    WS prog w₀ base os (A.deeper (callEnv (fdOf ltF .none .none doc pm an cdv ct) L f)) L ((forB (nS (fbody ltF) 1)).drop 3) (callEnv (fdOf ltF .none .none doc pm an cdv ct) L f) R σ := by
  have lastStep : ∀ (m' : Loc) (H' : HP) (n' : Nat), (∀ x, x ≠ Str.ofString "told" → x ≠ Str.ofString "last" → m' x = σ.m x) → m' "told" = some (.str (toldOf mn told last)) → m' "last" = some (.str last) → Sub σ.H H' →
      WS prog w₀ base os (A.deeper (callEnv (fdOf ltF .none .none doc pm an cdv ct) L f)) L ((forB (nS (fbody ltF) 1)).drop 5) (callEnv (fdOf ltF .none .none doc pm an cdv ct) L f) R ⟨m', H', n'⟩ := by
    intro m' H' n' hm ht hl hs
    have hmn : m' "meant" = some (.str mn) := (hm _ (by decide +kernel) (by decide +kernel)).trans h2
    refine WS_cons (WS_Assign ?_ (by walk_at "k"))
    refine W_Or2 ?_
    walk_at "e"
    refine WT_str ?_ (by show mn.length ≤ 2 ^ 24; lia)
    cases hz : ((mn.length : Int) != 0) with
    | true =>
      refine ite_true' rfl ?_
      refine WSt_local ?_ (by walk_at "k") (by walk_at "k") (by walk_at "k")
      refine WS_nil ?_
      have : ¬ mn.length = 0 := by intro q; rw [q] at hz; cases hz
      refine k _ _ _ (fun x q1 q2 => (Loc.set_ne q2).trans (hm x q1 q2)) ((Loc.set_ne (by decide +kernel)).trans ht) ((Loc.set_same _ _ _).trans (by rw [if_neg this])) hs
    | false =>
      refine ite_false' rfl ?_
      walk_at "e"
      refine WSt_local ?_ (by walk_at "k") (by walk_at "k") (by walk_at "k")
      refine WS_nil ?_
      have : mn.length = 0 := by simpa using hz
      refine k _ _ _ (fun x q1 q2 => (Loc.set_ne q2).trans (hm x q1 q2)) ((Loc.set_ne (by decide +kernel)).trans ht) ((Loc.set_same _ _ _).trans (by rw [if_pos this])) hs
  have setTold : ∀ (σ' : St) (e : Expr) (pz pz' : Pos) (add : Str), (∀ x, σ'.m x = σ.m x) → Sub σ.H σ'.H → add.length ≤ 8 → toldOf mn told last = told ++ add →
      (∀ Q : V → St → Prop, Q (.str add) σ' → WV prog w₀ base os (A.deeper (callEnv (fdOf ltF .none .none doc pm an cdv ct) L f)) L (eval e (callEnv (fdOf ltF .none .none doc pm an cdv ct) L f)) Q σ') →
      WS prog w₀ base os (A.deeper (callEnv (fdOf ltF .none .none doc pm an cdv ct) L f)) L [.AugAssign (.Name (Str.ofString "told") pz) .Add e pz'] (callEnv (fdOf ltF .none .none doc pm an cdv ct) L f)
        (fun f' σ'' => match f' with | .next => WS prog w₀ base os (A.deeper (callEnv (fdOf ltF .none .none doc pm an cdv ct) L f)) L ((forB (nS (fbody ltF) 1)).drop 5) (callEnv (fdOf ltF .none .none doc pm an cdv ct) L f) R σ'' | f' => R f' σ'') σ' := by
    intro σ' e pz pz' add hm hs hl ht he
    refine WS_cons (WS_Aug ?_)
    refine W_load (v := .str told) ((hm _).trans h3) ?_ (by walk_at "k") (by walk_at "k") (by walk_at "k")
    refine he _ ?_
    intro a1 a2 ea1 ea2
    refine WA_addS ea1 ea2 ?_ (by show told.length + add.length ≤ 2 ^ 24; lia)
    refine WSt_local ?_ (by walk_at "k") (by walk_at "k") (by walk_at "k")
    refine WS_nil ?_
    exact lastStep _ _ _ (fun x q1 _ => (Loc.set_ne q1).trans (hm x)) ((Loc.set_same _ _ _).trans (by rw [ht])) ((Loc.set_ne (by decide +kernel)).trans ((hm _).trans h4)) hs
  have mid : ∀ σ' : St, (∀ x, σ'.m x = σ.m x) → Sub σ.H σ'.H → WS prog w₀ base os (A.deeper (callEnv (fdOf ltF .none .none doc pm an cdv ct) L f)) L ((forB (nS (fbody ltF) 1)).drop 4) (callEnv (fdOf ltF .none .none doc pm an cdv ct) L f) R σ' := by
    intro σ' hm hs
    have g2 := (hm "meant").trans h2
    have g3 := (hm "told").trans h3
    have g4 := (hm "last").trans h4
    refine WS_cons (WS_If ?_)
    refine WI_Or ?_
    walk_at "i"; walk_at "e"; walk_at "e"; walk_at "o"; walk_at "o"
    refine ite_both (fun t => ?_) (fun t => ?_)
    · refine ite_true' rfl ?_
      refine setTold _ _ _ _ _ hm hs (by decide +kernel) ?_ fun Q q => W_str q
      unfold toldOf; rw [if_pos (by rw [t]; rfl)]
    refine WI_And ?_
    walk_at "i"; walk_at "e"; walk_at "e"; walk_at "o"; walk_at "o"
    have third : (mn == Str.ofString "\r" || (mn == Str.ofString "\n" && last != Str.ofString "\r")) = false →
        (mn == Str.ofString "." && [Str.empty, Str.ofString "\n"].any fun y => y.cps.toList == (Txt.slice told (some (-1)) none).cps.toList) = false → ∀ σ' : St, (∀ x, σ'.m x = σ.m x) → Sub σ.H σ'.H →
        WS prog w₀ base os (A.deeper (callEnv (fdOf ltF .none .none doc pm an cdv ct) L f)) L (elseB (nS (elseB (nS (forB (nS (fbody ltF) 1)) 4)) 0)) (callEnv (fdOf ltF .none .none doc pm an cdv ct) L f)
        (fun f' σ'' => match f' with | .next => WS prog w₀ base os (A.deeper (callEnv (fdOf ltF .none .none doc pm an cdv ct) L f)) L ((forB (nS (fbody ltF) 1)).drop 5) (callEnv (fdOf ltF .none .none doc pm an cdv ct) L f) R σ'' | f' => R f' σ'') σ' := by
      intro n1 n2 σ' hm hs
      have g2 := (hm "meant").trans h2
      have g3 := (hm "told").trans h3
      have g4 := (hm "last").trans h4
      refine WS_cons (WS_If ?_)
      walk_at "i"; walk_at "e"; walk_at "e"; walk_at "o"; walk_at "o"
      refine ite_both (fun t => ?_) (fun t => ?_)
      · refine W.mono (setTold _ (.Name (Str.ofString "meant") _) _ _ mn hm hs z1 ?_ fun Q q => ?_) fun f' σ'' x => ?_
        · unfold toldOf; rw [if_neg (by rw [n1]; decide), if_neg (by rw [n2]; decide), if_pos t]
        · refine W_Name (W_load g2 q (by walk_at "k") (by walk_at "k") (by walk_at "k")) (by decide +kernel)
        · cases f' <;> first | exact x | exact WS_nil x
      · refine WS_nil ?_
        refine WS_nil ?_
        refine lastStep _ _ _ (fun x _ _ => hm x) (g3.trans ?_) g4 hs
        unfold toldOf; rw [if_neg (by rw [n1]; decide), if_neg (by rw [n2]; decide), if_neg (by rw [t]; decide)]
    have second : (mn == Str.ofString "\r" || (mn == Str.ofString "\n" && last != Str.ofString "\r")) = false → ∀ σ' : St, (∀ x, σ'.m x = σ.m x) → Sub σ.H σ'.H →
        WS prog w₀ base os (A.deeper (callEnv (fdOf ltF .none .none doc pm an cdv ct) L f)) L (elseB (nS (forB (nS (fbody ltF) 1)) 4)) (callEnv (fdOf ltF .none .none doc pm an cdv ct) L f)
        (fun f' σ'' => match f' with | .next => WS prog w₀ base os (A.deeper (callEnv (fdOf ltF .none .none doc pm an cdv ct) L f)) L ((forB (nS (fbody ltF) 1)).drop 5) (callEnv (fdOf ltF .none .none doc pm an cdv ct) L f) R σ'' | f' => R f' σ'') σ' := by
      intro n1 σ' hm hs
      have g2 := (hm "meant").trans h2
      have g3 := (hm "told").trans h3
      have g4 := (hm "last").trans h4
      refine W.fact fun tl _ _ _ => ?_
      refine WS_cons (WS_If ?_)
      refine WI_And ?_
      walk_at "i"; walk_at "e"; walk_at "e"; walk_at "o"; walk_at "o"
      refine ite_both (fun t => ?_) (fun t => ?_)
      · walk_at "i"
        refine W_sliceS ?_ (fun a t b => ⟨_, rfl⟩) (fun o r => rfl)
        walk_at "e"
        dsimp only [WSl]
        walk_at "e"; walk_at "e"
        refine WU_neg ?_
        refine ⟨told, -1, rfl, rfl, by show told.length ≤ 2 ^ 24; lia, ?_⟩
        refine W_List rfl ?_
        dsimp only [WArgs]
        walk_at "e"; walk_at "e"
        refine ⟨(by show (2 : Nat) ≤ 2 ^ 24; decide), fun l hl => ?_⟩
        have hl0 : σ'.H l = none := by
          cases q : σ'.H l with
          | none => rfl
          | some o => exact absurd (Nat.lt_of_lt_of_le (tl _ _ q) hl) (Nat.lt_irrefl _)
        refine WC_inStrs (ys := [Str.ofString "", Str.ofString "\n"]) (upd_same _ _ _) ?_
        walk_at "o"
        have hs2 : Sub σ.H (upd σ'.H l (.list [.str (Str.ofString ""), .str (Str.ofString "\n")])) := hs.trans (Sub.upd_new hl0)
        refine ite_both (fun t' => ?_) (fun t' => ?_)
        · refine W.mono (setTold ⟨σ'.m, _, _⟩ _ _ _ (Str.ofString "..") hm hs2 (by decide +kernel) ?_ fun Q q => W_str q) fun f' σ'' x => ?_
          · have t'' : ([Str.empty, Str.ofString "\n"].any fun y => y.cps.toList == (Txt.slice told (some (-1)) none).cps.toList) = true := t'
            unfold toldOf; rw [if_neg (by rw [n1]; decide), if_pos (by rw [t, t'']; rfl)]
          · cases f' <;> first | exact x | exact WS_nil x
        · have t'' : ([Str.empty, Str.ofString "\n"].any fun y => y.cps.toList == (Txt.slice told (some (-1)) none).cps.toList) = false := t'
          refine W.mono (third n1 (by rw [t'', Bool.and_false]) ⟨σ'.m, _, _⟩ hm hs2) fun f' σ'' x => ?_
          cases f' <;> first | exact x | exact WS_nil x
      · refine ite_false' rfl ?_
        refine W.mono (third n1 (by rw [t, Bool.false_and]) _ hm hs) fun f' σ'' x => ?_
        cases f' <;> first | exact x | exact WS_nil x
    refine ite_both (fun t1 => ?_) (fun t1 => ?_)
    · walk_at "i"; walk_at "e"; walk_at "e"; walk_at "o"; walk_at "o"
      refine ite_both (fun t2 => ?_) (fun t2 => ?_)
      · refine setTold _ _ _ _ _ hm hs (by decide +kernel) ?_ fun Q q => W_str q
        unfold toldOf; rw [if_pos (by rw [t1, t2]; simp)]
      · exact second (by rw [t, t2]; simp) _ hm hs
    · refine ite_false' rfl ?_
      exact second (by rw [t, t1]; rfl) _ hm hs
  refine WS_cons (WS_If ?_)
  refine WI_And ?_
  walk_at "i"; walk_at "e"; walk_at "e"; walk_at "o"; walk_at "o"
  refine ite_both (fun t => ?_) (fun t => ?_)
  · walk_at "i"
    refine W_Call rfl rfl ?_ rfl
    refine W_global G.g hmb ?_ (by walk_at "k") (by walk_at "k") (by walk_at "k") (by decide +kernel)
    dsimp only [WArgs]
    walk_at "e"
    dsimp only [WKws, kwNames]
    refine ⟨.inl (hfb.at_.imp fun o e => ⟨_, e.1, e.2⟩), WCall_ref0 fun as ea => ?_⟩
    obtain ⟨u1, rfl, eu1⟩ := map_one ea
    refine W_pure (fun _ _ => C_inB1 G hfb hmS hS eu1 (by show A.depth + 1 < _; lia)) fun n' hn' => ?_
    walk_at "e"
    refine WC_isNotBool ?_
    walk_at "o"
    have hz : mn.length = 0 := by
      have : mn = Str.ofString "" := by simpa using t
      rw [this]; decide +kernel
    refine ite_false' (by rw [hS0 hz]; rfl) ?_
    refine WS_nil ?_
    exact mid _ (fun _ => rfl) (Sub.refl _)
  · refine ite_false' rfl ?_
    refine WS_nil ?_
    exact mid _ (fun _ => rfl) (Sub.refl _)

set_option maxHeartbeats 4000000 in
-- what the loop keeps
inductive LetterJ (H : HP) (rg : Addr) (y : Int) (res : Str × Str) (rem : List V) (σ : St) : Prop
  | mk (f0 : Sub H σ.H)
    (f1 : IsRng σ.H rg 0 y 1)
    (rest : Nat)
    (typed : Str)
    (told : Str)
    (last : Str)
    (g0 : σ.m "rest" = some (.int (rest : Nat)))
    (g1 : σ.m "typed" = some (.str typed))
    (g2 : σ.m "told" = some (.str told))
    (g3 : σ.m "last" = some (.str last))
    (g4 : letterGo rem.length rest typed told last = res)
    (g5 : typed.length + rem.length ≤ 5)
    (g6 : told.length + 8 * rem.length ≤ 40)
    (g7 : last.length ≤ 8) : LetterJ H rg y res rem σ
theorem C_letter {x : Nat} {x' : Value} {fs fb : Addr} {S : Int → Bool} {sb : Addr} {doc₁ pm₁ cdv₁ ct₁ doc₂ pm₂ cdv₂ ct₂ : Value} {an₁ an₂ : Option Addr} (G : Gl base mg mb) (F : Full base) (hf : FnAt base f (fdOf ltF .none .none doc pm an cdv ct)) (e1 : er x' = .int x) (hx : x < 2 ^ 60)
    (hfs : FnAt base fs (fdOf sgF .none .none doc₁ pm₁ an₁ cdv₁ ct₁)) (hms : mg "_law_sign" = some (.ref fs)) (hfb : FnAt base fb (fdOf inB1 .none .none doc₂ pm₂ an₂ cdv₂ ct₂)) (hmb : mg "in_table_b1" = some (.ref fb))
    (hmS : mg "b1_set" = some (.ref sb)) (hS : BaseSet prog w₀ base sb S) (hS0 : ∀ k w, k < 8 → w < 27 → (sgn k w).2.length = 0 → S (sgn k w).1 = true) (hA : A.depth + 1 < recursionLimit) (hh : A.handled = none) :
    C prog w₀ base os A (.call (.ref f) ⟨[x'], []⟩) (fun v H' n' => ∃ a, v = .ref a ∧ H' = upd H a (.tup [.str (letterGo (x / 24 % 5 + 1) (x / 120) (Str.ofString "") (Str.ofString "") (Str.ofString "")).1, .str (letterGo (x / 24 % 5 + 1) (x / 120) (Str.ofString "") (Str.ofString "") (Str.ofString "")).2]) ∧ H a = none) H n := by
  refine C_def (binds := [("number", x')]) (fun s r => hf.keeps r.keep) G.lim (by lia) rfl (fun s r => BindsTo.of_eq (by kernel_rfl!)) (noCells (by kernel_rfl!)) (locs (by kernel_rfl!)) (fun L hL => ?_) rfl rfl rfl
  have q1 : (fun y => ((([("number", x')] : List (Str × Value)).reverse.lookup y).map er : Option V)) "number" = some (.int x) := by rw [← e1]; rfl
  revert q1
  generalize (fun y => ((([("number", x')] : List (Str × Value)).reverse.lookup y).map er : Option V)) = m₀
  intro q1
  generalize hres : letterGo (x / 24 % 5 + 1) (x / 120) (Str.ofString "") (Str.ofString "") (Str.ofString "") = res
  have d0 : ∀ (a b : Nat), ((a : Int).fdiv (b : Int)) = ((a / b : Nat) : Int) := fun a b => by rw [Int.fdiv_eq_ediv_of_nonneg _ (by lia)]; lia
  have m0 : ∀ (a b : Nat), ((a : Int).fmod (b : Int)) = ((a % b : Nat) : Int) := fun a b => by rw [Int.fmod_eq_emod_of_nonneg _ (by lia)]; lia
  refine W.fact fun told0 _ _ _ => ?_
  have hfresh : ∀ b, L + 1 ≤ b → H b = none := fun b hb => by
    cases q : H b with
    | none => rfl
    | some o => exact absurd (Nat.lt_of_lt_of_le (told0 _ _ q) hb) (Nat.lt_irrefl _)
  refine WS_cons (WS_AssignT ?_ (by walk_at "k") (by walk_at "k"))
  refine W_Tuple rfl ?_
  dsimp only [WArgs]
  walk_at "e"; walk_at "e"; walk_at "e"
  refine WB_div ?_ (by decide) (PyProof.noPylong_small (by decide))
  walk_at "e"; walk_at "e"; walk_at "e"
  refine ⟨(by show (4 : Nat) ≤ 2 ^ 24; decide), fun t0 ht0 => ?_⟩
  have hHt0 : H t0 = none := hfresh t0 ht0
  refine WA_Tuple F rfl hh (upd_same _ _ _) rfl fun n1 => ?_
  dsimp only [WAs]
  refine WA_Name (WSt_local ?_ (by walk_at "k") (by walk_at "k") (by walk_at "k"))
  refine WA_Name (WSt_local ?_ (by walk_at "k") (by walk_at "k") (by walk_at "k"))
  refine WA_Name (WSt_local ?_ (by walk_at "k") (by walk_at "k") (by walk_at "k"))
  refine WA_Name (WSt_local ?_ (by walk_at "k") (by walk_at "k") (by walk_at "k"))
  have hsub1 : Sub H (upd H t0 (.tup [.int ((x : Int).fdiv 120), .str (Str.ofString ""), .str (Str.ofString ""), .str (Str.ofString "")])) := Sub.upd_new hHt0
  dsimp only
  generalize hH1 : upd H t0 (.tup [.int ((x : Int).fdiv 120), .str (Str.ofString ""), .str (Str.ofString ""), .str (Str.ofString "")]) = H1 at hsub1
  refine W.fact fun told1 _ _ _ => ?_
  have told1' : ∀ a o, H1 a = some o → a < n1 := fun a o e => told1 a o e
  refine WS_cons (WS_For F hh ?_ (fun _ => rfl))
  refine W_Call rfl rfl ?_ rfl
  refine W_builtin G.g G.b (v := .type "range") (G.bi _ (.type "range") (by kernel_rfl!)).1 (G.bi _ (.type "range") (by kernel_rfl!)).2 ?_ (by walk_at "k") (by walk_at "k") (by walk_at "k") (by walk_at "k") (by decide +kernel)
  dsimp only [WArgs]
  walk_at "e"; walk_at "e"; walk_at "e"; walk_at "e"; walk_at "e"
  refine WB_div ?_ (by decide) (PyProof.noPylong_small (by decide))
  walk_at "e"
  refine WB_mod ?_ (by decide)
  walk_at "e"
  refine WB_add ?_
  dsimp only [WKws, kwNames]
  refine ⟨trivial, WCall_range1 fun rg hrg _ o ho => ?_⟩
  generalize hy : x / 24 % 5 + 1 = y at hres
  have hy5 : 1 ≤ y ∧ y ≤ 5 := by lia
  have ey : ((x : Int).fdiv 24).fmod 5 + 1 = (y : Int) := by
    have a1 : (x : Int).fdiv 24 = ((x / 24 : Nat) : Int) := d0 x 24
    have a2 : ((x / 24 : Nat) : Int).fmod 5 = ((x / 24 % 5 : Nat) : Int) := m0 (x / 24) 5
    rw [a1, a2]; lia
  rw [ey] at ho
  have hsmall : Builtin.Range.small 0 (y : Int) 1 = true := by
    have : y = 1 ∨ y = 2 ∨ y = 3 ∨ y = 4 ∨ y = 5 := by lia
    rcases this with rfl | rfl | rfl | rfl | rfl <;> decide +kernel
  have hsize : (Builtin.Range.rangeSize 0 (y : Int) 1).toNat = y := by
    rw [rangeSize_one, if_pos (by lia)]; lia
  have hH1rg : H1 rg = none := by
    cases q : H1 rg with
    | none => rfl
    | some o => exact absurd (Nat.lt_of_lt_of_le (told1' _ _ q) hrg) (Nat.lt_irrefl _)
  refine ⟨rngV 0 1 y, _, ⟨by have := srcRange (prog := prog) (w := w₀) (base := base) (os := os) rg 0 y 1 hsmall; rw [hsize] at this; exact this⟩, ho, fun it hit hbit => ?_⟩
  have hit' : rg < it := hit
  have hH1it : H1 it = none := by
    cases q : H1 it with
    | none => rfl
    | some o => exact absurd (Nat.lt_trans (Nat.lt_of_lt_of_le (told1' _ _ q) hrg) hit') (Nat.lt_irrefl _)
  have hHrg : H rg = none := by
    cases q : H rg with
    | none => rfl
    | some o => rw [hsub1 _ _ q] at hH1rg; cases hH1rg
  have hHit : H it = none := by
    cases q : H it with
    | none => rfl
    | some o => rw [hsub1 _ _ q] at hH1it; cases hH1it
  refine ⟨LetterJ H rg y res, fun o' => ?_, ?_, ?_, ?_⟩
  · have hrl : (rngV 0 1 y).length = y := rngV_len _ _ _
    refine ⟨fun a o e => ?_, ?_, x / 120, Str.ofString "", Str.ofString "", Str.ofString "", ?_, ?_, ?_, ?_, ?_, ?_, ?_, ?_⟩
    · have h1 : a ≠ it := by rintro rfl; rw [hHit] at e; cases e
      have h2 : a ≠ rg := by rintro rfl; rw [hHrg] at e; cases e
      exact (upd_ne h1).trans ((upd_ne h2).trans (hsub1 _ _ e))
    · obtain ⟨t, u, v, ho'⟩ := ho
      exact ⟨t, u, v, (upd_ne (Nat.ne_of_lt hit')).trans ho'⟩
    · have e := d0 x 120
      refine Eq.trans (b := some (V.int ((x : Int).fdiv 120))) ?_ (congrArg (fun z => some (V.int z)) e)
      walk_at "m"
    · walk_at "m"
    · walk_at "m"
    · walk_at "m"
    · rw [hrl]; exact hres
    · rw [hrl]; show 0 + y ≤ 5; lia
    · rw [hrl]; show 0 + 8 * y ≤ 40; lia
    · show 0 ≤ 8; lia
  · intro rem σ o' ⟨hs, hr, rest, typed, told, last, g0, g1, g2, g3, g4, g5, g6, g7⟩ hi
    refine ⟨hr, fun o'' => ⟨fun a o e => ?_, ?_, rest, typed, told, last, g0, g1, g2, g3, g4, g5, g6, g7⟩⟩
    · exact (upd_ne (by rintro rfl; rw [hHit] at e; cases e)).trans (hs a o e)
    · obtain ⟨t, u, v, ho'⟩ := hr
      exact ⟨t, u, v, (upd_ne (Nat.ne_of_lt hit')).trans ho'⟩
  · intro v rem σ o' ⟨hs, hr, rest, typed, told, last, j1, j2, j3, j4, j5, j6, j7, j8⟩ hi
    rw [List.length_cons] at j5 j6 j7
    refine WA_Name (WSt_local ?_ (by walk_at "k") (by walk_at "k") (by walk_at "k"))
    refine W.fact fun tl1 _ _ _ => ?_
    refine WS_cons (WS_AssignT ?_ (by walk_at "k") (by walk_at "k"))
    refine W_Call rfl rfl ?_ rfl
    refine W_global G.g hms ?_ (by walk_at "k") (by walk_at "k") (by walk_at "k") (by decide +kernel)
    dsimp only [WArgs]
    walk_at "e"; walk_at "e"; walk_at "e"
    refine WB_mod ?_ (by decide)
    walk_at "e"; walk_at "e"; walk_at "e"; walk_at "e"
    refine WB_div ?_ (by decide) (PyProof.noPylong_small (by decide))
    walk_at "e"
    refine WB_mod ?_ (by decide)
    dsimp only [WKws, kwNames]
    refine ⟨.inl (hfs.at_.imp fun o e => ⟨_, e.1, e.2⟩), WCall_ref0 fun as ea => ?_⟩
    obtain ⟨u1, u2, rfl, eu1, eu2⟩ := map_two ea
    have k1 : ((rest : Int).fmod 8) = ((rest % 8 : Nat) : Int) := m0 rest 8
    have k2 : (((rest : Int).fdiv 8).fmod 27) = ((rest / 8 % 27 : Nat) : Int) := by rw [show (rest : Int).fdiv 8 = ((rest / 8 : Nat) : Int) from d0 rest 8]; exact m0 (rest / 8) 27
    rw [k1] at eu1
    rw [k2] at eu2
    refine W_fresh (fun _ _ => C_sign G hfs eu1 eu2 (by lia) (by lia) (by show A.depth + 1 < _; lia)) fun ta n2 hta hn2 => ?_
    have htaf : σ.H ta = none := by
      cases q : σ.H ta with
      | none => rfl
      | some o => exact absurd (Nat.lt_of_lt_of_le (tl1 _ _ q) hta) (Nat.lt_irrefl _)
    generalize hp : sgn (rest % 8) (rest / 8 % 27) = p
    obtain ⟨c, mn⟩ := p
    have hmn : mn.length ≤ 8 := by have := sgn_len (k := rest % 8) (w := rest / 8 % 27) (by lia) (by lia); rw [hp] at this; exact this
    have hS0' : mn.length = 0 → S c = true := fun q => by have := hS0 (rest % 8) (rest / 8 % 27) (by lia) (by lia); rw [hp] at this; exact this q
    have hgo : letterGo rem.length (rest / 216) (typed ++ one c) (toldOf mn told last) (if mn.length = 0 then last else mn) = res := by
      rw [← j5, letterGo, hp]
    refine WA_Tuple F rfl hh (upd_same _ _ _) rfl fun n3 => ?_
    dsimp only [WAs]
    refine WA_Name (WSt_local ?_ (by walk_at "k") (by walk_at "k") (by walk_at "k"))
    refine WA_Name (WSt_local ?_ (by walk_at "k") (by walk_at "k") (by walk_at "k"))
    walk_at "t"; walk_at "e"; walk_at "e"; walk_at "e"
    refine WB_div ?_ (by decide) (PyProof.noPylong_small (by decide))
    rw [show (rest : Int).fdiv 216 = ((rest / 216 : Nat) : Int) from d0 rest 216]
    walk_at "t"
    refine WS_cons (WS_Aug ?_)
    refine W_load (v := .str typed) (by walk_at "m") ?_ (by walk_at "k") (by walk_at "k") (by walk_at "k")
    walk_at "e"
    intro a1 a2 ea1 ea2
    refine WA_addS ea1 ea2 ?_ (by show typed.length + 1 ≤ 2 ^ 24; lia)
    refine WSt_local ?_ (by walk_at "k") (by walk_at "k") (by walk_at "k")
    refine letter_ifs (fb := fb) (S := S) (sb := sb) (c := c) (mn := mn) (told := told) (last := last) G hfb hmb hmS hS hS0' hA ?_ ?_ ?_ ?_ hmn (by lia) j8 fun m' H' n' hm' g1 g2 hs' => ?_
    · walk_at "m"
    · walk_at "m"
    · walk_at "m"
    · walk_at "m"
    have hHta : σ.H ta = none := htaf
    have hsub2 : Sub σ.H (upd σ.H ta (.tup [.str (one (sgn (rest % 8) (rest / 8 % 27)).1), .str (sgn (rest % 8) (rest / 8 % 27)).2])) := Sub.upd_new hHta
    rw [hp] at hsub2
    have up : Sub σ.H H' := hsub2.trans hs'
    refine ⟨up _ _ hi, hs.trans up, ?_, rest / 216, typed ++ one c, toldOf mn told last, if mn.length = 0 then last else mn, ?_, ?_, g1, g2, hgo, ?_, ?_, ?_⟩
    · obtain ⟨t, u, v, ho'⟩ := hr
      exact ⟨t, u, v, up _ _ ho'⟩
    · refine (hm' _ (by decide +kernel) (by decide +kernel)).trans ?_
      walk_at "m"
    · refine (hm' _ (by decide +kernel) (by decide +kernel)).trans ?_
      walk_at "m"
    · have : (typed ++ one c).length = typed.length + 1 := by show (typed.cps ++ #[c]).size = _; rw [Array.size_append]; rfl
      lia
    · have := toldOf_len (told := told) (last := last) hmn
      lia
    · split <;> lia
  · intro σ n' o' ⟨hs, hr, rest, typed, told, last, j1, j2, j3, j4, j5, j6, j7, j8⟩ hi
    dsimp only
    refine W.fact fun tl _ _ _ => ?_
    refine WS_cons (WS_Return ?_)
    refine W_Tuple rfl ?_
    dsimp only [WArgs]
    walk_at "e"; walk_at "e"
    refine ⟨(by show (2 : Nat) ≤ 2 ^ 24; decide), fun a ha a' ea => ?_⟩
    have hHs : Sub H (del σ.H it) := fun b o e => (del_ne (by rintro rfl; rw [hHit] at e; cases e)).trans (hs b o e)
    have hHa : H a = none := by
      cases q : H a with
      | none => rfl
      | some o => exact absurd (Nat.lt_of_lt_of_le (tl _ _ (hHs _ _ q)) ha) (Nat.lt_irrefl _)
    have hr2 : (typed, told) = res := j5
    refine ⟨_, fun b o e => ?_, a, ea, rfl, hHa⟩
    rw [← hr2] at e
    by_cases hb : b = a
    · subst hb; rw [upd_same] at e; exact (upd_same _ _ _).trans e
    · rw [upd_ne hb] at e; exact (upd_ne hb).trans (hHs _ _ e)
end
section
set_option maxRecDepth 100000
set_option linter.unusedVariables false
variable {base : Heap} {os : OsState} {H H' : HP} {n n' : Nat} {s s' : Shared} {prog : Program} {w : World} {A : Around} {L : Addr} {σ : St} {m : Loc} {env : Env} {Q : V → St → Prop} {R : Flow → St → Prop}

noncomputable def updC (H : HP) (cs : List (Str × Addr)) (cm : Str → Option Value) : HP := fun b => match cs.find? (fun x => x.2 == b && cs.lookup x.1 == some x.2) with
  | some x => some (.cell ((cm x.1).map er))
  | none => H b
-- a def's entry, with cells
theorem C_defC {Q : V → HP → Nat → Prop} {f : Addr} {fd : FuncData} {body : List Stmt} {vals : List Value} {binds : List (Str × Value)} (F : Full base)
    (hf : ∀ s, Rep base os H n s → FnAt s.heap f fd) (hlim : base.NoLimit) (hroom : A.depth < recursionLimit) (hbody : fd.body = .stmts body) (hb : bindArgs fd ⟨vals, []⟩ = pure binds) (hclo : fd.closure = [])
    (hkind : ∀ L, ∀ x ∈ binds, fd.scope.names.lookup x.1 = some .local ∨ (fd.scope.names.lookup x.1 = some .cell ∧ ((cellsFrom (L + 1) fd.scope.names []).lookup x.1).isSome = true))
    (h : ∀ L H' n', n ≤ L → Sub H H' → H' L = none → (∀ x c, (callEnvC fd L f).cells.lookup x = some c → H' c = some (.cell ((bindC (callEnvC fd L f).kindOf binds (fun _ => none) x).map er)) ∧ L < c) →
      WS prog w base os (A.deeper (callEnvC fd L f)) L body (callEnvC fd L f)
      (fun fl σ' => ∃ H', (∀ a o, H' a = some o → σ'.H a = some o) ∧ Q (er (match fl with | .ret v => v | _ => .none)) H' σ'.n) ⟨fun x => (bindL (callEnvC fd L f).kindOf binds (fun _ => none) x).map er, H', n'⟩)
    (hco : fd.scope.isCoroutine = false) (hgen : fd.scope.isGenerator = false) (hk : fd.scope.kind = .function) : C prog w base os A (.call (.ref f) ⟨vals, []⟩) Q H n := fun s r => by
  obtain ⟨⟨o, ho, hd⟩, hc⟩ := hf s r
  refine codeAny_call_cells hroom ho hd (hlim.keeps r.keep) hc hbody hb hclo (hkind _) (fun s₁ x => ?_) hco hgen hk
  generalize hL : s.heap.objs.size = L at x
  have hnL : n ≤ L := by rw [← hL]; exact r.le
  have hbL : base.objs.size ≤ L := Nat.le_trans r.base_le hnL
  obtain ⟨h₁, tk, e₁, keep₁⟩ := x.done
  have told : ∀ a o, H a = some o → a < L := fun a o e => Nat.lt_of_lt_of_le (r.tells a o e).1 hnL
  generalize hcs : (callEnvC fd L f).cells = cs at x
  have hLl : (callEnvC fd L f).locals = L := rfl
  have look : ∀ y c, cs.lookup y = some c → cs.find? (fun z => z.2 == c && cs.lookup z.1 == some z.2) = some (y, c) := fun y c hlk => by
    have hm := mem_of_lookup hlk
    cases e : cs.find? (fun z => z.2 == c && cs.lookup z.1 == some z.2) with
    | none => rw [List.find?_eq_none] at e; exact absurd (e _ hm) (by simp [hlk])
    | some z =>
      obtain ⟨y', c'⟩ := z
      have h1 := List.find?_some e
      have h2 := List.mem_of_find?_eq_some e
      have hcc : c' = c := by simp at h1; exact h1.1
      subst hcc
      rw [name_of_addr x.apart h2 hm]
  have hHL : updC H cs (bindC (callEnvC fd L f).kindOf binds fun _ => none) L = none := by
    unfold updC
    cases e : cs.find? (fun z => z.2 == L && cs.lookup z.1 == some z.2) with
    | none =>
      dsimp only
      cases q : H L with
      | none => rfl
      | some o => exact absurd (told _ _ q) (Nat.lt_irrefl _)
    | some z =>
      have h1 := List.find?_some e
      have h2 := List.mem_of_find?_eq_some e
      have hz : z.2 = L := by simp at h1; exact h1.1
      exact absurd (x.above z.1 z.2 h2) (by rw [hLl, hz]; exact Nat.lt_irrefl _)
  have hsub : Sub H (updC H cs (bindC (callEnvC fd L f).kindOf binds fun _ => none)) := fun a o e => by
    unfold updC
    cases q : cs.find? (fun z => z.2 == a && cs.lookup z.1 == some z.2) with
    | none => exact e
    | some z =>
      have h1 := List.find?_some q
      have h2 := List.mem_of_find?_eq_some q
      have hz : z.2 = a := by simp at h1; exact h1.1
      have := x.above z.1 z.2 h2
      rw [hLl, hz] at this
      exact absurd (Nat.lt_trans this (told _ _ e)) (Nat.lt_irrefl _)
  have kb : ∀ b o, base.get? b = some o → s₁.heap.get? b = some o := fun b o e => by rw [e₁]; exact keep₁ b o (r.keep b o e)
  have r₁ : RepF base os L ⟨fun y => (bindL (callEnvC fd L f).kindOf binds (fun _ => none) y).map er, updC H cs (bindC (callEnvC fd L f).kindOf binds fun _ => none), s₁.heap.objs.size⟩ s₁ := by
    refine ⟨⟨kb, fun a o e => ?_, Nat.le_refl _, F.le kb, by rw [e₁]; exact r.gens, by rw [e₁]; exact r.os⟩, hHL, hbL⟩
    have ht : At s₁.heap a o := by
      by_cases hal : a = L
      · subst hal; rw [upd_same] at e; cases e
        exact ⟨_, x.toInCall.ns, fun _ => rfl⟩
      · have e' := (upd_ne (H := updC H cs (bindC (callEnvC fd L f).kindOf binds fun _ => none)) hal).symm.trans e
        unfold updC at e'
        cases q : cs.find? (fun z => z.2 == a && cs.lookup z.1 == some z.2) with
        | none =>
          rw [q] at e'
          exact ((r.tells a o e').2).same fun c hc' => by rw [e₁]; exact keep₁ _ _ hc'
        | some z =>
          rw [q] at e'
          cases e'
          have h1 := List.find?_some q
          have h2 := List.mem_of_find?_eq_some q
          have hz : z.2 = a := by simp at h1; exact h1.1
          have hl : cs.lookup z.1 = some z.2 := by simp at h1; exact h1.2
          obtain ⟨oc, hoc, hdc⟩ := x.cell z.1 z.2 hl
          rw [hz] at hoc
          exact ⟨oc, _, hoc, hdc, rfl⟩
    exact ⟨ht.lt, ht⟩
  refine wpAny_mono (h L _ _ hnL hsub hHL (fun y c hlk => ⟨?_, ?_⟩) s₁ r₁) (fun fl s' ⟨σ', r', H', hs, q⟩ => ⟨_, H', σ'.n, rfl, ?_, q⟩) fun _ _ x => x.elim
  · rw [hcs] at hlk
    show updC H cs _ c = _
    unfold updC
    rw [look y c hlk]
  · rw [hcs] at hlk
    exact x.above y c (mem_of_lookup hlk)
  · refine r'.1.sub fun a o e => ?_
    have hne : a ≠ L := by
      rintro rfl
      have := hs _ _ e; rw [r'.2.1] at this; cases this
    exact (upd_ne hne).trans (hs a o e)
end
section
set_option maxRecDepth 100000
set_option linter.unusedVariables false
variable {base : Heap} {os : OsState} {H H' : HP} {n n' : Nat} {s s' : Shared} {prog : Program} {w : World} {A : Around} {L : Addr} {σ : St} {m : Loc} {env : Env} {Q : V → St → Prop} {R : Flow → St → Prop}

-- an object that `base` does not tell of is changed
theorem RepF.swap (r : RepF base os L σ s) {a : Addr} {p o : O} {h' : Heap} (e : σ.H a = some p) (ha : base.get? a = none) (x : At h' a o) (k : Heap.ExtBut a s.heap h') (t : Nat) (hz : s.heap.objs.size ≤ h'.objs.size) :
    RepF base os L ⟨σ.m, upd σ.H a o, σ.n⟩ { s with heap := h', toks := t } := by
  have hne := r.ne e
  refine ⟨⟨fun b c eb => k b c (by rintro rfl; rw [ha] at eb; cases eb) (r.1.keep b c eb), fun b q eb => ?_, Nat.le_trans r.1.le hz, r.1.base_le, r.1.gens, r.1.os⟩, (upd_ne (Ne.symm hne)).trans r.2.1, r.2.2⟩
  by_cases hb : b = L
  · subst hb
    have eb' : O.ns σ.m = q := Option.some.inj ((upd_same _ _ _).symm.trans eb)
    subst eb'
    exact ⟨r.Llt, (r.1.tells _ _ (upd_same _ _ _)).2.same fun c q => k _ c (Ne.symm hne) q⟩
  · have eb' := (upd_ne (H := upd σ.H a o) hb).symm.trans eb
    by_cases hab : b = a
    · subst hab
      rw [upd_same] at eb'; cases eb'
      exact ⟨r.lt e, x⟩
    · rw [upd_ne hab] at eb'
      exact ⟨r.lt eb', (r.at_ eb').same fun c q => k _ c hab q⟩

-- the table of the codes that the running code has made
structure CodeB (base : Heap) (c Pl : Addr) : Prop where
  code : ∃ o vs file tf flags tg inF text tt, base.get? c = some o ∧ o.cls = .type "code" ∧ o.data = .fields vs ∧ vs[11]? = some (.ref Pl) ∧ vs.getD 11 .none = .ref Pl ∧ vs.getD 18 .none = .str file tf ∧
    vs.getD 7 .none = .int flags tg ∧ vs.getD 9 .none = .bool inF ∧ vs.getD 10 .none = .int text tt
  ne : c ≠ Pl
  out : base.get? Pl = none
noncomputable def Known (H : HP) (Pl : Addr) (Kp : Addr → Prop) (q : Str) (ps : Array Value) (pos : Pos) : Prop := codeAmong pos ps.toList = none ∨ ∃ c' oc vs t, codeAmong pos ps.toList = some (.ref c') ∧ Kp c' ∧ c' ≠ Pl ∧ H c' = some (.raw oc) ∧ oc.data = .fields vs ∧ vs[1]? = some (.str q t)
structure Tab (H : HP) (Pl : Addr) (Kp : Addr → Prop) (q : Str) (ps₀ : Array Value) : Prop where
  at_ : ∃ more, H Pl = some (.raw { cls := .none, data := .fields (ps₀ ++ more) }) ∧ TriplesOk (ps₀ ++ more).toList ∧ ∀ pos, Known H Pl Kp q (ps₀ ++ more) pos
theorem Known.raws {q : Str} {Pl : Addr} {Kp Kp' : Addr → Prop} {ps : Array Value} {pos : Pos} (h : Known H Pl Kp q ps pos) (hs : ∀ b ob, Kp b → H b = some (.raw ob) → H' b = some (.raw ob)) (hk : ∀ c, Kp c → Kp' c) : Known H' Pl Kp' q ps pos :=
  h.imp id fun ⟨c', oc, vs, t, a, k, b0, b, r⟩ => ⟨c', oc, vs, t, a, hk _ k, b0, hs _ _ k b, r⟩
theorem Tab.raws {Pl : Addr} {Kp Kp' : Addr → Prop} {q : Str} {ps₀ : Array Value} (h : Tab H Pl Kp q ps₀) (hs : ∀ b ob, Kp b → H b = some (.raw ob) → H' b = some (.raw ob)) (hP : ∀ ob, H Pl = some (.raw ob) → H' Pl = some (.raw ob)) (hk : ∀ c, Kp c → Kp' c) : Tab H' Pl Kp' q ps₀ := by
  obtain ⟨more, a, b, c⟩ := h.at_
  exact ⟨more, hP _ a, b, fun pos => (c pos).raws hs hk⟩
theorem Tab.sub {Pl : Addr} {Kp : Addr → Prop} {q : Str} {ps₀ : Array Value} (h : Tab H Pl Kp q ps₀) (hs : Sub H H') : Tab H' Pl Kp q ps₀ := h.raws (fun _ _ _ e => hs _ _ e) (fun _ e => hs _ _ e) fun _ k => k
-- a def that was made in the run
noncomputable def FnTold (H : HP) (f : Addr) (fd : FuncData) : Prop := ∃ o oc c' vs t, H f = some (.raw o) ∧ o.data = .func fd ∧ fd.code = .ref c' ∧ H c' = some (.raw oc) ∧ oc.data = .fields vs ∧ vs[1]? = some (.str fd.qualname t)
theorem FnTold.sub {f : Addr} {fd : FuncData} (h : FnTold H f fd) (hs : Sub H H') : FnTold H' f fd := by
  obtain ⟨o, oc, c', vs, t, a, b, c, d, r⟩ := h
  exact ⟨o, oc, c', vs, t, hs _ _ a, b, c, hs _ _ d, r⟩
theorem FnTold.at_ {f : Addr} {fd : FuncData} (h : FnTold H f fd) (r : Rep base os H n s) : FnAt s.heap f fd := by
  obtain ⟨o, oc, c', vs, t, a, b, c, d, e1, e2⟩ := h
  exact ⟨⟨o, (r.tells _ _ a).2, b⟩, ⟨c', oc, vs, t, c, (r.tells _ _ d).2, e1, e2⟩⟩
theorem FnTold.callee {f : Addr} {fd : FuncData} (h : FnTold H f fd) : Callee base H (.ref f) := by
  obtain ⟨o, oc, c', vs, t, a, b, _⟩ := h
  exact .inr ⟨o, fd, a, b⟩
theorem codeAmong_other {pos pos' : Pos} {c : Value} (hne : (pos'.line == pos.line && pos'.col == pos.col) = false) : ∀ (l : List Value), TriplesOk l → codeAmong pos (l ++ [rawInt pos'.line, rawInt pos'.col, c]) = codeAmong pos l := fun l h => by
  fun_induction TriplesOk l with
  | case1 =>
    have h1 : ((pos'.line : Int) == (pos.line : Int) && (pos'.col : Int) == (pos.col : Int)) = false := by
      cases hx : ((pos'.line : Int) == (pos.line : Int) && (pos'.col : Int) == (pos.col : Int)) with
      | false => rfl
      | true =>
        rw [Bool.and_eq_true, beq_iff_eq, beq_iff_eq] at hx
        have a1 : pos'.line = pos.line := by lia
        have a2 : pos'.col = pos.col := by lia
        rw [a1, a2] at hne; simp at hne
    simp only [List.nil_append, codeAmong, rawInt]
    rw [if_neg (by rw [h1]; decide)]
  | case2 a t b u x rest ih =>
    simp only [List.cons_append, codeAmong]
    split
    · rfl
    · exact ih h
  | case3 l h1 h2 => exact h.elim

noncomputable def lamFd (params : Arguments) (body : Expr) (scope : Scope) (env : Env) (cl : List (Str × Addr)) (ct cd pm : Value) : FuncData :=
  { name := "<lambda>", qualname := env.qual ++ "<lambda>", params, body := .expr body, scope, globals := env.globals, closure := cl, closureTuple := ct, code := cd, builtins := builtinsNs, defaults := .none, kwdefaults := .none,
    annotations := none, pyModule := pm, doc := .none }
theorem W_Lambda {Kp : Addr → Prop} {params : Arguments} {body : Expr} {scope : Scope} {pos : Pos} {cl : List (Str × Addr)} {c Pl : Addr} {ps₀ : Array Value} {mg : Str → Option Value} (F : Full base)
    (hd : defaultsOf params env = ([], [])) (hkw : params.kwonlyargs = []) (hcl : closureFor scope env = pure cl) (hcode : env.code = .ref c) (hC : CodeB base c Pl) (hT : Tab σ.H Pl Kp (env.qual ++ "<lambda>") ps₀) (hKp : ∀ c, σ.n ≤ c → Kp c)
    (hg : base.Ns env.globals mg) (hb : base.BuiltinsAt mg Pl) 
    (h : ∀ f H' n' ct cd, σ.n ≤ f → (∀ a o, a ≠ Pl → σ.H a = some o → H' a = some o) → (∀ a o, a ≠ Pl → a < σ.n → H' a = some o → σ.H a = some o) → Tab H' Pl Kp (env.qual ++ "<lambda>") ps₀ → FnTold H' f (lamFd params body scope env cl ct cd ((mg "__name__").getD .none)) → Q (.ref f) ⟨σ.m, H', n'⟩) :
    WV prog w base os A L (eval (.Lambda params body scope pos) env) Q σ := fun s r => by
  rw [arm_eval_Lambda, hd]
  show wpAny _ A (evalAll [] >>= fun dv => _) _ _ s
  refine wpAny_bind (wpAny_pure ?_)
  refine wpAny_bind (wpAny_holding (wpAny_pure ?_))
  rw [makeFunction_eq, hkw]
  refine wpAny_bind (wpAny_pure (wpAny_bind (wpAny_pure (wpAny_bind (wpAny_pure ?_)))))
  unfold makeTail
  rw [hcl]
  refine wpAny_bind (wpAny_pure ?_)
  have step : ∀ (ct : Value) (s₁ : Shared), RepF base os L σ s₁ → wpAny (model prog w) A (do
        let cd ← functionCode env pos pos.line "<lambda>" (env.qual ++ "<lambda>") params scope (.expr body)
        let bi ← builtinsFor env.globals env.builtins
        let pn ← nsGet env.globals "__name__"
        newObj (.type "function") (.func { lamFd params body scope env cl ct cd (pn.getD .none) with builtins := bi }))
      (PostV base os L Q) (fun _ _ => False) s₁ := by
    intro ct s₁ r₁
    refine Classical.byContradiction fun hneg1_ => ?_
    obtain ⟨more, hPl, htr, hkn⟩ := hT.at_
    obtain ⟨o, vs, file, tf, flags, tg, inF, text, tt, b1, b2, b3, b4, b5, b6, b7, b8, b9⟩ := hC.code
    have hPlH := r₁.at_ hPl
    have hok : s₁.heap.IsCode c Pl (ps₀ ++ more) := ⟨o, vs, file, tf, flags, tg, inF, text, tt, _, r₁.1.keep _ _ b1, b3, b5, b6, b7, b8, b9, hPlH, rfl, htr, hC.ne⟩
    have htab : s₁.heap.TableAt c Pl (ps₀ ++ more) := ⟨⟨o, vs, r₁.1.keep _ _ b1, b2, b3, b4⟩, hPlH⟩
    obtain ⟨bm, ob, m1, m2, m3, m4, m5, m6, m7, m8⟩ := hb
    obtain ⟨og, es, ep, g1, g2⟩ := hg
    refine hneg1_ ?_
    have tail : ∀ (c' : Addr) (oc : Obj) (vc : Array Value) (t : Tok) (H₂ : HP) (n₂ : Nat) (s₂ : Shared), RepF base os L ⟨σ.m, H₂, n₂⟩ s₂ → H₂ c' = some (.raw oc) → oc.data = .fields vc → vc[1]? = some (.str (env.qual ++ "<lambda>") t) →
        σ.n ≤ n₂ → (∀ a o, a ≠ Pl → σ.H a = some o → H₂ a = some o) → (∀ a o, a ≠ Pl → a < σ.n → H₂ a = some o → σ.H a = some o) → Tab H₂ Pl Kp (env.qual ++ "<lambda>") ps₀ →
        wpAny (model prog w) A (do
          let bi ← builtinsFor env.globals env.builtins
          let pn ← nsGet env.globals "__name__"
          newObj (.type "function") (.func { lamFd params body scope env cl ct (.ref c') (pn.getD .none) with builtins := bi })) (PostV base os L Q) (fun _ _ => False) s₂ := by
      intro c' oc vc t H₂ n₂ s₂ r₂ hc' hdc hvc hn k1 k2 hT₂
      have hgs : s₂.heap.Ns env.globals mg := ⟨og, es, ep, r₂.1.keep _ _ g1, g2⟩
      refine wpAny_bind (wpAny_builtinsFor hgs m1 m2 (r₂.1.keep _ _ m5) m6 m7 m8 ?_)
      refine wpAny_bind (wpAny_nsGet hgs ?_)
      simp only [newObj]
      refine wpAny_bind (wpAny_alloc (wpAny_pure ?_))
      have r₃ := r₂.push { cls := .type "function", data := .func { lamFd params body scope env cl ct (.ref c') ((mg "__name__").getD .none) with builtins := builtinsNs } } (o := .raw _) (Heap.get?_push_size _ rfl)
      refine ⟨_, r₃, ?_⟩
      have hfr : H₂ s₂.heap.objs.size = none := by
        cases q : H₂ s₂.heap.objs.size with
        | none => rfl
        | some o' => exact absurd (Nat.lt_of_lt_of_le (r₂.lt q) r₂.1.le) (Nat.lt_irrefl _)
      have hs : Sub H₂ (upd H₂ s₂.heap.objs.size (.raw { cls := .type "function", data := .func { lamFd params body scope env cl ct (.ref c') ((mg "__name__").getD .none) with builtins := builtinsNs } })) := Sub.upd_new hfr
      refine h _ _ _ ct (.ref c') (Nat.le_trans hn r₂.1.le) (fun a o ha e => hs _ _ (k1 a o ha e)) (fun a o ha hlt e => ?_) (hT₂.sub hs) ⟨_, oc, c', vc, t, upd_same _ _ _, rfl, rfl, hs _ _ hc', hdc, hvc⟩
      exact k2 a o ha hlt ((upd_ne (Nat.ne_of_lt (Nat.lt_of_lt_of_le hlt (Nat.le_trans hn r₂.1.le)))).symm.trans e)
    rcases hkn pos with hnf | ⟨c', oc, vc, t, hf, _, _, hco, hdc, hvc⟩
    · refine wpAny_bind (wpAny_functionCodeX hcode hok htab hnf fun c' h' tk hx hge hlt hok' hrec htab' _ => ?_)
      refine Classical.byContradiction fun hneg2_ => ?_
      obtain ⟨c₂, oc, vc, t, ec, hoc, hdc, hvc⟩ := hrec
      refine hneg2_ ?_
      cases ec
      have hcPl : c' ≠ Pl := Nat.ne_of_gt (Nat.lt_of_lt_of_le (Heap.lt_size hPlH) hge)
      have r₂ := r₁.swap hPl hC.out (o := .raw _) htab'.2 hx tk (Nat.le_trans hge (Nat.le_of_lt hlt))
      have r₃ := r₂.more (a := c') (o := .raw oc) (Nat.le_trans r₁.1.le hge) hoc
      have hlow : ∀ a o', a ≠ Pl → σ.H a = some o' → upd (upd σ.H Pl (.raw { cls := .none, data := .fields (ps₀ ++ more ++ #[rawInt pos.line, rawInt pos.col, .ref c']) })) c' (.raw oc) a = some o' := fun a o' ha e => by
        rw [upd_ne (Nat.ne_of_lt (Nat.lt_of_lt_of_le (r₁.lt e) (Nat.le_trans r₁.1.le hge))), upd_ne ha]; exact e
      refine tail c' oc vc t _ _ _ r₃ (upd_same _ _ _) hdc hvc (Nat.le_succ_of_le (Nat.le_trans r₁.1.le hge)) hlow (fun a o' ha hlt' e => ?_) ⟨more ++ #[rawInt pos.line, rawInt pos.col, .ref c'], ?_, ?_, fun p => ?_⟩
      · dsimp only at e
        rw [upd_ne (Nat.ne_of_lt (Nat.lt_of_lt_of_le hlt' (Nat.le_trans r₁.1.le hge))), upd_ne ha] at e; exact e
      · rw [← Array.append_assoc]; exact (upd_ne (Ne.symm hcPl)).trans (upd_same _ _ _)
      · rw [← Array.append_assoc, Array.toList_append]; exact TriplesOk_snoc _ _ _ _ htr
      · rw [← Array.append_assoc]
        unfold Known
        rw [Array.toList_append]
        cases hp : (pos.line == p.line && pos.col == p.col) with
        | true =>
          have e1 : p.line = pos.line := by simp at hp; exact hp.1.symm
          have e2 : p.col = pos.col := by simp at hp; exact hp.2.symm
          have hnf' : codeAmong p (ps₀ ++ more).toList = none := by
            have key : ∀ (l : List Value) (q : Pos), codeAmong q l = codeAmong ⟨q.line, q.col, 0, 0⟩ l := fun l q => by kernel_rfl!
            rw [key, e1, e2, ← key]; exact hnf
          refine .inr ⟨c', oc, vc, t, ?_, hKp c' (Nat.le_trans r₁.1.le hge), hcPl, upd_same _ _ _, hdc, hvc⟩
          have := codeAmong_snoc (pos := p) (c := .ref c') _ htr hnf'
          rw [e1, e2] at this
          exact this
        | false =>
          rw [codeAmong_other hp _ htr]
          exact (hkn p).imp id fun ⟨c₃, o₃, v₃, t₃, x1, xk, x0, x2, x3⟩ => ⟨c₃, o₃, v₃, t₃, x1, xk, x0, hlow _ _ x0 x2, x3⟩
    · refine wpAny_bind ?_
      unfold functionCode codeAt
      rw [hcode, if_neg (show ¬ ((Value.ref c == Value.none) = true) from Bool.false_ne_true)]
      refine wpAny_bind (wpAny_fieldsOf (r₁.1.keep _ _ b1) b3 ?_)
      rw [b5]
      refine wpAny_bind (wpAny_fieldsOf hPlH rfl ?_)
      rw [hf]
      exact wpAny_pure (tail c' oc vc t _ _ _ r₁ hco hdc hvc (Nat.le_refl _) (fun _ _ _ e => e) (fun _ _ _ _ e => e) hT)
  cases hcle : cl.isEmpty with
  | true =>
    simp only [if_true]
    refine wpAny_bind (wpAny_pure ?_)
    exact step .none s r
  | false =>
    simp only [Bool.false_eq_true, if_false]
    refine wpAny_bind (wpAny_newTextTuple ?_)
    exact step _ _ (r.push' _ s.toks)
end
section
set_option maxRecDepth 100000
set_option linter.unusedVariables false
variable {base : Heap} {os : OsState} {H H' : HP} {n n' : Nat} {s s' : Shared} {prog : Program} {w : World} {A : Around} {L : Addr} {σ : St} {m : Loc} {env : Env} {Q : V → St → Prop} {R : Flow → St → Prop}

theorem codeAny_exprBody {e : Expr} {env : Env} {RR : Result → Shared → Prop}
    (h : wpAny (model prog w) (A.deeper env) (eval e env) (fun v s' => RR (.ok (.ret v)) s') (fun _ _ => False) s) : codeAny (model prog w) A (.expr e env) RR s := by
  refine codeAny_of_tree ?_
  show wpAny _ (A.deeper env) (do point; ret (← (eval e env).onRaise (leaving env))) _ _ s
  exact wpAny_bind (wpAny_point (wpAny_bind (wpAny_onRaise (wpAny_mono h (fun v s' h' => wpAny_pure h') fun _ _ h' => h'.elim))))

-- a lambda's entry
noncomputable def lamEnv (fd : FuncData) (L f : Addr) : Env := newEnv fd.scope L fd.globals fd.closure (fd.qualname ++ ".<locals>.") (some f) fd.code none fd.builtins
theorem C_lam {Q : V → HP → Nat → Prop} {f : Addr} {fd : FuncData} {body : Expr} {args : Args} {binds : List (Str × Value)}
    (hf : ∀ s, Rep base os H n s → FnAt s.heap f fd) (hlim : base.NoLimit) (hroom : A.depth < recursionLimit) (hbody : fd.body = .expr body) (hb : ∀ s, Rep base os H n s → BindsTo s fd args binds)
    (hcell : ∀ x ∈ fd.scope.names, x.2 ≠ .cell) (hloc : ∀ x ∈ binds, fd.scope.names.lookup x.1 = some .local)
    (h : ∀ L, n ≤ L → WV prog w base os (A.deeper (lamEnv fd L f)) L (eval body (lamEnv fd L f))
      (fun v σ' => ∃ H', (∀ a o, H' a = some o → σ'.H a = some o) ∧ Q v H' σ'.n) ⟨fun x => (binds.reverse.lookup x).map er, H, L + 1⟩)
    (hco : fd.scope.isCoroutine = false) (hgen : fd.scope.isGenerator = false) (hk : fd.scope.kind = .function) : C prog w base os A (.call (.ref f) args) Q H n := fun s r => by
  obtain ⟨⟨o, ho, hd⟩, hc⟩ := hf s r
  refine codeAny_of_tree ?_
  show wpAny _ A.in1 (callAny (.ref f) args) _ _ s
  refine wpAny_bind (wpAny_load ho ?_)
  rw [hd]
  show wpAny _ _ (callFunction f fd args) _ _ _
  refine Classical.byContradiction fun hneg1_ => ?_
  obtain ⟨c, oc, vs, tq, hc', hoc, hdc, hq⟩ := hc
  refine hneg1_ ?_
  unfold callFunction
  rw [hco, hgen, hbody, hc']
  refine wpAny_bind (m := field (.ref c) 1) (wpAny_field hoc hdc hq (wpAny_bind (wpAny_pure ?_)))
  refine wpAny_bind (hb s r _ _ _ _ ?_)
  refine wpAny_bind (wpAny_newFunctionEnv hcell hloc (fun h₀ hn hk₀ => ?_) hk)
  refine wpAny_bind (wpAny_enterFrame ((hlim.keeps r.keep).fresh _ hk₀) hroom (wpAny_pure (And.intro rfl ?_)))
  have hz : s.heap.objs.size < h₀.objs.size := by
    have := hk₀.1
    rw [Heap.size_push] at this
    lia
  have keep₀ : ∀ b o, s.heap.get? b = some o → h₀.get? b = some o := fun b o e => hk₀.extBut b o (Nat.ne_of_lt (Heap.lt_size e)) (Heap.get?_push_of_some _ e)
  have r₀ : RepF base os s.heap.objs.size ⟨fun x => (binds.reverse.lookup x).map er, H, s.heap.objs.size + 1⟩ { s with heap := h₀, toks := s.toks + binds.length } := by
    have hnone : H s.heap.objs.size = none := by
      cases q : H s.heap.objs.size with
      | none => rfl
      | some o' => exact absurd (Nat.lt_of_lt_of_le (r.tells _ _ q).1 r.le) (Nat.lt_irrefl _)
    refine ⟨?_, hnone, Nat.le_trans r.base_le r.le⟩
    exact Rep.more (s := { s with heap := h₀, toks := s.toks + binds.length }) (r.grown keep₀ _ (Nat.le_of_lt hz)) r.le (o := .ns _) ⟨_, hn, fun _ => rfl⟩
  have hh := h _ r.le _ r₀
  unfold lamEnv at hh
  rw [hc'] at hh
  refine codeAny_exprBody (wpAny_mono hh (fun v s' ⟨σ', r', H', hs, q⟩ => ⟨v, H', σ'.n, rfl, ?_, q⟩) fun _ _ x => x.elim)
  refine r'.1.sub fun a o e => ?_
  have hne : a ≠ s.heap.objs.size := by
    rintro rfl
    have := hs _ _ e; rw [r'.2.1] at this; cases this
  exact (upd_ne hne).trans (hs a o e)
end
section
set_option maxRecDepth 100000
set_option linter.unusedVariables false
variable {base : Heap} {os : OsState} {H H' : HP} {n n' : Nat} {s s' : Shared} {prog : Program} {w₀ : World} {A : Around} {L : Addr} {σ : St} {m : Loc} {env : Env} {Q : V → St → Prop} {R : Flow → St → Prop}
variable {dV kV doc pm cdv ct : Value} {an : Option Addr} {f : Addr} {mg mb : Str → Option Value}





noncomputable abbrev onePar (pa : Pos) : Arguments := { posonlyargs := [], args := [{ arg := Str.ofString "one", annotation := none, pos := pa }], vararg := none, kwonlyargs := [], kw_defaults := [], kwarg := none, defaults := [] }
noncomputable abbrev oneScope (x : Str) : Scope := { kind := .function, names := [(Str.ofString "one", .local), (x, .free)], isGenerator := false, isCoroutine := false, more := [] }
theorem C_one {x : Str} {pa p1 p2 p3 : Pos} {env₀ : Env} {cl : List (Str × Addr)} {ct cd pm' : Value} {cc D : Addr} {ds : List V} {i : Nat} {d : Int} {a' : Value} (hlim : base.NoLimit)
    (hf : FnTold H f (lamFd (onePar pa) (.Subscript (.Name x p1) (.Name (Str.ofString "one") p2) p3) (oneScope x) env₀ cl ct cd pm')) (hA : A.depth < recursionLimit)
    (h1 : (x == Str.ofString "__debug__") = false) (h2 : (x == Str.ofString "one") = false) (h3 : (x == Str.ofString "__classdict__") = false) (hcl : cl.lookup x = some cc)
    (hcc : H cc = some (.cell (some (.ref D)))) (hD : H D = some (.list ds)) (hz : ds.length ≤ 1000) (hi : ds[i]? = some (.int d)) (ea : er a' = .int (i : Nat)) :
    C prog w₀ base os A (.call (.ref f) ⟨[a'], []⟩) (fun u H' n' => u = .int d ∧ H' = H ∧ n ≤ n') H n := by
  refine C_lam (binds := [("one", a')]) (fun s r => hf.at_ r) hlim hA rfl (fun s r => BindsTo.of_eq (by kernel_rfl!)) (fun y hy => ?_) (fun y hy => ?_) (fun L hL => ?_) rfl rfl rfl
  · have hy' : y ∈ [(Str.ofString "one", NameKind.local), (x, NameKind.free)] := hy
    rcases List.mem_cons.mp hy' with rfl | hy'
    · decide
    · rcases List.mem_cons.mp hy' with rfl | hy'
      · intro q; cases q
      · cases hy'
  · have hy' : y ∈ [(Str.ofString "one", a')] := hy
    rcases List.mem_cons.mp hy' with rfl | hy'
    · rfl
    · cases hy'
  have q1 : (fun y => ((([("one", a')] : List (Str × Value)).reverse.lookup y).map er : Option V)) "one" = some (.int (i : Nat)) := by rw [← ea]; rfl
  revert q1
  generalize (fun y => ((([("one", a')] : List (Str × Value)).reverse.lookup y).map er : Option V)) = m₀
  intro q1
  have hx2 : ([(Str.ofString "one", NameKind.local), (x, NameKind.free)] : List (Str × NameKind)).lookup x = some .free := by
    simp [List.lookup_cons, h2]
  refine W_Subscript ?_
  refine W_Name (W_load_cell (c := cc) hcl hcc ?_ rfl (.inr hx2) h3) h1
  refine W_Name (W_load (v := .int (i : Nat)) q1 ?_ rfl (by rfl) rfl) (by decide +kernel)
  refine WSub_list hD (by lia) (by simpa using hi) (by show ds.length ≤ 2 ^ 24; lia) ?_ rfl
  exact ⟨H, fun _ _ e => e, rfl, rfl, Nat.le_succ_of_le hL⟩
-- such a lambda is a key
theorem KeyOk_one {x : Str} {pa p1 p2 p3 : Pos} {env₀ : Env} {cl : List (Str × Addr)} {ct cd pm' : Value} {cc D : Addr} {ds vs : List V} {ks : Nat → Int} (hlim : base.NoLimit)
    (hf : FnTold H f (lamFd (onePar pa) (.Subscript (.Name x p1) (.Name (Str.ofString "one") p2) p3) (oneScope x) env₀ cl ct cd pm'))
    (h1 : (x == Str.ofString "__debug__") = false) (h2 : (x == Str.ofString "one") = false) (h3 : (x == Str.ofString "__classdict__") = false) (hcl : cl.lookup x = some cc)
    (hcc : H cc = some (.cell (some (.ref D)))) (hD : H D = some (.list ds)) (hz : ds.length ≤ 1000) (hv : ∀ i v, vs[i]? = some v → ∃ j : Nat, v = .int j ∧ ds[j]? = some (.int (ks i))) :
    KeyOk prog w₀ base os 1 f H n vs ks := fun i v hi A H' n' a' hA hh hs hn ea => by
  obtain ⟨j, rfl, hj⟩ := hv i v hi
  exact C_one hlim (hf.sub hs) (by lia) h1 h2 h3 hcl (hs _ _ hcc) (hs _ _ hD) hz hj ea
end
section
set_option maxRecDepth 100000
set_option linter.unusedVariables false
variable {base : Heap} {os : OsState} {H H' : HP} {n n' : Nat} {s s' : Shared} {prog : Program} {w : World} {A : Around} {L : Addr} {σ : St} {m : Loc} {env : Env} {Q : V → St → Prop} {R : Flow → St → Prop}

theorem rngV_of {a c : Int} : ∀ (n : Nat) (acc : List Value), acc.length = n → (∀ (j : Nat) v, acc[j]? = some v → ∃ t, v = .int (a + j * c) t) → acc.map er = rngV a c n := by
  intro n
  induction n generalizing a with
  | zero => intro acc h _; rw [List.length_eq_zero_iff.mp h]; rfl
  | succ n ih =>
    intro acc h k
    cases acc with
    | nil => simp at h
    | cons v r =>
      obtain ⟨t, rfl⟩ := k 0 v rfl
      show er (.int (a + (0 : Nat) * c) t) :: r.map er = .int a :: rngV (a + c) c n
      rw [ih (a := a + c) r (by simpa using h) fun j v hj => by
        obtain ⟨t', e⟩ := k (j + 1) v (by simpa using hj)
        refine ⟨t', e.trans ?_⟩
        congr 1
        rw [Int.natCast_succ, Int.add_mul]; lia]
      congr 1
      show V.int _ = _
      congr 1
      simp
-- a range's values, collected
theorem W_collectRng {r : Addr} {a b c : Int} {k : Nat} {Q : List Value → St → Prop} (F : Full base) (hh : A.handled = none) (hr : IsRng σ.H r a b c) (hs : Builtin.Range.small a b c = true) (hn : Builtin.Range.rangeSize a b c = k) (hk : k ≤ 1000)
    (h : ∀ vs n', vs.map er = rngV a c k → Q vs ⟨σ.m, σ.H, n'⟩) : W prog w base os A L (collect (.ref r)) Q σ := fun s rr => by
  obtain ⟨t, u, v, ho⟩ := hr
  have hr := rr.at_ ho
  unfold collect
  refine wpAny_bind (wpAny_runValue (codeAny_builtin PySem.F.entry_proto_collect ?_))
  rw [Around.under_plainId PySem.F.plain_proto_collect _]
  show wpAny _ A.in1 (newList [] >>= fun l => again (.builtin "list.__iadd__" ⟨[l, .ref r], []⟩)) _ _ s
  refine wpAny_bind (wpAny_newObj_type ?_)
  refine wpAny_pure ⟨plainId_quiet PySem.F.plain_list_iadd _, codeAny_builtin PySem.F.entry_list_iadd ?_⟩
  rw [Around.under_plainId PySem.F.plain_list_iadd _]
  show wpAny _ A.in1 (Builtin.List.listExtendWith (.ref s.heap.objs.size) (.ref r) (.ref s.heap.objs.size)) _ _ _
  have hS : (s.heap.push { cls := .type "list", data := .seq ([] : List Value).toArray }).get? s.heap.objs.size = some { cls := .type "list", data := .seq #[] 0 } := Heap.get?_push_size _ rfl
  have fin' : ∀ s' : Shared, (∃ (vs : List Value) (n' : Nat), RepF base os L ⟨σ.m, σ.H, n'⟩ s' ∧ vs.map er = rngV a c k ∧ ∃ c', s'.heap.get? s.heap.objs.size = some { cls := .type "list", data := .seq vs.toArray c' }) → wpAny (model prog w) A (match Value.ref s.heap.objs.size with
      | Value.ref a => do
        match (← load a).data with
          | Data.seq xs _ => pure xs.toList
          | _ => unsupported "internal:collect"
      | _ => unsupported "internal:collect") (fun a s' => ∃ σ', RepF base os L σ' s' ∧ Q a σ') (fun _ _ => False) s' := fun s' hy1_ => by
    obtain ⟨vs, n', r', e, c', ho'⟩ := hy1_
    show wpAny _ A (load s.heap.objs.size >>= _) _ _ _
    refine wpAny_bind (wpAny_load ho' (wpAny_pure ⟨_, r', ?_⟩))
    exact h _ _ e
  refine wpAny_mono (wpAny_extend_range (R := fun r s' => r = .ok (.ret (.ref s.heap.objs.size)) ∧ ∃ (vs : List Value) (n' : Nat), RepF base os L ⟨σ.m, σ.H, n'⟩ s' ∧ vs.map er = rngV a c k ∧ ∃ c', s'.heap.get? s.heap.objs.size = some { cls := .type "list", data := .seq vs.toArray c' })
    (s := { s with heap := s.heap.push { cls := .type "list", data := .seq ([] : List Value).toArray } }) hh (Heap.get?_push_of_some _ hr) hs hn (by lia) _ _ 0 hS fun h' tk acc' c' hkeep hS' hacc => ?_) (fun fin s' hf => ?_) (fun e s' hf => ?_)
  · have keep : ∀ b o, s.heap.get? b = some o → h'.get? b = some o := fun b o e => hkeep b o (Nat.ne_of_lt (Heap.lt_size e)) (Heap.get?_push_of_some _ e)
    exact ⟨rfl, acc'.toList, _, rr.kept F keep tk, rngV_of k acc'.toList (by rw [Array.length_toList]; exact hacc.1) fun j v hj => hacc.2 j v (by simpa using hj), c', hS'⟩
  · cases fin with
    | done f =>
      obtain ⟨e, hx⟩ := hf
      cases e
      exact fin' s' hx
    | again c' => exact ⟨hf.1, codeAny_mono hf.2 fun r s'' hr => by obtain ⟨rfl, hx⟩ := hr; exact fin' s'' hx⟩
  · exact absurd hf.1 (by simp)
end
section
set_option maxRecDepth 100000
set_option linter.unusedVariables false
variable {base : Heap} {os : OsState} {H H' : HP} {n n' : Nat} {s s' : Shared} {prog : Program} {w : World} {A : Around} {L : Addr} {σ : St} {m : Loc} {env : Env} {Q : V → St → Prop} {R : Flow → St → Prop}

theorem args_sorted_key (a f : Value) : argsOk "sorted" ⟨[a], [(Str.ofString "key", f)]⟩ := by unfold argsOk; kernel_rfl
theorem args_list_sort_key (a f : Value) : argsOk "list.sort" ⟨[a], [(Str.ofString "key", f)]⟩ := by unfold argsOk; kernel_rfl
theorem list_sort_keyed (a f : Addr) : Builtin.«list.sort» ⟨[.ref a], [(Str.ofString "key", .ref f)]⟩ = (do
    let items ← Builtin.List.listItems (.ref a)
    Builtin.List.listUpdate (.ref a) fun _ => #[]
    let before ← seqEpoch a
    let held ← newTuple items.toList
    let keyStore ← newList []
    holding [held, keyStore] do
      rule "list.sort.key"
      for x in items do
        match ← (call (.ref f) [x]).attempt with
        | .ok k => Builtin.List.listUpdate keyStore (·.push k)
        | .error e =>
          rule "list.sort.key-raised"
          let made ← Builtin.List.listItems keyStore
          Builtin.List.listUpdate keyStore fun _ => #[]
          letGo made.toList.reverse [e]
          Builtin.List.listUpdate (.ref a) fun _ => items; throw e
      let keys ← Builtin.List.listItems keyStore
      let kind ← if items.size < 2 then pure general' else keyKind' keys
      let ((), s) ← (if items.size < 2 then pure () else sortRuns').run (SortSt.mk' kind (keys.zip items) #[] 7 none)
      let sorted := (arrOf s).map (·.2)
      Builtin.List.listUpdate keyStore fun _ => #[]
      letGo ((arrOf s).map (·.1)).toList (failedOf s).toList
      let touched := (← seqEpoch a) != before
      Builtin.List.listUpdate (.ref a) fun _ => sorted
      if let some e := failedOf s then rule "list.sort.comparison-raised"; throw e
      if touched then rule "list.sort.modified"; raiseError "ValueError" "list modified during sort"
      ret .none) := by
  first | rfl | (fail "not by rfl")

-- what a key function gives, told in a frame
noncomputable def Keyed1 (prog : Program) (w : World) (base : Heap) (os : OsState) (A : Around) (L : Addr) (f : Addr) (H₀ : HP) (its : List Int) (key : Int → Int) : Prop :=
  ∀ i ∈ its, ∀ (a' : Value) (σ' : St), er a' = .int i → Sub H₀ σ'.H → WV prog w base os A L (call (.ref f) [a'] []) (fun u σ'' => u = .int (key i) ∧ σ''.m = σ'.m ∧ σ''.H = σ'.H) σ'
-- the answer's order
noncomputable def Ordered1 (key : Int → Int) (inv : Int → Nat) (out : List Int) : Prop := ∀ (i j : Nat) (p q : Int), i < j → out[i]? = some p → out[j]? = some q → key p < key q ∨ (key p = key q ∧ inv p < inv q)
theorem intsOf {xs : List Value} {ks : List Int} (h : xs.map er = ks.map V.int) : IntsAre xs ks := by
  induction ks generalizing xs with
  | nil => cases xs with
    | nil => exact .nil
    | cons _ _ => simp at h
  | cons k ks ih => cases xs with
    | nil => simp at h
    | cons x xs =>
      simp only [List.map_cons, List.cons.injEq] at h
      obtain ⟨t, rfl⟩ := er_int.mp h.1
      exact .cons k t (ih h.2)
-- the keyed pairs
theorem zip_at {ks is : List Value} {its : List Int} {key : Int → Int} (hk : ks.map er = (its.map key).map V.int) (hi : is.map er = its.map V.int) {i : Nat} {p : Keyed} (h : (ks.toArray.zip is.toArray)[i]? = some p) :
    ∃ j t u, its[i]? = some j ∧ p.1 = .int (key j) t ∧ p.2 = .int j u := by
  have h' : (ks.zip is)[i]? = some p := by simpa using h
  rw [List.getElem?_zip_eq_some] at h'
  obtain ⟨h1, h2⟩ := h'
  have e2 : (is.map er)[i]? = some (er p.2) := by rw [List.getElem?_map, h2]; rfl
  have e1 : (ks.map er)[i]? = some (er p.1) := by rw [List.getElem?_map, h1]; rfl
  rw [hi, List.getElem?_map] at e2
  rw [hk, List.getElem?_map, List.getElem?_map] at e1
  obtain ⟨j, hj, ej⟩ := Option.map_eq_some_iff.mp e2
  rw [hj] at e1
  obtain ⟨u, eu⟩ := er_int.mp ej.symm
  obtain ⟨t, et⟩ := er_int.mp (Option.some.inj e1).symm
  exact ⟨j, t, u, hj, et, eu⟩
noncomputable def intV : Value → Int
  | .int j _ => j
  | _ => 0
noncomputable def tauOf (inv : Int → Nat) (p : Keyed) : Nat := match p.2 with
  | .int j _ => inv j
  | _ => 0
noncomputable def outOf (st : SortSt) : List Int := (arrOf st).toList.map fun p => intV p.2
theorem W_sortKey {l f : Addr} {its : List Int} {key : Int → Int} {inv : Int → Nat} {Q : PySem.Fin → St → Prop} (F : Full base) (hh : A.handled = none) (hl : σ.H l = some (.list (its.map V.int))) (hb : base.objs.size ≤ l) (hz : its.length < 64) (h2 : 2 ≤ its.length)
    (hinv : ∀ (i : Nat) (j : Int), its[i]? = some j → inv j = i) (hk : Keyed1 prog w base os A L f (del σ.H l) its key)
    (h : ∀ out n', out.Perm its → Ordered1 key inv out → Q (.done (.ret .none)) ⟨σ.m, upd σ.H l (.list (out.map V.int)), n'⟩) :
    W prog w base os A L (Builtin.«list.sort» ⟨[.ref l], [(Str.ofString "key", .ref f)]⟩) Q σ := fun s r => by
  rw [list_sort_keyed]
  obtain ⟨xs, k₀, g, e⟩ := r.at_ hl
  have hlen : xs.length = its.length := by have := congrArg List.length e; simpa using this
  refine wpAny_bind (listItems_at g rfl ?_)
  refine wpAny_bind (listUpdate_at g rfl ?_ (by rw [List.size_toArray, hlen, sizeLine_eq]; lia) (by show 0 ≤ _; lia))
  obtain ⟨e1, ho1⟩ : ∃ e1, (s.heap.update l (Obj.mapSeq fun _ => #[])).get? l = some (seqObj "list" #[] e1) := ⟨_, get?_update_seq g (fun _ => #[])⟩
  have r1 : RepF base os L ⟨σ.m, upd σ.H l (.raw (seqObj "list" #[] e1)), σ.n⟩ { s with heap := s.heap.update l (Obj.mapSeq fun _ => #[]) } :=
    r.turn (o := .raw (seqObj "list" #[] e1)) hl hb ho1 (fun b c hne e => (Heap.get?_update_ne _ _ _ _ hne).trans e) s.toks (Nat.le_of_eq (Heap.SameBut.update s.heap l _).1.symm)
  refine wpAny_bind (seqEpoch_at ho1 rfl ?_)
  refine wpAny_bind (wpAny_newTuple ?_ (by simp; rw [hlen, sizeLine_eq]; lia))
  have r2 := r1.push' { cls := .type "tuple", data := .seq xs.toArray.toList.toArray } s.toks
  refine wpAny_bind (wpAny_newList ?_ (by show 0 ≤ _; lia))
  have r3 := r2.push { cls := .type "list", data := .seq ([] : List Value).toArray } (o := .list ([].map er)) ⟨[], _, Heap.get?_push_size _ rfl, rfl⟩
  generalize hs3 : ({ heap := _, gens := _, drawn := _, toks := _, os := _ } : Shared) = s3 at r3 ⊢
  have hK : s3.heap.objs.size = s3.heap.objs.size := rfl
  generalize hKd : s3.heap.objs.size = K at r3 ⊢
  have hlK : l < K := by
    rw [← hKd, ← hs3]
    show l < (Heap.push _ _).objs.size
    rw [Heap.size_push]
    exact Nat.lt_succ_of_lt (by show l < (s.heap.update l _).objs.size; rw [Heap.size_update]; exact Heap.lt_size g)
  have hbK : base.objs.size ≤ K := Nat.le_trans hb (Nat.le_of_lt hlK)
  have hHK : σ.H K = none := by
    cases q : σ.H K with
    | none => rfl
    | some o =>
      have h1 := r.lt q
      have h2 : σ.n ≤ K := by
        rw [← hKd, ← hs3]
        show σ.n ≤ (Heap.push _ _).objs.size
        rw [Heap.size_push]
        exact Nat.le_succ_of_le (by show σ.n ≤ (s.heap.update l _).objs.size; rw [Heap.size_update]; exact r.1.le)
      exact absurd (Nat.lt_of_lt_of_le h1 h2) (Nat.lt_irrefl _)
  refine wpAny_holding ?_
  refine wpAny_bind (wpAny_rule ?_)
  -- the keys
  refine wpAny_bind (wpAny_mono (wpAny_forIn_array' _ (fun rest _ s' => ∃ (done : List Value) (di : List Int) (ri : List Int) (n' : Nat), xs = done ++ rest ∧ its = di ++ ri ∧ done.map er = di.map V.int ∧ rest.map er = ri.map V.int ∧
      RepF base os L ⟨σ.m, upd (upd σ.H l (.raw (seqObj "list" #[] e1))) K (.list ((di.map key).map V.int)), n'⟩ s')
    (fun _ s' => ∃ n', RepF base os L ⟨σ.m, upd (upd σ.H l (.raw (seqObj "list" #[] e1))) K (.list ((its.map key).map V.int)), n'⟩ s') ?turn ?fin _ _ ⟨[], [], its, _, rfl, rfl, rfl, by simpa using e, r3⟩) (fun _ s4 ⟨n4, r4⟩ => ?post) fun _ _ (x : False) => x)
  case fin =>
    rintro _ s' ⟨done, di, ri, n', e1', e2', e3', e4', r'⟩
    have : ri = [] := by simpa using e4'
    subst this
    rw [List.append_nil] at e2'
    subst e2'
    exact ⟨n', r'⟩
  case turn =>
    rintro x rest _ s' ⟨done, di, ri, n', e1', e2', e3', e4', r'⟩
    cases ri with
    | nil => simp at e4'
    | cons j ri =>
      simp only [List.map_cons, List.cons.injEq] at e4'
      have hsub : Sub (del σ.H l) (upd (upd σ.H l (.raw (seqObj "list" #[] e1))) K (.list ((di.map key).map V.int))) := fun a o ea => by
        have hal : a ≠ l := by rintro rfl; rw [del_same] at ea; cases ea
        rw [del_ne hal] at ea
        exact (upd_ne (by rintro rfl; rw [hHK] at ea; cases ea)).trans ((upd_ne hal).trans ea)
      refine wpAny_bind (wpAny_attempt (W.run (hk j (by rw [e2']; simp) x ⟨σ.m, _, n'⟩ e4'.1 hsub) r' (fun u s'' σ'' r'' hx1_ => ?_)))
      obtain ⟨eu, em, eH⟩ := hx1_
      obtain ⟨m'', H'', n''⟩ := σ''
      have em' : m'' = σ.m := em
      have eH' : H'' = upd (upd σ.H l (.raw (seqObj "list" #[] e1))) K (.list ((di.map key).map V.int)) := eH
      subst em' eH'
      obtain ⟨t, rfl⟩ := er_int.mp eu
      have hKH : (upd (upd σ.H l (.raw (seqObj "list" #[] e1))) K (.list ((di.map key).map V.int))) K = some (.list ((di.map key).map V.int)) := upd_same _ _ _
      obtain ⟨ys, kk, g2, e2⟩ := r''.at_ hKH
      have hyl : ys.length = di.length := by have := congrArg List.length e2; simpa using this
      have hdl : di.length ≤ its.length := by rw [e2']; simp
      refine wpAny_bind (listUpdate_at g2 rfl ?_ (by rw [List.size_toArray, hyl, sizeLine_eq]; lia) (by rw [Array.size_push, List.size_toArray, hyl, sizeLine_eq]; lia))
      have := turn_list hKH hbK r'' g2 (fun z => z.push (.int (key j) t)) (ys ++ [.int (key j) t]) (by simp) s''.toks
      refine wpAny_pure ⟨done ++ [x], di ++ [j], ri, n'', by rw [e1']; simp, by rw [e2']; simp, by rw [List.map_append, e3', List.map_append]; simp [e4'.1], e4'.2, ?_⟩
      have hup := upd_upd (upd σ.H l (.raw (seqObj "list" #[] e1))) K (.list ((di.map key).map V.int)) (.list ((ys ++ [Value.int (key j) t]).map er))
      have this' : RepF base os L ⟨σ.m, upd (upd (upd σ.H l (.raw (seqObj "list" #[] e1))) K (.list ((di.map key).map V.int))) K (.list ((ys ++ [Value.int (key j) t]).map er)), n''⟩ { s'' with heap := s''.heap.update K (Obj.mapSeq fun z => z.push (.int (key j) t)), toks := s''.toks } := this
      rw [hup, List.map_append, e2] at this'
      rw [List.map_append, List.map_append]
      exact this'
  case post =>
    have hK4 : (upd (upd σ.H l (.raw (seqObj "list" #[] e1))) K (.list ((its.map key).map V.int))) K = some (.list ((its.map key).map V.int)) := upd_same _ _ _
    have hl4 : (upd (upd σ.H l (.raw (seqObj "list" #[] e1))) K (.list ((its.map key).map V.int))) l = some (.raw (seqObj "list" #[] e1)) := (upd_ne (Nat.ne_of_lt hlK)).trans (upd_same _ _ _)
    obtain ⟨ks, kk, g4, e4⟩ := r4.at_ hK4
    have hkl : ks.length = its.length := by have := congrArg List.length e4; simpa using this
    refine wpAny_bind (listItems_at g4 rfl ?_)
    have hx2 : ¬ xs.toArray.size < 2 := by rw [List.size_toArray, hlen]; lia
    show wpAny _ _ (if xs.toArray.size < 2 then _ else _) _ _ _
    rw [if_neg hx2]
    have hI := intsOf e4
    have hkk : keyKind' ks.toArray = pure oneType' := by
      obtain ⟨v₁, v₂, rest, rfl⟩ : ∃ v₁ v₂ rest, ks = v₁ :: v₂ :: rest := by
        match ks, hkl with
        | [], h => simp at h; lia
        | [_], h => simp at h; lia
        | v₁ :: v₂ :: rest, _ => exact ⟨v₁, v₂, rest, rfl⟩
      exact keyKind_ints hI
    rw [hkk]
    refine wpAny_bind (wpAny_pure ?_)
    dsimp only
    rw [if_neg hx2]
    have hat : ∀ (i : Nat) (p : Keyed), (ks.toArray.zip xs.toArray)[i]? = some p → ∃ j t u, its[i]? = some j ∧ p.1 = .int (key j) t ∧ p.2 = .int j u := fun i p hp => zip_at e4 e hp
    have hmem : ∀ p : Keyed, p ∈ (ks.toArray.zip xs.toArray).toList → ∃ j t u, p.1 = .int (key j) t ∧ p.2 = .int j u := fun p hp => by
      obtain ⟨i, hi, rfl⟩ := List.mem_iff_getElem.mp hp
      obtain ⟨j, t, u, _, h1, h2⟩ := hat i _ (by rw [← Array.getElem?_toList]; exact List.getElem?_eq_getElem hi)
      exact ⟨j, t, u, h1, h2⟩
    have hsize : (ks.toArray.zip xs.toArray).size = its.length := by simp [hkl, hlen]
    have hSt : ∀ st : SortSt, st = SortSt.mk' oneType' (ks.toArray.zip xs.toArray) #[] 7 none → SBase (ks.toArray.zip xs.toArray) st ∧ Pre (tauOf inv) (ks.toArray.zip xs.toArray) (arrOf st) 0 := by
      rintro st rfl
      exact ⟨⟨Array.Perm.refl _, rfl, rfl, rfl⟩, ⟨fun i _ => rfl, fun i p hi => absurd hi (Nat.not_lt_zero _)⟩⟩
    obtain ⟨hB, hP⟩ := hSt _ rfl
    refine wpAny_bind (wpAny_mono (wpS_sortRunsS (τ := tauOf inv) (a₀ := ks.toArray.zip xs.toArray) (st := SortSt.mk' oneType' (ks.toArray.zip xs.toArray) #[] 7 none)
      (Q := fun _ st' => (arrOf st').Perm (ks.toArray.zip xs.toArray) ∧ failedOf st' = none ∧ StabTo (tauOf inv) (arrOf st') (ks.toArray.zip xs.toArray).size)
      (fun p hp => let ⟨j, t, u, h1, _⟩ := hmem p hp; ⟨_, t, h1⟩) (fun i p hp => by
        obtain ⟨j, t, u, h1, h2, h3⟩ := hat i p hp
        unfold tauOf; rw [h3]; exact hinv i j h1) hB hP (by rw [hsize]; exact h2) (by rw [hsize]; exact hz) fun st' a1 a2 a3 => ⟨a1, a2, a3⟩) ?_ fun _ _ (x : False) => x)
    rintro ⟨⟨⟩, st'⟩ s5 ⟨rfl, hp, hf, hs⟩
    dsimp only
    have hmem' : ∀ p : Keyed, p ∈ (arrOf st').toList → ∃ j t u, p.1 = .int (key j) t ∧ p.2 = .int j u := fun p hpm => hmem p ((Array.perm_iff_toList_perm.mp hp).mem_iff.mp hpm)
    rw [hf]
    refine wpAny_bind (listUpdate_at g4 rfl ?_ (by rw [List.size_toArray, hkl, sizeLine_eq]; lia) (by show 0 ≤ _; lia))
    refine wpAny_bind (wpAny_letGo ?_)
    have r5 : RepF base os L ⟨σ.m, upd (upd σ.H l (.raw (seqObj "list" #[] e1))) K (.list ([].map er)), n4⟩ { s5 with heap := s5.heap.update K (Obj.mapSeq fun _ => #[]) } := by
      have := turn_list hK4 hbK r4 g4 (fun _ => #[]) [] (by simp) s5.toks
      have hup := upd_upd (upd σ.H l (.raw (seqObj "list" #[] e1))) K (.list ((its.map key).map V.int)) (.list ([].map er))
      have this' : RepF base os L ⟨σ.m, upd (upd (upd σ.H l (.raw (seqObj "list" #[] e1))) K (.list ((its.map key).map V.int))) K (.list ([].map er)), n4⟩ { s5 with heap := s5.heap.update K (Obj.mapSeq fun _ => #[]), toks := s5.toks } := this
      rw [hup] at this'
      exact this'
    have hl5 : (upd (upd σ.H l (.raw (seqObj "list" #[] e1))) K (.list ([].map er))) l = some (.raw (seqObj "list" #[] e1)) := (upd_ne (Nat.ne_of_lt hlK)).trans (upd_same _ _ _)
    have g5 := r5.at_ hl5
    refine wpAny_bind (seqEpoch_at g5 rfl ?_)
    have hsz5 : (Array.map (fun x : Keyed => x.2) (arrOf st')).size ≤ 1000 := by rw [Array.size_map, hp.size_eq, hsize]; lia
    refine wpAny_bind (listUpdate_at g5 rfl ?_ (by show 0 ≤ _; lia) (by rw [sizeLine_eq]; lia))
    simp only [bne_self_eq_false, Bool.false_eq_true, if_false]
    have hout : ((Array.map (fun x : Keyed => x.2) (arrOf st')).toList).map er = (outOf st').map V.int := by
      unfold outOf
      rw [Array.toList_map, List.map_map, List.map_map]
      refine List.map_congr_left fun p hpm => ?_
      obtain ⟨j, t, u, h1, h2⟩ := hmem' p hpm
      simp [h2, er, intV]
    have g6 : (({ s5 with heap := s5.heap.update K (Obj.mapSeq fun _ => #[]) } : Shared).heap.update l (Obj.mapSeq fun _ => Array.map (fun x : Keyed => x.2) (arrOf st'))).get? l =
        some (seqObj "list" (Array.map (fun x : Keyed => x.2) (arrOf st')) (if (Array.map (fun x : Keyed => x.2) (arrOf st')).size == (#[] : Array Value).size then e1 else e1 + 1)) := get?_update_seq g5 (fun _ => Array.map (fun x : Keyed => x.2) (arrOf st'))
    have r6 := r5.turn (o := .list ((outOf st').map V.int)) hl5 hb ⟨(Array.map (fun x : Keyed => x.2) (arrOf st')).toList, _, by rw [Array.toArray_toList]; exact g6, hout⟩
      (fun b c hne e => (Heap.get?_update_ne _ _ _ _ hne).trans e) s5.toks (Nat.le_of_eq (Heap.SameBut.update _ l _).1.symm)
    refine wpAny_pure ⟨⟨σ.m, upd σ.H l (.list ((outOf st').map V.int)), n4⟩, r6.weaken rfl (fun a o ea => ?_) rfl, h _ _ ?_ ?_⟩
    · dsimp only at ea ⊢
      by_cases hal : a = l
      · subst hal; rw [upd_same] at ea ⊢; exact ea
      · rw [upd_ne hal] at ea ⊢
        exact (upd_ne (by rintro rfl; rw [hHK] at ea; cases ea)).trans ((upd_ne hal).trans ea)
    · have hpl := (Array.perm_iff_toList_perm.mp hp).map (fun p : Keyed => intV p.2)
      have e0 : (ks.toArray.zip xs.toArray).toList.map (fun p : Keyed => intV p.2) = its := by
        apply List.ext_getElem?
        intro i
        rw [List.getElem?_map, Array.getElem?_toList]
        cases hq : (ks.toArray.zip xs.toArray)[i]? with
        | none =>
          rw [Array.getElem?_eq_none_iff] at hq
          rw [hsize] at hq
          rw [List.getElem?_eq_none hq]; rfl
        | some p =>
          obtain ⟨j, t, u, h1, h2, h3⟩ := hat i p hq
          rw [h1]; simp [h3, intV]
      rw [e0] at hpl
      exact hpl
    · intro i j p q hij hp' hq'
      unfold outOf at hp' hq'
      rw [List.getElem?_map, Array.getElem?_toList] at hp' hq'
      obtain ⟨pp, e1', e2'⟩ := Option.map_eq_some_iff.mp hp'
      obtain ⟨qq, e3', e4'⟩ := Option.map_eq_some_iff.mp hq'
      have hj : j < (ks.toArray.zip xs.toArray).size := by
        have := (Array.getElem?_eq_some_iff.mp e3').1
        rw [← hp.size_eq]; exact this
      obtain ⟨jp, tp, up, h1, h2⟩ := hmem' pp (by obtain ⟨hi, rfl⟩ := Array.getElem?_eq_some_iff.mp e1'; simp)
      obtain ⟨jq, tq, uq, h3, h4⟩ := hmem' qq (by obtain ⟨hi, rfl⟩ := Array.getElem?_eq_some_iff.mp e3'; simp)
      have := hs i j pp qq hij hj e1' e3'
      unfold Lex tauOf at this
      rw [h1, h2, h3, h4] at this
      rw [h2] at e2'; rw [h4] at e4'
      have ep : jp = p := e2'
      have eq : jq = q := e4'
      subst ep eq
      exact this

theorem rngV_len' : ∀ (a c : Int) (n : Nat), (rngV a c n).length = n
  | _, _, 0 => rfl
  | a, c, n + 1 => by show (rngV (a + c) c n).length + 1 = _; rw [rngV_len']
-- sorted(range, key=f)
theorem WCall_sortedRng {r f : Addr} {a b c : Int} {k : Nat} {its : List Int} {key : Int → Int} {inv : Int → Nat} (F : Full base) (hh : A.handled = none) (hr : IsRng σ.H r a b c) (hs : Builtin.Range.small a b c = true) (hn : Builtin.Range.rangeSize a b c = k)
    (h2 : 2 ≤ k) (hz : k < 64) (hi : rngV a c k = its.map V.int) (hinv : ∀ (i : Nat) (j : Int), its[i]? = some j → inv j = i) (hk : ∀ A' : Around, A'.depth = A.depth → A'.handled = none → Keyed1 prog w base os A' L f σ.H its key)
    (h : ∀ out l H' n', out.Perm its → Ordered1 key inv out → Sub σ.H H' → H' l = some (.list (out.map V.int)) → Q (.ref l) ⟨σ.m, H', n'⟩) :
    WCall prog w base os A L (.bi "sorted") [.ref r] [Str.ofString "key"] [.ref f] Q σ := fun f' as ks ef ea ek => by
  rw [er_bi] at ef; subst ef
  obtain ⟨x, rfl, ex⟩ := map_one ea
  obtain ⟨y, rfl, ey⟩ := map_one ek
  rw [er_ref] at ex ey; subst ex ey
  have hlen : its.length = k := by
    have := congrArg List.length hi
    rw [rngV_len', List.length_map] at this
    exact this.symm
  intro s rr
  refine call_function_entry_kw kind_sorted plain_sorted entry_sorted (args_sorted_key _ _) ?_
  unfold Builtin.«sorted»
  refine wpAny_bind (m := checkCount "sorted" 1 1 _) (wpAny_pure ?_)
  refine wpAny_bind (wpAny_mono (W_collectRng (A := A.in1) (Q := fun vs σ' => vs.map er = rngV a c k ∧ σ'.m = σ.m ∧ σ'.H = σ.H) F hh hr hs hn (by lia) (fun vs n' e => ⟨e, rfl, rfl⟩) s rr) (fun vs s₁ ⟨σ₁, r₁, e1, e2, e3⟩ => ?_) fun _ _ x => x)
  obtain ⟨m₁, H₁, n₁⟩ := σ₁
  have em : m₁ = σ.m := e2
  have eH : H₁ = σ.H := e3
  subst em eH
  have hvl : vs.length = its.length := by have := congrArg List.length (e1.trans hi); simpa using this
  refine wpAny_bind (wpAny_newList ?_ (by rw [hvl, sizeLine_eq]; lia))
  have r₂ := r₁.push { cls := .type "list", data := .seq vs.toArray } (o := .list (vs.map er)) ⟨vs, _, Heap.get?_push_size _ rfl, rfl⟩
  rw [e1, hi] at r₂
  have hfr : σ.H s₁.heap.objs.size = none := by
    cases q : σ.H s₁.heap.objs.size with
    | none => rfl
    | some o' => exact absurd (Nat.lt_of_lt_of_le (r₁.lt q) r₁.1.le) (Nat.lt_irrefl _)
  have hbl : base.objs.size ≤ s₁.heap.objs.size := Nat.le_trans r₁.1.base_le r₁.1.le
  have hdel : del (upd σ.H s₁.heap.objs.size (.list (its.map V.int))) s₁.heap.objs.size = σ.H := del_upd hfr
  have hT : ({ s₁ with heap := s₁.heap.push { cls := .type "list", data := .seq vs.toArray } } : Shared).TypeIs (.ref s₁.heap.objs.size) "list" := ⟨_, Heap.get?_push_size _ rfl, rfl⟩
  refine wpAny_bind (wpAny_holding (wpAny_call_entry_kw slot_list_sort hT entry_list_sort (wpAny_mono (W_sortKey (A := A.in1.in1) (σ := ⟨σ.m, upd σ.H s₁.heap.objs.size (.list (its.map V.int)), s₁.heap.objs.size + 1⟩) (l := s₁.heap.objs.size) (f := f) (its := its) (key := key) (inv := inv)
    (Q := fun fin σ' => fin = .done (.ret .none) ∧ ∃ out n', out.Perm its ∧ Ordered1 key inv out ∧ σ' = ⟨σ.m, upd σ.H s₁.heap.objs.size (.list (out.map V.int)), n'⟩) F hh (upd_same _ _ _) hbl (by lia) (by lia) hinv
      (by show Keyed1 _ _ _ _ _ _ _ (del (upd σ.H s₁.heap.objs.size (.list (its.map V.int))) s₁.heap.objs.size) _ _; rw [hdel]; exact hk _ rfl hh) (fun out n' a1 a2 => ⟨rfl, out, n', a1, a2, by
        have := upd_upd σ.H s₁.heap.objs.size (.list (its.map V.int)) (.list (out.map V.int))
        show (⟨σ.m, upd (upd σ.H s₁.heap.objs.size (.list (its.map V.int))) s₁.heap.objs.size (.list (out.map V.int)), n'⟩ : St) = _
        rw [this]⟩) _ r₂) (fun fin s' hf => ?_) fun _ _ x => x) (args_list_sort_key _ _)))
  obtain ⟨σ', r', rfl, out, n', a1, a2, rfl⟩ := hf
  refine ⟨_, rfl, wpAny_pure ⟨_, rfl, _, r', ?_⟩⟩
  exact h out _ _ _ a1 a2 (Sub.upd_new hfr) (upd_same _ _ _)
end
section
set_option maxRecDepth 100000
set_option linter.unusedVariables false
variable {base : Heap} {os : OsState} {H H' : HP} {n n' : Nat} {s s' : Shared} {prog : Program} {w : World} {A : Around} {L : Addr} {σ : St} {m : Loc} {env : Env} {Q : V → St → Prop} {R : Flow → St → Prop}

-- all but one address keeps its object; there stands a cell
noncomputable def SubX (X : Addr) (H H' : HP) : Prop := (∀ a o, a ≠ X → H a = some o → H' a = some o) ∧ ∃ v, H' X = some (.cell v)
-- one turn: of item v; nothing, or one more item
noncomputable def CTurnX (X : Addr) (prog : Program) (w : World) (base : Heap) (os : OsState) (A : Around) (C : Addr) (cenv : Env) (target elt : Expr) (ifs : List Expr) (v : V) (Z : Option Y) (σ : St) : Prop :=
  WA prog w base os A C cenv target v (fun _ => WIfs prog w base os A C cenv ifs (fun ok σ' => match Z with
    | none => ok = false ∧ SubX X σ.H σ'.H
    | some Z => ok = true ∧ WV prog w base os A C (eval elt cenv) (fun y σ'' => Z.at σ''.H y ∧ SubX X σ.H σ''.H) σ')) σ
end
section
set_option maxRecDepth 100000
set_option linter.unusedVariables false
variable {base : Heap} {os : OsState} {H H' : HP} {n n' : Nat} {s s' : Shared} {prog : Program} {w : World} {A : Around} {L : Addr} {σ : St} {m : Loc} {env : Env} {Q : V → St → Prop} {R : Flow → St → Prop}

-- what a comprehension asks
structure CompOkX (prog : Program) (w : World) (base : Heap) (os : OsState) (A : Around) (L : Addr) (env : Env) (target elt iter : Expr) (ifs : List Expr) (scope : Scope) (cl : List (Str × Addr)) (nm : Str) (x : V) (fs : List (V × Option Y)) (σ₁ : St) : Prop where
  src : ∃ K, Nonempty (Src prog w base os x (fs.map (·.1)) K) ∧ ∀ H, Sub σ₁.H H → K H
  size : fs.length ≤ sizeLine
  turn : ∀ C v Z, (v, Z) ∈ fs → ∀ σ, σ₁.n ≤ C → Sub (upd σ₁.H L (.ns σ₁.m)) σ.H → (∃ v, σ.H (C + 1) = some (.cell v)) → CTurnX (C + 1) prog w base os A C (compEnvC scope ((nm, C + 1) :: cl) C env) target elt ifs v Z σ

theorem CompOkX.o {target elt iter : Expr} {ifs : List Expr} {scope : Scope} {cl : List (Str × Addr)} {nm : Str} {x : V} {fs : List (V × Option Y)} {σ₁ : St} (ok : CompOkX prog w base os A L env target elt iter ifs scope cl nm x fs σ₁) :
    CompOkO prog w base os A L env (some nm) target elt ifs scope cl x fs σ₁ :=
  have so : ∀ {X : Addr} {H H' : HP}, SubX X H H' → SubO (some X) H H' := fun h => ⟨fun a o q e => h.1 a o (by rintro rfl; exact q rfl) e, fun x e => by cases e; exact h.2⟩
  ⟨ok.src, ok.size, fun C v Z hv σ hn hs hX => WA.mono (ok.turn C v Z hv σ hn hs (hX _ rfl)) fun _ σ₂ h₂ => h₂.mono fun okk σ₃ h₃ => by
    cases Z with
    | none => exact ⟨h₃.1, so h₃.2⟩
    | some Z => exact ⟨h₃.1, W.mono h₃.2 fun y σ₄ h₄ => ⟨h₄.1, so h₄.2⟩⟩⟩
theorem WS_AssignCompX {nm : Str} {elt target iter : Expr} {ifs : List Expr} {scope : Scope} {cl : List (Str × Addr)} {pos py spos : Pos} {y : Str} (F : Full base) (hh : A.handled = none)
    (h : WV prog w base os A L (eval iter env) (fun x σ₁ => ∃ fs, CompOkX prog w base os A L env target elt iter ifs scope cl nm x fs σ₁ ∧
      ∀ D ys H' n', σ₁.n ≤ D → Sub σ₁.H H' → H' D = some (.list ys) → All H' (fs.filterMap (·.2)) ys → R .next ⟨σ₁.m.set y (.ref D), H', n'⟩) σ)
    (hsw : swapsWith (.ListComp elt [⟨target, iter, ifs, 0⟩] scope pos) (some (.Name y py)) spos.line env = pure true)
    (hs : ∀ x, foldedSetIterable iter env x = pure x) (hclos : closureFor scope env = pure cl) (hcell : scope.names.filter (fun y => y.2 == .cell) = [(nm, .cell)]) (hkind : scope.kind = .function)
    (hnames : ∀ x ∈ scope.names, x.2 = .local → scope.names.lookup x.1 = some .local) (hy : env.kindOf y = some .local) (hk : env.scope.kind = .function) (hL' : env.locals = L) :
    W prog w base os A L (exec (.Assign [.Name y py] (.ListComp elt [⟨target, iter, ifs, 0⟩] scope pos) spos) env) R σ := by
  refine WS_AssignCompJ (nm := some nm) F hh walked_1 (fun s r => wpAny_mono (h s r) (fun xv s₁ hx => ?_) fun _ _ e => e) hsw hs hclos hcell hkind hnames hy hk hL'
  obtain ⟨σ₁, r₁, fs, ok, hq⟩ := hx
  exact ⟨σ₁, r₁, ok.o.toJ r₁.2.1 hq⟩
end
section
open PySem.SeqAt
open AutoSeq1 (wpAny_loadPart')
open MeetsSeq MeetsSeq2 MeetsSeq3
set_option maxRecDepth 100000
set_option maxHeartbeats 2000000
set_option linter.unusedVariables false

-- the first of two rows of two that is more, by the first place, then by the second
noncomputable def gtP (p q : Int × Int) : Bool := if p.1 == q.1 then (if p.2 == q.2 then false else decide (p.2 > q.2)) else decide (p.1 > q.1)

theorem rcGt {prog : Program} {w : World} {A : Around} {E : Value → Shared → Prop} {s : Shared} {Q : Value → Shared → Prop} (a b : Int) (t u : Tok) (h : Q (.bool (decide (a > b))) s) :
    wpAny (model prog w) A (richCompare .Gt (.int a t) (.int b u)) Q E s :=
  richCompare_gives (op := .Gt) (typeIs_int s _ t) (typeIs_int s _ u) F.slot_int_gt F.entry_int_gt (F.args_int_gt_2 _ _) (gives_int_gt _ _ t u) (fun x => nomatch x) h

theorem pair_gtAt (l b : Addr) (a1 b1 a2 b2 : Int) (t1 u1 t2 u2 : Tok) (items items2 : Array Value) (hi : items = #[.int a1 t1, .int b1 u1]) (hi2 : items2 = #[.int a2 t2, .int b2 u2]) (n n2 : Nat) (dd dd2 : Option Addr) (sl sl2 : Array (Option Value)) :
    Meets (Builtin.«tuple.__gt__» ⟨[.ref l, .ref b], []⟩)
      (fun A R s => s.heap.get? l = some { cls := .type "tuple", dict := dd, data := .seq items n, slots := sl } ∧ s.heap.get? b = some { cls := .type "tuple", dict := dd2, data := .seq items2 n2, slots := sl2 } ∧
        R (.ok (.ret (.bool (gtP (a1, b1) (a2, b2))))) s) :=
  .of_wp fun prog w A R s h => by
    obtain ⟨hp, g, d, tk, os⟩ := s; obtain ⟨hl, hb, h⟩ := h
    have f2 := AutoSeq1.sub_tuple_tuple
    wp_walk using wpAny_loadPart' hl, wpAny_loadPart' hb, wpAny_forIn_list _ (fun rest b s' => b.1 = none ∧ s' = ⟨hp, g, d, tk, os⟩ ∧ ((rest = [(.int a1 t1, .int a2 t2), (.int b1 u1, .int b2 u2)]) ∨ (rest = [(.int b1 u1, .int b2 u2)] ∧ (a1 == a2) = true) ∨
      (rest = [] ∧ (a1 == a2) = true ∧ (b1 == b2) = true))) _
    case turn =>
      rintro ⟨y, x⟩ rest b s' ⟨hb', rfl, hz⟩
      rcases hz with hz | ⟨hz, e1⟩ | ⟨hz, _⟩
      · injection hz with hyx hrest
        cases hyx
        refine wpAny_bind (EqAt.int_int a1 t1 a2 t2 prog w _ _ ?_)
        cases hy : (a1 == a2) with
        | true =>
          wp_walk
          exact ⟨rfl, rfl, .inr (.inl ⟨hrest, rfl⟩)⟩
        | false =>
          show wpAny _ _ (rule _ >>= fun _ => richCompare .Gt _ _ >>= fun v => ret v >>= fun l => pure (ForInStep.done (some l, ()))) _ _ _
          refine wpAny_bind (wpAny_rule (wpAny_bind (rcGt a1 a2 t1 t2 ?_)))
          wp_walk
          exact ⟨_, rfl, by simpa [gtP, hy] using h⟩
      · injection hz with hyx hrest
        cases hyx
        refine wpAny_bind (EqAt.int_int b1 u1 b2 u2 prog w _ _ ?_)
        cases hy : (b1 == b2) with
        | true =>
          wp_walk
          exact ⟨rfl, rfl, .inr (.inr ⟨hrest, e1, rfl⟩)⟩
        | false =>
          show wpAny _ _ (rule _ >>= fun _ => richCompare .Gt _ _ >>= fun v => ret v >>= fun l => pure (ForInStep.done (some l, ()))) _ _ _
          refine wpAny_bind (wpAny_rule (wpAny_bind (rcGt b1 b2 u1 u2 ?_)))
          wp_walk
          exact ⟨_, rfl, by simpa [gtP, hy, e1] using h⟩
      · cases hz
    case fin =>
      rintro ⟨b1', b2'⟩ s' ⟨hb', rfl, hz⟩
      simp only at hb'
      subst hb'
      rcases hz with hz | ⟨hz, e1⟩ | ⟨hz, e1, e2⟩
      · cases hz
      · cases hz
      wp_walk
      exact ⟨_, rfl, by simpa [Builtin.Tuple.tupleCompareSizes, gtP, e1, e2, hi, hi2] using h⟩
    case h =>
      exact ⟨rfl, rfl, .inl (by rw [hi, hi2]; rfl)⟩

theorem rcGt_pairs {prog : Program} {w : World} {A : Around} {E : Value → Shared → Prop} {s : Shared} {Q : Value → Shared → Prop} {l b : Addr} {a1 b1 a2 b2 : Int} {t1 u1 t2 u2 : Tok}
    (hl : s.heap.IsTuple l #[.int a1 t1, .int b1 u1]) (hb : s.heap.IsTuple b #[.int a2 t2, .int b2 u2]) (hu : A.units < cLine)
    (h : Q (.bool (gtP (a1, b1) (a2, b2))) s) : wpAny (model prog w) A (richCompare .Gt (.ref l) (.ref b)) Q E s := by
  obtain ⟨⟨cls, dd, data, sl⟩, ho, hc, n, hd⟩ := id hl
  obtain ⟨⟨cls2, dd2, data2, sl2⟩, ho2, hc2, n2, hd2⟩ := id hb
  simp only at hc hd hc2 hd2
  subst hc hd hc2 hd2
  exact richCompare_meets_room (op := .Gt) ⟨_, ho, rfl⟩ ⟨_, ho2, rfl⟩ F.slot_tuple_gt F.entry_tuple_gt (F.args_tuple_gt_2 _ _) (pair_gtAt l b a1 b1 a2 b2 t1 u1 t2 u2 _ _ rfl rfl n n2 dd dd2 sl sl2)
    ⟨ho, ho2, show Value.bool (gtP (a1, b1) (a2, b2)) ≠ Value.notImplemented ∧ Q (.bool (gtP (a1, b1) (a2, b2))) s from ⟨(fun x => nomatch x), h⟩⟩ hu
end
section
set_option maxRecDepth 100000
set_option linter.unusedVariables false

-- what stood in `h₀` stands in `h`
noncomputable def Stands (h₀ h : Heap) : Prop := ∀ b o, h₀.get? b = some o → h.get? b = some o
-- items compared where the old objects stand
noncomputable def CmpAt (prog : Program) (w : World) (A : Around) (h₀ : Heap) (P : Nat → Value → Prop) (bt : Nat → Nat → Bool) : Prop :=
  ∀ i j vi vj (s : Shared) (Q E : Value → Shared → Prop), Stands h₀ s.heap → P i vi → P j vj → Q (.bool (bt i j)) s → wpAny (model prog w) A (richCompare .Gt vi vj) Q E s

variable {prog : Program} {w : World} {A : Around} {RR : Result → Shared → Prop} {I S : Addr} {fp wr : List Addr} {n : Nat} {P : Nat → Value → Prop} {St : Nat → Heap → Prop} {h₀ : Heap} {bt : Nat → Nat → Bool}

theorem maxGo (W : Walks prog w A.in1 I fp wr n P St) (hcmp : CmpAt prog w A.in1 h₀ P bt) (hSf : S ∉ fp) (h0S : h₀.get? S = none) (h0w : ∀ b ∈ wr, h₀.get? b = none) :
    ∀ (k j : Nat) (s : Shared) (vb : Value) (c : Nat), j + k = n → St j s.heap → Stands h₀ s.heap → ((j = 0 ∧ 0 < n ∧ ∃ c, s.heap.get? S = some { cls := .type "list", data := .seq #[] c }) ∨
      (0 < j ∧ P (argBest bt (j - 1)) vb ∧ s.heap.get? S = some { cls := .type "list", data := .seq #[vb, vb] c })) →
    (∀ v h' tk, P (argBest bt (n - 1)) v → Stands h₀ h' → RR (.ok (.ret v)) { s with heap := h', toks := tk }) →
    codeAny (model prog w) A (.builtin "max.loop" ⟨[.ref I, .none, .ref S], []⟩) RR s := by
  have hSw : S ∉ wr := fun h => hSf (W.sub _ h)
  have hname : (toString "max" ++ toString ".loop" : String) = "max.loop" := by decide
  have kept : ∀ {h h' : Heap}, Stands h₀ h → (∀ b o, b ∉ wr → h.get? b = some o → h'.get? b = some o) → Stands h₀ h' := fun hs hk b o e => hk b o (fun hm => by rw [h0w b hm] at e; cases e) (hs b o e)
  intro k
  induction k with
  | zero =>
    intro j s vb c hj hst hs hcase hR
    have hjn : j = n := by lia
    subst hjn
    rcases hcase with ⟨e, h0, _⟩ | ⟨h0, hP, hS⟩
    · lia
    refine codeAny_builtin F.entry_max_loop ?_
    rw [Around.under_plainId F.plain_max_loop _]
    show wpAny _ A.in1 (seqItems? (.ref S) >>= _) _ _ s
    refine wpAny_bind (wpAny_seqItems hS rfl ?_)
    show wpAny _ A.in1 (tryCatch (pyNext (.ref I)) _ >>= _) _ _ s
    refine wpAny_bind (wpAny_tryCatch (W.done s _ _ hst fun h' tk hk' => ?_))
    have hS' := hk' S _ hSw hS
    show wpAny _ A.in1 (updateSeq S (fun _ => #[]) >>= _) _ _ _
    refine wpAny_bind (wpAny_updateSeq hS' rfl (wpAny_bind (wpAny_letGo (wpAny_pure ?_))))
    exact hR vb _ tk hP fun b o e => (Heap.get?_update_other _ _ (by rintro rfl; rw [h0S] at e; cases e)).trans (kept hs hk' b o e)
  | succ k ih =>
    intro j s vb c hj hst hs hcase hR
    have hlt : j < n := by lia
    have upS : ∀ {h : Heap} {f : Obj → Obj}, Stands h₀ h → Stands h₀ (h.update S f) := fun hs b o e => (Heap.get?_update_other _ _ (by rintro rfl; rw [h0S] at e; cases e)).trans (hs b o e)
    have fr : ∀ {i} {h : Heap} {f : Obj → Obj}, St i h → St i (h.update S f) := fun hst => W.frame _ _ _ hst fun b hbf o e => (Heap.get?_update_other _ _ (fun h : S = b => hSf (by rw [h]; exact hbf))).trans e
    rcases hcase with ⟨rfl, h0, c', hS⟩ | ⟨h0, hPb, hS⟩
    all_goals
      refine codeAny_builtin F.entry_max_loop ?_
      rw [Around.under_plainId F.plain_max_loop _]
      show wpAny _ A.in1 (seqItems? (.ref S) >>= _) _ _ s
      refine wpAny_bind (wpAny_seqItems hS rfl ?_)
      show wpAny _ A.in1 (tryCatch (pyNext (.ref I)) _ >>= _) _ _ s
      refine wpAny_bind (wpAny_tryCatch (W.item _ s _ _ hlt hst fun v h' tk hP hst' hk' => ?_))
      have hS' := hk' S _ hSw hS
      have hs' := kept hs hk'
    · show wpAny _ A.in1 (updateSeq S (fun _ => #[v, v]) >>= _) _ _ _
      refine wpAny_bind (wpAny_updateSeq hS' rfl ?_)
      rw [hname]
      exact wpAny_pure ⟨plainId_quiet F.plain_max_loop _, ih 1 _ v _ (by lia) (fr hst') (upS hs') (.inr ⟨Nat.one_pos, hP, Heap.get?_update_self _ hS' rfl⟩) fun v' h'' tk'' hP' hk'' => hR v' h'' tk'' hP' hk''⟩
    · show wpAny _ A.in1 (tryCatch (holding [v, v] (richCompare .Gt v vb >>= _)) _ >>= _) _ _ _
      refine wpAny_bind (wpAny_tryCatch (wpAny_holding (wpAny_bind (hcmp j (argBest bt (j - 1)) v vb _ _ _ hs' hP hPb ?_))))
      refine wpAny_bind (wpAny_holding (wpAny_truthy_bool ?_))
      refine wpAny_bind (wpAny_letGo (wpAny_pure ?_))
      have hbest : argBest bt j = if bt j (argBest bt (j - 1)) then j else argBest bt (j - 1) := by
        obtain ⟨i, rfl⟩ : ∃ i, j = i + 1 := ⟨j - 1, by lia⟩
        rfl
      cases hb : bt j (argBest bt (j - 1)) with
      | true =>
        simp only [if_true]
        refine wpAny_bind (wpAny_updateSeq hS' rfl (wpAny_bind (wpAny_letGo ?_)))
        rw [hname]
        exact wpAny_pure ⟨plainId_quiet F.plain_max_loop _, ih (j + 1) _ v _ (by lia) (fr hst') (upS hs') (.inr ⟨Nat.succ_pos _, by rw [Nat.add_sub_cancel, hbest, hb]; exact hP, Heap.get?_update_self _ hS' rfl⟩)
          fun v' h'' tk'' hP' hk'' => hR v' h'' tk'' hP' hk''⟩
      | false =>
        simp only [Bool.false_eq_true, if_false]
        refine wpAny_bind (wpAny_letGo ?_)
        rw [hname]
        exact wpAny_pure ⟨plainId_quiet F.plain_max_loop _, ih (j + 1) _ vb c (by lia) hst' hs' (.inr ⟨Nat.succ_pos _, by rw [Nat.add_sub_cancel, hbest, hb]; exact hPb, hS'⟩)
          fun v' h'' tk'' hP' hk'' => hR v' h'' tk'' hP' hk''⟩
end
section
set_option maxRecDepth 100000
set_option linter.unusedVariables false
variable {base : Heap} {os : OsState} {H H' : HP} {n n' : Nat} {s s' : Shared} {prog : Program} {w : World} {A : Around} {L : Addr} {σ : St} {m : Loc} {env : Env} {Q : V → St → Prop} {R : Flow → St → Prop}

theorem max_any {E QQ : Value → Shared → Prop} {l : Addr} {items : Array Value} {bt : Nat → Nat → Bool} (hh : A.handled = none) (hl : s.heap.IsList l items) (hne : 0 < items.size)
    (hcmp : CmpAt prog w A.in1 s.heap (fun i v => items[i]? = some v) bt)
    (h : ∀ v h' tk, items[argBest bt (items.size - 1)]? = some v → Stands s.heap h' → QQ v { s with heap := h', toks := tk }) :
    wpAny (model prog w) A (call (.builtin "max") [.ref l]) QQ E s := by
  have hname : (toString "max" ++ toString ".loop" : String) = "max.loop" := by decide
  have hlt : l < s.heap.objs.size := by obtain ⟨_, e, _⟩ := hl; exact Heap.lt_size e
  refine call_function_tree F.kind_max F.plain_max F.entry_max (F.args_max1 _) ?_
  show wpAny _ A.in1 (Builtin.Builtins.bindParams "max" ["key", "default"] 0 ⟨[], []⟩ >>= _) _ _ s
  refine wpAny_bind (wpAny_of_eq (show Builtin.Builtins.bindParams "max" ["key", "default"] 0 ⟨[], []⟩ = pure [none, none] from rfl) (wpAny_bind (wpAny_pure ?_)))
  refine wpAny_bind (wpAny_pyIter_list hl (wpAny_bind (wpAny_newObj_type ?_)))
  rw [hname]
  have hI : (s.heap.push { cls := .type "list_iterator", data := .fields #[.ref l, .int 0 0] }).IsListIter s.heap.objs.size l 0 := ⟨_, Heap.get?_push_size _ rfl, rfl, rfl⟩
  have hsz : (s.heap.push { cls := .type "list_iterator", data := .fields #[.ref l, .int 0 0] }).objs.size = s.heap.objs.size + 1 := Heap.size_push ..
  have W := Walks.list (prog := prog) (w := w) (A := A.in1) hh s.heap.objs.size l (Nat.ne_of_lt hlt) items
  refine wpAny_pure ⟨plainId_quiet F.plain_max_loop _, maxGo (h₀ := s.heap) W hcmp (fun hm => ?_) ?_ (fun b hb => ?_) items.size 0 _ .none 0 (by lia) ?_ (fun b o e => Heap.get?_push_of_some _ (Heap.get?_push_of_some _ e))
    (.inl ⟨rfl, hne, _, Heap.get?_push_size _ rfl⟩) fun v h' tk hP hk => h v h' tk hP hk⟩
  · rw [hsz] at hm
    rcases List.mem_cons.mp hm with e | hm
    · exact absurd e (Nat.ne_of_gt (Nat.lt_succ_self _))
    · rcases List.mem_cons.mp hm with e | hm
      · exact absurd e (Nat.ne_of_gt (Nat.lt_succ_of_lt hlt))
      · cases hm
  · cases q : s.heap.get? (s.heap.push { cls := .type "list_iterator", data := .fields #[.ref l, .int 0 0] }).objs.size with
    | none => rfl
    | some o => exact absurd (Nat.lt_trans (Nat.lt_succ_self _) (hsz ▸ Heap.lt_size q)) (Nat.lt_irrefl _)
  · cases q : s.heap.get? b with
    | none => rfl
    | some o =>
      have := Heap.lt_size q
      rcases List.mem_cons.mp hb with e | hb
      · exact absurd (e ▸ this) (Nat.lt_irrefl _)
      · cases hb
  · exact W.frame _ _ _ (⟨hI, hl.push _⟩) fun b hb o e => Heap.get?_push_of_some _ e
end
section
set_option maxRecDepth 100000
set_option linter.unusedVariables false
variable {base : Heap} {os : OsState} {H H' : HP} {n n' : Nat} {s s' : Shared} {prog : Program} {w : World} {A : Around} {L : Addr} {σ : St} {m : Loc} {env : Env} {Q : V → St → Prop} {R : Flow → St → Prop}

noncomputable def pairY (p : Int × Int) : Y := .tup [.int p.1, .int p.2]

theorem gtP_true {p q : Int × Int} (h : gtP p q = true) : q.1 ≤ p.1 := by
  unfold gtP at h
  split at h
  · rename_i e; have := beq_iff_eq.mp e; lia
  · have := of_decide_eq_true h; lia
theorem gtP_false {p q : Int × Int} (h : gtP p q = false) : p.1 ≤ q.1 := by
  unfold gtP at h
  split at h
  · rename_i e; have := beq_iff_eq.mp e; lia
  · have := of_decide_eq_false h; lia
theorem argBest_pairs (f : Nat → Int × Int) : ∀ k, argBest (fun i j => gtP (f i) (f j)) k ≤ k ∧ ∀ i, i ≤ k → (f i).1 ≤ (f (argBest (fun i j => gtP (f i) (f j)) k)).1
  | 0 => ⟨Nat.le_refl _, fun i hi => by rw [Nat.le_zero.mp hi]; exact Int.le_refl _⟩
  | k + 1 => by
    obtain ⟨h1, h2⟩ := argBest_pairs f k
    have hbest : argBest (fun i j => gtP (f i) (f j)) (k + 1) = if gtP (f (k + 1)) (f (argBest (fun i j => gtP (f i) (f j)) k)) then k + 1 else argBest (fun i j => gtP (f i) (f j)) k := rfl
    rw [hbest]
    cases hb : gtP (f (k + 1)) (f (argBest (fun i j => gtP (f i) (f j)) k)) with
    | true =>
      simp only [if_true]
      refine ⟨Nat.le_refl _, fun i hi => ?_⟩
      rcases Nat.lt_or_ge i (k + 1) with h | h
      · exact Int.le_trans (h2 i (by lia)) (gtP_true hb)
      · rw [show i = k + 1 by lia]; exact Int.le_refl _
    | false =>
      simp only [Bool.false_eq_true, if_false]
      refine ⟨by lia, fun i hi => ?_⟩
      rcases Nat.lt_or_ge i (k + 1) with h | h
      · exact h2 i (by lia)
      · rw [show i = k + 1 by lia]; exact gtP_false hb

theorem All.pick {H : HP} : ∀ {ps : List (Int × Int)} {ys : List V} {i : Nat} {y : V}, All H (ps.map pairY) ys → ys[i]? = some y → ∃ p b, ps[i]? = some p ∧ y = .ref b ∧ H b = some (.tup [.int p.1, .int p.2])
  | [], _, i, y, h, e => by cases h; simp at e
  | p :: ps, _, i, y, h, e => by
    cases h with
    | cons h1 h2 =>
      cases i with
      | zero =>
        obtain ⟨b, rfl, hb⟩ := h1
        simp only [List.getElem?_cons_zero, Option.some.injEq] at e
        subst e
        exact ⟨p, b, rfl, rfl, hb⟩
      | succ i => exact All.pick (i := i) h2 (by simpa using e)

theorem pair_at {h : Heap} {b : Addr} {x y : Int} (e : At h b (.tup [.int x, .int y])) : ∃ t u, h.IsTuple b #[.int x t, .int y u] := by
  refine Classical.byContradiction fun hneg1_ => ?_
  obtain ⟨xs, k, g, e⟩ := e
  obtain ⟨l, e1, e2⟩ := ints_of (ks := [x, y]) e
  have e' : xs.map er = [V.int x, V.int y] := e
  obtain ⟨p, r, rfl, e3, e4⟩ := List.map_eq_cons_iff.mp e'
  obtain ⟨q, r', rfl, e5, e6⟩ := List.map_eq_cons_iff.mp e4
  refine hneg1_ ?_
  cases List.map_eq_nil_iff.mp e6
  obtain ⟨t, rfl⟩ := er_int.mp e3
  obtain ⟨u, rfl⟩ := er_int.mp e5
  exact ⟨t, u, _, g, rfl, k, rfl⟩

theorem WCall_maxPairs {a : Addr} {ys : List V} {ps : List (Int × Int)} (F : Full base) (hh : A.handled = none) (hu : A.in1.units < cLine) (ha : σ.H a = some (.list ys)) (hall : All σ.H (ps.map pairY) ys) (hne : ps ≠ [])
    (h : ∀ b p n', p ∈ ps → (∀ q ∈ ps, q.1 ≤ p.1) → σ.H b = some (.tup [.int p.1, .int p.2]) → Q (.ref b) ⟨σ.m, σ.H, n'⟩) :
    WCall prog w base os A L (.bi "max") [.ref a] [] [] Q σ := WCall_bi fun as e => by
  obtain ⟨x, rfl, ex⟩ := map_one e
  rw [er_ref] at ex; subst ex
  intro s r
  obtain ⟨xs, k, g, e⟩ := r.at_ ha
  have hlen : xs.length = ps.length := by have := hall.len; rw [← e, List.length_map, List.length_map] at this; exact this
  have h0 : 0 < ps.length := List.length_pos_iff.mpr hne
  have item : ∀ {i : Nat} {v : Value}, xs.toArray[i]? = some v → ∃ (p : Int × Int) (b : Addr), ps[i]? = some p ∧ v = Value.ref b ∧ σ.H b = some (.tup [.int p.1, .int p.2]) := fun {i v} hv => by
    have hv' : ys[i]? = some (er v) := by rw [← e]; simpa using ⟨v, by simpa using hv, rfl⟩
    refine Classical.byContradiction fun hneg2_ => ?_
    obtain ⟨p, b, h1, h2, h3⟩ := hall.pick hv'
    refine hneg2_ ?_
    exact ⟨p, b, h1, er_ref.mp h2, h3⟩
  refine max_any hh (items := xs.toArray) (bt := fun i j => gtP (ps.getD i (0, 0)) (ps.getD j (0, 0))) ⟨_, g, rfl, k, rfl⟩ (by simpa [hlen] using h0) (fun i j vi vj s₂ QQ E hs hi hj hq => ?_) fun v h' tk hv hk => ?_
  · refine Classical.byContradiction fun hneg3_ => ?_
    obtain ⟨p, b, p1, rfl, p3⟩ := item hi
    obtain ⟨q, c, q1, rfl, q3⟩ := item hj
    obtain ⟨t, u, x1⟩ := pair_at (r.at_ p3)
    obtain ⟨t', u', x2⟩ := pair_at (r.at_ q3)
    refine hneg3_ ?_
    refine rcGt_pairs (let ⟨o, e, r⟩ := x1; ⟨o, hs _ _ e, r⟩) (let ⟨o, e, r⟩ := x2; ⟨o, hs _ _ e, r⟩) hu ?_
    simpa [List.getD_eq_getElem?_getD, p1, q1] using hq
  · refine Classical.byContradiction fun hneg4_ => ?_
    obtain ⟨p, b, p1, rfl, p3⟩ := item hv
    obtain ⟨b1, b2⟩ := argBest_pairs (fun i => ps.getD i (0, 0)) (xs.toArray.size - 1)
    refine hneg4_ ?_
    refine ⟨_, r.kept F hk tk, ?_⟩
    refine h b p _ (List.mem_of_getElem? p1) (fun q hq => ?_) p3
    obtain ⟨i, hi, rfl⟩ := List.mem_iff_getElem.mp hq
    have e1 : ps.getD i (0, 0) = ps[i] := by rw [List.getD_eq_getElem?_getD, List.getElem?_eq_getElem hi]; rfl
    have e2 : ∀ j, ps[j]? = some p → ps.getD j (0, 0) = p := fun j e => by rw [List.getD_eq_getElem?_getD, e]; rfl
    have t := b2 i (by simp [hlen]; lia)
    rw [e1, e2 _ p1] at t
    exact t
end
section
set_option maxRecDepth 100000
set_option linter.unusedVariables false
noncomputable abbrev lawF := pst PySem.Challenge.pw_rw0112_01 19
variable {doc pm cdv ct : Value} {an : Option Addr} {f : Addr}
noncomputable abbrev lawE (doc pm cdv ct : Value) (an : Option Addr) (L f : Addr) : Env := callEnvC (fdOf lawF .none .none doc pm an cdv ct) L f
theorem cell_script {L : Addr} : (lawE doc pm cdv ct an L f).cells.lookup (Str.ofString "script") = some (L + 1) := by kernel_rfl!
theorem cell_own {L : Addr} : (lawE doc pm cdv ct an L f).cells.lookup (Str.ofString "own") = some (L + 2) := by kernel_rfl!
theorem cell_k {L : Addr} : (lawE doc pm cdv ct an L f).cells.lookup (Str.ofString "k") = some (L + 3) := by kernel_rfl!
theorem cell_kept {L : Addr} : (lawE doc pm cdv ct an L f).cells.lookup (Str.ofString "kept") = some (L + 4) := by kernel_rfl!
theorem cell_ways {L : Addr} : (lawE doc pm cdv ct an L f).cells.lookup (Str.ofString "ways") = some (L + 5) := by kernel_rfl!
theorem cell_hour {L : Addr} : (lawE doc pm cdv ct an L f).cells.lookup (Str.ofString "hour") = some (L + 6) := by kernel_rfl!
theorem cell_cost {L : Addr} : (lawE doc pm cdv ct an L f).cells.lookup (Str.ofString "cost") = some (L + 7) := by kernel_rfl!
theorem cell_due {L : Addr} : (lawE doc pm cdv ct an L f).cells.lookup (Str.ofString "due") = some (L + 8) := by kernel_rfl!
end
section
set_option maxRecDepth 100000
set_option linter.unusedVariables false
variable {base : Heap} {os : OsState} {H H' : HP} {n n' : Nat} {s s' : Shared} {prog : Program} {w : World} {A : Around} {L : Addr} {σ : St} {m : Loc} {env : Env} {Q : V → St → Prop} {R : Flow → St → Prop}
variable {dV kV doc pm cdv ct : Value} {an : Option Addr} {f : Addr} {mg mb : Str → Option Value}





-- the law's body from statement i on
noncomputable abbrev lawFrom (i : Nat) : List Stmt := match (fdOf lawF .none .none .none .none none .none .none).body with | .stmts body => body.drop i | _ => []
theorem law_own {S : Addr} (hC : σ.H (L + 2) = some (.cell none)) (hb : base.objs.size ≤ L)
    (h : ∀ D n', σ.n ≤ D → WS prog w base os A L (lawFrom 1) (lawE doc pm cdv ct an L f) R ⟨σ.m, upd (upd σ.H D (.list ([42909348270783, 6879925916744, 16729459472468, 14425405140681, 5011004347407, 1643520465900].map V.int))) (L + 2) (.cell (some (.ref D))), n'⟩) :
    WS prog w base os A L (lawFrom 0) (lawE doc pm cdv ct an L f) R σ := by
  refine W.fact fun told _ _ _ => ?_
  refine WS_cons (WS_Assign ?_ (by walk_at "k"))
  refine W_List rfl ?_
  dsimp only [WArgs]
  iterate 6 walk_at "e"
  refine ⟨by show (6 : Nat) ≤ 2 ^ 24; decide, fun D hD => ?_⟩
  have hne : L + 2 ≠ D := by
    rintro rfl
    exact absurd (Nat.lt_of_lt_of_le (told _ _ hC) hD) (Nat.lt_irrefl _)
  refine WSt_cell cell_own ((upd_ne hne).trans hC) (Nat.le_trans hb (Nat.le_add_right _ _)) ?_ (by walk_at "k") (by walk_at "k")
  exact h D _ hD
end
section
set_option maxRecDepth 100000
set_option linter.unusedVariables false
variable {base : Heap} {os : OsState} {H H' : HP} {n n' : Nat} {s s' : Shared} {prog : Program} {w : World} {A : Around} {L : Addr} {σ : St} {m : Loc} {env : Env} {Q : V → St → Prop} {R : Flow → St → Prop}
variable {dV kV doc pm cdv ct : Value} {an : Option Addr} {f : Addr} {mg mb : Str → Option Value}






-- the items that a stride picks
noncomputable def pickI (vs : List Int) (lo hi st : Option Int) : List Int :=
  (sliceRange (sliceBounds lo hi st vs.length).1 (sliceBounds lo hi st vs.length).2.1 (sliceBounds lo hi st vs.length).2.2).filterMap (vs[·]?)
theorem pick_ints (vs : List Int) (lo hi st : Option Int) : pick (vs.map V.int) lo hi st = (pickI vs lo hi st).map V.int := by
  unfold pick pickI
  simp only [List.length_map, List.map_filterMap, List.getElem?_map]
noncomputable def ownL : List Int := [42909348270783, 6879925916744, 16729459472468, 14425405140681, 5011004347407, 1643520465900]
noncomputable def numI (script : List Int) (k : Nat) : Int := ((ownL[k]?).getD 0 + (pickI script (some k) none (some 6)).sum).fmod (10 ^ 14)
noncomputable def numOf (script : List Int) (k : Nat) : Nat := (numI script k).toNat
theorem numI_eq (script : List Int) (k : Nat) : numI script k = (numOf script k : Int) ∧ numOf script k < 10 ^ 14 := by
  unfold numOf
  have h1 := Int.fmod_nonneg_of_pos ((ownL[k]?).getD 0 + (pickI script (some k) none (some 6)).sum) (by decide : (0 : Int) < 10 ^ 14)
  have h2 := Int.fmod_lt_of_pos ((ownL[k]?).getD 0 + (pickI script (some k) none (some 6)).sum) (by decide : (0 : Int) < 10 ^ 14)
  unfold numI
  lia
theorem fresh_none {σ : St} (told : ∀ a o, σ.H a = some o → a < σ.n) {b : Addr} (hb : σ.n ≤ b) : σ.H b = none := by
  cases q : σ.H b with
  | none => rfl
  | some o => exact absurd (Nat.lt_of_lt_of_le (told _ _ q) hb) (Nat.lt_irrefl _)
-- what keeps a state's told objects
theorem sub_of_upd {H : HP} {L : Addr} {o : O} {H' : HP} (h : Sub (upd H L o) H') (hL : H L = none) : Sub H H' := fun a p e => h a p ((upd_ne (by rintro rfl; rw [hL] at e; cases e)).trans e)
theorem WV.fact {t : Sem Value} (h : (∀ a o, σ.H a = some o → a < σ.n) → L < σ.n → σ.H L = none → base.objs.size ≤ L → WV prog w base os A L t Q σ) : WV prog w base os A L t Q σ := W.fact h
theorem locNames {sc : Scope} (h : sc.names.all (fun x => x.2 != .local || sc.names.lookup x.1 == some .local) = true) : ∀ x ∈ sc.names, x.2 = .local → sc.names.lookup x.1 = some .local := fun x hx e => by
  have := List.all_eq_true.mp h x hx
  simpa [e] using this
theorem law_numbers {script : List Int} {aS aO : Addr} (G : Gl base mg mb) (F : Full base) (hh : A.handled = none) (h1 : σ.H (L + 1) = some (.cell (some (.ref aS)))) (h2 : σ.H aS = some (.list (script.map V.int))) (hlen : script.length ≤ 63)
    (h3 : σ.H (L + 2) = some (.cell (some (.ref aO)))) (h4 : σ.H aO = some (.list (ownL.map V.int)))
    (h : ∀ D H' n', σ.n ≤ D → Sub σ.H H' → H' D = some (.list (((List.range 6).map (numOf script)).map fun x : Nat => V.int x)) → WS prog w base os A L (lawFrom 2) (lawE doc pm cdv ct an L f) R ⟨σ.m.set "numbers" (.ref D), H', n'⟩) :
    WS prog w base os A L (lawFrom 1) (lawE doc pm cdv ct an L f) R σ := by
  refine W.fact fun told hLn hHL hbL => ?_
  refine WS_cons (WS_AssignComp (cl := [("script", L + 1), ("own", L + 2)]) F hh ?_ (by kernel_rfl!) (fun _ => rfl) (by kernel_rfl!) (noCells (by kernel_rfl!)) rfl (locNames (by kernel_rfl!)) (by walk_at "k") (by walk_at "k") (by walk_at "k"))
  refine W_Call rfl rfl ?_ rfl
  refine W_builtin G.g G.b (v := .type "range") (G.bi _ (.type "range") (by kernel_rfl!)).1 (G.bi _ (.type "range") (by kernel_rfl!)).2 ?_ (by walk_at "k") (by walk_at "k") (by walk_at "k") (by walk_at "k") (by decide +kernel)
  dsimp only [WArgs]
  walk_at "e"
  dsimp only [WKws, kwNames]
  refine ⟨trivial, WCall_range1 fun rg hrg _ o ho => ?_⟩
  have hHrg : σ.H rg = none := fresh_none told hrg
  have hsub1 : Sub σ.H (upd σ.H rg (.raw o)) := Sub.upd_new hHrg
  refine ⟨(List.range 6).map fun k => (V.int (k : Nat), some (Y.val (.int (numOf script k)))), ⟨⟨_, ⟨by have := srcRange (prog := prog) (w := w) (base := base) (os := os) rg 0 6 1 (by decide +kernel); rw [show (Builtin.Range.rangeSize 0 6 1).toNat = 6 by decide +kernel] at this; exact this⟩, fun H hs => ?_⟩, (by show (6 : Nat) ≤ _; decide), ?_⟩, ?_⟩
  · obtain ⟨t, u, v, hr⟩ := ho
    exact ⟨t, u, v, hs _ _ hr⟩
  · intro Cc v Z hv τ hn hs
    obtain ⟨k, hk, e⟩ := List.mem_map.mp hv
    cases e
    have hs2 : Sub σ.H τ.H := hsub1.trans (sub_of_upd hs ((upd_ne (by rintro rfl; exact absurd hrg (Nat.not_le_of_gt hLn))).trans hHL))
    unfold CTurn
    refine WA_Name (WSt_local ?_ (by walk_at "k") (by walk_at "k") (by walk_at "k"))
    dsimp only [WIfs]
    refine ⟨rfl, WV.fact fun toldτ _ _ _ => ?_⟩
    walk_at "e"
    walk_at "e"
    refine W_Subscript ?_
    refine W_Name (W_load_cell (c := L + 2) (by kernel_rfl!) (hs2 _ _ h3) ?_ rfl (.inl (by kernel_rfl!))) (by decide +kernel)
    walk_at "e"
    have hk6 : k < 6 := List.mem_range.mp hk
    have hown : (ownL.map V.int)[((k : Nat) : Int).toNat]? = some (.int ((ownL[k]?).getD 0)) := by
      rw [Int.toNat_natCast, List.getElem?_map]
      obtain ⟨x, hx⟩ : ∃ x, ownL[k]? = some x := ⟨ownL[k]'(by show k < 6; exact hk6), List.getElem?_eq_getElem _⟩
      rw [hx]; rfl
    refine WSub_list (hs2 _ _ h4) (by lia) hown (by decide) ?_ rfl
    refine W_Call rfl rfl ?_ rfl
    refine W_builtin G.g G.b (v := .builtin "sum") (G.bi _ (.builtin "sum") (by kernel_rfl!)).1 (G.bi _ (.builtin "sum") (by kernel_rfl!)).2 ?_ (by walk_at "k") (by walk_at "k") (by walk_at "k") (by walk_at "k") (by decide +kernel)
    dsimp only [WArgs]
    refine W_sliceL ?_ (fun a b => ⟨_, rfl⟩) (fun _ _ => rfl)
    refine W_Name (W_load_cell (c := L + 1) (by kernel_rfl!) (hs2 _ _ h1) ?_ rfl (.inl (by kernel_rfl!))) (by decide +kernel)
    dsimp only [WSl]
    walk_at "e"
    dsimp only [WSl]
    walk_at "e"
    refine ⟨aS, script.map V.int, some (k : Int), none, some 6, rfl, hs2 _ _ h2, by rw [List.length_map, sizeLine_eq]; lia, rfl, rfl, rfl, by decide, fun b hb => ?_⟩
    rw [pick_ints]
    dsimp only [WKws, kwNames]
    refine ⟨trivial, WCall_sum F hh (upd_same _ _ _) fun n1 => ?_⟩
    walk_at "o"
    walk_at "e"; walk_at "e"; walk_at "e"
    refine WB_pow ?_ (by decide) (by decide +kernel)
    refine WB_mod ?_ (by decide +kernel)
    refine ⟨?_, Sub.upd_new (fresh_none toldτ hb)⟩
    show V.int _ = V.int _
    congr 1
    exact (numI_eq script k).1
  · intro D ys H' n' hD hs hDl hall
    have e1 : ((List.range 6).map fun k => (V.int (k : Nat), some (Y.val (.int (numOf script k))))).filterMap (·.2) = (((List.range 6).map (numOf script)).map fun x : Nat => V.int x).map Y.val := by
      rw [List.filterMap_map, List.map_map, List.map_map]
      exact congrFun List.filterMap_eq_map _
    rw [e1] at hall
    rw [hall.vals] at hDl
    exact h D H' n' (Nat.le_of_lt (Nat.lt_of_le_of_lt hrg hD)) (hsub1.trans hs) hDl
end
section
set_option maxRecDepth 100000
set_option linter.unusedVariables false
variable {base : Heap} {os : OsState} {H H' : HP} {n n' : Nat} {s s' : Shared} {prog : Program} {w : World} {A : Around} {L : Addr} {σ : St} {m : Loc} {env : Env} {Q : V → St → Prop} {R : Flow → St → Prop}
variable {dV kV doc pm cdv ct : Value} {an : Option Addr} {f : Addr} {mg mb : Str → Option Value}






theorem law_due {xs : List Nat} {aN : Addr} (G : Gl base mg mb) (F : Full base) (hh : A.handled = none) (h1 : σ.m "numbers" = some (.ref aN)) (h2 : σ.H aN = some (.list (xs.map fun x : Nat => V.int x))) (hlen : xs.length ≤ 63)
    (h3 : σ.H (L + 7) = some (.cell none)) (h4 : σ.H (L + 8) = some (.cell none))
    (h : ∀ aD aC H' n', σ.n ≤ aD → σ.n ≤ aC → aD ≠ aC → (∀ a o, a ≠ L + 7 → a ≠ L + 8 → σ.H a = some o → H' a = some o) → H' (L + 8) = some (.cell (some (.ref aD))) → H' aD = some (.list ((xs.map (· % 24)).map fun x : Nat => V.int x)) →
      H' (L + 7) = some (.cell (some (.ref aC))) → H' aC = some (.list []) → WS prog w base os A L (lawFrom 3) (lawE doc pm cdv ct an L f) R ⟨σ.m, H', n'⟩) :
    WS prog w base os A L (lawFrom 2) (lawE doc pm cdv ct an L f) R σ := by
  refine W.fact fun told hLn hHL hbL => ?_
  refine WS_cons (WS_AssignT ?_ (by kernel_rfl!) (by kernel_rfl!))
  refine W_Tuple rfl ?_
  dsimp only [WArgs]
  refine W_ListComp (cl := []) F hh ?_ (fun _ => rfl) (by kernel_rfl!) (noCells (by kernel_rfl!)) rfl (locNames (by kernel_rfl!))
  walk_at "e"
  refine ⟨xs.map fun x : Nat => (V.int x, some (Y.val (.int (x % 24 : Nat)))), ⟨⟨_, ⟨by rw [List.map_map]; exact srcList aN _⟩, fun H hs => hs _ _ h2⟩, by rw [List.length_map, sizeLine_eq]; lia, ?_⟩, ?_⟩
  · intro Cc v Z hv τ hn hs
    obtain ⟨x, hx, e⟩ := List.mem_map.mp hv
    cases e
    unfold CTurn
    refine WA_Name (WSt_local ?_ (by walk_at "k") (by walk_at "k") (by walk_at "k"))
    dsimp only [WIfs]
    refine ⟨rfl, ?_⟩
    walk_at "e"; walk_at "e"; walk_at "e"
    refine WB_mod ?_ (by decide)
    refine ⟨?_, Sub.refl _⟩
    show V.int _ = V.int _
    congr 1
    rw [Int.fmod_eq_emod_of_nonneg _ (by decide)]
    lia
  · intro D ys H1 n1 hD hs hDl hall
    have e1 : (xs.map fun x : Nat => (V.int x, some (Y.val (.int (x % 24 : Nat))))).filterMap (·.2) = ((xs.map (· % 24)).map fun x : Nat => V.int x).map Y.val := by
      rw [List.filterMap_map, List.map_map, List.map_map]
      exact congrFun List.filterMap_eq_map _
    rw [e1] at hall
    rw [hall.vals] at hDl
    refine WV.fact fun told1 hLn1 _ _ => ?_
    refine W_List rfl ?_
    dsimp only [WArgs]
    refine ⟨by show 0 ≤ _; lia, fun aC haC => ?_⟩
    refine ⟨by show 2 ≤ _; decide, fun t ht => ?_⟩
    have haC' : n1 ≤ aC := haC
    have ht' : aC + 1 ≤ t := ht
    refine WA_Tuple F rfl hh (upd_same _ _ _) rfl fun n2 => ?_
    dsimp only [WAs]
    have hDn : D < n1 := told1 _ _ hDl
    have lows : ∀ a o, σ.H a = some o → a < n1 := fun a o e => told1 _ _ (hs _ _ e)
    have c7 : L + 7 < n1 := lows _ _ h3
    have c8 : L + 8 < n1 := lows _ _ h4
    have hD7 : L + 7 ≠ D := Nat.ne_of_lt (Nat.lt_of_lt_of_le (told _ _ h3) hD)
    have hD8 : L + 8 ≠ D := Nat.ne_of_lt (Nat.lt_of_lt_of_le (told _ _ h4) hD)
    have nt : ∀ a, a < n1 → a ≠ t ∧ a ≠ aC := fun a ha => ⟨Nat.ne_of_lt (by lia), Nat.ne_of_lt (by lia)⟩
    have n78 : L + 7 ≠ L + 8 := Nat.ne_of_lt (by lia)
    have q8 : upd (upd H1 aC (.list [])) t (.tup [.ref D, .ref aC]) (L + 8) = some (.cell none) := (upd_ne (nt _ c8).1).trans ((upd_ne (nt _ c8).2).trans (hs _ _ h4))
    have q7 : upd (upd (upd H1 aC (.list [])) t (.tup [.ref D, .ref aC])) (L + 8) (.cell (some (.ref D))) (L + 7) = some (.cell none) := (upd_ne n78).trans ((upd_ne (nt _ c7).1).trans ((upd_ne (nt _ c7).2).trans (hs _ _ h3)))
    refine WA_Name (WSt_cell cell_due q8 (Nat.le_trans hbL (Nat.le_add_right _ _)) ?_ (by walk_at "k") (by walk_at "k"))
    refine WA_Name (WSt_cell cell_cost q7 (Nat.le_trans hbL (Nat.le_add_right _ _)) ?_ (by walk_at "k") (by walk_at "k"))
    refine h D aC _ _ hD (Nat.le_trans (Nat.le_of_lt (Nat.lt_of_le_of_lt hD hDn)) haC') (Nat.ne_of_lt (Nat.lt_of_lt_of_le hDn haC')) (fun a o h7 h8 e => ?_) ?_ ?_ (upd_same _ _ _) ?_
    · have := lows _ _ e
      exact (upd_ne h7).trans ((upd_ne h8).trans ((upd_ne (nt _ this).1).trans ((upd_ne (nt _ this).2).trans (hs _ _ e))))
    · exact (upd_ne (Ne.symm n78)).trans (upd_same _ _ _)
    · exact (upd_ne (Ne.symm hD7)).trans ((upd_ne (Ne.symm hD8)).trans ((upd_ne (nt _ hDn).1).trans ((upd_ne (nt _ hDn).2).trans hDl)))
    · have a7 : aC ≠ L + 7 := Nat.ne_of_gt (Nat.lt_of_lt_of_le c7 haC')
      have a8 : aC ≠ L + 8 := Nat.ne_of_gt (Nat.lt_of_lt_of_le c8 haC')
      have at' : aC ≠ t := Nat.ne_of_lt (Nat.lt_of_lt_of_le (Nat.lt_succ_self _) ht')
      exact (upd_ne a7).trans ((upd_ne a8).trans ((upd_ne at').trans (upd_same _ _ _)))
end
section
set_option maxRecDepth 100000
set_option linter.unusedVariables false

-- what a sign may mean: nothing, an end of line, a dot, or plain text
inductive Kind : List Nat → Prop
  | none : Kind []
  | cr : Kind [13]
  | lf : Kind [10]
  | dot : Kind [46]
  | plain {c : Nat} {r : List Nat} : c ≠ 46 → (∀ x ∈ c :: r, x ≠ 13 ∧ x ≠ 10) → Kind (c :: r)
noncomputable def kst : Bool → List Nat → Bool
  | k, [] => k
  | _, c :: r => kst (c == 13) r
noncomputable def hst : Bool → List Nat → Bool
  | h, [] => h
  | _, c :: r => hst (c == 10) r
theorem kst_append (k : Bool) : ∀ (a b : List Nat), kst k (a ++ b) = kst (kst k a) b
  | [], b => rfl
  | c :: r, b => kst_append _ r b
theorem hst_append (k : Bool) : ∀ (a b : List Nat), hst k (a ++ b) = hst (hst k a) b
  | [], b => rfl
  | c :: r, b => hst_append _ r b
theorem crlf_append : ∀ (k : Bool) (a b : List Nat), crlfS k (a ++ b) = crlfS k a ++ crlfS (kst k a) b
  | k, [], b => rfl
  | k, c :: r, b => by
    rw [List.cons_append, crlfS, crlfS, kst]
    by_cases h10 : c = 10
    · subst h10
      rw [if_pos rfl, if_pos rfl]
      cases k
      · simp only [Bool.false_eq_true, if_false]; rw [crlf_append false r b]; rfl
      · simp only [if_true]; rw [crlf_append false r b]; rfl
    · rw [if_neg h10, if_neg h10]
      by_cases h13 : c = 13
      · subst h13
        rw [if_pos rfl, if_pos rfl, crlf_append true r b]; rfl
      · rw [if_neg h13, if_neg h13, crlf_append false r b]
        have : (c == 13) = false := by simpa using h13
        rw [this]; rfl
theorem dot_append : ∀ (k : Bool) (a b : List Nat), dotS k (a ++ b) = dotS k a ++ dotS (hst k a) b
  | k, [], b => rfl
  | k, c :: r, b => by
    rw [List.cons_append, dotS, dotS, hst]
    by_cases h : k = true ∧ c = 46
    · rw [if_pos h, if_pos h, dot_append false r b, h.2]; rfl
    · rw [if_neg h, if_neg h, dot_append _ r b]; rfl
theorem hst_dot : ∀ (k : Bool) (a : List Nat), hst k (dotS k a) = hst k a
  | k, [] => rfl
  | k, c :: r => by
    rw [dotS]
    by_cases h : k = true ∧ c = 46
    · rw [if_pos h, h.2]; show hst false (dotS false r) = hst false r; exact hst_dot false r
    · rw [if_neg h]; show hst (c == 10) (dotS (c == 10) r) = hst (c == 10) r; exact hst_dot _ r
theorem crlf_plainL : ∀ (k : Bool) (l : List Nat), (∀ x ∈ l, x ≠ 13 ∧ x ≠ 10) → crlfS k l = l
  | k, [], _ => rfl
  | k, c :: r, h => by
    have h1 := h c (List.mem_cons_self ..)
    rw [crlfS, if_neg h1.2, if_neg h1.1, crlf_plainL false r fun x hx => h x (List.mem_cons_of_mem _ hx)]
theorem dot_plainL : ∀ (l : List Nat), (∀ x ∈ l, x ≠ 13 ∧ x ≠ 10) → dotS false l = l
  | [], _ => rfl
  | c :: r, h => by
    have h1 := h c (List.mem_cons_self ..)
    have : (c == 10) = false := by simpa using h1.2
    rw [dotS, if_neg (fun q => Bool.false_ne_true q.1), this, dot_plainL r fun x hx => h x (List.mem_cons_of_mem _ hx)]
theorem kst_plain : ∀ (k : Bool) (c : Nat) (l : List Nat), (∀ x ∈ c :: l, x ≠ 13 ∧ x ≠ 10) → kst k (c :: l) = false
  | k, c, [], h => by
    have h1 := h c (List.mem_cons_self ..)
    show (c == 13) = false
    simpa using h1.1
  | k, c, d :: r, h => kst_plain (c == 13) d r fun x hx => h x (List.mem_cons_of_mem _ hx)

-- told so far, and what is remembered
structure Sim (P : List Nat) (told last : Str) : Prop where
  told : told.cps.toList = dotS true (crlfS false P)
  last : (last == Str.ofString "\r") = kst false P
theorem str_eq {x y : Str} : (x == y) = (x.cps.toList == y.cps.toList) := by
  cases h : (x == y) with
  | true => rw [eq_of_beq h]; simp
  | false =>
    have : x.cps.toList ≠ y.cps.toList := fun q => by
      have : x = y := by cases x; cases y; congr; exact Array.ext' q
      rw [this] at h; simp at h
    exact (beq_eq_false_iff_ne.mpr this).symm
theorem hst_snoc (k : Bool) (l : List Nat) (c : Nat) : hst k (l ++ [c]) = (c == 10) := by rw [hst_append]; rfl
-- the last sign, or nothing
theorem slice_lastL (x : Str) : (Txt.slice x (some (-1)) none).cps.toList = x.cps.toList.drop (x.cps.size - 1) := by
  have hidx : Builtin.Str.strSliceIndices (some (-1)) none 1 x.length = (List.range (x.cps.size - (x.cps.size - 1))).map ((x.cps.size - 1) + ·) := by
    have e : Builtin.Str.strSliceIndices (some (-1)) none 1 x.length = sliceRange ((x.cps.size - 1 : Nat) : Int) (x.cps.size : Nat) 1 := by
      unfold Builtin.Str.strSliceIndices
      have : max (0 : Int) (min (-1 + (x.length : Nat)) (x.length : Nat)) = ((x.cps.size - 1 : Nat) : Int) := by
        have : x.length = x.cps.size := rfl
        lia
      simp [this]
      rfl
    rw [e, sliceRange_one]
  have hfm : ∀ (l : List Nat), List.filterMap (fun i => l[i]?) ((List.range (l.length - (l.length - 1))).map fun y => (l.length - 1) + y) = l.drop (l.length - 1) := fun l => by
    rcases List.eq_nil_or_concat l with rfl | ⟨l', c, rfl⟩
    · rfl
    · rw [List.concat_eq_append, List.length_append, List.length_singleton, Nat.add_sub_cancel, Nat.add_sub_cancel_left, List.drop_left]
      simp
  have hx : x.cps.size = x.cps.toList.length := by simp
  unfold Txt.slice
  rw [hidx]
  split
  · rename_i h
    have hl0 : x.cps.size - (x.cps.size - 1) = x.length := by simpa using h
    have hl : x.cps.size - (x.cps.size - 1) = x.cps.size := hl0
    rcases Nat.lt_or_ge 1 x.cps.size with h1 | h1
    · lia
    · rw [show x.cps.size - 1 = 0 by lia]; rfl
  · show List.filterMap (x.cps[·]?) _ = _
    rw [hx, ← hfm x.cps.toList]
    simp
theorem slice_last (x : Str) : ((Str.empty.cps.toList == (Txt.slice x (some (-1)) none).cps.toList) || ((Str.ofString "\n").cps.toList == (Txt.slice x (some (-1)) none).cps.toList)) = hst true x.cps.toList := by
  rw [slice_lastL]
  have e10 : (Str.ofString "\n").cps.toList = [10] := by decide +kernel
  have e0 : Str.empty.cps.toList = [] := rfl
  rw [e10, e0]
  rw [show x.cps.size = x.cps.toList.length by simp]
  generalize x.cps.toList = l
  rcases List.eq_nil_or_concat l with rfl | ⟨l', c, rfl⟩
  · rfl
  · rw [List.concat_eq_append, hst_snoc, List.length_append, List.length_singleton, Nat.add_sub_cancel, List.drop_left]
    cases h : (c == 10) with
    | true => rw [beq_iff_eq] at h; subst h; rfl
    | false =>
      have : ¬ (10 = c) := by intro q; subst q; simp at h
      simp [this]
theorem Sim.step {P : List Nat} {told last : Str} (s : Sim P told last) {mn : Str} (h : Kind mn.cps.toList) : Sim (P ++ mn.cps.toList) (toldOf mn told last) (if mn.length = 0 then last else mn) := by
  have e13 : (Str.ofString "\r").cps.toList = [13] := by decide +kernel
  have e10 : (Str.ofString "\n").cps.toList = [10] := by decide +kernel
  have e46 : (Str.ofString ".").cps.toList = [46] := by decide +kernel
  have e1310 : (Str.ofString "\r\n").cps.toList = [13, 10] := by decide +kernel
  have e4646 : (Str.ofString "..").cps.toList = [46, 46] := by decide +kernel
  have app : ∀ a b : Str, (a ++ b).cps.toList = a.cps.toList ++ b.cps.toList := fun a b => by show (a.cps ++ b.cps).toList = _; simp
  have hh : hst true told.cps.toList = hst true (crlfS false P) := by rw [s.told, hst_dot]
  have len : mn.length = mn.cps.toList.length := by show mn.cps.size = _; simp
  have sl : ([Str.empty, Str.ofString "\n"].any fun y => y.cps.toList == (Txt.slice told (some (-1)) none).cps.toList) = hst true (crlfS false P) := by
    rw [← hh, ← slice_last]; simp
  refine ⟨?_, ?_⟩
  · rw [crlf_append, dot_append, ← s.told, ← s.last]
    unfold toldOf
    rw [str_eq (x := mn) (y := Str.ofString "\r"), str_eq (x := mn) (y := Str.ofString "\n"), str_eq (x := mn) (y := Str.ofString "."), sl, e13, e10, e46]
    have ne10 : (mn != Str.ofString "\n") = !(mn.cps.toList == [10]) := by show (!(mn == Str.ofString "\n")) = _; rw [str_eq, e10]
    have nl : (last != Str.ofString "\r") = !(last == Str.ofString "\r") := rfl
    rw [ne10, nl]
    generalize hm : mn.cps.toList = M at h
    cases h with
    | none =>
      rw [if_neg (by simp), if_neg (by simp), if_pos (by simp), app, hm]; simp [crlfS, dotS]
    | cr =>
      rw [if_pos (by simp), app, e1310]
      cases hst true (crlfS false P) <;> rfl
    | lf =>
      cases hl : (last == Str.ofString "\r") with
      | true => rw [if_neg (by simp), if_neg (by simp), if_neg (by simp)]; simp [crlfS, dotS]
      | false => rw [if_pos (by simp), app, e1310]; cases hst true (crlfS false P) <;> rfl
    | dot =>
      cases hk : hst true (crlfS false P) with
      | true => rw [if_neg (by simp), if_pos (by simp), app, e4646]; rfl
      | false => rw [if_neg (by simp), if_neg (by simp), if_pos (by simp), app, hm]; rfl
    | @plain c r hc hr =>
      have h1 := hr c (List.mem_cons_self ..)
      have n13 : (c :: r == [13]) = false := by simp [h1.1]
      have n10 : (c :: r == [10]) = false := by simp [h1.2]
      have n46 : (c :: r == [46]) = false := by simp [hc]
      rw [n13, n10, n46, if_neg (by simp), if_neg (by simp), if_pos (by simp), app, hm, crlf_plainL _ _ hr]
      congr 1
      have : (c == 10) = false := by simpa using h1.2
      rw [dotS, if_neg (fun q => hc q.2), this, dot_plainL r fun x hx => hr x (List.mem_cons_of_mem _ hx)]
  · rw [kst_append, ← s.last]
    split
    · rename_i h0
      rw [len] at h0
      rw [List.length_eq_zero_iff.mp h0]; rfl
    · rename_i h0
      rw [len] at h0
      rw [str_eq, e13]
      generalize hm : mn.cps.toList = M at h h0
      cases h with
      | none => exact absurd rfl h0
      | cr => rfl
      | lf => rfl
      | dot => rfl
      | @plain c r hc hr =>
        have h1 := hr c (List.mem_cons_self ..)
        rw [kst_plain _ _ _ hr]; simp [h1.1]

-- the letter's pairs, turn by turn
noncomputable def pairsGo : Nat → Nat → List (Nat × Str)
  | 0, _ => []
  | t + 1, rest => sgn (rest % 8) (rest / 8 % 27) :: pairsGo t (rest / 216)
theorem letterGo_sim : ∀ (t rest : Nat) (typed told last : Str) (P : List Nat), Sim P told last → (∀ k w, k < 8 → w < 27 → Kind (sgn k w).2.cps.toList) →
    (letterGo t rest typed told last).2.cps.toList = dotS true (crlfS false (P ++ (pairsGo t rest).flatMap fun p => p.2.cps.toList)) ∧
    (letterGo t rest typed told last).1.cps.toList = typed.cps.toList ++ (pairsGo t rest).map (·.1)
  | 0, rest, typed, told, last, P, s, _ => by simp [letterGo, pairsGo, s.told]
  | t + 1, rest, typed, told, last, P, s, hk => by
    have st := s.step (mn := (sgn (rest % 8) (rest / 8 % 27)).2) (hk _ _ (by lia) (by lia))
    have ih := letterGo_sim t (rest / 216) (typed ++ one (sgn (rest % 8) (rest / 8 % 27)).1) _ _ _ st hk
    rw [letterGo]
    refine ⟨ih.1.trans ?_, ih.2.trans ?_⟩
    · rw [pairsGo, List.flatMap_cons, List.append_assoc]
    · rw [pairsGo, List.map_cons]
      show (typed.cps ++ #[_]).toList ++ _ = _
      simp
theorem pairsGo_len : ∀ (t rest : Nat), (pairsGo t rest).length = t
  | 0, _ => rfl
  | t + 1, rest => by rw [pairsGo, List.length_cons, pairsGo_len]
theorem sim_start : Sim [] (Str.ofString "") (Str.ofString "") := ⟨by decide +kernel, by decide +kernel⟩
noncomputable def kindB (l : List Nat) : Bool := l == [] || l == [13] || l == [10] || l == [46] || (match l with | c :: r => c != 46 && (c :: r).all (fun x => x != 13 && x != 10) | [] => false)
theorem kindB_ok {l : List Nat} (h : kindB l = true) : Kind l := by
  unfold kindB at h
  simp only [Bool.or_eq_true, beq_iff_eq] at h
  rcases h with (((rfl | rfl) | rfl) | rfl) | h
  · exact .none
  · exact .cr
  · exact .lf
  · exact .dot
  · cases l with
    | nil => cases h
    | cons c r =>
      simp only [Bool.and_eq_true, bne_iff_ne, List.all_eq_true] at h
      exact .plain h.1 fun x hx => h.2 x hx
theorem sgn_kind (k w : Nat) (hk : k < 8) (hw : w < 27) : Kind (sgn k w).2.cps.toList := by
  have : ∀ k : Nat, k < 8 → ∀ w : Nat, w < 27 → kindB (sgn k w).2.cps.toList = true := by decide +kernel
  exact kindB_ok (this k hk w hw)
end
section

set_option maxRecDepth 100000
set_option linter.unusedVariables false

/-! What is looked at when the first statements have run. -/
noncomputable def funcAt (h : Heap) (a : Addr) : Option FuncData := match h.get? a with
  | some o => (match o.data with | .func fd => some fd | _ => none)
  | none => none
theorem funcAt_spec {h : Heap} {a : Addr} {fd : FuncData} (e : funcAt h a = some fd) : ∃ o, h.get? a = some o ∧ o.data = .func fd := by
  unfold funcAt at e
  cases ho : h.get? a with
  | none => rw [ho] at e; cases e
  | some o =>
    rw [ho] at e
    dsimp only at e
    cases hd : o.data with
    | func fd' => rw [hd] at e; cases e; exact ⟨o, rfl, hd⟩
    | _ => rw [hd] at e; cases e
noncomputable def fieldsAt (h : Heap) (a : Addr) : Option (Value × Option Addr × Array Value) := match h.get? a with
  | some o => (match o.data with | .fields vs => some (o.cls, o.dict, vs) | _ => none)
  | none => none
theorem fieldsAt_spec {h : Heap} {a : Addr} {c : Value} {d : Option Addr} {vs : Array Value} (e : fieldsAt h a = some (c, d, vs)) : ∃ o, h.get? a = some o ∧ o.cls = c ∧ o.dict = d ∧ o.data = .fields vs := by
  unfold fieldsAt at e
  cases ho : h.get? a with
  | none => rw [ho] at e; cases e
  | some o =>
    rw [ho] at e
    dsimp only at e
    cases hd : o.data with
    | fields fd' => rw [hd] at e; cases e; exact ⟨o, rfl, rfl, rfl, hd⟩
    | _ => rw [hd] at e; cases e
noncomputable def nameIn : Option Value → Option Str
  | some (.str q _) => some q
  | _ => none
noncomputable def codeName (h : Heap) (c : Addr) : Option Str := (fieldsAt h c).bind fun x => nameIn x.2.2[1]?
theorem codeName_spec {h : Heap} {c : Addr} {q : Str} (e : codeName h c = some q) : h.CodeRec (.ref c) q := by
  unfold codeName at e
  obtain ⟨⟨c', d, vs⟩, h1, h2⟩ := Option.bind_eq_some_iff.mp e
  obtain ⟨o, a1, _, _, a2⟩ := fieldsAt_spec h1
  have h3 : nameIn vs[1]? = some q := h2
  cases hq : vs[1]? with
  | none => rw [hq] at h3; cases h3
  | some v =>
    rw [hq] at h3
    cases v with
    | str q' t => cases h3; exact ⟨c, o, vs, t, rfl, a1, a2, hq⟩
    | _ => cases h3
-- a dict of one name, whatever its hash
noncomputable def keyNone (h : Heap) (a : Addr) : Option (Value × Option Addr × List (Value × Value) × Nat × Array (Option Value)) := match h.get? a with
  | some o => (match o.data with | .dict es k => some (o.cls, o.dict, es.toList.map fun e => (e.key, e.val), k, o.slots) | _ => none)
  | none => none
theorem keyNone_spec {h : Heap} {a : Addr} {t : Tok} {k : Nat} (e : keyNone h a = some (.type "dict", none, [(.str "key" t, .none)], k, #[])) :
    ∃ (hh : Int) (t : Tok) (k : Nat), h.get? a = some { cls := .type "dict", data := .dict #[⟨hh, .str "key" t, .none⟩] k } := by
  unfold keyNone at e
  cases ho : h.get? a with
  | none => rw [ho] at e; cases e
  | some o =>
    rw [ho] at e
    dsimp only at e
    obtain ⟨c, d, da, sl⟩ := o
    cases da with
    | dict es k' =>
      simp only [Option.some.injEq, Prod.mk.injEq] at e
      obtain ⟨rfl, rfl, e3, rfl, rfl⟩ := e
      obtain ⟨l⟩ := es
      cases l with
      | nil => cases e3
      | cons x r =>
        obtain ⟨hh, kk, vv⟩ := x
        cases r with
        | cons y r => injection e3 with _ e4; cases e4
        | nil =>
          injection e3 with e4 _
          injection e4 with e5 e6
          replace e5 : kk = _ := e5
          replace e6 : vv = _ := e6
          subst e5 e6
          exact ⟨hh, t, _, rfl⟩
    | _ => cases e

-- the opening, the fence, the text's first statements
noncomputable def headRun (tb : String → Option Builtin) (p : Program) (w : World) (N k n : Nat) (env : Env) (l : List Stmt) : Option (Shared × Thread × (Flow × Code × Pos) × (Flow × Shared × Code × Pos)) :=
  (fencedOpening tb p w N).bind fun s₀ => (topGo tb p w s₀.heap.objs.size (s₀.heap.nsMap mainGlobals "__annotations__") k s₀ (topStub p)).bind fun a =>
    (segRun tb p w s₀.heap.objs.size (s₀.heap.nsMap mainGlobals "__annotations__") 1 1 a.1 (blockOf (behindTheImports p) env a.2.code a.2.pos [topFrame default])).bind fun b =>
      (segRun tb p w s₀.heap.objs.size (s₀.heap.nsMap mainGlobals "__annotations__") 1 n b.2.1 (piecesOf l env b.2.2.1 b.2.2.2 [topFrame default])).map fun d => (s₀, a.2, (b.1, b.2.2), d)
structure Looks where
  thread : Thread
  block : Flow × Code × Pos
  fin : Flow × Code × Pos
  n₀ : Nat
  ann : Option Value
  oks : List Bool
  blt : Option Str × List (Str × Value)
  names : List (Option Value)
  fns : List (Option FuncData)
  codes : List (Option Str)
  objs : List (Option Obj)
  keys : List (Option (Value × Option Addr × List (Value × Value) × Nat × Array (Option Value)))
  flds : List (Option (Value × Option Addr × Array Value))
noncomputable def looksAt (p : Program) (names : List Str) (fns codes objs keys flds : List Addr) (x : Shared × Thread × (Flow × Code × Pos) × (Flow × Shared × Code × Pos)) : Looks where
  thread := x.2.1
  block := x.2.2.1
  fin := (x.2.2.2.1, x.2.2.2.2.2)
  n₀ := x.1.heap.objs.size
  ann := x.1.heap.nsMap mainGlobals "__annotations__"
  oks := [x.1.heap.isNs mainGlobals, x.1.gens.size == 0, x.2.2.2.2.1.gens.size == 0, x.2.2.2.2.1.heap.isNs mainGlobals, x.2.2.2.2.1.heap.isNs builtinsNs, x.2.2.2.2.1.heap.accountedOkI (importedModules p.main.body),
    staticsOk (importedModules p.main.body) x.1.heap x.2.2.2.2.1.heap, namesBound p x.2.2.2.2.1.heap, laidKept x.1.heap x.2.2.2.2.1.heap, x.2.2.2.2.1.heap.noLimitOk]
  blt := x.2.2.2.2.1.heap.bltView
  names := names.map (x.2.2.2.2.1.heap.nsMap mainGlobals)
  fns := fns.map (funcAt x.2.2.2.2.1.heap)
  codes := codes.map (codeName x.2.2.2.2.1.heap)
  objs := objs.map x.2.2.2.2.1.heap.get?
  keys := keys.map (keyNone x.2.2.2.2.1.heap)
  flds := flds.map (fieldsAt x.2.2.2.2.1.heap)
end
section
set_option maxRecDepth 100000
set_option linter.unusedVariables false
variable {prog : Program} {w : World} {A : Around} {E : Value → Shared → Prop} {s s₂ : Shared} {c Pl F : Addr} {mg : Str → Option Value} {ps : Array Value}

/-! The text's own statements, one by one. -/
structure TS (s₂ : Shared) (c Pl : Addr) (mg : Str → Option Value) (ps : Array Value) (s : Shared) : Prop where
  main : s.heap.Main mg c Pl ps
  tab : s.heap.TableAt c Pl ps
  keep : ∀ b o, b ≠ Pl → b ≠ mainGlobals → s₂.heap.get? b = some o → s.heap.get? b = some o
  size : s₂.heap.objs.size ≤ s.heap.objs.size
  rest : s = { s₂ with heap := s.heap, toks := s.toks }
theorem TS.refl (m : s.heap.Main mg c Pl ps) (t : s.heap.TableAt c Pl ps) : TS s c Pl mg ps s := ⟨m, t, fun _ _ _ _ e => e, Nat.le_refl _, rfl⟩
-- all that stands is kept
theorem TS.grow {s₃ : Shared} (x : TS s₂ c Pl mg ps s) (g : Grow s s₃) : TS s₂ c Pl mg ps s₃ := by
  refine ⟨⟨x.main.g.keeps g.keep, x.main.code.keeps g.keep, x.main.low, x.main.bmod.keeps g.keep⟩, x.tab.keeps g.keep, fun b o h1 h2 e => g.keep b o (x.keep b o h1 h2 e), Nat.le_trans x.size g.size, ?_⟩
  rw [g.rest]; conv => lhs; rw [x.rest]
noncomputable def setm (mg : Str → Option Value) (x : Str) (v : Value) : Str → Option Value := fun y => if y = x then some v else mg y
theorem setm_same {x : Str} {v : Value} : setm mg x v x = some v := if_pos rfl
theorem setm_ne {x y : Str} {v : Value} (h : y ≠ x) : setm mg x v y = mg y := if_neg h
theorem store_ok {x : Str} {v : Value} {Q : Unit → Shared → Prop} (T : TS s₂ c Pl mg ps s) (hloc : prog.main.scope.names.lookup x = some .local) (hmod : prog.main.scope.kind = .module) (hnb : x ≠ "__builtins__")
    (h : ∀ s', TS s₂ c Pl (setm mg x v) ps s' → (∀ b o, b ≠ mainGlobals → s.heap.get? b = some o → s'.heap.get? b = some o) → Q () s') : wpAny (model prog w) A (storeName (mainEnv prog c F) x v) Q E s := by
  refine wpAny_storeName_local (env := mainEnv prog c F) hloc T.main.g (fun h' hn' hs' => ?_) (by show (prog.main.scope.kind == .class || (prog.main.scope.kind == .module && mainGlobals != mainGlobals)) = false; rw [hmod]; rfl)
  have keep : ∀ b o, b ≠ mainGlobals → s.heap.get? b = some o → h'.get? b = some o := fun b o hb e => (hs'.2 b hb).trans e
  refine Classical.byContradiction fun hneg1_ => ?_
  obtain ⟨bm, o, hbm, hne0, hneG, hneP, hbo, hrest⟩ := T.main.bmod
  refine hneg1_ ?_
  refine h _ ⟨⟨hn', T.main.code.sameBut hs' (Nat.ne_of_gt T.main.low.1) (Nat.ne_of_gt T.main.low.2), T.main.low, ⟨bm, o, ?_, hne0, hneG, hneP, keep _ _ hneG hbo, hrest⟩⟩, T.tab.sameBut hs' (Nat.ne_of_gt T.main.low.1) (Nat.ne_of_gt T.main.low.2),
    fun b o h1 h2 e => keep b o h2 (T.keep b o h1 h2 e), Nat.le_trans T.size (Nat.le_of_eq hs'.1.symm), ?_⟩ keep
  · show (if ("__builtins__" : Str) = x then some v else mg "__builtins__") = _
    rw [if_neg (Ne.symm hnb)]; exact hbm
  · conv => lhs; rw [T.rest]
theorem assign_ok {x : Str} {value : Expr} {p' pos : Pos} {Q : Flow → Shared → Prop} (hloc : prog.main.scope.names.lookup x = some .local) (hmod : prog.main.scope.kind = .module) (hnb : x ≠ "__builtins__")
    (hs : swapsWith value (some (.Name x p')) pos.line (mainEnv prog c F) = pure false)
    (h : wpAny (model prog w) A (eval value (mainEnv prog c F)) (fun v s' => ∃ mg ps, TS s₂ c Pl mg ps s' ∧ ∀ s'', TS s₂ c Pl (setm mg x v) ps s'' → (∀ b o, b ≠ mainGlobals → s'.heap.get? b = some o → s''.heap.get? b = some o) → Q .next s'') E s) :
    wpAny (model prog w) A (exec (.Assign [.Name x p'] value pos) (mainEnv prog c F)) Q E s :=
  wpAny_Assign_Name (wpAny_mono h (fun v s' ⟨mg, ps, T, q⟩ => store_ok T hloc hmod hnb q) fun _ _ e => e) hs
-- what a def of the top leaves
structure Made (s s' : Shared) (Pl : Addr) (a c' P' : Addr) (fd : FuncData) : Prop where
  keep : ∀ b o, b ≠ Pl → b ≠ mainGlobals → s.heap.get? b = some o → s'.heap.get? b = some o
  fn : FnAt s'.heap a fd
  lo : s.heap.objs.size ≤ a ∧ s.heap.objs.size ≤ c' ∧ s.heap.objs.size ≤ P'
  code : s'.heap.IsCode c' P' #[]
  tab : s'.heap.TableAt c' P' #[]
theorem def_ok {st : Stmt} {pos : Pos} {Q : Flow → Shared → Prop} (T : TS s₂ c Pl mg ps s) (hst : st = .FunctionDef (fname st) (fparams st) (fbody st) [] none [] (fscope st) none (fname st) pos) (hpar : (fparams st).defaults = [] ∧ (fparams st).kwonlyargs = [] ∧ (fparams st).kw_defaults = [])
    (hann0 : annTrees (fparams st) none (mainEnv prog c F) = []) (hfree : ∀ x ∈ (fscope st).names, x.2 ≠ .free) (hloc : prog.main.scope.names.lookup (fname st) = some .local) (hmod : prog.main.scope.kind = .module)
    (hq : qualnameIn (mainEnv prog c F) (fname st) (fname st) = fname st) (hnb : fname st ≠ "__builtins__") (hnf : codeAmong pos ps.toList = none) (hdoc : docOf (fbody st) = none)
    (h : ∀ a c' P' s', TS s₂ c Pl (setm mg (fname st) (.ref a)) (ps ++ #[rawInt pos.line, rawInt pos.col, .ref c']) s' → Made s s' Pl a c' P' (fdOf st .none .none .none ((mg "__name__").getD .none) none (.ref c') .none) → Q .next s') :
    wpAny (model prog w) A (exec st (mainEnv prog c F)) Q E s := by
  rw [hst, exec_def, hq, defaultsOf_eq, hpar.1, hpar.2.2, hann0]
  refine wpAny_bind (wpAny_standAt (wpAny_bind (wpAny_holding ?_)))
  refine wpAny_bind (wpAny_pure (wpAny_bind (wpAny_holding (wpAny_pure (wpAny_holding (wpAny_bind (wpAny_pure ?_)))))))
  rw [makeFunction_eq, hpar.2.1]
  refine wpAny_bind (wpAny_pure (wpAny_bind (wpAny_pure (wpAny_bind (wpAny_pure ?_)))))
  have hc : closureFor (fscope st) (mainEnv prog c F) = pure [] := by
    simp only [closureFor]
    rw [forIn_yield_id [] (fun x hx c => by
      obtain ⟨n, kind⟩ := x
      have : (kind == NameKind.free) = false := by simpa using hfree _ hx
      simp only [this, Bool.false_eq_true, if_false])]
    rfl
  simp only [makeTail, List.isEmpty_nil, if_true, pure_bind, hc]
  refine wpAny_bind (wpAny_functionCodeX (env := mainEnv prog c F) rfl T.main.code T.tab hnf fun c' h' tk hx hge hlt hok' hrec htab' ⟨P', hP', hcode', htabP⟩ => ?_)
  refine Classical.byContradiction fun hneg2_ => ?_
  obtain ⟨bm, o, hbm, hne0, hneG, hneP, hbo, hcls, hdict, hdata⟩ := T.main.bmod
  refine hneg2_ ?_
  have hgP : mainGlobals ≠ Pl := Nat.ne_of_lt T.main.low.2
  have hg' : h'.Ns mainGlobals mg := T.main.g.extBut hx hgP
  refine wpAny_bind (wpAny_builtinsFor hg' hbm hne0 (hx _ _ hneP hbo) hcls hdict hdata ?_)
  refine wpAny_bind (wpAny_nsGet hg' ?_)
  rw [hdoc]
  refine wpAny_bind (wpAny_pure (wpAny_newObj_type ?_ (by size_fits)))
  refine wpAny_bind (wpAny_standAt (wpAny_bind (wpAny_bindName ?_)))
  have hsz : s.heap.objs.size ≤ h'.objs.size := Nat.le_trans hge (Nat.le_of_lt hlt)
  generalize hnewo : ({ cls := .type "function", data := .func _ } : Obj) = newo
  have keepP : ∀ b o, b ≠ Pl → s.heap.get? b = some o → (h'.push newo).get? b = some o := fun b o hb e => Heap.get?_push_of_some _ (hx b o hb e)
  have T' : TS s₂ c Pl mg (ps ++ #[rawInt pos.line, rawInt pos.col, .ref c']) { s with heap := h'.push newo, toks := tk } := by
    refine ⟨⟨hg'.push _, hok'.push _, T.main.low, ⟨bm, o, hbm, hne0, hneG, hneP, keepP _ _ hneP hbo, hcls, hdict, hdata⟩⟩, htab'.push _, fun b o h1 h2 e => keepP b o h1 (T.keep b o h1 h2 e), ?_, ?_⟩
    · show _ ≤ (h'.push newo).objs.size
      rw [Heap.size_push]; exact Nat.le_trans T.size (Nat.le_succ_of_le hsz)
    · conv => lhs; rw [T.rest]
  refine store_ok T' hloc hmod hnb fun s' T'' keep'' => wpAny_pure ?_
  have hglt : mainGlobals < h'.objs.size := hg'.lt
  have hcg : ∀ a, s.heap.objs.size ≤ a → a ≠ mainGlobals := fun a ha => Nat.ne_of_gt (Nat.lt_of_lt_of_le T.main.g.lt ha)
  refine h h'.objs.size c' P' s' T'' ⟨fun b o h1 h2 e => keep'' b o h2 (keepP b o h1 e), ⟨⟨newo, keep'' _ _ (Nat.ne_of_gt hglt) (Heap.get?_push_size _ (by subst hnewo; rfl)), by subst hnewo; rfl⟩, ?_⟩, ⟨hsz, hge, hP'⟩, ?_, ?_⟩
  · refine Classical.byContradiction fun hneg3_ => ?_
    obtain ⟨c₂, o₂, vs₂, t₂, e₂, g₂, r₂⟩ := hrec
    refine hneg3_ ?_
    exact ⟨c₂, o₂, vs₂, t₂, e₂, keep'' _ _ (by cases e₂; exact hcg _ hge) (Heap.get?_push_of_some _ g₂), r₂⟩
  · have := hcode'.push newo
    refine Classical.byContradiction fun hneg4_ => ?_
    obtain ⟨o, vs, file, tf, flags, tg, inF, text, tt, op, x1, x2, x3, x4, x5, x6, x7, x8, x9⟩ := this
    refine hneg4_ ?_
    exact ⟨o, vs, file, tf, flags, tg, inF, text, tt, op, keep'' _ _ (hcg _ hge) x1, x2, x3, x4, x5, x6, x7, keep'' _ _ (hcg _ hP') x8, x9⟩
  · refine Classical.byContradiction fun hneg5_ => ?_
    obtain ⟨⟨o, vs, x1, x2⟩, x3⟩ := htabP.push newo
    refine hneg5_ ?_
    exact ⟨⟨o, vs, keep'' _ _ (hcg _ hge) x1, x2⟩, keep'' _ _ (hcg _ hP') x3⟩
end
section
set_option maxRecDepth 100000
set_option linter.unusedVariables false
variable {prog : Program} {w : World} {A : Around} {E : Value → Shared → Prop} {s s₂ : Shared} {c Pl F : Addr} {mg mb : Str → Option Value} {ps : Array Value}

theorem modName {x : Str} {pos : Pos} {v : Value} {Q : Value → Shared → Prop} (hmod : prog.main.scope.kind = .module) (hg : s.heap.Ns mainGlobals mg) (hb : s.heap.Ns builtinsNs mb) (hn : mg x = none) (hv : mb x = some v) (h : Q v s)
    (hd : (x == ("__debug__" : Str)) = false := by decide) : wpAny (model prog w) A (eval (.Name x pos) (mainEnv prog c F)) Q E s := by
  refine wpAny_Name ?_ hd
  have e : loadName (mainEnv prog c F) x = loadGlobal (mainEnv prog c F) x := by
    unfold loadName Env.blockKind
    have h1 : (mainEnv prog c F).scope.kind = .module := hmod
    rw [h1]
    rfl
  rw [e]
  exact loadGlobal_builtin hg hn hb hv h
theorem ints_items {env : Env} {pos : Pos} : ∀ {es : List Expr} {ks : List Int} {s : Shared} {Q : List Value → Shared → Prop}, es.map (fun e => match e with | .Constant (.int k) _ _ => some k | _ => none) = ks.map some →
    (∀ vs tk, vs.map er = ks.map V.int → Q vs { s with toks := tk }) → wpAny (model prog w) A (spliced (backTo pos (starEach es env))) Q E s
  | [], [], s, Q, _, h => wpAny_items_nil (h [] s.toks rfl)
  | [], _ :: _, _, _, e, _ => by simp at e
  | _ :: _, [], _, _, e, _ => by simp at e
  | x :: es, k :: ks, s, Q, e, h => by
    simp only [List.map_cons, List.cons.injEq] at e
    obtain ⟨e1, e2⟩ := e
    split at e1
    · rename_i k' kd p
      cases e1
      refine wpAny_items_cons (wpAny_Constant_int (ints_items e2 fun vs tk hv => h _ _ ?_)) rfl
      show er _ :: vs.map er = .int k :: ks.map V.int
      rw [hv]; rfl
    · cases e1
theorem b1_ok {x : Str} {px p1 p2 p3 p4 p5 p6 p7 p8 pa pb pos : Pos} {ka kb : Nat} {elts : List Expr} {ks : List Int} {a b : Int} {k : Nat} {Q : Flow → Shared → Prop} (T : TS s₂ c Pl mg ps s) (hmod : prog.main.scope.kind = .module) (hh : A.handled = none) (hb : s.heap.Ns builtinsNs mb)
    (hset : mg "set" = none ∧ mb "set" = some (.type "set")) (hlist : mg "list" = none ∧ mb "list" = some (.type "list")) (hrng : mg "range" = none ∧ mb "range" = some (.type "range"))
    (he : elts.map (fun e => match e with | .Constant (.int k) _ _ => some k | _ => none) = ks.map some) (hke : ks.length ≤ 100) (hsm : Builtin.Range.small a b 1 = true) (hk : Builtin.Range.rangeSize a b 1 = k) (hk' : k ≤ 100)
    (hloc : prog.main.scope.names.lookup x = some .local) (hnb : x ≠ "__builtins__") (hGlow : mainGlobals < s.heap.objs.size)
    (h : ∀ d n s', TS s₂ c Pl (setm mg x (.ref d)) ps s' → s.heap.objs.size ≤ d → (∀ b o, b ≠ mainGlobals → s.heap.get? b = some o → s'.heap.get? b = some o) →
      s'.heap.SetOf (intKind prog w) d (fun i => (ks ++ (List.range k).map fun (j : Nat) => a + j).any (· == i)) n → Q .next s')
    (hs : swapsWith (.Call (.Name "set" p1) [.BinOp (.List elts p2) .Add (.Call (.Name "list" p3) [.Call (.Name "range" p4) [.Constant (.int a) ka pa, .Constant (.int b) kb pb] [] p5] [] p6) p7] [] p8) (some (.Name x px)) pos.line (mainEnv prog c F) = pure false) :
    wpAny (model prog w) A (exec (.Assign [.Name x px] (.Call (.Name "set" p1) [.BinOp (.List elts p2) .Add (.Call (.Name "list" p3) [.Call (.Name "range" p4) [.Constant (.int a) ka pa, .Constant (.int b) kb pb] [] p5] [] p6) p7] [] p8) pos) (mainEnv prog c F)) Q E s := by
  refine assign_ok (s₂ := s₂) (Pl := Pl) hloc hmod hnb hs ?_
  refine Call_Name rfl (modName hmod T.main.g hb hset.1 hset.2 ?_)
  refine PyProof.Rows.callWith_type1 ?_
  refine wpAny_items_cons ?_ rfl
  refine wpAny_BinOp ?_
  refine wpAny_List (ints_items he fun vs tk hv => ⟨by
    have := congrArg List.length hv
    simp at this
    have := sizeLine_eq
    lia, ?_⟩)
  have g1 : Grow s { s with heap := s.heap.push { cls := .type "list", data := .seq vs.toArray }, toks := tk } := (Grow.toks s tk).trans (Grow.push _ _)
  have l1 : ({ s with heap := s.heap.push { cls := .type "list", data := .seq vs.toArray }, toks := tk } : Shared).heap.get? s.heap.objs.size = some { cls := .type "list", data := .seq vs.toArray } := Heap.get?_push_size _ rfl
  revert g1 l1
  show Grow s _ → _ → wpAny _ _ _ _ _ ({ s with heap := s.heap.push { cls := .type "list", data := .seq vs.toArray }, toks := tk } : Shared)
  generalize ({ s with heap := s.heap.push { cls := .type "list", data := .seq vs.toArray }, toks := tk } : Shared) = s1
  intro g1 l1
  refine Call_Name rfl (modName hmod (T.main.g.keeps g1.keep) (hb.keeps g1.keep) hlist.1 hlist.2 ?_)
  refine PyProof.Rows.callWith_type1 ?_
  refine wpAny_items_cons ?_ rfl
  refine Call_Name rfl (modName hmod (T.main.g.keeps g1.keep) (hb.keeps g1.keep) hrng.1 hrng.2 ?_)
  refine PyProof.Rows.callWith_type1 ?_
  refine wpAny_items_cons (wpAny_Constant_int (wpAny_items_cons (wpAny_Constant_int (wpAny_items_nil ?_)) rfl)) rfl
  refine call_range_2 ?_
  refine wpAny_items_nil ?_
  have g2 : Grow s1 { s1 with heap := s1.heap.push { cls := .type "range", data := .fields #[.int a s1.toks, .int b (s1.toks + 1), .int 1 (s1.toks + 1 + 1)] }, toks := s1.toks + 1 + 1 + 1 } := ((Grow.push s1 _).trans (Grow.toks _ _))
  have r2 : IsRange ({ s1 with heap := s1.heap.push { cls := .type "range", data := .fields #[.int a s1.toks, .int b (s1.toks + 1), .int 1 (s1.toks + 1 + 1)] }, toks := s1.toks + 1 + 1 + 1 } : Shared).heap s1.heap.objs.size a b 1 s1.toks (s1.toks + 1) (s1.toks + 1 + 1) := IsRange.new _ _ _ _ _ _ _
  revert g2 r2
  show Grow s1 _ → _ → wpAny _ _ _ _ _ ({ s1 with heap := s1.heap.push { cls := .type "range", data := .fields #[.int a s1.toks, .int b (s1.toks + 1), .int 1 (s1.toks + 1 + 1)] }, toks := s1.toks + 1 + 1 + 1 } : Shared)
  generalize ({ s1 with heap := s1.heap.push { cls := .type "range", data := .fields #[.int a s1.toks, .int b (s1.toks + 1), .int 1 (s1.toks + 1 + 1)] }, toks := s1.toks + 1 + 1 + 1 } : Shared) = s2
  intro g2 r2
  refine call_list_range hh r2 hsm hk (by lia) fun h' tk acc' c' hkeep hget hacc => ?_
  have l2 := g2.keep _ _ l1
  have hl' : h'.get? s.heap.objs.size = _ := hkeep _ _ l2
  have hcat : ∃ ks' : List Value, acc'.toList = ks' ∧ ks'.map er = ((List.range k).map fun (j : Nat) => a + j).map V.int := ⟨acc'.toList, rfl, by
    apply List.ext_getElem?
    intro j
    simp only [List.getElem?_map]
    by_cases hj : j < k
    · obtain ⟨v, hv'⟩ : ∃ v, acc'[j]? = some v := ⟨acc'[j]'(by rw [hacc.1]; exact hj), by simp [hacc.1, hj]⟩
      obtain ⟨t, rfl⟩ := hacc.2 j v hv'
      have : acc'.toList[j]? = some (Value.int (a + j * 1) t) := by simpa using hv'
      rw [this]
      simp [hj, er]
    · have h1 : acc'.toList[j]? = none := by
        rw [List.getElem?_eq_none_iff, Array.length_toList, hacc.1]; lia
      rw [h1]
      simp [hj]⟩
  obtain ⟨ks', e1, e2⟩ := hcat
  have g3 : Grow s2 { s2 with heap := h', toks := tk } := ⟨hkeep, Nat.le_of_lt (Heap.lt_size hget), rfl⟩
  have l3 : ({ s2 with heap := h', toks := tk } : Shared).heap.get? s2.heap.objs.size = some { cls := .type "list", dict := none, data := .seq acc' c', slots := #[] } := hget
  have l4 : ({ s2 with heap := h', toks := tk } : Shared).heap.get? s.heap.objs.size = some { cls := .type "list", data := .seq vs.toArray } := hl'
  have hlen : vs.length = ks.length := by have := congrArg List.length hv; simpa using this
  have G3 := (g1.trans g2).trans g3
  revert G3 l3 l4
  show _ → _ → Grow s ({ s2 with heap := h', toks := tk } : Shared) → wpAny _ _ _ _ _ ({ s2 with heap := h', toks := tk } : Shared)
  generalize ({ s2 with heap := h', toks := tk } : Shared) = s3
  intro l3 l4 G3
  have hz : vs.toArray.size + acc'.size ≤ sizeLine := by rw [List.size_toArray, hlen, hacc.1, sizeLine_eq]; lia
  refine concat_meets ⟨_, l4, rfl⟩ ⟨_, l3, rfl⟩ noFill_list_add seq_list_add PySem.F.slot_list_add PySem.F.entry_list_add (PySem.F.args_list_add_2 _ _) (list_addW _ _ vs.toArray acc' _ _ none none #[] #[] hz) ⟨l4, l3, ?_⟩
  have g4 : Grow s3 { s3 with heap := s3.heap.push { cls := .type "list", data := .seq (vs.toArray ++ acc') } } := Grow.push _ _
  have l5 : ({ s3 with heap := s3.heap.push { cls := .type "list", data := .seq (vs.toArray ++ acc') } } : Shared).heap.get? s3.heap.objs.size = some { cls := .type "list", data := .seq (vs.toArray ++ acc') } := Heap.get?_push_size _ rfl
  have G4 := G3.trans g4
  revert G4 l5
  show _ → Grow s ({ s3 with heap := s3.heap.push { cls := .type "list", data := .seq (vs.toArray ++ acc') } } : Shared) → wpAny _ _ _ _ _ ({ s3 with heap := s3.heap.push { cls := .type "list", data := .seq (vs.toArray ++ acc') } } : Shared)
  generalize ({ s3 with heap := s3.heap.push { cls := .type "list", data := .seq (vs.toArray ++ acc') } } : Shared) = s4
  intro l5 G4
  refine wpAny_items_nil ?_
  have hints : IntsAre (vs.toArray ++ acc').toList (ks ++ (List.range k).map fun (j : Nat) => a + j) := intsOf (by
    rw [Array.toList_append, List.map_append, hv, e1, e2, List.map_append])
  have hsz : (vs.toArray ++ acc').size = (ks ++ (List.range k).map fun (j : Nat) => a + j).length := by simp [hlen, hacc.1]
  have hbnd : (vs.toArray ++ acc').size + 1 < scanBound := by
    have h1 : (1000 : Nat) < scanBound := by decide
    have h2 : (vs.toArray ++ acc').size = ks.length + k := by rw [hsz]; simp
    lia
  refine call_set_list hh ⟨_, l5, rfl, _, rfl⟩ hints hbnd fun h5 tk5 hS hk5 => ?_
  have hd : s4.heap.objs.size < h5.objs.size := by obtain ⟨o, es, ep, t, ho, _⟩ := hS; exact Heap.lt_size ho
  have g5 : Grow s4 { s4 with heap := h5, toks := tk5 } := ⟨fun b o e => hk5 b o (Heap.lt_size e) e, Nat.le_of_lt hd, rfl⟩
  refine ⟨mg, ps, T.grow (G4.trans g5), fun s'' T'' keep'' => h _ (firstMet (fun i => (ks ++ (List.range k).map fun (j : Nat) => a + j).getD i 0) (vs.toArray ++ acc').size).length s'' T'' G4.size (fun b o hb e => keep'' b o hb ((G4.trans g5).keep b o e)) ?_⟩
  have hne : s4.heap.objs.size ≠ mainGlobals := Nat.ne_of_gt (Nat.lt_of_lt_of_le hGlow G4.size)
  have hS' : Heap.SetOf (intKind prog w) s''.heap s4.heap.objs.size (fun k' => (firstMet (fun i => (ks ++ (List.range k).map fun (j : Nat) => a + j).getD i 0) (vs.toArray ++ acc').size).any (· == k')) (firstMet (fun i => (ks ++ (List.range k).map fun (j : Nat) => a + j).getD i 0) (vs.toArray ++ acc').size).length :=
    let ⟨o, es, ep, t, ho, r⟩ := hS; ⟨o, es, ep, t, keep'' _ _ hne ho, r⟩
  refine SetOf_congr hS' (fun i => ?_) rfl
  rw [firstMet_any, hsz]
  congr 1
  apply List.ext_getElem?
  intro j
  rw [List.getElem?_map]
  by_cases hj : j < (ks ++ (List.range k).map fun (j : Nat) => a + j).length
  · rw [List.getElem?_range hj]
    simp only [Option.map_some, List.getD_eq_getElem?_getD]
    rw [List.getElem?_eq_getElem hj]; rfl
  · rw [List.getElem?_eq_none (by simpa using hj), List.getElem?_eq_none (by simpa using hj)]; rfl
end
section
set_option maxRecDepth 100000
set_option linter.unusedVariables false
variable {prog : Program} {w : World} {A : Around} {E : Value → Shared → Prop} {s s₂ : Shared} {c Pl F : Addr} {mg mb : Str → Option Value} {ps : Array Value}

noncomputable def climbs : List Int → Bool
  | a :: b :: r => decide (a < b) && climbs (b :: r)
  | _ => true
theorem climbs_lt : ∀ {l : List Int} {a : Int}, climbs (a :: l) = true → ∀ b ∈ l, a < b
  | [], _, _, b, hb => by cases hb
  | x :: l, a, h, b, hb => by
    unfold climbs at h
    obtain ⟨h1, h2⟩ := Bool.and_eq_true_iff.mp h
    have h1 := of_decide_eq_true h1
    rcases List.mem_cons.mp hb with rfl | hb
    · exact h1
    · exact Int.lt_trans h1 (climbs_lt h2 b hb)
theorem climbs_nodup : ∀ {l : List Int}, climbs l = true → l.Nodup
  | [], _ => List.nodup_nil
  | a :: l, h => List.nodup_cons.mpr ⟨fun ha => Int.lt_irrefl _ (climbs_lt h a ha), climbs_nodup (l := l) (by
    cases l with
    | nil => rfl
    | cons b r => unfold climbs at h; exact (Bool.and_eq_true_iff.mp h).2)⟩
noncomputable def dictOf (st : Stmt) : Option (List (Option Expr) × List Expr) := (exV (stV st).2.2.1).2.2.2.1
noncomputable def b3Of (st : Stmt) : List (Int × Str) := match dictOf st with
  | some (ks, vs) => (readPairs ks vs).getD []
  | none => []
noncomputable def b3Fine (st : Stmt) : Bool := match dictOf st with
  | some (ks, vs) => (readPairs ks vs).isSome && climbs (keysOf (b3Of st)) && !(b3Of st).isEmpty && decide ((b3Of st).length ≤ 2000)
  | none => false
theorem noFree {sc : Scope} (h : sc.names.all (fun x => x.2 != .free) = true) : ∀ x ∈ sc.names, x.2 ≠ .free := fun x hx => by
  have := List.all_eq_true.mp h x hx
  simpa using this
theorem dict_ok {x : Str} {px p1 pos : Pos} {keys : List (Option Expr)} {values : List Expr} {Q : Flow → Shared → Prop} (T : TS s₂ c Pl mg ps s) (hmod : prog.main.scope.kind = .module) (hf : b3Fine (.Assign [.Name x px] (.Dict keys values p1) pos) = true) (hsys : sysModules < s.heap.objs.size)
    (hG : mainGlobals < s.heap.objs.size) (hloc : prog.main.scope.names.lookup x = some .local) (hnb : x ≠ "__builtins__")
    (h : ∀ d s', TS s₂ c Pl (setm mg x (.ref d)) ps s' → s.heap.objs.size ≤ d → (∀ b o, b ≠ mainGlobals → s.heap.get? b = some o → s'.heap.get? b = some o) → TellsD prog w s' d (b3Of (.Assign [.Name x px] (.Dict keys values p1) pos)) → Q .next s')
    (hs : swapsWith (.Dict keys values p1) (some (.Name x px)) pos.line (mainEnv prog c F) = pure false) :
    wpAny (model prog w) A (exec (.Assign [.Name x px] (.Dict keys values p1) pos) (mainEnv prog c F)) Q E s := by
  replace hf : ((readPairs keys values).isSome && climbs (keysOf (b3Of (.Assign [.Name x px] (.Dict keys values p1) pos))) && !(b3Of (.Assign [.Name x px] (.Dict keys values p1) pos)).isEmpty && decide ((b3Of (.Assign [.Name x px] (.Dict keys values p1) pos)).length ≤ 2000)) = true := hf
  simp only [Bool.and_eq_true] at hf
  obtain ⟨⟨⟨h1, h2⟩, h3⟩, h4⟩ := hf
  obtain ⟨l, hl⟩ := Option.isSome_iff_exists.mp h1
  have hb : b3Of (.Assign [.Name x px] (.Dict keys values p1) pos) = l := by
    show (readPairs keys values).getD [] = l
    rw [hl]; rfl
  rw [hb] at h2 h3 h4 h
  refine assign_ok (s₂ := s₂) (Pl := Pl) hloc hmod hnb hs ?_
  refine eval_dict hl hsys (by intro e; subst e; cases h3) (climbs_nodup h2) (by have := of_decide_eq_true h4; rw [sizeLine_eq]; lia) fun d s' g hd t => ?_
  exact ⟨mg, ps, T.grow g, fun s'' T'' keep'' => h d s'' T'' hd (fun b o hb e => keep'' b o hb (g.keep b o e)) (t.grown fun o e => keep'' d o (Nat.ne_of_gt (Nat.lt_of_lt_of_le hG hd)) e)⟩
theorem text_ok {x y : Str} {px p1 pos : Pos} {k : Nat} {Q : Flow → Shared → Prop} (T : TS s₂ c Pl mg ps s) (hmod : prog.main.scope.kind = .module) (hloc : prog.main.scope.names.lookup x = some .local) (hnb : x ≠ "__builtins__")
    (h : ∀ t s', TS s₂ c Pl (setm mg x (.str y t)) ps s' → (∀ b o, b ≠ mainGlobals → s.heap.get? b = some o → s'.heap.get? b = some o) → Q .next s')
    (hs : swapsWith (.Constant (.str y) k p1) (some (.Name x px)) pos.line (mainEnv prog c F) = pure false) :
    wpAny (model prog w) A (exec (.Assign [.Name x px] (.Constant (.str y) k p1) pos) (mainEnv prog c F)) Q E s := by
  refine assign_ok (s₂ := s₂) (Pl := Pl) hloc hmod hnb hs (wpAny_Constant_str ?_)
  exact ⟨mg, ps, T.grow (Grow.toks s _), fun s'' T'' keep'' => h _ s'' T'' keep''⟩
end
section
set_option maxRecDepth 100000
set_option linter.unusedVariables false

structure HeadFacts (p : Program) (w : World) (L : Looks) (names : List Str) (fns codes objs keys flds : List Addr) (env : Env) (l rest : List Stmt) (pos : Pos) (s s₀ s₂ : Shared) : Prop where
  after : AfterRun (opening p) w s
  fence : fenceModules? p s = some s₀
  gens0 : s₀.gens = #[]
  asleep : s₀.asleep
  size0 : s₀.heap.objs.size = L.n₀
  ann0 : s₀.heap.nsMap mainGlobals "__annotations__" = L.ann
  main0 : s₀.heap.isNs mainGlobals = true
  run : ∃ m, topGo table p w L.n₀ L.ann m s₀ (topStub p) = some (s₂, restOf rest env (.body (l ++ rest) env) pos [topFrame default])
  gens2 : s₂.gens = #[]
  main2 : s₂.heap.isNs mainGlobals = true
  blt2 : s₂.heap.isNs builtinsNs = true
  acc : s₂.heap.accountedOkI (importedModules p.main.body) = true
  stat : staticsOk (importedModules p.main.body) s₀.heap s₂.heap = true
  bound : namesBound p s₂.heap = true
  laid : laidKept s₀.heap s₂.heap = true
  lim : s₂.heap.noLimitOk = true
  bltv : s₂.heap.bltView = bltViewBooted
  names : names.map (s₂.heap.nsMap mainGlobals) = L.names
  fns : fns.map (funcAt s₂.heap) = L.fns
  codes : codes.map (codeName s₂.heap) = L.codes
  objs : objs.map s₂.heap.get? = L.objs
  keys : keys.map (keyNone s₂.heap) = L.keys
  flds : flds.map (fieldsAt s₂.heap) = L.flds
theorem head_facts {p : Program} {w : World} {N k n : Nat} {env : Env} {l rest : List Stmt} {names : List Str} {fns codes objs keys flds : List Addr} {L : Looks} {pos : Pos}
    (hlook : (headRun treeTable p w N k n env l).map (looksAt p names fns codes objs keys flds) = some L) (hbody : behindTheImports p = l ++ rest)
    (hth : L.thread = ⟨denote treeTable (.body (l ++ rest) env), .body (l ++ rest) env, default, [topFrame default]⟩) (hbl : L.block = (.next, .body (l ++ rest) env, default)) (hfin : L.fin = (.next, .body (l ++ rest) env, pos))
    (hoks : L.oks = [true, true, true, true, true, true, true, true, true, true]) (hblt : L.blt = bltViewBooted) :
    ∃ s s₀ s₂, HeadFacts p w L names fns codes objs keys flds env l rest pos s s₀ s₂ := by
  refine Classical.byContradiction fun hneg1_ => ?_
  obtain ⟨⟨s₀, th, ⟨f1, c1, p1⟩, ⟨f2, s₂, c2, p2⟩⟩, hrun, hL⟩ := Option.map_eq_some_iff.mp hlook
  subst hL
  simp only [looksAt] at hth hbl hfin hoks hblt
  subst hth
  simp only [Prod.mk.injEq] at hbl hfin
  obtain ⟨rfl, rfl, rfl⟩ := hbl
  obtain ⟨rfl, rfl, rfl⟩ := hfin
  simp only [List.cons.injEq, and_true] at hoks
  obtain ⟨o1, o2, o3, o4, o5, o6, o7, o8, o9, o10⟩ := hoks
  refine hneg1_ ?_
  unfold headRun at hrun
  refine Classical.byContradiction fun hneg2_ => ?_
  obtain ⟨s₀', h1, h2⟩ := Option.bind_eq_some_iff.mp hrun
  obtain ⟨⟨sa, ta⟩, h3, h4⟩ := Option.bind_eq_some_iff.mp h2
  obtain ⟨⟨g1, sb, d1, q1⟩, h5, h6⟩ := Option.bind_eq_some_iff.mp h4
  obtain ⟨⟨g2, sc, d2, q2⟩, h7, h8⟩ := Option.map_eq_some_iff.mp h6
  simp only [Prod.mk.injEq] at h8
  obtain ⟨rfl, rfl, ⟨rfl, rfl, rfl⟩, rfl, rfl, rfl, rfl⟩ := h8
  refine hneg2_ ?_
  unfold fencedOpening at h1
  rw [← table_eq_tree] at h1 h3 h5 h7
  refine Classical.byContradiction fun hneg3_ => ?_
  obtain ⟨s, h9, h10⟩ := Option.bind_eq_some_iff.mp h1
  have A := AfterImport.of_importEnds h9
  have hs : s₀'.asleep := Shared.asleep_of_life (fence_lifeW h10) A.life
  obtain ⟨m2, h11⟩ := reach_block (q := default) h5
  obtain ⟨m3, h12⟩ := reach_app (q := default) (rest := rest) h7
  refine hneg3_ ?_
  rw [hbody] at h11
  refine ⟨s, s₀', sc, ⟨A, h10, Array.eq_empty_of_size_eq_zero (by simpa using o2), hs, rfl, rfl, o1, ⟨k + (m2 + m3), topGo_add h3 (topGo_add ?_ h12)⟩, Array.eq_empty_of_size_eq_zero (by simpa using o3), o4, o5, o6, o7, o8, o9, o10, hblt, rfl, rfl, rfl, rfl, rfl, rfl⟩⟩
  rw [← table_eq_tree]
  exact h11
end
section
set_option maxRecDepth 100000
set_option linter.unusedVariables false

noncomputable def b1L : List Int := [173, 847, 6150, 6155, 6156, 6157, 8203, 8204, 8205, 8288, 65279]
noncomputable def b1All : List Int := b1L ++ (List.range 16).map fun (j : Nat) => (65024 : Int) + j
noncomputable def KeepHi (n : Nat) (h h' : Heap) : Prop := ∀ b o, n ≤ b → h.get? b = some o → h'.get? b = some o
theorem KeepHi.trans {n : Nat} {h h' h'' : Heap} (x : KeepHi n h h') (y : KeepHi n h' h'') : KeepHi n h h'' := fun b o hb e => y b o hb (x b o hb e)
structure FnHi (n : Nat) (h : Heap) (a : Addr) (st : Stmt) (pm : Value) (c : Addr) : Prop where
  lo : n ≤ a
  clo : n ≤ c
  fn : FnAt h a (fdOf st .none .none .none pm none (.ref c) .none)
theorem FnHi.keeps {n : Nat} {h h' : Heap} {a c : Addr} {st : Stmt} {pm : Value} (x : FnHi n h a st pm c) (k : KeepHi n h h') : FnHi n h' a st pm c := by
  obtain ⟨lo, clo, ⟨o, h1, h2⟩, c₂, o₂, vs, t, e, g, d, q⟩ := x
  have ec : c = c₂ := by have : (Value.ref c) = .ref c₂ := e
                         exact Value.ref.inj this
  subst ec
  exact ⟨lo, clo, ⟨o, k a o lo h1, h2⟩, c, o₂, vs, t, e, k c o₂ clo g, d, q⟩
-- what the top's last statements leave
structure TopEnd (p : Program) (w : World) (b1 : List Int) (mg : Str → Option Value) (s₂ s₁ : Shared) (d1 a13 d3 a15 a17 a18 a19 c19 P19 : Addr) (t : Tok) (nm : Str) : Prop where
  ts : ∃ ps, TS s₂ 30 29 (setm (setm (setm (setm (setm (setm (setm (setm mg "b1_set" (.ref d1)) "in_table_b1" (.ref a13)) "b3_exceptions" (.ref d3)) "map_table_b3" (.ref a15)) "__name__" (.str nm t)) (fname (pst p 17)) (.ref a17))
    (fname (pst p 18)) (.ref a18)) "law" (.ref a19)) ps s₁
  lo : s₂.heap.objs.size ≤ d1 ∧ s₂.heap.objs.size ≤ d3 ∧ s₂.heap.objs.size ≤ P19
  b1 : ∃ n, s₁.heap.SetOf (intKind p w) d1 (fun i => b1.any (· == i)) n
  f13 : ∃ pm c, FnHi s₂.heap.objs.size s₁.heap a13 (pst p 13) pm c
  b3 : TellsD p w s₁ d3 (b3Of (pst p 14))
  f15 : ∃ pm c, FnHi s₂.heap.objs.size s₁.heap a15 (pst p 15) pm c
  f17 : ∃ pm c, FnHi s₂.heap.objs.size s₁.heap a17 (pst p 17) pm c
  f18 : ∃ pm c, FnHi s₂.heap.objs.size s₁.heap a18 (pst p 18) pm c
  f19 : FnHi s₂.heap.objs.size s₁.heap a19 (pst p 19) (.str nm t) c19
  code : s₁.heap.IsCode c19 P19 #[]
  tab : s₁.heap.TableAt c19 P19 #[]
theorem Made.hi {s s' : Shared} {n : Nat} {a c' P' : Addr} {st : Stmt} {pm : Value} (m : Made s s' 29 a c' P' (fdOf st .none .none .none pm none (.ref c') .none)) (hn : n ≤ s.heap.objs.size) (h1 : 30 ≤ n) :
    FnHi n s'.heap a st pm c' ∧ KeepHi n s.heap s'.heap ∧ n ≤ P' :=
  ⟨⟨Nat.le_trans hn m.lo.1, Nat.le_trans hn m.lo.2.1, m.fn⟩, fun b o hb e => m.keep b o (by show b ≠ (29 : Nat); lia) (by show b ≠ (3 : Nat); lia) e, Nat.le_trans hn m.lo.2.2⟩
theorem keep_hi {h h' : Heap} {n : Nat} (k : ∀ b o, b ≠ mainGlobals → h.get? b = some o → h'.get? b = some o) (h1 : 30 ≤ n) : KeepHi n h h' := fun b o hb e => k b o (by show b ≠ (3 : Nat); lia) e
theorem TellsD.hi {prog : Program} {w : World} {s s' : Shared} {n : Nat} {d : Addr} {l : List (Int × Str)} (x : TellsD prog w s d l) (hd : n ≤ d) (k : KeepHi n s.heap s'.heap) : TellsD prog w s' d l := x.grown fun o e => k d o hd e
theorem setOf_hi {prog : Program} {w : World} {h h' : Heap} {n m : Nat} {d : Addr} {S : Int → Bool} (x : h.SetOf (intKind prog w) d S m) (hd : n ≤ d) (k : KeepHi n h h') : h'.SetOf (intKind prog w) d S m := by
  obtain ⟨o, es, ep, t, ho, r⟩ := x
  exact ⟨o, es, ep, t, k d o hd ho, r⟩
noncomputable def dParts (s : Stmt) : Pos × List (Option Expr) × List Expr × Pos × Pos :=
  ((exV ((stV s).2.2.2.2.2.2.2.headD noE)).2.2.2.2, ((dictOf s).getD ([], [])).1, ((dictOf s).getD ([], [])).2, (exV (stV s).2.2.1).2.2.2.2, (stV s).2.2.2.2.2.2.1)
theorem dict_ok' {st : Stmt} {x : Str} {prog : Program} {w : World} {A : Around} {E : Value → Shared → Prop} {s s₂ : Shared} {c Pl F : Addr} {mg : Str → Option Value} {ps : Array Value} {Q : Flow → Shared → Prop} (T : TS s₂ c Pl mg ps s) (hmod : prog.main.scope.kind = .module)
    (hst : ∃ px ks vs p1 pos, st = .Assign [.Name x px] (.Dict ks vs p1) pos ∧ swapsWith (.Dict ks vs p1) (some (.Name x px)) pos.line (mainEnv prog c F) = pure false) (hf : b3Fine st = true) (hsys : sysModules < s.heap.objs.size)
    (hG : mainGlobals < s.heap.objs.size) (hloc : prog.main.scope.names.lookup x = some .local) (hnb : x ≠ "__builtins__")
    (h : ∀ d s', TS s₂ c Pl (setm mg x (.ref d)) ps s' → s.heap.objs.size ≤ d → (∀ b o, b ≠ mainGlobals → s.heap.get? b = some o → s'.heap.get? b = some o) → TellsD prog w s' d (b3Of st) → Q .next s') :
    wpAny (model prog w) A (exec st (mainEnv prog c F)) Q E s := by
  obtain ⟨px, ks, vs, p1, pos, rfl, hs⟩ := hst
  exact dict_ok T hmod hf hsys hG hloc hnb h hs
end
section
set_option maxRecDepth 100000
set_option linter.unusedVariables false

theorem sched_add {den : Code → Sem PySem.Fin} {p : Program} {w : World} : ∀ {n m : Nat} {c c' : Config} {r : SRun}, schedN den p w n c = .running c' → schedN den p w m c' = r → schedN den p w (n + m) c = r
  | 0, m, c, c', r, h, k => by
    simp only [schedN, SRun.running.injEq] at h
    subst h
    rw [Nat.zero_add]; exact k
  | n + 1, m, c, c', r, h, k => by
    rw [show n + 1 + m = n + m + 1 by lia]
    simp only [schedN] at h ⊢
    cases hs : sstep den p w c with
    | go c₂ => simp only [hs] at h ⊢; exact sched_add h k
    | halt o s => simp only [hs] at h; cases h
theorem keys_of_ns {h : Heap} {mg : Str → Option Value} (hn : h.Ns mainGlobals mg) : keysAreStrs h mainNs := by
  obtain ⟨o, es, ep, ho, hd, hk, _⟩ := hn
  exact ⟨o, es, ep, ho, hd, fun e he => hk e he⟩
theorem top_ran {p : Program} {w : World} {L : Looks} {names : List Str} {fns codes objs keys flds : List Addr} {env : Env} {l rest : List Stmt} {pos : Pos} {s s₀ s₂ : Shared} (X : HeadFacts p w L names fns codes objs keys flds env l rest pos s s₀ s₂)
    (hn0 : L.n₀ = 28) {mg : Str → Option Value} {ps : Array Value} {R : Shared → Prop}
    (h : wpAny (model p w) (topA env) (execs rest env) (fun f s₁ => f = .next ∧ ∃ mg ps, TS s₂ 30 29 mg ps s₁ ∧ (∀ x v, mg x = some v → s₂.heap.nsMap mainGlobals x = some v ∨ x ∈ p.boundNames) ∧ (∀ x ∈ laidNames, mg x = s₂.heap.nsMap mainGlobals x) ∧ R s₁) (fun _ _ => False) s₂) :
    ∃ s₁, TopRan p w s₀ s₁ ∧ s₁.asleep ∧ s₁.gens = #[] ∧ R s₁ ∧ s₁.heap.isNs mainGlobals = true := by
  obtain ⟨m, hm⟩ := X.run
  obtain ⟨r1, r2, r3, r4⟩ := topGo_spec X.asleep hm
  have z2 : s₂.asleep := Shared.asleep_of_life r2 X.asleep
  obtain ⟨n, s₁, t', k1, k2, ⟨mg₁, ps₁, T, b1, b2, hR⟩, k4⟩ := rest_ends (b := l ++ rest) (pos := pos) (q := default) (Q := fun s₁ => ∃ mg ps, TS s₂ 30 29 mg ps s₁ ∧ (∀ x v, mg x = some v → s₂.heap.nsMap mainGlobals x = some v ∨ x ∈ p.boundNames) ∧ (∀ x ∈ laidNames, mg x = s₂.heap.nsMap mainGlobals x) ∧ R s₁) z2
    (fun s' ⟨_, _, T, _⟩ => by rw [T.rest]; exact X.gens2) h
  have hg1 : s₁.heap.Ns mainGlobals mg₁ := T.main.g
  have hg2 : s₂.heap.Ns mainGlobals (s₂.heap.nsMap mainGlobals) := .of_isNs X.main2
  have glob1 : ∀ x, globalOf s₁.heap x = mg₁ x := PySem.Claim2Try.globalOf_of_ns hg1
  have glob2 : ∀ x, globalOf s₂.heap x = s₂.heap.nsMap mainGlobals x := PySem.Claim2Try.globalOf_of_ns hg2
  have stat1 : ∀ k, staticOf s₁.heap k = staticOf s₂.heap k := fun k => by
    have hmc := Heap.NoLimit.of_ok X.lim
    obtain ⟨mc, ⟨o, es, ep, ho, hd, _⟩, _⟩ := hmc
    have ho1 := T.keep cStatics o (by decide) (by decide) ho
    simp only [staticOf, ho, ho1]
  have hacc := Heap.accountedI_of_ok X.acc
  have hst := statics_of_ok X.stat
  have gens1 : s₁.gens = #[] := by rw [T.rest]; exact X.gens2
  have z1 : s₁.asleep := Shared.asleep_of_life k4 z2
  refine ⟨s₁, ⟨⟨m + n, t', sched_add r1 k1, k2⟩, k4.trans r2, Shared.rest_eq ?_, fun b o e hb => ?_, fun k v hk => ?_, fun k => ?_, keys_of_ns hg1, fun x hx => ?_, ?_, fun g hg => ?_, fun x v hv => ?_, fun x hx => ?_⟩, z1, gens1, hR, ?_⟩
  · have : s₁.os = s₂.os := by rw [T.rest]
    rw [this, r3]
  · have hlt : b < L.n₀ := by rw [← X.size0]; exact Heap.lt_size e
    unfold theTopsOwn at hb
    rw [not_or, not_or] at hb
    obtain ⟨h1, h2, h3⟩ := hb
    rw [Pin.globalOf_eq X.main0, X.ann0] at h3
    refine T.keep b o ?_ h1 (r4 b o hlt h1 h2 h3 e)
    rw [hn0] at hlt
    exact Nat.ne_of_lt (Nat.lt_of_lt_of_le hlt (by decide))
  · have hk' : staticOf s₂.heap k = some v := by rw [← stat1]; exact hk
    have := hacc k v hk'
    simp only [stat1]
    exact this
  · have := hst k
    rw [stat1]
    exact this
  · have e1 : builtinOf s₁.heap x = builtinOf s₂.heap x := by
      obtain ⟨o, es, ep, ho, hd, _⟩ := Heap.Ns.of_isNs X.blt2
      have ho1 := T.keep builtinsNs o (by decide) (by decide) ho
      simp only [builtinOf, ho, ho1]
    rw [e1]
    exact (Pin.builtinOf_eq X.blt2 x).trans (Heap.of_bltView X.blt2 X.bltv x hx)
  · obtain ⟨bm, o, h1, h2, h3, h4, h5, h6, h7, h8⟩ := T.main.bmod
    exact ⟨bm, o, (glob1 _).trans h1, h5, h6, h7⟩
  · rw [gens1] at hg
    cases hg with | mk hg => cases hg
  · rw [glob1] at hv
    rcases b1 x v hv with hv | hv
    · exact names_of_bound X.bound x v ((glob2 x).trans hv)
    · exact .inr hv
  · rw [glob1, b2 x hx, ← glob2]
    exact laid_of_kept X.laid x hx
  · obtain ⟨o, es, ep, ho, hd, hk, _⟩ := hg1
    unfold Heap.isNs
    rw [ho]
    dsimp only
    rw [hd]
    dsimp only
    rw [Array.all_eq_true']
    intro e he
    obtain ⟨x, t, ex⟩ := hk e he
    rw [ex]
end
section
set_option maxRecDepth 100000
set_option linter.unusedVariables false

theorem ints_of_reads {R : WRecords} {cl : Str → Option Addr} {h : Heap} : ∀ {vs : List Value} {ks : List Int} {as : List Addr}, ReadsAllW R cl h vs (ks.map WData.int) as → vs.map er = ks.map V.int
  | _, [], _, x => by cases x; rfl
  | _, k :: ks, _, x => by
    rw [List.map_cons] at x
    cases x with
    | cons a r =>
      cases a
      show er _ :: _ = _
      rw [ints_of_reads r]; rfl
theorem ints_of_has : ∀ {ds : List WData}, WShape.hasItems [] ds .int = true → ∃ ks : List Int, ds = ks.map WData.int
  | [], _ => ⟨[], rfl⟩
  | d :: ds, h => by
    have h' : (WShape.has [] d .int && WShape.hasItems [] ds .int) = true := by simpa [WShape.hasItems] using h
    refine Classical.byContradiction fun hneg1_ => ?_
    obtain ⟨h1, h2⟩ := Bool.and_eq_true_iff.mp h'
    obtain ⟨ks, rfl⟩ := ints_of_has h2
    obtain ⟨i, rfl⟩ := hasW_int h1
    refine hneg1_ ?_
    exact ⟨i :: ks, rfl⟩
-- a law's argument
theorem law_args {l : OpenLaw} {args : List WData} (hm : l.most = some 63) (hb : l.bound = none) (h : l.row.toRowW.claim.pre args = true) : ∃ ks : List Int, args = [.list (ks.map WData.int)] ∧ ks.length ≤ 63 := by
  refine Classical.byContradiction fun hneg2_ => ?_
  obtain ⟨h1, h2⟩ := pre_splitW h
  obtain ⟨d, r, rfl, h3, h4⟩ := hasAllW_cons (show WShape.hasAll [] args [.list .int] = true from h1)
  obtain rfl := hasAllW_nil h4
  obtain ⟨ds, rfl, h6⟩ := hasW_list h3
  obtain ⟨ks, rfl⟩ := ints_of_has h6
  refine hneg2_ ?_
  refine ⟨ks, rfl, ?_⟩
  have h7 : l.row.toRowW.pre = .and (.not (.lt (.lit (.int 63)) (.len (.arg 0)))) (.lit (.bool true)) := by
    show l.pre = _
    unfold OpenLaw.pre
    rw [hm, hb]; rfl
  rw [h7] at h2
  by_cases hle : ks.length ≤ 63
  · exact hle
  · exfalso
    have hv := w_not (w_lt (R := l.row.toRowW.records) (e := { args := [WData.list (ks.map WData.int)] }) (a := .lit (.int 63)) (b := .len (.arg 0)) w_lit (w_len_list (w_arg (i := 0) rfl)))
    have h8 := (holds_andW h2).1
    have hd : decide ((63 : Int) < ((ks.map WData.int).length : Nat)) = true := by
      rw [List.length_map]
      exact decide_eq_true (by lia)
    rw [hd] at hv
    unfold WTm.holds at h8
    rw [hv] at h8
    cases h8

-- what the law's call does
noncomputable def CallOk (p : Program) (w : World) (name : Str) (s₁ : Shared) : Prop := ∃ f c P mg, s₁.heap.Ns mainGlobals mg ∧ mg name = some (.ref f) ∧ s₁.heap.TableAt c P #[] ∧
  ∀ (ks : List Int), ks.length ≤ 63 → ∀ (s : Shared) (a : Addr) (xs : List Value) (k : Nat), (∀ b o, s₁.heap.get? b = some o → s.heap.get? b = some o) → s.heap.get? a = some { cls := .type "list", data := .seq xs.toArray k } →
    xs.map er = ks.map V.int → s.heap.objs.size = a + 1 → s.gens = #[] →
    wpAny (model p w) callerA (call (.ref f) [.ref a]) (fun v s' => v = .bool true ∧ (∀ b o, b ≠ P → s.heap.get? b = some o → s'.heap.get? b = some o) ∧ (∃ more, s'.heap.get? P = some { cls := .none, data := .fields more }) ∧
      s'.gens = #[] ∧ s'.os = s.os) (fun _ _ => False) s
theorem law_ends {c : ClaimW} {s₀ s₁ s' : Shared} {args : List WData} {vs : List Value} {as : List Addr} {P : Addr} (hsame : c.same = none) (hwi : c.within = []) (hi : ∀ a b, c.ident a b = true) (hnr : ∀ cls, c.raises args cls = false)
    (hpost : c.post args (.bool true) args = true) (hrd : ReadsAllW c.records (classAt s₀.heap) s₁.heap vs args as) (hK : ∀ b o, b ≠ P → s₁.heap.get? b = some o → s'.heap.get? b = some o)
    (hP : s₁.heap.get? P = some { cls := .none, data := .fields #[] }) (hT : isCodeTable s₁.heap P) (hP' : ∃ more, s'.heap.get? P = some { cls := .none, data := .fields more }) :
    c.Ends s₀ args vs s₁ (.ok (.ret (.bool true))) s' := by
  refine .inl ⟨.bool true, rfl, hnr, ⟨.bool true, args, [], as, .bool true, hrd.keepsK fun b o e hc => hK b o (fun e' => ?_) e, hpost, fun _ => ⟨List.nodup_nil, (fun _ h => by cases h), (fun _ h => by cases h)⟩, fun _ _ => hi _ _⟩,
    (fun i hi' => by rw [hsame] at hi'; cases hi'), (fun b o hb' _ _ => ?_), fun i hi' => by rw [hwi] at hi'; cases hi'⟩
  · subst e'
    rw [hP] at e; cases e
    exact hc rfl
  · by_cases hb : b = P
    · subst hb
      rw [hP] at hb'; cases hb'
      obtain ⟨more, hm⟩ := hP'
      exact .inr (.inl ⟨hT, rfl, #[], more, rfl, by rw [hm]; simp⟩)
    · exact .inl (hK b o hb hb')
theorem law_holds {l : OpenLaw} (said : l.row.wellSaid = true) (hm : l.most = some 63) (hb : l.bound = none) (hwr : l.writes = false) (prm : l.row.toRowW.promised) (bare : l.prog.bare) (opens : opensWell l.prog = true)
    (head : ∀ w, ∃ s s₀ s₁, AfterRun (opening l.prog) w s ∧ fenceModules? l.prog s = some s₀ ∧ s₀.gens = #[] ∧ TopRan l.prog w s₀ s₁ ∧ s₁.asleep ∧ s₁.gens = #[] ∧ isTheDefsW l.prog s₁.heap l.name ∧ CallOk l.prog w l.name s₁) : l.row.Holds := by
  refine ⟨said, prm, ⟨bare, opens, rfl⟩, ?_, fun w => ?_⟩
  · obtain ⟨args, h1, h2⟩ := prm
    exact ⟨args, h1, (Bool.and_eq_true_iff.mp h2).1⟩
  refine Classical.byContradiction fun hneg3_ => ?_
  obtain ⟨s, s₀, s₁, hA, hf, hg0, hT, hz, hg1, hdef, f, c, P, mg, hNs, hfn, htab, hcall⟩ := head w
  refine hneg3_ ?_
  refine ⟨⟨s, hA⟩, fun s' hs' => ?_⟩
  obtain rfl : s' = s := AfterImport.unique hs' hA
  refine ⟨s₀, hf, hg0, s₁, hT, ?_, (fun x hx => by cases hx), (fun x hx => by cases hx), ?_⟩
  · intro n hn
    have hn' : n ∈ [l.name] := hn
    obtain rfl := List.mem_singleton.mp hn'
    exact hdef
  refine ClaimW.callFrom_of_specN (c := l.row.toRowW.claim) (tree := fun vs => do match ← nsGet mainNs l.name with
      | some f => do ret (← PySem.call f vs)
      | none => unsupported "claim.caller:no-such-global") hz (by rw [hg1]; simp [leftWithCleanup]) fun args hpre hlay ord hord => ?_
  refine Classical.byContradiction fun hneg4_ => ?_
  obtain ⟨ks, rfl, hlen⟩ := law_args hm hb hpre
  obtain ⟨⟨vs, sL⟩, hlaid⟩ := Option.isSome_iff_exists.mp (layAllW_isSome (P := w.params) (ord := ord) (R := l.row.toRowW.claim.records) (cl := classAt s₁.heap) (fun x hx => by cases hx) [.list (ks.map WData.int)] l.row.toRowW.args s₁ (pre_splitW hpre).1)
  have keeps := layAllW_keeps _ _ _ hlaid
  have hal := layAllW_rest _ _ _ hlaid
  obtain ⟨as, hrd, hin, hold⟩ := reads_layAllW hord _ _ _ hlaid hlay sL.heap (fun _ _ e => e)
  refine hneg4_ ?_
  have hobj : ∃ (a : Addr) (xs : List Value), vs = [.ref a] ∧ sL.heap.get? a = some { cls := .type "list", data := .seq xs.toArray } ∧ sL.heap.objs.size = a + 1 := by
    simp only [layAllW, layW] at hlaid
    cases hq : layAllW l.row.toRowW.claim.records (classAt s₁.heap) w.params ord (ks.map WData.int) s₁ with
    | none => rw [hq] at hlaid; cases hlaid
    | some r =>
      rw [hq] at hlaid
      simp only [Option.some.injEq, Prod.mk.injEq] at hlaid
      obtain ⟨rfl, rfl⟩ := hlaid
      exact ⟨r.2.heap.objs.size, r.1, rfl, Heap.get?_push_size _ rfl, by show (r.2.heap.push _).objs.size = _; rw [Heap.size_push]⟩
  refine Classical.byContradiction fun hneg5_ => ?_
  obtain ⟨a, xs, rfl, ho, hlast⟩ := hobj
  refine hneg5_ ?_
  have hxs : xs.map er = ks.map V.int := by
    have hrd' := hrd
    cases hrd' with
    | cons r1 r2 =>
      cases r1 with
      | list ho' hc hd hr =>
        rw [ho] at ho'; cases ho'
        simp only [Data.seq.injEq] at hd
        obtain ⟨rfl, _⟩ := hd
        exact ints_of_reads hr
  refine ⟨[.ref a], sL, hlaid, ?_⟩
  have hos : sL.os = s₁.os := hal.2.2.1
  have hNsL : sL.heap.Ns mainGlobals mg := hNs.keeps keeps
  have call := hcall ks hlen { sL with gens := #[] } a xs 0 keeps ho hxs hlast rfl
  show wpAny _ _ (nsGet mainNs l.name >>= _) _ _ _
  refine wpAny_bind (wpAny_nsGet (s := { sL with gens := #[] }) hNsL ?_)
  rw [hfn]
  refine wpAny_bind (wpAny_mono call (fun v s' ⟨hv, hK, hP', hg', hos'⟩ => wpAny_pure ⟨_, rfl, ?_, hos'.trans hos, hg', fun q => by rw [show l.row.writes = l.writes from rfl, hwr] at q; cases q⟩) fun _ _ e => e.elim)
  subst hv
  have htabL : sL.heap.TableAt c P #[] := htab.keeps keeps
  have hident := ident_freeW (r := l.row.toRowW) rfl rfl rfl
  have hpost : l.row.toRowW.claim.post [WData.list (ks.map WData.int)] (.bool true) [WData.list (ks.map WData.int)] = true := by
    show (WShape.has [] (.bool true) .bool && (WTm.eq .res (.lit (.bool true))).holds [] { args := [WData.list (ks.map WData.int)], res := some (.bool true), after := [WData.list (ks.map WData.int)] }) = true
    have h1 : (WTm.eq .res (.lit (.bool true))).holds [] { args := [WData.list (ks.map WData.int)], res := some (.bool true), after := [WData.list (ks.map WData.int)] } = true := by
      unfold WTm.holds
      simp only [WTm.value]
      have h2 : same (WData.bool true) (WData.bool true) = true := by first | rfl | decide +kernel | simp [same]
      rw [h2]
    rw [h1]; first | rfl | decide +kernel | simp [WShape.has, WShape.arms]
  exact law_ends (c := l.row.toRowW.claim) rfl rfl hident (fun cls => rfl) hpost hrd hK htabL.2 htabL.isCodeTable hP'
end
section
set_option maxRecDepth 100000
set_option linter.unusedVariables false

/-! A heap without one object; what stands there still. -/
noncomputable def without (h : Heap) (P : Addr) : Heap := h.update P fun _ => { cls := .none, data := .freed }
theorem without_ne {h : Heap} {P b : Addr} (hb : b ≠ P) : (without h P).get? b = h.get? b := Heap.get?_update_ne _ _ _ _ hb
theorem without_size (h : Heap) (P : Addr) : (without h P).objs.size = h.objs.size := by
  unfold without Heap.update
  simp
theorem without_at (h : Heap) (P : Addr) : (without h P).get? P = none := by
  cases q : (without h P).get? P with
  | none => rfl
  | some o =>
    exfalso
    obtain ⟨e1, e2⟩ := Heap.get?_some_iff.mp q
    unfold without at e1
    have : o = { cls := .none, data := .freed } := by
      simp only [Heap.update, Array.getElem?_modify, if_true] at e1
      cases hq : h.objs[P]? with
      | none => rw [hq] at e1; cases e1
      | some x => rw [hq] at e1; cases e1; rfl
    subst this
    cases e2
-- all but an empty table stands
noncomputable def KeepF (h h' : Heap) : Prop := ∀ b o, h.get? b = some o → o.data ≠ .fields #[] → h'.get? b = some o
theorem keepF_of {h₁ h : Heap} {P : Addr} (k : ∀ b o, h₁.get? b = some o → h.get? b = some o) (hP : h₁.get? P = some { cls := .none, data := .fields #[] }) : KeepF h₁ (without h P) := fun b o e hd => by
  have hb : b ≠ P := by
    rintro rfl
    rw [hP] at e; cases e
    exact hd rfl
  rw [without_ne hb]; exact k b o e
variable {h h' : Heap}
theorem KeepF.code {c : Value} {q : Str} (k : KeepF h h') (x : h.CodeRec c q) : h'.CodeRec c q := by
  obtain ⟨c', o, vs, t, e, g, d, r⟩ := x
  exact ⟨c', o, vs, t, e, k _ _ g (by rw [d]; intro e'; cases e'; cases r), d, r⟩
theorem KeepF.fn {f : Addr} {fd : FuncData} (k : KeepF h h') (x : FnAt h f fd) : FnAt h' f fd :=
  ⟨let ⟨o, a, b⟩ := x.at_; ⟨o, k _ _ a (by rw [b]; intro e; cases e), b⟩, k.code x.code⟩
theorem KeepF.ns {a : Addr} {m : Str → Option Value} (k : KeepF h h') (x : h.Ns a m) : h'.Ns a m := by
  obtain ⟨o, es, ep, e, d, r⟩ := x
  exact ⟨o, es, ep, k _ _ e (by rw [d]; intro e; cases e), d, r⟩
theorem KeepF.lim (k : KeepF h h') (x : h.NoLimit) : h'.NoLimit := by
  obtain ⟨mc, a, b⟩ := x
  exact ⟨mc, k.ns a, b⟩
theorem KeepF.set {prog : Program} {w : World} {d : Addr} {S : Int → Bool} {n : Nat} (k : KeepF h h') (x : h.SetOf (intKind prog w) d S n) : h'.SetOf (intKind prog w) d S n := by
  obtain ⟨o, es, ep, t, e, a, b, r⟩ := x
  exact ⟨o, es, ep, t, k _ _ e (by rw [b]; intro e; cases e), a, b, r⟩
theorem KeepF.dict {prog : Program} {w : World} {d : Addr} {kvs : List (Int × Value)} (k : KeepF h h') (x : h.DictOf (intKind prog w) d kvs) : h'.DictOf (intKind prog w) d kvs := by
  obtain ⟨o, es, ep, e, a, b, r⟩ := x
  exact ⟨o, es, ep, k _ _ e (by rw [b]; intro e; cases e), a, b, r⟩
-- a value of the dict
noncomputable def tellsV (l : List (Int × Str)) (i : Int) : Option V := (l.find? fun p => decide (p.1 = i)).map fun p => .str p.2
theorem valueAt_same : ∀ {kvs : List (Int × Value)} {l : List (Int × Str)}, Same kvs l → ∀ i, (valueAt kvs i).map er = tellsV l i
  | [], [], _, i => rfl
  | [], _ :: _, h, _ => by simp [Same] at h
  | _ :: _, [], h, _ => by simp [Same] at h
  | (k, v) :: kvs, (k', x) :: l, h, i => by
    simp only [Same, List.map_cons, List.cons.injEq, Prod.mk.injEq] at h
    obtain ⟨⟨rfl, e⟩, h'⟩ := h
    have ih := valueAt_same (kvs := kvs) (l := l) h' i
    unfold valueAt tellsV at ih ⊢
    rw [List.find?_cons, List.find?_cons]
    by_cases hk : k = i
    · simp [hk, e]
    · simp [hk]; simpa using ih
end
section
set_option maxRecDepth 100000
set_option linter.unusedVariables false
/-! What the tables say of the law's signs. -/
noncomputable def mapS (l : List (Int × Str)) (c : Nat) : Str := match l.find? fun p => decide (p.1 = (c : Int)) with
  | some p => p.2
  | none => Txt.lower ⟨#[c]⟩
noncomputable def signOk (l : List (Int × Str)) (k w : Nat) : Bool :=
  (b1All.any (· == ((sgn k w).1 : Int)) == ((sgn k w).2.length == 0)) && ((sgn k w).2.length == 0 || mapS l (sgn k w).1 == (sgn k w).2)
theorem signs_ok : ∀ k : Nat, k < 8 → ∀ w : Nat, w < 27 → signOk (b3Of (pst PySem.Challenge.pw_rw0112_01 14)) k w = true := by decide +kernel
end
section
set_option maxRecDepth 100000
set_option linter.unusedVariables false
theorem join_empty (ys : List Str) : (Txt.join (Str.ofString "") ys).cps.toList = ys.flatMap (·.cps.toList) := by
  have e0 : (Str.ofString "").cps = #[] := by decide +kernel
  have key : ∀ (l : List Str) (a : Array Nat), (l.foldl (fun acc p => acc ++ (Str.ofString "").cps ++ p.cps) a).toList = a.toList ++ l.flatMap (·.cps.toList) := fun l => by
    induction l with
    | nil => intro a; simp
    | cons y l ih => intro a; rw [List.foldl_cons, ih, e0]; simp
  show ((ys.drop 1).foldl (fun acc p => acc ++ (Str.ofString "").cps ++ p.cps) (ys.headD Str.empty).cps).toList = _
  rw [key]
  cases ys with
  | nil => rfl
  | cons y ys => simp
noncomputable abbrev b3L : List (Int × Str) := b3Of (pst PySem.Challenge.pw_rw0112_01 14)
noncomputable def inS (c : Nat) : Bool := b1All.any (· == (c : Int))
theorem sgn_facts {k w : Nat} (hk : k < 8) (hw : w < 27) : (inS (sgn k w).1 = true ↔ (sgn k w).2.length = 0) ∧ ((sgn k w).2.length ≠ 0 → mapS b3L (sgn k w).1 = (sgn k w).2) := by
  have h := signs_ok k hk w hw
  unfold signOk at h
  obtain ⟨h1, h2⟩ := Bool.and_eq_true_iff.mp h
  refine ⟨?_, fun hn => ?_⟩
  · have h1' := eq_of_beq h1
    unfold inS
    rw [h1']
    simp
  · rw [Bool.or_eq_true] at h2
    rcases h2 with h2 | h2
    · exact absurd (eq_of_beq h2) hn
    · exact eq_of_beq h2
-- the prepared letter
noncomputable def prep (ts : List Nat) : List Str := ts.filterMap fun c => if inS c then none else some (mapS b3L c)
theorem prep_pairs : ∀ (t rest : Nat), (prep ((pairsGo t rest).map (·.1))).flatMap (·.cps.toList) = (pairsGo t rest).flatMap fun p => p.2.cps.toList
  | 0, _ => rfl
  | t + 1, rest => by
    have ih := prep_pairs t (rest / 216)
    have hf := sgn_facts (k := rest % 8) (w := rest / 8 % 27) (by lia) (by lia)
    rw [pairsGo, List.map_cons, List.flatMap_cons, ← ih]
    unfold prep
    rw [List.filterMap_cons]
    cases hs : inS (sgn (rest % 8) (rest / 8 % 27)).1 with
    | true =>
      have h0 := hf.1.mp hs
      have : (sgn (rest % 8) (rest / 8 % 27)).2.cps.toList = [] := by
        have h1 : (sgn (rest % 8) (rest / 8 % 27)).2.cps.size = 0 := h0
        exact List.length_eq_zero_iff.mp (by simpa using h1)
      simp [this]
    | false =>
      have hn : (sgn (rest % 8) (rest / 8 % 27)).2.length ≠ 0 := fun e => by rw [hf.1.mpr e] at hs; cases hs
      simp only [Bool.false_eq_true, if_false]
      rw [List.flatMap_cons, hf.2 hn]
theorem prep_len : ∀ (t rest : Nat), ((pairsGo t rest).flatMap fun p => p.2.cps.toList).length ≤ 8 * t
  | 0, _ => Nat.le_refl _
  | t + 1, rest => by
    have h := sgn_len (k := rest % 8) (w := rest / 8 % 27) (by lia) (by lia)
    have h' : (sgn (rest % 8) (rest / 8 % 27)).2.cps.toList.length ≤ 8 := by rw [Array.length_toList]; exact h
    have ih := prep_len t (rest / 216)
    rw [pairsGo, List.flatMap_cons, List.length_append]
    lia
-- a letter: what is typed, what is told; what is sent is what is told
noncomputable def letterOf (x : Nat) : Str × Str := letterGo (x / 24 % 5 + 1) (x / 120) (Str.ofString "") (Str.ofString "") (Str.ofString "")
theorem letter_typed (x : Nat) : (letterOf x).1.cps.toList = (pairsGo (x / 24 % 5 + 1) (x / 120)).map (·.1) := by
  have := (letterGo_sim (x / 24 % 5 + 1) (x / 120) (Str.ofString "") _ _ [] sim_start fun k w hk hw => sgn_kind k w hk hw).2
  rw [show (Str.ofString "").cps.toList = [] by decide +kernel, List.nil_append] at this
  exact this
theorem letter_sent (x : Nat) : dotS true (crlfS false (Txt.join (Str.ofString "") (prep (letterOf x).1.cps.toList)).cps.toList) = (letterOf x).2.cps.toList := by
  have := (letterGo_sim (x / 24 % 5 + 1) (x / 120) (Str.ofString "") _ _ [] sim_start fun k w hk hw => sgn_kind k w hk hw).1
  rw [join_empty, letter_typed, prep_pairs]
  rw [List.nil_append] at this
  exact this.symm
theorem letter_join_len (x : Nat) : (Txt.join (Str.ofString "") (prep (letterOf x).1.cps.toList)).cps.size ≤ 40 := by
  have h := prep_len (x / 24 % 5 + 1) (x / 120)
  have e : (Txt.join (Str.ofString "") (prep (letterOf x).1.cps.toList)).cps.toList.length = ((pairsGo (x / 24 % 5 + 1) (x / 120)).flatMap fun p => p.2.cps.toList).length := by
    rw [join_empty, letter_typed, prep_pairs]
  rw [Array.length_toList] at e
  lia
theorem letter_typed_len (x : Nat) : (letterOf x).1.cps.size ≤ 5 := by
  have e := congrArg List.length (letter_typed x)
  rw [Array.length_toList, List.length_map, pairsGo_len] at e
  lia
end
section
set_option Elab.async false
set_option maxRecDepth 100000
set_option linter.unusedVariables false
/-! printed by gen_h7.lean -/
noncomputable abbrev PL := PySem.Challenge.pw_rw0112_01
noncomputable def PLenv : Env := { scope := PL.main.scope, locals := mainNs, globals := mainNs, cells := [], code := .ref 30, frame := some 31 }
noncomputable def PLbody : List Stmt := PL.main.body.drop 1
noncomputable def PLpre : List Stmt := PLbody.take 11
noncomputable def PLnames : List Str := (["insort_right", "bisect_right", "insort_left", "bisect_left", "_twin_re_1", "_twin_re_2", "CRLF", "quotedata", "__builtins__", "__name__"] : List Str) ++ (["len", "sum", "min", "max", "abs", "chr", "ord", "sorted", "range", "list", "enumerate", "zip", "set"] : List Str)
noncomputable def PLlook (w : World) := (headRun treeTable PL w 900 12 372 PLenv PLpre).map (looksAt PL PLnames [40, 49, 58, 67, 84] [39, 48, 57, 66, 83] [29, 4, 32, 41, 50, 59, 71, 76] [33, 42, 51, 60] [30, 72, 77])
noncomputable def PLseen : Looks where
  thread := ⟨denote treeTable (.body PLbody PLenv), .body PLbody PLenv, default, [topFrame default]⟩
  block := (.next, .body PLbody PLenv, default)
  fin := (.next, .body PLbody PLenv, ⟨61, 0, 61, 8⟩)
  n₀ := 28
  ann := some (.ref 6)
  oks := [true, true, true, true, true, true, true, true, true, true]
  blt := bltViewBooted
  names := [some (.ref 40), some (.ref 49), some (.ref 58), some (.ref 67), some (.ref 72), some (.ref 77), some (.str ⟨#[13, 10]⟩ 398), some (.ref 84), some (.ref 4), some (.str ⟨#[99, 112, 121, 51, 49, 51, 46, 115, 116, 114, 105, 110, 103, 112, 114, 101, 112]⟩ 407)] ++ [none, none, none, none, none, none, none, none, none, none, none, none, none]
  fns := [some (fdOf (pst PL 2) (.ref 32) (.ref 33) (.none) (.str ⟨#[99, 112, 121, 51, 49, 51, 46, 98, 105, 115, 101, 99, 116]⟩ 282) none (.ref 39) (.none)), some (fdOf (pst PL 3) (.ref 41) (.ref 42) (.none) (.str ⟨#[99, 112, 121, 51, 49, 51, 46, 98, 105, 115, 101, 99, 116]⟩ 282) none (.ref 48) (.none)), some (fdOf (pst PL 4) (.ref 50) (.ref 51) (.none) (.str ⟨#[99, 112, 121, 51, 49, 51, 46, 98, 105, 115, 101, 99, 116]⟩ 282) none (.ref 57) (.none)), some (fdOf (pst PL 5) (.ref 59) (.ref 60) (.none) (.str ⟨#[99, 112, 121, 51, 49, 51, 46, 98, 105, 115, 101, 99, 116]⟩ 282) none (.ref 66) (.none)), some (fdOf (pst PL 10) (.none) (.none) (.none) (.str ⟨#[99, 112, 121, 51, 49, 51, 46, 115, 109, 116, 112, 108, 105, 98]⟩ 338) none (.ref 83) (.none))]
  codes := [some "insort_right", some "bisect_right", some "insort_left", some "bisect_left", some "quotedata"]
  objs := [some { cls := .none, dict := none, data := .fields #[.int 3 0, .int 0 0, .ref 39, .int 9 0, .int 0 0, .ref 48, .int 29 0, .int 0 0, .ref 57, .int 35 0, .int 0 0, .ref 66, .int 59 0, .int 0 0, .ref 83], slots := #[] }, some { cls := .type "module", dict := some 0, data := .plain, slots := #[] }, some { cls := .type "tuple", dict := none, data := .seq #[.int 0 284, .none] 0, slots := #[] }, some { cls := .type "tuple", dict := none, data := .seq #[.int 0 297, .none] 0, slots := #[] }, some { cls := .type "tuple", dict := none, data := .seq #[.int 0 311, .none] 0, slots := #[] }, some { cls := .type "tuple", dict := none, data := .seq #[.int 0 324, .none] 0, slots := #[] }, some { cls := .type "tuple", dict := none, data := .seq #[.int 14 0, .int 4 0, .int 0 0, .int 1 0, .int 1 0, .int 6 0, .int 1 0, .int 16 0, .int 46 0, .int 1 0] 0, slots := #[] }, some { cls := .type "tuple", dict := none, data := .seq #[.int 14 0, .int 9 0, .int 4 0, .int 1 0, .int 2 0, .int 16 0, .int 10 0, .int 16 0, .int 13 0, .int 0 0, .int 7 0, .int 7 0, .int 16 0, .int 13 0, .int 16 0, .int 10 0, .int 15 0, .int 18 0, .int 5 0, .int 16 0, .int 10 0, .int 15 0, .int 13 0, .int 11 0, .int 16 0, .int 13 0, .int 5 0, .int 5 0, .int 0 0, .int 16 0, .int 10 0, .int 1 0, .int 15 0, .int 2 0, .int 0 0, .int 1 0] 0, slots := #[] }]
  keys := [some (.type "dict", none, [(.str ⟨#[107, 101, 121]⟩ 285, .none)], 1, #[]), some (.type "dict", none, [(.str ⟨#[107, 101, 121]⟩ 298, .none)], 1, #[]), some (.type "dict", none, [(.str ⟨#[107, 101, 121]⟩ 312, .none)], 1, #[]), some (.type "dict", none, [(.str ⟨#[107, 101, 121]⟩ 325, .none)], 1, #[])]
  flds := [some (.type "code", none, #[.str ⟨#[60, 109, 111, 100, 117, 108, 101, 62]⟩ 277, .str ⟨#[60, 109, 111, 100, 117, 108, 101, 62]⟩ 278, .str ⟨#[47, 99, 108, 97, 105, 109, 47, 99, 117, 116, 46, 112, 121]⟩ 279, .int 1 0, .int 0 0, .int 0 0, .int 0 0, .int 0 0, .ref 28, .bool false, .int 276 0, .ref 29, .none, .none, .none, .none, .int 280 0, .int 1 0, .str ⟨#[47, 99, 108, 97, 105, 109, 47, 99, 117, 116, 46, 112, 121]⟩ 281]), some (.type "re.Pattern", none, #[.str ⟨#[40, 63, 109, 41, 94, 92, 46]⟩ 341, .int 40 354, .int 0 0, .none, .none, .ref 71, .int 0 0]), some (.type "re.Pattern", none, #[.str ⟨#[40, 63, 58, 92, 114, 92, 110, 124, 92, 110, 124, 92, 114, 40, 63, 33, 92, 110, 41, 41]⟩ 357, .int 32 396, .int 0 0, .none, .none, .ref 76, .int 0 0])]
theorem PLlooks : ∀ w : World, PLlook w = some PLseen := fun w => by kernel_rfl
end
section
set_option Elab.async false
set_option maxRecDepth 100000
set_option linter.unusedVariables false
theorem PLrest : PLbody.drop 11 = [pst PL 12, pst PL 13, pst PL 14, pst PL 15, pst PL 16, pst PL 17, pst PL 18, pst PL 19] := by kernel_rfl
noncomputable def PLnew : List Str := ["b1_set", "in_table_b1", "b3_exceptions", "map_table_b3", "__name__", "_law_sign", "_law_letter", "law"]
theorem PLloc : PLnew.all (fun x => PL.main.scope.names.lookup x == some .local && x != "__builtins__") = true := by kernel_rfl
theorem PLl (x : Str) (h : x ∈ PLnew) : PL.main.scope.names.lookup x = some .local ∧ x ≠ "__builtins__" := by
  have := List.all_eq_true.mp PLloc x h
  simpa using this
noncomputable def PLps : Array Value := match PLseen.objs with
  | some o :: _ => (match o.data with | .fields vs => vs | _ => #[])
  | _ => #[]
theorem PLd13 : pst PL 13 = .FunctionDef (fname (pst PL 13)) (fparams (pst PL 13)) (fbody (pst PL 13)) [] none [] (fscope (pst PL 13)) none (fname (pst PL 13)) (fpos (pst PL 13)) ∧ (fparams (pst PL 13)).defaults = [] ∧ (fparams (pst PL 13)).kwonlyargs = [] ∧ (fparams (pst PL 13)).kw_defaults = [] ∧
    annTrees (fparams (pst PL 13)) none (mainEnv PL 30 31) = [] ∧ (fscope (pst PL 13)).names.all (fun x => x.2 != .free) = true ∧ qualnameIn (mainEnv PL 30 31) (fname (pst PL 13)) (fname (pst PL 13)) = fname (pst PL 13) ∧ docOf (fbody (pst PL 13)) = none ∧ fname (pst PL 13) = "in_table_b1" :=
  ⟨by kernel_rfl, by kernel_rfl, by kernel_rfl, by kernel_rfl, by kernel_rfl, by kernel_rfl, by kernel_rfl, by kernel_rfl, by kernel_rfl⟩
theorem PLd15 : pst PL 15 = .FunctionDef (fname (pst PL 15)) (fparams (pst PL 15)) (fbody (pst PL 15)) [] none [] (fscope (pst PL 15)) none (fname (pst PL 15)) (fpos (pst PL 15)) ∧ (fparams (pst PL 15)).defaults = [] ∧ (fparams (pst PL 15)).kwonlyargs = [] ∧ (fparams (pst PL 15)).kw_defaults = [] ∧
    annTrees (fparams (pst PL 15)) none (mainEnv PL 30 31) = [] ∧ (fscope (pst PL 15)).names.all (fun x => x.2 != .free) = true ∧ qualnameIn (mainEnv PL 30 31) (fname (pst PL 15)) (fname (pst PL 15)) = fname (pst PL 15) ∧ docOf (fbody (pst PL 15)) = none ∧ fname (pst PL 15) = "map_table_b3" :=
  ⟨by kernel_rfl, by kernel_rfl, by kernel_rfl, by kernel_rfl, by kernel_rfl, by kernel_rfl, by kernel_rfl, by kernel_rfl, by kernel_rfl⟩
theorem PLd17 : pst PL 17 = .FunctionDef (fname (pst PL 17)) (fparams (pst PL 17)) (fbody (pst PL 17)) [] none [] (fscope (pst PL 17)) none (fname (pst PL 17)) (fpos (pst PL 17)) ∧ (fparams (pst PL 17)).defaults = [] ∧ (fparams (pst PL 17)).kwonlyargs = [] ∧ (fparams (pst PL 17)).kw_defaults = [] ∧
    annTrees (fparams (pst PL 17)) none (mainEnv PL 30 31) = [] ∧ (fscope (pst PL 17)).names.all (fun x => x.2 != .free) = true ∧ qualnameIn (mainEnv PL 30 31) (fname (pst PL 17)) (fname (pst PL 17)) = fname (pst PL 17) ∧ docOf (fbody (pst PL 17)) = none ∧ fname (pst PL 17) = "_law_sign" :=
  ⟨by kernel_rfl, by kernel_rfl, by kernel_rfl, by kernel_rfl, by kernel_rfl, by kernel_rfl, by kernel_rfl, by kernel_rfl, by kernel_rfl⟩
theorem PLd18 : pst PL 18 = .FunctionDef (fname (pst PL 18)) (fparams (pst PL 18)) (fbody (pst PL 18)) [] none [] (fscope (pst PL 18)) none (fname (pst PL 18)) (fpos (pst PL 18)) ∧ (fparams (pst PL 18)).defaults = [] ∧ (fparams (pst PL 18)).kwonlyargs = [] ∧ (fparams (pst PL 18)).kw_defaults = [] ∧
    annTrees (fparams (pst PL 18)) none (mainEnv PL 30 31) = [] ∧ (fscope (pst PL 18)).names.all (fun x => x.2 != .free) = true ∧ qualnameIn (mainEnv PL 30 31) (fname (pst PL 18)) (fname (pst PL 18)) = fname (pst PL 18) ∧ docOf (fbody (pst PL 18)) = none ∧ fname (pst PL 18) = "_law_letter" :=
  ⟨by kernel_rfl, by kernel_rfl, by kernel_rfl, by kernel_rfl, by kernel_rfl, by kernel_rfl, by kernel_rfl, by kernel_rfl, by kernel_rfl⟩
theorem PLd19 : pst PL 19 = .FunctionDef (fname (pst PL 19)) (fparams (pst PL 19)) (fbody (pst PL 19)) [] none [] (fscope (pst PL 19)) none (fname (pst PL 19)) (fpos (pst PL 19)) ∧ (fparams (pst PL 19)).defaults = [] ∧ (fparams (pst PL 19)).kwonlyargs = [] ∧ (fparams (pst PL 19)).kw_defaults = [] ∧
    annTrees (fparams (pst PL 19)) none (mainEnv PL 30 31) = [] ∧ (fscope (pst PL 19)).names.all (fun x => x.2 != .free) = true ∧ qualnameIn (mainEnv PL 30 31) (fname (pst PL 19)) (fname (pst PL 19)) = fname (pst PL 19) ∧ docOf (fbody (pst PL 19)) = none ∧ fname (pst PL 19) = "law" :=
  ⟨by kernel_rfl, by kernel_rfl, by kernel_rfl, by kernel_rfl, by kernel_rfl, by kernel_rfl, by kernel_rfl, by kernel_rfl, by kernel_rfl⟩
theorem PLf14 : b3Fine (pst PL 14) = true := by kernel_rfl
theorem PLs14 : ∃ px ks vs p1 pos, pst PL 14 = .Assign [.Name "b3_exceptions" px] (.Dict ks vs p1) pos ∧ swapsWith (.Dict ks vs p1) (some (.Name "b3_exceptions" px)) pos.line (mainEnv PL 30 31) = pure false :=
  ⟨(dParts (pst PL 14)).1, (dParts (pst PL 14)).2.1, (dParts (pst PL 14)).2.2.1, (dParts (pst PL 14)).2.2.2.1, (dParts (pst PL 14)).2.2.2.2, by kernel_rfl, by kernel_rfl⟩
set_option maxHeartbeats 1000000 in
theorem PLend {w : World} {A : Around} {s₂ : Shared} {mg mb : Str → Option Value} (hh : A.handled = none) (T : TS s₂ 30 29 mg PLps s₂)
    (hmb : s₂.heap.Ns builtinsNs mb) (hset : mg "set" = none ∧ mb "set" = some (.type "set")) (hlist : mg "list" = none ∧ mb "list" = some (.type "list")) (hrng : mg "range" = none ∧ mb "range" = some (.type "range"))
    (hn : 85 ≤ s₂.heap.objs.size) :
    wpAny (model PL w) A (execs (PLbody.drop 11) (mainEnv PL 30 31)) (fun f s₁ => f = .next ∧ ∃ d1 a13 d3 a15 a17 a18 a19 c19 P19 t, TopEnd PL w b1All mg s₂ s₁ d1 a13 d3 a15 a17 a18 a19 c19 P19 t "law_rw0112_01") (fun _ _ => False) s₂ := by
  have hmod : PL.main.scope.kind = .module := by kernel_rfl
  have hn' : 30 ≤ s₂.heap.objs.size := by lia
  have hG : ∀ {m : Nat}, s₂.heap.objs.size ≤ m → mainGlobals < m := fun h => by show (3 : Nat) < _; lia
  have hY : ∀ {m : Nat}, s₂.heap.objs.size ≤ m → sysModules < m := fun h => by show (1 : Nat) < _; lia
  rw [PLrest]
  refine wpAny_execs_cons ?_
  refine b1_ok (w := w) T hmod hh hmb hset hlist hrng (ks := b1L) (k := 16) (by kernel_rfl) (by decide) (by decide +kernel) (by decide +kernel) (by decide) (PLl _ (by simp [PLnew])).1 (PLl _ (by simp [PLnew])).2 (by show (3 : Nat) < _; lia) ?_ (by kernel_rfl)
  intro d1 n1 s₃ T₃ lo1 k₃ S1
  have K₃ := keep_hi k₃ hn'
  dsimp only
  refine wpAny_execs_cons ?_
  refine Classical.byContradiction fun hneg1_ => ?_
  obtain ⟨e1, e2, e3, e4, e5, e6, e7, e8, e9⟩ := PLd13
  refine hneg1_ ?_
  refine def_ok (st := pst PL 13) T₃ e1 ⟨e2, e3, e4⟩ e5 (noFree e6) (by rw [e9]; exact (PLl _ (by simp [PLnew])).1) hmod e7 (by rw [e9]; exact (PLl _ (by simp [PLnew])).2) (by kernel_rfl) e8 ?_
  intro a13 c13 P13 s₄ T₄ M13
  have ⟨f13, K₄, _⟩ := M13.hi T₃.size hn'
  rw [e9] at T₄
  dsimp only
  refine wpAny_execs_cons ?_
  refine @dict_ok' (pst PL 14) "b3_exceptions" PL w A _ s₄ s₂ 30 29 31 _ _ _ T₄ hmod PLs14 PLf14 (hY T₄.size) (hG T₄.size) (PLl _ (by simp [PLnew])).1 (PLl _ (by simp [PLnew])).2 ?_
  intro d3 s₅ T₅ lo3 k₅ D3
  have K₅ := keep_hi k₅ hn'
  dsimp only
  refine wpAny_execs_cons ?_
  refine Classical.byContradiction fun hneg2_ => ?_
  obtain ⟨e1, e2, e3, e4, e5, e6, e7, e8, e9⟩ := PLd15
  refine hneg2_ ?_
  refine def_ok (st := pst PL 15) T₅ e1 ⟨e2, e3, e4⟩ e5 (noFree e6) (by rw [e9]; exact (PLl _ (by simp [PLnew])).1) hmod e7 (by rw [e9]; exact (PLl _ (by simp [PLnew])).2) (by kernel_rfl) e8 ?_
  intro a15 c15 P15 s₆ T₆ M15
  have ⟨f15, K₆, _⟩ := M15.hi T₅.size hn'
  rw [e9] at T₆
  dsimp only
  refine wpAny_execs_cons ?_
  refine text_ok (w := w) (y := "law_rw0112_01") T₆ hmod (PLl _ (by simp [PLnew])).1 (PLl _ (by simp [PLnew])).2 ?_ (by kernel_rfl)
  intro t s₇ T₇ k₇
  have K₇ := keep_hi k₇ hn'
  dsimp only
  refine wpAny_execs_cons ?_
  refine Classical.byContradiction fun hneg3_ => ?_
  obtain ⟨e1, e2, e3, e4, e5, e6, e7, e8, e9⟩ := PLd17
  refine hneg3_ ?_
  refine def_ok (st := pst PL 17) T₇ e1 ⟨e2, e3, e4⟩ e5 (noFree e6) (by rw [e9]; exact (PLl _ (by simp [PLnew])).1) hmod e7 (by rw [e9]; exact (PLl _ (by simp [PLnew])).2) (by kernel_rfl) e8 ?_
  intro a17 c17 P17 s₈ T₈ M17
  have ⟨f17, K₈, lo17⟩ := M17.hi T₇.size hn'
  dsimp only
  refine wpAny_execs_cons ?_
  refine Classical.byContradiction fun hneg4_ => ?_
  obtain ⟨e1, e2, e3, e4, e5, e6, e7, e8, e9⟩ := PLd18
  refine hneg4_ ?_
  refine def_ok (st := pst PL 18) T₈ e1 ⟨e2, e3, e4⟩ e5 (noFree e6) (by rw [e9]; exact (PLl _ (by simp [PLnew])).1) hmod e7 (by rw [e9]; exact (PLl _ (by simp [PLnew])).2) (by kernel_rfl) e8 ?_
  intro a18 c18 P18 s₉ T₉ M18
  have ⟨f18, K₉, lo18⟩ := M18.hi T₈.size hn'
  dsimp only
  refine wpAny_execs_cons ?_
  refine Classical.byContradiction fun hneg5_ => ?_
  obtain ⟨e1, e2, e3, e4, e5, e6, e7, e8, e9⟩ := PLd19
  refine hneg5_ ?_
  refine def_ok (st := pst PL 19) T₉ e1 ⟨e2, e3, e4⟩ e5 (noFree e6) (by rw [e9]; exact (PLl _ (by simp [PLnew])).1) hmod e7 (by rw [e9]; exact (PLl _ (by simp [PLnew])).2) (by kernel_rfl) e8 ?_
  intro a19 c19 P19 s₀ T₀ M19
  have ⟨f19, K₀, lo19⟩ := M19.hi T₉.size hn'
  dsimp only
  refine wpAny_execs_nil ⟨rfl, d1, a13, d3, a15, a17, a18, a19, c19, P19, t, ⟨⟨_, by rw [e9] at T₀; exact T₀⟩, ⟨lo1, Nat.le_trans T₄.size lo3, lo19⟩, ⟨n1, ?_⟩, ?_, ?_, ?_, ?_, ?_, ?_, M19.code, M19.tab⟩⟩
  · exact setOf_hi S1 lo1 (K₄.trans (K₅.trans (K₆.trans (K₇.trans (K₈.trans (K₉.trans K₀))))))
  · exact ⟨_, c13, f13.keeps (K₅.trans (K₆.trans (K₇.trans (K₈.trans (K₉.trans K₀)))))⟩
  · exact D3.hi (Nat.le_trans T₄.size lo3) (K₆.trans (K₇.trans (K₈.trans (K₉.trans K₀))))
  · exact ⟨_, c15, f15.keeps (K₇.trans (K₈.trans (K₉.trans K₀)))⟩
  · exact ⟨_, c17, f17.keeps (K₉.trans K₀)⟩
  · exact ⟨_, c18, f18.keeps K₀⟩
  · have e : (setm (setm (setm (setm (setm (setm (setm mg "b1_set" (.ref d1)) "in_table_b1" (.ref a13)) "b3_exceptions" (.ref d3)) "map_table_b3" (.ref a15)) "__name__" (.str "law_rw0112_01" t)) (fname (pst PL 17)) (.ref a17)) (fname (pst PL 18)) (.ref a18) "__name__") = some (.str "law_rw0112_01" t) := by
      rw [setm_ne (by rw [show fname (pst PL 18) = "_law_letter" by kernel_rfl]; decide +kernel), setm_ne (by rw [show fname (pst PL 17) = "_law_sign" by kernel_rfl]; decide +kernel), setm_same]
    rw [e] at f19
    exact f19
end
section
open PySem PySem.W PySem.Calls PyProof.Rows PySem.Builtin.Re
set_option Elab.async false
set_option maxRecDepth 100000
set_option linter.unusedVariables false
theorem fnUp {h h' : Heap} {f c : Addr} {fd : FuncData} {q : Str} (up : ∀ b o, b ≠ 29 → b ≠ mainGlobals → h.get? b = some o → o.data ≠ .fields #[] → h'.get? b = some o) (hf : funcAt h f = some fd) (hq : codeName h c = some q) (hc : fd.code = .ref c) (hqn : fd.qualname = q)
    (h1 : f ≠ 29) (h2 : f ≠ mainGlobals) (h3 : c ≠ 29) (h4 : c ≠ mainGlobals) : FnAt h' f fd := by
  refine Classical.byContradiction fun hneg1_ => ?_
  obtain ⟨o, ho, hd⟩ := funcAt_spec hf
  obtain ⟨c', oc, vs, t, e, g, d, r⟩ := codeName_spec hq
  refine hneg1_ ?_
  cases e
  exact ⟨⟨o, up _ _ h1 h2 ho (by rw [hd]; intro e; cases e), hd⟩, by rw [hc, hqn]; exact ⟨c, oc, vs, t, rfl, up _ _ h3 h4 g (by rw [d]; intro e; cases e; cases r), d, r⟩⟩
noncomputable def biL : List (Str × Value) := [("len", .builtin "len"), ("sum", .builtin "sum"), ("min", .builtin "min"), ("max", .builtin "max"), ("abs", .builtin "abs"), ("chr", .builtin "chr"), ("ord", .builtin "ord"), ("sorted", .builtin "sorted"),
    ("range", .type "range"), ("list", .type "list"), ("enumerate", .type "enumerate"), ("zip", .type "zip")]
theorem biL_boot : biL.all (fun p => decide (bootBuiltins p.1 = some p.2) && p.1 != "__name__") = true := by kernel_rfl
noncomputable def newL (a b : Str) : List Str := ["b1_set", "in_table_b1", "b3_exceptions", "map_table_b3", "__name__", a, b, "law"]
theorem chain_ne {mg : Str → Option Value} {a b x : Str} {v1 v2 v3 v4 v5 v6 v7 v8 : Value} (h : x ∉ newL a b) :
    setm (setm (setm (setm (setm (setm (setm (setm mg "b1_set" v1) "in_table_b1" v2) "b3_exceptions" v3) "map_table_b3" v4) "__name__" v5) a v6) b v7) "law" v8 x = mg x := by
  simp only [newL, List.mem_cons, List.not_mem_nil, or_false, not_or] at h
  refine Classical.byContradiction fun hneg2_ => ?_
  obtain ⟨h1, h2, h3, h4, h5, h6, h7, h8⟩ := h
  refine hneg2_ ?_
  rw [setm_ne h8, setm_ne h7, setm_ne h6, setm_ne h5, setm_ne h4, setm_ne h3, setm_ne h2, setm_ne h1]
theorem codeB_of {h h' : Heap} {c P : Addr} (hc : h.IsCode c P #[]) (ht : h.TableAt c P #[]) (k : KeepF h h') (hP : h'.get? P = none) : CodeB h' c P := by
  refine Classical.byContradiction fun hneg3_ => ?_
  obtain ⟨o, vs, file, tf, flags, tg, inF, text, tt, op, a1, a2, a3, a4, a5, a6, a7, a8, a9, a10, a11⟩ := hc
  obtain ⟨⟨o', vs', b1, b2, b3, b4⟩, b5⟩ := ht
  refine hneg3_ ?_
  rw [a1] at b1; cases b1
  rw [a2] at b3; cases b3
  exact ⟨⟨o, vs, file, tf, flags, tg, inF, text, tt, k _ _ a1 (by rw [a2]; intro e; cases e; cases b4), b2, a2, b4, a3, a4, a5, a6, a7⟩, a11, hP⟩
-- one place of a row that was looked at
theorem pickAt {α β : Type} {f : α → β} {l : List α} {r : List β} (h : l.map f = r) (k : Nat) {x : α} {v : β} (h1 : l[k]? = some x) (h2 : r[k]? = some v) : f x = v := by
  have e := congrArg (fun z => z[k]?) h
  rw [List.getElem?_map, h1, h2] at e
  exact Option.some.inj e
-- a def that a name holds; one with defaults
inductive Told (base : Heap) (mg : Str → Option Value) (x : Str) (st : Stmt) : Prop
  | mk (f : Addr) (doc pm : Value) (an : Option Addr) (cdv ct : Value) (h : mg x = some (.ref f)) (hf : FnAt base f (fdOf st .none .none doc pm an cdv ct)) : Told base mg x st
inductive ToldD (base : Heap) (mg : Str → Option Value) (x : Str) (st : Stmt) : Prop
  | mk (f T D : Addr) (doc pm : Value) (an : Option Addr) (cdv ct : Value) (h : mg x = some (.ref f)) (hf : FnAt base f (fdOf st (.ref T) (.ref D) doc pm an cdv ct)) (d : Dfl base T D) : ToldD base mg x st
-- what the law's call finds
structure PLB (w : World) (base : Heap) (mg mb : Str → Option Value) (c P f : Addr) : Prop where
  G : Gl base mg mb
  insR : ToldD base mg "insort_right" iR
  bisR : ToldD base mg "bisect_right" bR
  insL : ToldD base mg "insort_left" iL
  bisL : ToldD base mg "bisect_left" bL
  quote : Told base mg "quotedata" quoteF
  re1 : ∃ p, mg "_twin_re_1" = some (.ref p) ∧ IsPat base p code1
  re2 : ∃ p, mg "_twin_re_2" = some (.ref p) ∧ IsPat base p code2
  crlf : ∃ t, mg "CRLF" = some (.str ⟨#[13, 10]⟩ t)
  inb : Told base mg "in_table_b1" inB1
  b1 : ∃ d, mg "b1_set" = some (.ref d) ∧ BaseSet PL w base d (fun i => b1All.any (· == i))
  map3 : Told base mg "map_table_b3" mapB3
  b3 : ∃ d t3, mg "b3_exceptions" = some (.ref d) ∧ BaseMap PL w base d t3 ∧ (d == sysModules) = false ∧ ∀ i, (t3 i).map er = tellsV (b3Of (pst PL 14)) i
  s17 : Told base mg "_law_sign" (pst PL 17)
  s18 : Told base mg "_law_letter" (pst PL 18)
  law : ∃ pm, FnAt base f (fdOf (pst PL 19) .none .none .none pm none (.ref c) .none)
  blt : base.BuiltinsAt mg P
  code : CodeB base c P
  self : mg "law" = some (.ref f)
theorem PLbase {w : World} {s s₀ s₂ s₁ : Shared} {rest : List Stmt} {pos : Pos} (X : HeadFacts PL w PLseen PLnames [40, 49, 58, 67, 84] [39, 48, 57, 66, 83] [29, 4, 32, 41, 50, 59, 71, 76] [33, 42, 51, 60] [30, 72, 77] PLenv PLpre rest pos s s₀ s₂)
    (hbig : 85 ≤ s₂.heap.objs.size)
    {d1 a13 d3 a15 a17 a18 a19 c19 P19 : Addr} {t : Tok} (Y : TopEnd PL w b1All (s₂.heap.nsMap mainGlobals) s₂ s₁ d1 a13 d3 a15 a17 a18 a19 c19 P19 t "law_rw0112_01") {h : Heap} (k : ∀ b o, s₁.heap.get? b = some o → h.get? b = some o) :
    ∃ mg mb, PLB w (without h P19) mg mb c19 P19 a19 ∧ s₁.heap.Ns mainGlobals mg := by
  have K : KeepF s₁.heap (without h P19) := keepF_of k Y.tab.2
  obtain ⟨ps, T⟩ := Y.ts
  have n0 := pickAt X.names 0 rfl rfl
  have n1 := pickAt X.names 1 rfl rfl
  have n2 := pickAt X.names 2 rfl rfl
  have n3 := pickAt X.names 3 rfl rfl
  have n4 := pickAt X.names 4 rfl rfl
  have n5 := pickAt X.names 5 rfl rfl
  have n6 := pickAt X.names 6 rfl rfl
  have n7 := pickAt X.names 7 rfl rfl
  have f0 := pickAt X.fns 0 rfl rfl
  have f1 := pickAt X.fns 1 rfl rfl
  have f2 := pickAt X.fns 2 rfl rfl
  have f3 := pickAt X.fns 3 rfl rfl
  have f4 := pickAt X.fns 4 rfl rfl
  have q0 := pickAt X.codes 0 rfl rfl
  have q1 := pickAt X.codes 1 rfl rfl
  have q2 := pickAt X.codes 2 rfl rfl
  have q3 := pickAt X.codes 3 rfl rfl
  have q4 := pickAt X.codes 4 rfl rfl
  have o32 := pickAt X.objs 2 rfl rfl
  have o41 := pickAt X.objs 3 rfl rfl
  have o50 := pickAt X.objs 4 rfl rfl
  have o59 := pickAt X.objs 5 rfl rfl
  have o71 := pickAt X.objs 6 rfl rfl
  have o76 := pickAt X.objs 7 rfl rfl
  have e33 := pickAt X.keys 0 rfl rfl
  have e42 := pickAt X.keys 1 rfl rfl
  have e51 := pickAt X.keys 2 rfl rfl
  have e60 := pickAt X.keys 3 rfl rfl
  have d72 := pickAt X.flds 1 rfl rfl
  have d77 := pickAt X.flds 2 rfl rfl
  have e17 : fname (pst PL 17) = "_law_sign" := by kernel_rfl
  have e18 : fname (pst PL 18) = "_law_letter" := by kernel_rfl
  rw [e17, e18] at T
  have up : ∀ b o, b ≠ 29 → b ≠ mainGlobals → s₂.heap.get? b = some o → o.data ≠ .fields #[] → (without h P19).get? b = some o := fun b o h1 h2 e hd => K _ _ (T.keep b o h1 h2 e) hd
  have hm29 : (29 : Addr) ≠ mainGlobals := by decide
  have num : ∀ n : Nat, 30 ≤ n → n ≠ (29 : Addr) ∧ n ≠ mainGlobals := fun n hn => ⟨by show n ≠ (29 : Nat); lia, by show n ≠ (3 : Nat); lia⟩
  have hbltNs : s₁.heap.Ns builtinsNs (s₂.heap.nsMap builtinsNs) := by
    refine Classical.byContradiction fun hneg5_ => ?_
    obtain ⟨o, es, ep, e, r⟩ := Heap.Ns.of_isNs X.blt2
    refine hneg5_ ?_
    exact ⟨o, es, ep, T.keep _ _ (by decide) (by decide) e, r⟩
  have hlim : s₁.heap.NoLimit := by
    refine Classical.byContradiction fun hneg6_ => ?_
    obtain ⟨mc, ⟨o, es, ep, e, r⟩, q⟩ := Heap.NoLimit.of_ok X.lim
    refine hneg6_ ?_
    exact ⟨mc, ⟨o, es, ep, T.keep _ _ (by decide) (by decide) e, r⟩, q⟩
  have dfl : ∀ (a b : Addr) (t : Tok) (t' : Tok), 30 ≤ a → 30 ≤ b → s₂.heap.get? a = some { cls := .type "tuple", dict := none, data := .seq #[.int 0 t, .none] 0, slots := #[] } → keyNone s₂.heap b = some (.type "dict", none, [(.str ⟨#[107, 101, 121]⟩ t', .none)], 1, #[]) → Dfl (without h P19) a b := fun a b t t' ha hb e1 e2 => by
    obtain ⟨hh, t'', k'', e3⟩ := keyNone_spec e2
    exact ⟨⟨t, 0, up _ _ (num a ha).1 (num a ha).2 e1 (by intro e; cases e)⟩, ⟨hh, t'', k'', up _ _ (num b hb).1 (num b hb).2 e3 (by intro e; cases e)⟩⟩
  have pat : ∀ (p ca : Addr) (fs xs : Array Value) (cd : Array Nat), 30 ≤ p → 30 ≤ ca → fieldsAt s₂.heap p = some (.type "re.Pattern", none, fs) → s₂.heap.get? ca = some { cls := .type "tuple", dict := none, data := .seq xs 0, slots := #[] } →
      fs.getD 2 .none = rawInt 0 → fs.getD 6 .none = rawInt 0 → fs.getD 5 .none = .ref ca → (xs.map reRawOf).map (·.toNat) = cd → IsPat (without h P19) p cd := fun p ca fs xs cd hp hc e1 e2 e3 e4 e5 e6 => by
    refine Classical.byContradiction fun hneg7_ => ?_
    obtain ⟨o, a1, a2, a3, a4⟩ := fieldsAt_spec e1
    refine hneg7_ ?_
    exact ⟨o, fs, ca, _, xs, 0, up _ _ (num p hp).1 (num p hp).2 a1 (by rw [a4]; intro e; cases e; cases e5), a2, a3, a4, e3, e4, e5, up _ _ (num ca hc).1 (num ca hc).2 e2 (by intro e; cases e), rfl, e6⟩
  refine ⟨_, s₂.heap.nsMap builtinsNs, ?_, T.main.g⟩
  refine Classical.byContradiction fun hneg8_ => ?_
  obtain ⟨m13, S13⟩ := Y.b1
  obtain ⟨pm13, c13, F13⟩ := Y.f13
  obtain ⟨pm15, c15, F15⟩ := Y.f15
  obtain ⟨pm17, c17, F17⟩ := Y.f17
  obtain ⟨pm18, c18, F18⟩ := Y.f18
  obtain ⟨kvs, D3, M3⟩ := Y.b3
  refine hneg8_ ?_
  refine ⟨⟨K.ns T.main.g, K.ns hbltNs, K.lim hlim, fun x v hx => ?_⟩,
    ⟨40, 32, 33, _, _, _, _, _, (chain_ne (by decide +kernel)).trans n0, fnUp up f0 q0 rfl (by kernel_rfl) (num _ (by decide)).1 (num _ (by decide)).2 (num _ (by decide)).1 (num _ (by decide)).2, dfl _ _ _ _ (by decide) (by decide) o32 e33⟩,
    ⟨49, 41, 42, _, _, _, _, _, (chain_ne (by decide +kernel)).trans n1, fnUp up f1 q1 rfl (by kernel_rfl) (num _ (by decide)).1 (num _ (by decide)).2 (num _ (by decide)).1 (num _ (by decide)).2, dfl _ _ _ _ (by decide) (by decide) o41 e42⟩,
    ⟨58, 50, 51, _, _, _, _, _, (chain_ne (by decide +kernel)).trans n2, fnUp up f2 q2 rfl (by kernel_rfl) (num _ (by decide)).1 (num _ (by decide)).2 (num _ (by decide)).1 (num _ (by decide)).2, dfl _ _ _ _ (by decide) (by decide) o50 e51⟩,
    ⟨67, 59, 60, _, _, _, _, _, (chain_ne (by decide +kernel)).trans n3, fnUp up f3 q3 rfl (by kernel_rfl) (num _ (by decide)).1 (num _ (by decide)).2 (num _ (by decide)).1 (num _ (by decide)).2, dfl _ _ _ _ (by decide) (by decide) o59 e60⟩,
    ⟨84, _, _, _, _, _, (chain_ne (by decide +kernel)).trans n7, fnUp up f4 q4 rfl (by kernel_rfl) (num _ (by decide)).1 (num _ (by decide)).2 (num _ (by decide)).1 (num _ (by decide)).2⟩,
    ⟨72, (chain_ne (by decide +kernel)).trans n4, pat 72 71 _ _ _ (by decide) (by decide) d72 o71 rfl rfl rfl (by decide +kernel)⟩, ⟨77, (chain_ne (by decide +kernel)).trans n5, pat 77 76 _ _ _ (by decide) (by decide) d77 o76 rfl rfl rfl (by decide +kernel)⟩,
    ⟨_, (chain_ne (by decide +kernel)).trans n6⟩,
    ⟨a13, _, _, _, _, _, ?_, K.fn F13.fn⟩, ⟨d1, ?_, m13, K.set S13⟩, ⟨a15, _, _, _, _, _, ?_, K.fn F15.fn⟩, ⟨d3, valueAt kvs, ?_, (K.dict D3).mapOf, ?_, valueAt_same M3⟩, ⟨a17, _, _, _, _, _, ?_, K.fn F17.fn⟩, ⟨a18, _, _, _, _, _, ?_, K.fn F18.fn⟩,
    ⟨_, K.fn Y.f19.fn⟩, ?_, codeB_of Y.code Y.tab K (without_at _ _), ?_⟩
  · have hl : List.lookup x biL = some v := hx
    have hmem := mem_of_lookup hl
    have hb := List.all_eq_true.mp biL_boot _ hmem
    simp only [Bool.and_eq_true, decide_eq_true_eq, bne_iff_ne] at hb
    refine ⟨?_, (Heap.of_bltView X.blt2 X.bltv x hb.2).trans hb.1⟩
    simp only [biL, List.mem_cons, List.not_mem_nil, or_false, Prod.mk.injEq] at hmem
    rcases hmem with ⟨rfl, _⟩ | ⟨rfl, _⟩ | ⟨rfl, _⟩ | ⟨rfl, _⟩ | ⟨rfl, _⟩ | ⟨rfl, _⟩ | ⟨rfl, _⟩ | ⟨rfl, _⟩ | ⟨rfl, _⟩ | ⟨rfl, _⟩ | ⟨rfl, _⟩ | ⟨rfl, _⟩
    · exact (chain_ne (by decide +kernel)).trans (pickAt X.names 10 rfl rfl)
    · exact (chain_ne (by decide +kernel)).trans (pickAt X.names 11 rfl rfl)
    · exact (chain_ne (by decide +kernel)).trans (pickAt X.names 12 rfl rfl)
    · exact (chain_ne (by decide +kernel)).trans (pickAt X.names 13 rfl rfl)
    · exact (chain_ne (by decide +kernel)).trans (pickAt X.names 14 rfl rfl)
    · exact (chain_ne (by decide +kernel)).trans (pickAt X.names 15 rfl rfl)
    · exact (chain_ne (by decide +kernel)).trans (pickAt X.names 16 rfl rfl)
    · exact (chain_ne (by decide +kernel)).trans (pickAt X.names 17 rfl rfl)
    · exact (chain_ne (by decide +kernel)).trans (pickAt X.names 18 rfl rfl)
    · exact (chain_ne (by decide +kernel)).trans (pickAt X.names 19 rfl rfl)
    · exact (chain_ne (by decide +kernel)).trans (pickAt X.names 20 rfl rfl)
    · exact (chain_ne (by decide +kernel)).trans (pickAt X.names 21 rfl rfl)
  · rw [setm_ne (by decide +kernel), setm_ne (by decide +kernel), setm_ne (by decide +kernel), setm_ne (by decide +kernel), setm_ne (by decide +kernel), setm_ne (by decide +kernel), setm_same]
  · rw [setm_ne (by decide +kernel), setm_ne (by decide +kernel), setm_ne (by decide +kernel), setm_ne (by decide +kernel), setm_ne (by decide +kernel), setm_ne (by decide +kernel), setm_ne (by decide +kernel), setm_same]
  · rw [setm_ne (by decide +kernel), setm_ne (by decide +kernel), setm_ne (by decide +kernel), setm_ne (by decide +kernel), setm_same]
  · rw [setm_ne (by decide +kernel), setm_ne (by decide +kernel), setm_ne (by decide +kernel), setm_ne (by decide +kernel), setm_ne (by decide +kernel), setm_same]
  · rw [beq_eq_false_iff_ne]
    exact Nat.ne_of_gt (Nat.lt_of_lt_of_le (by decide : (1 : Nat) < 85) (Nat.le_trans hbig Y.lo.2.1))
  · rw [setm_ne (by decide +kernel), setm_ne (by decide +kernel), setm_same]
  · rw [setm_ne (by decide +kernel), setm_same]
  · refine Classical.byContradiction fun hneg9_ => ?_
    obtain ⟨bm, o, b1, b2, b3, b4, b5, b6, b7, b8⟩ := T.main.bmod
    refine hneg9_ ?_
    refine ⟨bm, o, b1, b2, b3, fun e => ?_, K _ _ b5 (by rw [b8]; intro e; cases e), b6, b7, b8⟩
    subst e
    rw [Y.tab.2] at b5; cases b5; cases b8
  · exact setm_same
end
section
open PySem PySem.W PySem.Calls PyProof.Rows PySem.Builtin.Str
set_option maxRecDepth 100000
set_option linter.unusedVariables false
variable {base : Heap} {os : OsState} {H H' : HP} {n n' : Nat} {s s' : Shared} {prog : Program} {w : World} {A : Around} {L : Addr} {σ : St} {m : Loc} {env : Env} {Q : V → St → Prop} {R : Flow → St → Prop}
variable {dV kV doc pm cdv ct : Value} {an : Option Addr} {f : Addr} {mg mb : Str → Option Value}






-- a call that makes one object
theorem W_made {f : Value} {args : List Value} {kw : List (Str × Value)} {o : O} (h : L < σ.n → σ.H L = none → C prog w base os A (.call f ⟨args, kw⟩) (fun u H' n' => ∃ a, u = .ref a ∧ H' = upd (upd σ.H L (.ns σ.m)) a o ∧ upd σ.H L (.ns σ.m) a = none) (upd σ.H L (.ns σ.m)) σ.n)
    (k : ∀ a n', σ.H a = none → a ≠ L → Q (.ref a) ⟨σ.m, upd σ.H a o, n'⟩) : WV prog w base os A L (call f args kw) Q σ :=
  W_of_C h fun hl hn u H' n' hy1_ => by
    obtain ⟨a, e1, e2, e3⟩ := hy1_
    subst e1 e2
    have ha : a ≠ L := by rintro rfl; rw [upd_same] at e3; cases e3
    have e3' : σ.H a = none := by rw [upd_ne ha] at e3; exact e3
    refine ⟨upd σ.H a o, (upd_ne (Ne.symm ha)).trans hn, fun b p e => ?_, (upd_ne (Ne.symm ha)).trans (upd_same _ _ _), k a n' e3' ha⟩
    by_cases hb : b = a
    · subst hb; rw [upd_same] at e ⊢; exact e
    · rw [upd_ne hb] at e ⊢
      exact (upd_ne (by rintro rfl; rw [hn] at e; cases e)).trans e
theorem dot_len : ∀ (k : Bool) (l : List Nat), (dotS k l).length ≤ 2 * l.length
  | _, [] => Nat.zero_le _
  | k, c :: r => by
    have ih := dot_len (c == 10) r
    have ih2 := dot_len false r
    rw [dotS]
    split
    · simp only [List.length_cons]; lia
    · simp only [List.length_cons]; lia
theorem join_ok {ys : List Str} (h : (Txt.join (Str.ofString "") ys).cps.size ≤ 40) : JoinOk (Str.ofString "") ys = true := by
  have e0 : (Str.ofString "").length = 0 := by decide +kernel
  have key : ∀ (l : List Str) (a : Nat), l.foldl (fun a y => a + y.length + (Str.ofString "").length) a = a + (l.flatMap (·.cps.toList)).length := fun l => by
    induction l with
    | nil => intro a; simp
    | cons y l ih =>
      intro a
      have hy : y.cps.toList.length = y.cps.size := Array.length_toList
      rw [List.foldl_cons, ih, e0, List.flatMap_cons, List.length_append, hy]
      show a + y.cps.size + 0 + _ = _
      lia
  have e1 : (ys.flatMap (·.cps.toList)).length ≤ 40 := by rw [← join_empty, Array.length_toList]; exact h
  have e2 : ys.toArray.foldl (fun a y => a + y.length + (Str.ofString "").length) 0 ≤ 40 := by
    rw [List.foldl_toArray, key]; lia
  unfold JoinOk tooLong
  have := sizeLine_eq
  simp only [Bool.not_eq_true', decide_eq_false_iff_not]
  lia
noncomputable abbrev letB : List Stmt := forB ((lawFrom 3).headD (.Pass ⟨0, 0, 0, 0⟩))
-- one letter: typed, prepared, sent, laid
theorem law_letter1 {x : Nat} {c19 P19 fL aC : Addr} {cs : List V} (B : PLB w base mg mb c19 P19 fL) (F : Full base) (hh : A.handled = none) (hA : A.depth + 3 < recursionLimit) (hx : x < 2 ^ 60) (h1 : σ.m "number" = some (.int x))
    (h2 : σ.H (L + 7) = some (.cell (some (.ref aC)))) (h3 : σ.H aC = some (.list cs)) (hb : base.objs.size ≤ aC) (hz : cs.length ≤ 100)
    (h : ∀ m' H' n', (∀ a o, a ≠ aC → σ.H a = some o → H' a = some o) → H' aC = some (.list (cs ++ [.int (letterOf x).2.length])) → R .next ⟨m', H', n'⟩) :
    WS PL w base os A L letB (lawE doc pm cdv ct an L f) R σ := by
  obtain ⟨fl, dl, pl, al, cl, tl, ml, Fl⟩ := B.s18
  obtain ⟨fs, ds, psg, as_, csg, ts, msg, Fs⟩ := B.s17
  obtain ⟨fb, db, pb, ab, cb, tb, mb', Fb⟩ := B.inb
  obtain ⟨sb, msb, hS⟩ := B.b1
  obtain ⟨fm, dm, pmm, am, cm, tm, mm, Fm⟩ := B.map3
  obtain ⟨d3, t3, md3, hM, hds, hT3⟩ := B.b3
  obtain ⟨fq, dq, pq, aq, cq, tq, mq, Fq⟩ := B.quote
  obtain ⟨p1, mp1, hp1⟩ := B.re1
  obtain ⟨p2, mp2, hp2⟩ := B.re2
  obtain ⟨tc, mcr⟩ := B.crlf
  have hS0 : ∀ k w, k < 8 → w < 27 → (sgn k w).2.length = 0 → (fun i => b1All.any (· == i)) ((sgn k w).1 : Int) = true := fun k w hk hw e => (sgn_facts hk hw).1.mpr e
  refine WS_cons (WS_AssignT ?_ (by kernel_rfl!) (by kernel_rfl!))
  refine W_Call rfl rfl ?_ rfl
  refine W_global B.G.g ml ?_ (by walk_at "k") (by walk_at "k") (by walk_at "k") (by decide +kernel)
  dsimp only [WArgs]
  walk_at "e"
  dsimp only [WKws, kwNames]
  refine ⟨.inl (Fl.at_.imp fun o e => ⟨_, e.1, e.2⟩), WCall_ref0 fun as ea => ?_⟩
  obtain ⟨u1, rfl, eu1⟩ := map_one ea
  refine W_made (fun _ _ => C_letter B.G F Fl eu1 hx Fs msg Fb mb' msb hS hS0 (by show A.depth + 1 < _; lia) hh) fun a n1 ha haL => ?_
  refine WA_Tuple F rfl hh (upd_same _ _ _) rfl fun n2 => ?_
  dsimp only [WAs]
  refine WA_Name (WSt_local ?_ (by walk_at "k") (by walk_at "k") (by walk_at "k"))
  refine WA_Name (WSt_local ?_ (by walk_at "k") (by walk_at "k") (by walk_at "k"))
  dsimp only
  have hs1 : Sub σ.H (upd σ.H a (.tup [.str (letterOf x).1, .str (letterOf x).2])) := Sub.upd_new ha
  show WS PL w base os A L _ _ _ ⟨(σ.m.set "typed" (.str (letterOf x).1)).set "told" (.str (letterOf x).2), upd σ.H a (.tup [.str (letterOf x).1, .str (letterOf x).2]), n2⟩
  generalize upd σ.H a (.tup [.str (letterOf x).1, .str (letterOf x).2]) = H1 at hs1 ⊢
  have v1 : ((σ.m.set "typed" (.str (letterOf x).1)).set "told" (.str (letterOf x).2)) "typed" = some (.str (letterOf x).1) := by walk_at "m"
  have v2 : ((σ.m.set "typed" (.str (letterOf x).1)).set "told" (.str (letterOf x).2)) "told" = some (.str (letterOf x).2) := by walk_at "m"
  revert v1 v2
  generalize (σ.m.set "typed" (.str (letterOf x).1)).set "told" (.str (letterOf x).2) = m1
  intro v1 v2
  generalize hty : (letterOf x).1 = ty at v1
  generalize htd : (letterOf x).2 = td at v2
  refine W.fact fun told1 _ hHL1 _ => ?_
  refine WS_cons (WS_Assign ?_ (by walk_at "k"))
  refine W_Call rfl rfl ?_ rfl
  refine W_global B.G.g mq ?_ (by walk_at "k") (by walk_at "k") (by walk_at "k") (by decide +kernel)
  dsimp only [WArgs]
  refine W_Method rfl rfl ?_ rfl
  walk_at "e"
  refine WM_str PySem.F.slot_str_join PySem.F.type_str_join ?_
  dsimp only [WArgs]
  refine W_ListComp (cl := []) F hh ?_ (fun _ => rfl) (by kernel_rfl!) (noCells (by kernel_rfl!)) rfl (locNames (by kernel_rfl!))
  walk_at "e"
  have htylen : ty.cps.size ≤ 5 := by rw [← hty]; exact letter_typed_len x
  refine ⟨ty.cps.toList.map fun c : Nat => (V.str ⟨#[c]⟩, if inS c then none else some (Y.val (.str (mapS b3L c)))), ⟨⟨_, ⟨by rw [List.map_map]; exact srcStr ty⟩, fun H hs => trivial⟩, by rw [List.length_map, Array.length_toList, sizeLine_eq]; lia, ?_⟩, ?_⟩
  · intro Cc v Z hv τ hn hs
    obtain ⟨c, hc, e⟩ := List.mem_map.mp hv
    cases e
    unfold CTurn
    refine WA_Name (WSt_local ?_ (by walk_at "k") (by walk_at "k") (by walk_at "k"))
    dsimp only [WIfs]
    walk_at "i"
    refine W_Call rfl rfl ?_ rfl
    refine W_global B.G.g mb' ?_ (by walk_at "k") (by walk_at "k") (by walk_at "k") (by decide +kernel)
    dsimp only [WArgs]
    walk_at "e"
    dsimp only [WKws, kwNames]
    refine ⟨.inl (Fb.at_.imp fun o e => ⟨_, e.1, e.2⟩), WCall_ref0 fun as ea => ?_⟩
    obtain ⟨u2, rfl, eu2⟩ := map_one ea
    refine W_pure (fun _ _ => C_inB1 B.G Fb msb hS eu2 (by lia)) fun n3 hn3 => ?_
    walk_at "e"
    refine WC_isBool ?_
    walk_at "o"
    show (match (if inS c then none else some (Y.val (.str (mapS b3L c)))) with | none => _ | some Z => _)
    cases hin : inS c with
    | true =>
      simp only [if_true]
      have : b1All.any (fun x => x == (c : Int)) = true := hin
      exact ⟨by rw [this]; rfl, Sub.refl _⟩
    | false =>
      simp only [Bool.false_eq_true, if_false]
      have : b1All.any (fun x => x == (c : Int)) = false := hin
      refine ⟨by rw [this]; rfl, ?_⟩
      refine W_Call rfl rfl ?_ rfl
      refine W_global B.G.g mm ?_ (by walk_at "k") (by walk_at "k") (by walk_at "k") (by decide +kernel)
      dsimp only [WArgs]
      walk_at "e"
      dsimp only [WKws, kwNames]
      refine ⟨.inl (Fm.at_.imp fun o e => ⟨_, e.1, e.2⟩), WCall_ref0 fun as ea => ?_⟩
      obtain ⟨u3, rfl, eu3⟩ := map_one ea
      refine W_pure (fun _ _ => C_mapB3 B.G Fm md3 hM hds (fun v hv => ?_) eu3 (by lia)) fun n4 hn4 => ?_
      · have e1 := hT3 c
        rw [hv] at e1
        unfold tellsV at e1
        cases hq : (b3Of (pst PL 14)).find? fun p => decide (p.1 = (c : Int)) with
        | none => rw [hq] at e1; cases e1
        | some p =>
          rw [hq] at e1
          rw [Option.some.inj e1]; rfl
      · refine ⟨?_, Sub.refl _⟩
        show mapped t3 c = V.str (mapS b3L c)
        have e1 := hT3 c
        unfold mapped mapS
        unfold tellsV at e1
        cases hq : (b3Of (pst PL 14)).find? fun p => decide (p.1 = (c : Int)) with
        | none =>
          rw [hq] at e1
          cases ht : t3 c with
          | none => rfl
          | some v => rw [ht] at e1; cases e1
        | some p =>
          rw [hq] at e1
          cases ht : t3 c with
          | none => rw [ht] at e1; cases e1
          | some v => rw [ht] at e1; exact Option.some.inj e1
  · intro D ys H2 n3 hD hs2 hDl hall
    have e1 : (ty.cps.toList.map fun c : Nat => (V.str ⟨#[c]⟩, if inS c then none else some (Y.val (.str (mapS b3L c))))).filterMap (·.2) = ((prep ty.cps.toList).map V.str).map Y.val := by
      rw [List.filterMap_map, List.map_map]
      unfold prep
      rw [List.map_filterMap]
      congr 1
      funext c
      show (if inS c then none else some (Y.val (.str (mapS b3L c)))) = _
      cases inS c <;> rfl
    rw [e1] at hall
    rw [hall.vals] at hDl
    have hjl : (Txt.join (Str.ofString "") (prep ty.cps.toList)).cps.size ≤ 40 := by rw [← hty]; exact letter_join_len x
    dsimp only [WKws, kwNames]
    refine WCall_joinL hDl (join_ok hjl) ?_
    dsimp only [WKws, kwNames]
    refine ⟨.inl (Fq.at_.imp fun o e => ⟨_, e.1, e.2⟩), WCall_ref0 fun as ea => ?_⟩
    obtain ⟨u4, rfl, eu4⟩ := map_one ea
    refine W_pure (fun _ _ => C_quote (T := (Txt.join (Str.ofString "") (prep ty.cps.toList)).cps) B.G Fq mp1 mp2 mcr hp1 hp2 eu4 (by lia) (by lia)) fun n4 hn4 => ?_
    have hsent : (⟨(dotS true (crlfS false (Txt.join (Str.ofString "") (prep ty.cps.toList)).cps.toList)).toArray⟩ : Str) = td := by
      have e2 := letter_sent x
      rw [hty, htd] at e2
      rw [e2]
    rw [hsent]
    walk_at "t"
    dsimp only
    have hsub : Sub σ.H H2 := hs1.trans hs2
    have w1 : (m1.set "sent" (.str td)) "sent" = some (.str td) := by walk_at "m"
    have w2 : (m1.set "sent" (.str td)) "told" = some (.str td) := by walk_at "m"
    revert w1 w2
    generalize m1.set "sent" (.str td) = m2
    intro w1 w2
    walk_at "t"
    walk_at "i"
    walk_at "e"
    walk_at "e"
    refine WC_neS ?_
    walk_at "o"
    refine ite_false' (by simp) ?_
    walk_at "t"
    dsimp only
    refine WS_cons (WS_Expr ?_ (by kernel_rfl!) (by kernel_rfl!))
    refine W_Method rfl rfl ?_ rfl
    refine W_Name (W_load_cell cell_cost (hsub _ _ h2) ?_ rfl (.inl (by kernel_rfl!))) (by decide +kernel)
    refine WM_list (hsub _ _ h3) PySem.F.slot_list_append PySem.F.type_list_append ?_
    dsimp only [WArgs]
    refine W_Call rfl rfl ?_ rfl
    refine W_builtin B.G.g B.G.b (v := .builtin "len") (B.G.bi _ (.builtin "len") (by kernel_rfl!)).1 (B.G.bi _ (.builtin "len") (by kernel_rfl!)).2 ?_ (by walk_at "k") (by walk_at "k") (by walk_at "k") (by walk_at "k") (by decide +kernel)
    dsimp only [WArgs]
    walk_at "e"
    dsimp only [WKws, kwNames]
    refine ⟨trivial, WCall_lenS ?_ ?_⟩
    · refine WCall_append (hsub _ _ h3) hb (by rw [sizeLine_eq]; lia) ?_
      refine ⟨trivial, ?_⟩
      dsimp only
      refine WS_nil ?_
      refine h _ _ _ (fun a' o ha' e => (upd_ne ha').trans (hsub _ _ e)) ?_
      rw [upd_same, htd]
    · have e3 : td.cps.size ≤ 200 := by
        have e4 : (dotS true (crlfS false (Txt.join (Str.ofString "") (prep ty.cps.toList)).cps.toList)).length = td.cps.size := by rw [← hsent]; simp
        have l1 := crlf_len false (Txt.join (Str.ofString "") (prep ty.cps.toList)).cps.toList
        have l2 := dot_len true (crlfS false (Txt.join (Str.ofString "") (prep ty.cps.toList)).cps.toList)
        have l3 : (Txt.join (Str.ofString "") (prep ty.cps.toList)).cps.toList.length = (Txt.join (Str.ofString "") (prep ty.cps.toList)).cps.size := Array.length_toList
        lia
      rw [sizeLine_eq]; show td.cps.size ≤ _; lia
end
section
set_option maxRecDepth 100000
set_option linter.unusedVariables false
variable {base : Heap} {os : OsState} {H H' : HP} {n n' : Nat} {s s' : Shared} {prog : Program} {w : World} {A : Around} {L : Addr} {σ : St} {m : Loc} {env : Env} {Q : V → St → Prop} {R : Flow → St → Prop}
variable {dV kV doc pm cdv ct : Value} {an : Option Addr} {f : Addr} {mg mb : Str → Option Value}






-- what the loop keeps
inductive LettersJ (G : HP) (aC : Addr) (xs : List Nat) (rem : List V) (τ : St) : Prop
  | mk (f0 : (∀ a o, a ≠ aC → G a = some o → τ.H a = some o))
    (done : List Nat)
    (left : List Nat)
    (g0 : xs = done ++ left)
    (g1 : rem = left.map (fun x : Nat => V.int x))
    (g2 : τ.H aC = some (.list ((done.map fun x => (letterOf x).2.length).map fun x : Nat => V.int x))) : LettersJ G aC xs rem τ
theorem law_letters {xs : List Nat} {c19 P19 fL aN aC : Addr} (B : PLB w base mg mb c19 P19 fL) (F : Full base) (hh : A.handled = none) (hA : A.depth + 3 < recursionLimit) (hx : ∀ x ∈ xs, x < 2 ^ 60) (hlen : xs.length ≤ 63)
    (h0 : σ.m "numbers" = some (.ref aN)) (h1 : σ.H aN = some (.list (xs.map fun x : Nat => V.int x)))
    (h2 : σ.H (L + 7) = some (.cell (some (.ref aC)))) (h3 : σ.H aC = some (.list [])) (hb : base.objs.size ≤ aC) (hNC : aN ≠ aC)
    (h : ∀ m' H' n', (∀ a o, a ≠ aC → σ.H a = some o → H' a = some o) → H' aC = some (.list ((xs.map fun x => (letterOf x).2.length).map fun x : Nat => V.int x)) → WS PL w base os A L (lawFrom 4) (lawE doc pm cdv ct an L f) R ⟨m', H', n'⟩) :
    WS PL w base os A L (lawFrom 3) (lawE doc pm cdv ct an L f) R σ := by
  refine W.fact fun told hLn hHL hbL => ?_
  refine WS_cons (WS_For F hh ?_ (fun _ => rfl))
  walk_at "e"
  refine ⟨xs.map fun x : Nat => V.int x, _, ⟨srcList aN _⟩, h1, fun it hit hbit => ?_⟩
  have itne : ∀ a o, σ.H a = some o → a ≠ it := fun a o e => Nat.ne_of_lt (Nat.lt_of_lt_of_le (told _ _ e) hit)
  have hCL : L + 7 ≠ aC := by
    intro e
    rw [e, h3] at h2; cases h2
  refine ⟨LettersJ σ.H aC xs, fun o => ?_, ?_, ?_, ?_⟩
  · exact ⟨fun a p ha e => (upd_ne (itne _ _ e)).trans e, [], xs, rfl, rfl, (upd_ne (itne _ _ h3)).trans h3⟩
  · rintro rem τ o ⟨j1, done, left, j2, j3, j4⟩ ho
    have hCit : aC ≠ it := by
      intro e
      rw [e, ho] at j4; cases j4
    refine ⟨j1 _ _ hNC h1, fun o' => ⟨fun a p ha e => (upd_ne (itne _ _ e)).trans (j1 _ _ ha e), done, left, j2, j3, (upd_ne hCit).trans j4⟩⟩
  · rintro v rem τ o ⟨j1, done, left, j2, j3, j4⟩ ho
    cases left with
    | nil => cases j3
    | cons x left =>
      simp only [List.map_cons, List.cons.injEq] at j3
      obtain ⟨rfl, rfl⟩ := j3
      refine WA_Name (WSt_local ?_ (by walk_at "k") (by walk_at "k") (by walk_at "k"))
      have hitC : it ≠ aC := by
        intro e
        rw [← e, ho] at j4; cases j4
      refine law_letter1 (cs := (done.map fun x => (letterOf x).2.length).map fun x : Nat => V.int x) B F hh hA (hx x (by rw [j2]; simp)) (by walk_at "m") (j1 _ _ hCL h2) j4 hb (by rw [List.length_map, List.length_map]; have := congrArg List.length j2; simp at this; lia) fun m' H' n' k1 k2 => ?_
      refine ⟨k1 _ _ hitC ho, fun a p ha e => k1 _ _ ha (j1 _ _ ha e), done ++ [x], left, by rw [j2]; simp, rfl, ?_⟩
      exact k2.trans (by simp)
  · rintro τ n' o ⟨j1, done, left, j2, j3, j4⟩ ho
    have hl : left = [] := by
      cases left with
      | nil => rfl
      | cons _ _ => cases j3
    subst hl
    rw [List.append_nil] at j2
    subst j2
    have hCit : aC ≠ it := by
      intro e
      rw [e, ho] at j4; cases j4
    exact h _ _ _ (fun a p ha e => (del_ne (itne _ _ e)).trans (j1 _ _ ha e)) ((del_ne hCit).trans j4)
end
section
set_option maxRecDepth 100000
set_option linter.unusedVariables false
variable {base : Heap} {os : OsState} {H H' : HP} {n n' : Nat} {s s' : Shared} {prog : Program} {w : World} {A : Around} {L : Addr} {σ : St} {m : Loc} {env : Env} {Q : V → St → Prop} {R : Flow → St → Prop}
variable {dV kV doc pm cdv ct : Value} {an : Option Addr} {f : Addr} {mg mb : Str → Option Value}






theorem law_rows {script : List Int} {aS : Addr} (G : Gl base mg mb) (F : Full base) (hh : A.handled = none) (h1 : σ.H (L + 1) = some (.cell (some (.ref aS)))) (h2 : σ.H aS = some (.list (script.map V.int))) (hlen : script.length ≤ 63)
    (h3 : σ.H (L + 4) = some (.cell none)) (h4 : σ.H (L + 5) = some (.cell none))
    (h : ∀ aR aK aW t0 m' H' n' left, σ.n ≤ aR → aR < aK → aK < t0 → t0 < aW → m' "left" = some (.bool left) → m' "row" = some (.ref aR) → (∀ a o, a ≠ L + 4 → a ≠ L + 5 → σ.H a = some o → H' a = some o) →
      H' aR = some (.list []) → H' (L + 4) = some (.cell (some (.ref aK))) → H' aK = some (.list []) → H' (L + 5) = some (.cell (some (.ref aW))) → H' aW = some (.list [.ref t0]) → H' t0 = some (.tup [.int 0, .int 0]) →
      WS prog w base os A L (lawFrom 5) (lawE doc pm cdv ct an L f) R ⟨m', H', n'⟩) :
    WS prog w base os A L (lawFrom 4) (lawE doc pm cdv ct an L f) R σ := by
  refine W.fact fun told hLn hHL hbL => ?_
  refine WS_cons (WS_AssignT ?_ (by kernel_rfl!) (by kernel_rfl!))
  refine W_Tuple rfl ?_
  dsimp only [WArgs]
  walk_at "e"
  walk_at "e"
  refine W_Call rfl rfl ?_ rfl
  refine W_builtin G.g G.b (v := .builtin "len") (G.bi _ (.builtin "len") (by kernel_rfl!)).1 (G.bi _ (.builtin "len") (by kernel_rfl!)).2 ?_ (by walk_at "k") (by walk_at "k") (by walk_at "k") (by walk_at "k") (by decide +kernel)
  dsimp only [WArgs]
  refine W_Name (W_load_cell cell_script h1 ?_ rfl (.inl (by kernel_rfl!))) (by decide +kernel)
  dsimp only [WKws, kwNames]
  refine ⟨trivial, WCall_len h2 ?_ (by rw [List.length_map, sizeLine_eq]; lia)⟩
  walk_at "e"
  refine WB_mod ?_ (by decide)
  walk_at "e"
  refine WC_eq ?_
  refine W_List rfl ?_
  dsimp only [WArgs]
  refine ⟨by show 0 ≤ _; lia, fun aR haR => ?_⟩
  refine W_List rfl ?_
  dsimp only [WArgs]
  refine ⟨by show 0 ≤ _; lia, fun aK haK => ?_⟩
  refine W_List rfl ?_
  dsimp only [WArgs]
  refine W_Tuple rfl ?_
  dsimp only [WArgs]
  walk_at "e"
  walk_at "e"
  refine ⟨by show 2 ≤ _; decide, fun t0 ht0 => ?_⟩
  refine ⟨by show 1 ≤ _; decide, fun aW haW => ?_⟩
  refine ⟨by show 4 ≤ _; decide, fun tt htt => ?_⟩
  refine WA_Tuple F rfl hh (upd_same _ _ _) rfl fun n2 => ?_
  dsimp only [WAs]
  have l1 : aR < aK := haK
  have l2 : aK < t0 := ht0
  have l3 : t0 < aW := haW
  have l4 : aW < tt := htt
  have c4 : L + 4 < σ.n := told _ _ h3
  have c5 : L + 5 < σ.n := told _ _ h4
  have n45 : L + 4 ≠ L + 5 := Nat.ne_of_lt (by lia)
  have low : ∀ a, a < σ.n → a ≠ aR ∧ a ≠ aK ∧ a ≠ t0 ∧ a ≠ aW ∧ a ≠ tt := fun a ha =>
    have hR : a < aR := Nat.lt_of_lt_of_le ha haR
    ⟨Nat.ne_of_lt hR, Nat.ne_of_lt (Nat.lt_trans hR l1), Nat.ne_of_lt (Nat.lt_trans (Nat.lt_trans hR l1) l2), Nat.ne_of_lt (Nat.lt_trans (Nat.lt_trans (Nat.lt_trans hR l1) l2) l3), Nat.ne_of_lt (Nat.lt_trans (Nat.lt_trans (Nat.lt_trans (Nat.lt_trans hR l1) l2) l3) l4)⟩
  generalize hH1 : upd (upd (upd (upd (upd σ.H aR (.list [])) aK (.list [])) t0 (.tup [.int 0, .int 0])) aW (.list [.ref t0])) tt (.tup [_, .ref aR, .ref aK, .ref aW]) = H1
  have k1 : ∀ a o, σ.H a = some o → H1 a = some o := fun a o e => by
    obtain ⟨a1, a2, a3, a4, a5⟩ := low a (told _ _ e)
    subst hH1
    exact (upd_ne a5).trans ((upd_ne a4).trans ((upd_ne a3).trans ((upd_ne a2).trans ((upd_ne a1).trans e))))
  have kR : H1 aR = some (.list []) := by
    subst hH1
    exact (upd_ne (Nat.ne_of_lt (by lia))).trans ((upd_ne (Nat.ne_of_lt (by lia))).trans ((upd_ne (Nat.ne_of_lt (by lia))).trans ((upd_ne (Nat.ne_of_lt l1)).trans (upd_same _ _ _))))
  have kK : H1 aK = some (.list []) := by
    subst hH1
    exact (upd_ne (Nat.ne_of_lt (by lia))).trans ((upd_ne (Nat.ne_of_lt (by lia))).trans ((upd_ne (Nat.ne_of_lt l2)).trans (upd_same _ _ _)))
  have kt : H1 t0 = some (.tup [.int 0, .int 0]) := by
    subst hH1
    exact (upd_ne (Nat.ne_of_lt (by lia))).trans ((upd_ne (Nat.ne_of_lt l3)).trans (upd_same _ _ _))
  have kW : H1 aW = some (.list [.ref t0]) := by
    subst hH1
    exact (upd_ne (Nat.ne_of_lt l4)).trans (upd_same _ _ _)
  refine WA_Name (WSt_local ?_ (by walk_at "k") (by walk_at "k") (by walk_at "k"))
  refine WA_Name (WSt_local ?_ (by walk_at "k") (by walk_at "k") (by walk_at "k"))
  dsimp only
  refine WA_Name (WSt_cell cell_kept (k1 _ _ h3) (Nat.le_trans hbL (Nat.le_add_right _ _)) ?_ (by walk_at "k") (by walk_at "k"))
  refine WA_Name (WSt_cell cell_ways ((upd_ne (Ne.symm n45)).trans (k1 _ _ h4)) (Nat.le_trans hbL (Nat.le_add_right _ _)) ?_ (by walk_at "k") (by walk_at "k"))
  dsimp only
  have new : ∀ a o, σ.n ≤ a → H1 a = some o → upd (upd H1 (L + 4) (.cell (some (.ref aK)))) (L + 5) (.cell (some (.ref aW))) a = some o := fun a o ha e =>
    (upd_ne (Nat.ne_of_gt (Nat.lt_of_lt_of_le c5 ha))).trans ((upd_ne (Nat.ne_of_gt (Nat.lt_of_lt_of_le c4 ha))).trans e)
  refine h aR aK aW t0 _ _ n2 _ haR l1 l2 l3 (by walk_at "m") (by walk_at "m") (fun a o q4 q5 e => (upd_ne q5).trans ((upd_ne q4).trans (k1 _ _ e))) (new _ _ haR kR) ((upd_ne n45).trans (upd_same _ _ _)) (new _ _ (by lia) kK) (upd_same _ _ _) (new _ _ (by lia) kW) (new _ _ (by lia) kt)
end
section
set_option linter.unusedVariables false
/-! The row of the letters: sorted by due, like ones by their number (or against it). -/
noncomputable def Before (left : Bool) (D : Nat → Int) (a b : Nat) : Prop := D a < D b ∨ (D a = D b ∧ (if left then b < a else a < b))
theorem before_le {left : Bool} {D : Nat → Int} {a b : Nat} (h : Before left D a b) : D a ≤ D b := by
  rcases h with h | h
  · lia
  · lia
theorem insert_pair {α : Type} {R : α → α → Prop} {l : List α} {x : α} {r : Nat} (h : l.Pairwise R) (h1 : ∀ a ∈ l.take r, R a x) (h2 : ∀ b ∈ l.drop r, R x b) : (l.take r ++ x :: l.drop r).Pairwise R := by
  have h' : (l.take r ++ l.drop r).Pairwise R := by rw [List.take_append_drop]; exact h
  rw [List.pairwise_append] at h' ⊢
  refine ⟨h'.1, List.pairwise_cons.mpr ⟨h2, h'.2.1⟩, fun a ha b hb => ?_⟩
  rcases List.mem_cons.mp hb with rfl | hb
  · exact h1 a ha
  · exact h'.2.2 a ha b hb
theorem insert_perm {α : Type} {l : List α} {x : α} {r : Nat} : (l.take r ++ x :: l.drop r).Perm (x :: l) := by
  have := List.perm_middle (a := x) (l₁ := l.take r) (l₂ := l.drop r)
  rwa [List.take_append_drop] at this
structure RowOk (left : Bool) (D : Nat → Int) (k : Nat) (row : List Nat) : Prop where
  perm : row.Perm (List.range k)
  pair : row.Pairwise (Before left D)
theorem RowOk.lt {left : Bool} {D : Nat → Int} {k : Nat} {row : List Nat} (h : RowOk left D k row) {a : Nat} (ha : a ∈ row) : a < k := List.mem_range.mp (h.perm.mem_iff.mp ha)
theorem RowOk.len {left : Bool} {D : Nat → Int} {k : Nat} {row : List Nat} (h : RowOk left D k row) : row.length = k := by rw [h.perm.length_eq, List.length_range]
theorem RowOk.nil (left : Bool) (D : Nat → Int) : RowOk left D 0 [] := ⟨.refl _, .nil⟩
theorem get_mem_take {α : Type} {l : List α} {r : Nat} {a : α} (h : a ∈ l.take r) : ∃ i, i < r ∧ l[i]? = some a := by
  obtain ⟨i, hi, rfl⟩ := List.mem_iff_getElem.mp h
  rw [List.length_take] at hi
  exact ⟨i, by lia, by rw [List.getElem_take]; exact List.getElem?_eq_getElem (by lia)⟩
theorem get_mem_drop {α : Type} {l : List α} {r : Nat} {a : α} (h : a ∈ l.drop r) : ∃ i, r ≤ i ∧ l[i]? = some a := by
  obtain ⟨i, hi, rfl⟩ := List.mem_iff_getElem.mp h
  rw [List.length_drop] at hi
  exact ⟨r + i, by lia, by rw [List.getElem_drop]; exact List.getElem?_eq_getElem (by lia)⟩
theorem RowOk.right {D : Nat → Int} {k r : Nat} {row : List Nat} (h : RowOk false D k row) (h1 : ∀ i a, i < r → row[i]? = some a → ¬ D k < D a) (h2 : ∀ i a, r ≤ i → row[i]? = some a → D k < D a) : RowOk false D (k + 1) (row.take r ++ k :: row.drop r) := by
  refine ⟨insert_perm.trans ?_, insert_pair h.pair (fun a ha => ?_) fun b hb => ?_⟩
  · rw [List.range_succ]
    exact (h.perm.cons k).trans (List.perm_append_singleton k _).symm
  · obtain ⟨i, hi, e⟩ := get_mem_take ha
    have := h1 i a hi e
    have hlt := h.lt (List.mem_of_mem_take ha)
    unfold Before
    simp
    lia
  · obtain ⟨i, hi, e⟩ := get_mem_drop hb
    exact .inl (h2 i b hi e)
theorem RowOk.left' {D : Nat → Int} {k r : Nat} {row : List Nat} (h : RowOk true D k row) (h1 : ∀ i a, i < r → row[i]? = some a → D a < D k) (h2 : ∀ i a, r ≤ i → row[i]? = some a → ¬ D a < D k) : RowOk true D (k + 1) (row.take r ++ k :: row.drop r) := by
  refine ⟨insert_perm.trans ?_, insert_pair h.pair (fun a ha => ?_) fun b hb => ?_⟩
  · rw [List.range_succ]
    exact (h.perm.cons k).trans (List.perm_append_singleton k _).symm
  · obtain ⟨i, hi, e⟩ := get_mem_take ha
    exact .inl (h1 i a hi e)
  · obtain ⟨i, hi, e⟩ := get_mem_drop hb
    have := h2 i b hi e
    have hlt := h.lt (List.mem_of_mem_drop hb)
    unfold Before
    simp
    lia
theorem pair_get {α : Type} {R : α → α → Prop} {l : List α} (h : l.Pairwise R) {i j : Nat} {a b : α} (hij : i < j) (ha : l[i]? = some a) (hb : l[j]? = some b) : R a b := by
  rw [List.pairwise_iff_getElem] at h
  obtain ⟨hi, rfl⟩ := List.getElem?_eq_some_iff.mp ha
  obtain ⟨hj, rfl⟩ := List.getElem?_eq_some_iff.mp hb
  exact h i j hi hj hij
-- the sorted range is this row
theorem sorted_is_row {left : Bool} {D : Nat → Int} {row : List Nat} {out its : List Int} {inv : Int → Nat} (h : RowOk left D 6 row) (hp : out.Perm its) (ho : Ordered1 (fun i => D i.toNat) inv out) (hits : its.Perm ((List.range 6).map fun (j : Nat) => (j : Int)))
    (hinv : ∀ a b : Nat, a < 6 → b < 6 → (inv a < inv b ↔ (if left then b < a else a < b))) : row.map (fun (j : Nat) => (j : Int)) = out := by
  have hrow : (row.map fun (j : Nat) => (j : Int)).Perm out := (h.perm.map _).trans (hits.symm.trans hp.symm)
  refine List.Perm.eq_of_pairwise (le := fun p q : Int => D p.toNat < D q.toNat ∨ (D p.toNat = D q.toNat ∧ inv p < inv q)) (fun a b _ _ h1 h2 => ?_) ?_ ?_ hrow
  · exfalso
    rcases h1 with h1 | h1 <;> rcases h2 with h2 | h2 <;> lia
  · rw [List.pairwise_map]
    refine h.pair.imp_of_mem fun {a b} ha hb hab => ?_
    show D (a : Int).toNat < D (b : Int).toNat ∨ _
    rw [Int.toNat_natCast, Int.toNat_natCast]
    rcases hab with hab | hab
    · exact .inl hab
    · exact .inr ⟨hab.1, (hinv a b (h.lt ha) (h.lt hb)).mpr hab.2⟩
  · rw [List.pairwise_iff_getElem]
    intro i j hi hj hij
    exact ho i j _ _ hij (List.getElem?_eq_getElem hi) (List.getElem?_eq_getElem hj)
end
section
set_option maxRecDepth 100000
set_option linter.unusedVariables false
variable {base : Heap} {os : OsState} {H H' : HP} {n n' : Nat} {s s' : Shared} {prog : Program} {w : World} {A : Around} {L : Addr} {σ : St} {m : Loc} {env : Env} {Q : V → St → Prop} {R : Flow → St → Prop}
variable {dV kV doc pm cdv ct : Value} {an : Option Addr} {f : Addr} {mg mb : Str → Option Value}






theorem Tab.move {H H' : HP} {Pl : Addr} {Kp Kp' : Addr → Prop} {q : Str} {ps₀ : Array Value} (h : Tab H Pl Kp q ps₀) (hs : ∀ b ob, Kp b → b ≠ Pl → H b = some (.raw ob) → H' b = some (.raw ob) ∧ Kp' b) (hP : ∀ ob, H Pl = some (.raw ob) → H' Pl = some (.raw ob)) : Tab H' Pl Kp' q ps₀ :=
  let ⟨more, a, b, c⟩ := h.at_
  ⟨more, hP _ a, b, fun pos => (c pos).imp id fun ⟨c', oc, vs, t, a, k, b0, b, r⟩ => ⟨c', oc, vs, t, a, (hs _ _ k b0 b).2, b0, (hs _ _ k b0 b).1, r⟩⟩
noncomputable abbrev lamQ : Str := (lawE .none .none .none .none none 0 0).qual ++ Str.ofString "<lambda>"
noncomputable def Dof (ds : List Nat) (j : Nat) : Int := (((ds[j]?).getD 0 : Nat) : Int)
theorem Dof_some {ds : List Nat} {j : Nat} (h : j < ds.length) : (ds.map fun x : Nat => V.int x)[j]? = some (.int (Dof ds j)) := by
  unfold Dof
  rw [List.getElem?_map, List.getElem?_eq_getElem h]; rfl
noncomputable abbrev rowB : List Stmt := forB ((lawFrom 5).headD (.Pass ⟨0, 0, 0, 0⟩))
-- one letter laid into the row
theorem law_row1 {c19 P19 fL aR aD : Addr} {row ds : List Nat} {k : Nat} {left : Bool} {Kp : Addr → Prop} (B : PLB w base mg mb c19 P19 fL) (F : Full base) (hh : A.handled = none) (hA : A.depth + 4 < recursionLimit) (hds : ds.length = 6) (hk : k < 6)
    (h0 : σ.m "left" = some (.bool left)) (h1 : σ.m "row" = some (.ref aR)) (h2 : σ.H (L + 3) = some (.cell (some (.int k)))) (h3 : σ.H aR = some (.list (row.map fun x : Nat => V.int x))) (hb : base.objs.size ≤ aR)
    (h4 : σ.H (L + 8) = some (.cell (some (.ref aD)))) (h5 : σ.H aD = some (.list (ds.map fun x : Nat => V.int x))) (hRD : aR ≠ aD)
    (hT : Tab σ.H P19 Kp lamQ #[]) (hKp : ∀ c, σ.n ≤ c → Kp c) (hrow : RowOk left (Dof ds) k row)
    (h : ∀ row' H' n', RowOk left (Dof ds) (k + 1) row' → (∀ a o, a ≠ aR → a ≠ P19 → σ.H a = some o → H' a = some o) → H' aR = some (.list (row'.map fun x : Nat => V.int x)) → Tab H' P19 Kp lamQ #[] → R .next ⟨σ.m, H', n'⟩) :
    WS PL w base os A L rowB (lawE doc pm (.ref c19) ct an L f) R σ := by
  refine Classical.byContradiction fun hneg1_ => ?_
  obtain ⟨fi, T1, D1, dd1, pp1, aa1, cd1, ct1, mi1, Fi1, hT1⟩ := B.insR
  obtain ⟨fb, T2, D2, dd2, pp2, aa2, cd2, ct2, mi2, Fi2, hT2⟩ := B.bisR
  obtain ⟨fj, T3, D3, dd3, pp3, aa3, cd3, ct3, mi3, Fi3, hT3⟩ := B.insL
  obtain ⟨fc, T4, D4, dd4, pp4, aa4, cd4, ct4, mi4, Fi4, hT4⟩ := B.bisL
  refine hneg1_ ?_
  have hPd : σ.H P19 ≠ none := by obtain ⟨more, e, _⟩ := hT.at_; rw [e]; intro q; cases q
  have hPR : aR ≠ P19 := by
    obtain ⟨more, e, _⟩ := hT.at_
    intro q; rw [q, e] at h3; cases h3
  have hPD : aD ≠ P19 := by
    obtain ⟨more, e, _⟩ := hT.at_
    intro q; rw [q, e] at h5; cases h5
  have hP8 : L + 8 ≠ P19 := by
    obtain ⟨more, e, _⟩ := hT.at_
    intro q; rw [q, e] at h4; cases h4
  have h8R : L + 8 ≠ aR := by
    intro q; rw [q, h3] at h4; cases h4
  have hlen : row.length = k := hrow.len
  have hget : ∀ i v, (row.map fun x : Nat => V.int x)[i]? = some v → ∃ j : Nat, row[i]? = some j ∧ v = V.int j ∧ j < 6 := fun i v e => by
    rw [List.getElem?_map] at e
    obtain ⟨j, hj, rfl⟩ := Option.map_eq_some_iff.mp e
    exact ⟨j, hj, rfl, Nat.lt_trans (hrow.lt (List.mem_of_getElem? hj)) hk⟩
  have hkey : ∀ i j : Nat, row[i]? = some j → Dof ds ((row[i]?).getD 0) = Dof ds j := fun i j e => by rw [e]; rfl
  have hmono : ∀ i j, i ≤ j → j < (row.map fun x : Nat => V.int x).length → Dof ds ((row[i]?).getD 0) ≤ Dof ds ((row[j]?).getD 0) := fun i j hij hj => by
    rw [List.length_map] at hj
    rcases Nat.eq_or_lt_of_le hij with rfl | hij
    · exact Int.le_refl _
    · have hi := List.getElem?_eq_getElem (Nat.lt_trans hij hj)
      have hj' := List.getElem?_eq_getElem hj
      rw [hi, hj']
      exact before_le (pair_get hrow.pair hij hi hj')
  refine W.fact fun told hLn hHL hbL => ?_
  refine WS_cons (WS_If ?_)
  walk_at "i"
  walk_at "e"
  walk_at "o"
  cases left with
  | true =>
    simp only [if_true]
    refine WS_cons (WS_Expr ?_ (by kernel_rfl!) (by kernel_rfl!))
    refine W_Call rfl rfl ?_ rfl
    refine W_global B.G.g mi3 ?_ (by walk_at "k") (by walk_at "k") (by walk_at "k") (by decide +kernel)
    dsimp only [WArgs]
    walk_at "e"
    refine W_Name (W_load_cell cell_k h2 ?_ rfl (.inl (by kernel_rfl!))) (by decide +kernel)
    dsimp only [WKws]
    refine W_Lambda (cl := [("due", L + 8)]) F rfl rfl (by kernel_rfl!) rfl B.code hT hKp B.G.g B.blt ?_
    intro g H1 n1 ct' cd' hg k1 k2 hT1' hF
    dsimp only [kwNames]
    refine ⟨.inl (Fi3.at_.imp fun o e => ⟨_, e.1, e.2⟩), fun f' as ks' ef ea ek => ?_⟩
    refine Classical.byContradiction fun hneg2_ => ?_
    obtain ⟨u1, u2, rfl, eu1, eu2⟩ := map_two ea
    obtain ⟨u3, rfl, eu3⟩ := map_one ek
    have ef' : f' = .ref fj := er_ref.mp ef
    subst ef'
    refine hneg2_ ?_
    have hR1 := k1 _ _ hPR h3
    have hD1 := k1 _ _ hPD h5
    have h81 := k1 _ _ hP8 h4
    refine W_turnP (v := .none) (P := fun o => ∃ r : Nat, o = .list ((row.map fun x : Nat => V.int x).take r ++ V.int k :: (row.map fun x : Nat => V.int x).drop r) ∧ r ≤ (row.map fun x : Nat => V.int x).length ∧ Parts (fun i => !decide (Dof ds ((row[i]?).getD 0) < Dof ds k)) 0 (row.map fun x : Nat => V.int x).length r) hR1 (fun ne l1 l2 => ?_) fun o n' ho hn' => ?_
    · have hs1 : Sub H1 (upd H1 L (.ns σ.m)) := fun a o e => upd_sub l2 a o e
      refine C_insL_key (d := 1) (vs := (row.map fun x : Nat => V.int x)) (ks := fun i => Dof ds ((row[i]?).getD 0)) (kx := Dof ds k) B.G Fi3 hT3 Fi4 hT4 mi4 eu1 eu2 eu3 ?_ ?_ ?_ (by show A.depth + 1 + 2 < _; lia) hh (hs1 _ _ hR1) hb (by rw [List.length_map, hlen, sizeLine_eq]; lia) ?_
      · refine KeyOk_one B.G.lim (hF.sub hs1) (by decide +kernel) (by decide +kernel) (by decide +kernel) (by kernel_rfl!) (hs1 _ _ h81) (hs1 _ _ hD1) (by rw [List.length_map]; lia) fun i v hi => ?_
        obtain ⟨j, hj, hv, hj6⟩ := hget i v hi
        exact ⟨j, hv, by rw [hkey i j hj]; exact Dof_some (by lia)⟩
      · refine KeyOk_one B.G.lim (hF.sub hs1) (by decide +kernel) (by decide +kernel) (by decide +kernel) (by kernel_rfl!) (hs1 _ _ h81) (hs1 _ _ hD1) (by rw [List.length_map]; lia) fun i v hi => ?_
        cases i with
        | zero => exact ⟨k, (Option.some.inj hi).symm, Dof_some (by lia)⟩
        | succ i => cases hi
      · exact (hF.sub hs1).callee
      · intro i j _ hij hj hp
        have := hmono i j hij hj
        simp only [Bool.not_eq_true', decide_eq_false_iff_not] at hp ⊢
        lia
    · obtain ⟨r, rfl, hr, hparts⟩ := ho
      have hrl : r ≤ row.length := by rw [List.length_map] at hr; exact hr
      refine ⟨trivial, ?_⟩
      refine WS_nil ?_
      dsimp only
      refine WS_nil ?_
      refine h (row.take r ++ k :: row.drop r) _ n' (hrow.left' (fun i a hi e => ?_) fun i a hi e => ?_) (fun a p ha hp e => (upd_ne ha).trans (k1 _ _ hp e)) ?_ (hT1'.move (fun b ob hkb hbp e => ?_) fun ob e => (upd_ne (Ne.symm hPR)).trans e)
      · have := hparts.2.2.1 i (Nat.zero_le _) hi
        simp only [Bool.not_eq_false', decide_eq_true_eq] at this
        rw [hkey i a e] at this; exact this
      · have hil : i < (row.map fun x : Nat => V.int x).length := by
          rw [List.length_map]
          exact (List.getElem?_eq_some_iff.mp e).1
        have := hparts.2.2.2 i hi hil
        simp only [Bool.not_eq_true', decide_eq_false_iff_not] at this
        rw [hkey i a e] at this; exact this
      · show upd H1 aR _ aR = _
        rw [upd_same, List.map_append, List.map_cons, List.map_take, List.map_drop]
      · refine ⟨(upd_ne ?_).trans e, hkb⟩
        intro q; rw [q, hR1] at e; cases e
  | false =>
    simp only [Bool.false_eq_true, if_false]
    refine WS_cons (WS_Expr ?_ (by kernel_rfl!) (by kernel_rfl!))
    refine W_Call rfl rfl ?_ rfl
    refine W_global B.G.g mi1 ?_ (by walk_at "k") (by walk_at "k") (by walk_at "k") (by decide +kernel)
    dsimp only [WArgs]
    walk_at "e"
    refine W_Name (W_load_cell cell_k h2 ?_ rfl (.inl (by kernel_rfl!))) (by decide +kernel)
    dsimp only [WKws]
    refine W_Lambda (cl := [("due", L + 8)]) F rfl rfl (by kernel_rfl!) rfl B.code hT hKp B.G.g B.blt ?_
    intro g H1 n1 ct' cd' hg k1 k2 hT1' hF
    dsimp only [kwNames]
    refine ⟨.inl (Fi1.at_.imp fun o e => ⟨_, e.1, e.2⟩), fun f' as ks' ef ea ek => ?_⟩
    refine Classical.byContradiction fun hneg3_ => ?_
    obtain ⟨u1, u2, rfl, eu1, eu2⟩ := map_two ea
    obtain ⟨u3, rfl, eu3⟩ := map_one ek
    have ef' : f' = .ref fi := er_ref.mp ef
    subst ef'
    refine hneg3_ ?_
    have hR1 := k1 _ _ hPR h3
    have hD1 := k1 _ _ hPD h5
    have h81 := k1 _ _ hP8 h4
    refine W_turnP (v := .none) (P := fun o => ∃ r : Nat, o = .list ((row.map fun x : Nat => V.int x).take r ++ V.int k :: (row.map fun x : Nat => V.int x).drop r) ∧ r ≤ (row.map fun x : Nat => V.int x).length ∧ Parts (fun i => decide (Dof ds k < Dof ds ((row[i]?).getD 0))) 0 (row.map fun x : Nat => V.int x).length r) hR1 (fun ne l1 l2 => ?_) fun o n' ho hn' => ?_
    · have hs1 : Sub H1 (upd H1 L (.ns σ.m)) := fun a o e => upd_sub l2 a o e
      refine C_insR_key (d := 1) (vs := (row.map fun x : Nat => V.int x)) (ks := fun i => Dof ds ((row[i]?).getD 0)) (kx := Dof ds k) B.G Fi1 hT1 Fi2 hT2 mi2 eu1 eu2 eu3 ?_ ?_ ?_ (by show A.depth + 1 + 2 < _; lia) hh (hs1 _ _ hR1) hb (by rw [List.length_map, hlen, sizeLine_eq]; lia) ?_
      · refine KeyOk_one B.G.lim (hF.sub hs1) (by decide +kernel) (by decide +kernel) (by decide +kernel) (by kernel_rfl!) (hs1 _ _ h81) (hs1 _ _ hD1) (by rw [List.length_map]; lia) fun i v hi => ?_
        obtain ⟨j, hj, hv, hj6⟩ := hget i v hi
        exact ⟨j, hv, by rw [hkey i j hj]; exact Dof_some (by lia)⟩
      · refine KeyOk_one B.G.lim (hF.sub hs1) (by decide +kernel) (by decide +kernel) (by decide +kernel) (by kernel_rfl!) (hs1 _ _ h81) (hs1 _ _ hD1) (by rw [List.length_map]; lia) fun i v hi => ?_
        cases i with
        | zero => exact ⟨k, (Option.some.inj hi).symm, Dof_some (by lia)⟩
        | succ i => cases hi
      · exact (hF.sub hs1).callee
      · intro i j _ hij hj hp
        have := hmono i j hij hj
        simp only [decide_eq_true_eq] at hp ⊢
        lia
    · obtain ⟨r, rfl, hr, hparts⟩ := ho
      have hrl : r ≤ row.length := by rw [List.length_map] at hr; exact hr
      refine ⟨trivial, ?_⟩
      refine WS_nil ?_
      dsimp only
      refine WS_nil ?_
      refine h (row.take r ++ k :: row.drop r) _ n' (hrow.right (fun i a hi e => ?_) fun i a hi e => ?_) (fun a p ha hp e => (upd_ne ha).trans (k1 _ _ hp e)) ?_ (hT1'.move (fun b ob hkb hbp e => ?_) fun ob e => (upd_ne (Ne.symm hPR)).trans e)
      · have := hparts.2.2.1 i (Nat.zero_le _) hi
        simp only [decide_eq_false_iff_not] at this
        rw [hkey i a e] at this; exact this
      · have hil : i < (row.map fun x : Nat => V.int x).length := by
          rw [List.length_map]
          exact (List.getElem?_eq_some_iff.mp e).1
        have := hparts.2.2.2 i hi hil
        simp only [decide_eq_true_eq] at this
        rw [hkey i a e] at this; exact this
      · show upd H1 aR _ aR = _
        rw [upd_same, List.map_append, List.map_cons, List.map_take, List.map_drop]
      · refine ⟨(upd_ne ?_).trans e, hkb⟩
        intro q; rw [q, hR1] at e; cases e
end
section
set_option maxRecDepth 100000
set_option linter.unusedVariables false
variable {base : Heap} {os : OsState} {H H' : HP} {n n' : Nat} {s s' : Shared} {prog : Program} {w : World} {A : Around} {L : Addr} {σ : St} {m : Loc} {env : Env} {Q : V → St → Prop} {R : Flow → St → Prop}
variable {dV kV doc pm cdv ct : Value} {an : Option Addr} {f : Addr} {mg mb : Str → Option Value}







-- what the loop over the row stands on
structure RS (H : HP) (N : Nat) (L aK aW aC aD : Addr) (k : Nat) (cs ds kept : List Nat) (ws : List (Int × Int)) : Prop where
  c3 : H (L + 3) = some (.cell (some (.int k)))
  c4 : H (L + 4) = some (.cell (some (.ref aK)))
  c5 : H (L + 5) = some (.cell (some (.ref aW)))
  c7 : H (L + 7) = some (.cell (some (.ref aC)))
  c8 : H (L + 8) = some (.cell (some (.ref aD)))
  hK : H aK = some (.list (kept.map fun x : Nat => V.int x))
  hW : ∃ ys, H aW = some (.list ys) ∧ All H (ws.map pairY) ys
  hC : H aC = some (.list (cs.map fun x : Nat => V.int x))
  hD : H aD = some (.list (ds.map fun x : Nat => V.int x))
  nKW : aK ≠ aW
  nKC : aK ≠ aC
  nKD : aK ≠ aD
  nWC : aW ≠ aC
  nWD : aW ≠ aD
  bK : N ≤ aK
  bW : N ≤ aW
theorem All.tups {H H' : HP} (k : ∀ a vs, H a = some (.tup vs) → H' a = some (.tup vs)) {Zs : List Y} {ys : List V} (h : All H Zs ys) : All H' Zs ys := by
  induction h with
  | nil => exact .nil
  | cons a _ ih => exact .cons (a.mono k) ih
theorem RS.move {H H' : HP} {N : Nat} {L aK aW aC aD : Addr} {k : Nat} {cs ds kept kept' : List Nat} {ws : List (Int × Int)} (S : RS H N L aK aW aC aD k cs ds kept ws) (hs : ∀ a o, a ≠ aK → (∀ ob, o ≠ .raw ob) → H a = some o → H' a = some o)
    (hK' : H' aK = some (.list (kept'.map fun x : Nat => V.int x))) : RS H' N L aK aW aC aD k cs ds kept' ws := by
  have n : ∀ a v, H a = some (.cell v) → a ≠ aK := fun a v e q => by rw [q, S.hK] at e; cases e
  have nt : ∀ a vs, H a = some (.tup vs) → a ≠ aK := fun a v e q => by rw [q, S.hK] at e; cases e
  have c : ∀ a v, H a = some (.cell v) → H' a = some (.cell v) := fun a v e => hs _ _ (n a v e) (fun _ q => by cases q) e
  have l : ∀ a v, a ≠ aK → H a = some (.list v) → H' a = some (.list v) := fun a v q e => hs _ _ q (fun _ q => by cases q) e
  obtain ⟨ys, e1, e2⟩ := S.hW
  exact ⟨c _ _ S.c3, c _ _ S.c4, c _ _ S.c5, c _ _ S.c7, c _ _ S.c8, hK', ⟨ys, l _ _ (Ne.symm S.nKW) e1, e2.tups fun a vs e => hs _ _ (nt a vs e) (fun _ q => by cases q) e⟩, l _ _ (Ne.symm S.nKC) S.hC, l _ _ (Ne.symm S.nKD) S.hD, S.nKW, S.nKC, S.nKD, S.nWC, S.nWD, S.bK, S.bW⟩
theorem RS.sub {H H' : HP} {N : Nat} {L aK aW aC aD : Addr} {k : Nat} {cs ds kept : List Nat} {ws : List (Int × Int)} (S : RS H N L aK aW aC aD k cs ds kept ws) (hs : Sub H H') : RS H' N L aK aW aC aD k cs ds kept ws :=
  S.move (fun _ _ _ _ e => hs _ _ e) (hs _ _ S.hK)
theorem Tab.ne {H : HP} {P : Addr} {Kp : Addr → Prop} {q : Str} {ps : Array Value} (h : Tab H P Kp q ps) {a : Addr} {o : O} (ho : ∀ ob, o ≠ .raw ob) (e : H a = some o) : a ≠ P := fun q => by
  obtain ⟨more, e', _⟩ := h.at_
  rw [q, e'] at e
  exact ho _ (Option.some.inj e).symm
noncomputable abbrev keepB : List Stmt := forB ((lawFrom 7).headD (.Pass ⟨0, 0, 0, 0⟩))
noncomputable abbrev keepAt (i : Nat) : List Stmt := keepB.drop i
-- the letter is laid among the kept ones
theorem law_keep0 {c19 P19 fL aK aW aC aD : Addr} {kept ds cs : List Nat} {ws : List (Int × Int)} {k : Nat} {left : Bool} {Kp : Addr → Prop} (B : PLB w base mg mb c19 P19 fL) (F : Full base) (hh : A.handled = none) (hA : A.depth + 4 < recursionLimit) (hcs : cs.length = 6) (hk : k < 6)
    (h0 : σ.m "left" = some (.bool left)) (S : RS σ.H base.objs.size L aK aW aC aD k cs ds kept ws) (hlt : ∀ j ∈ kept, j < 6) (hlen : kept.length ≤ 6) (hsort : (kept.map (Dof cs)).Pairwise (· ≤ ·))
    (hT : Tab σ.H P19 Kp lamQ #[]) (hKp : ∀ c, σ.n ≤ c → Kp c)
    (h : ∀ r H' n', r ≤ kept.length → (∀ i j, i < r → kept[i]? = some j → Dof cs j ≤ Dof cs k) → (∀ i j, r ≤ i → kept[i]? = some j → Dof cs k ≤ Dof cs j) → (∀ a o, a ≠ aK → a ≠ P19 → σ.H a = some o → H' a = some o) →
      H' aK = some (.list ((kept.take r ++ k :: kept.drop r).map fun x : Nat => V.int x)) → Tab H' P19 Kp lamQ #[] → WS PL w base os A L (keepAt 1) (lawE doc pm (.ref c19) ct an L f) R ⟨σ.m, H', n'⟩) :
    WS PL w base os A L (keepAt 0) (lawE doc pm (.ref c19) ct an L f) R σ := by
  refine Classical.byContradiction fun hneg1_ => ?_
  obtain ⟨fi, T1, D1, dd1, pp1, aa1, cd1, ct1, mi1, Fi1, hT1⟩ := B.insR
  obtain ⟨fb, T2, D2, dd2, pp2, aa2, cd2, ct2, mi2, Fi2, hT2⟩ := B.bisR
  obtain ⟨fj, T3, D3, dd3, pp3, aa3, cd3, ct3, mi3, Fi3, hT3⟩ := B.insL
  obtain ⟨fc, T4, D4, dd4, pp4, aa4, cd4, ct4, mi4, Fi4, hT4⟩ := B.bisL
  refine hneg1_ ?_
  have hPK : aK ≠ P19 := hT.ne (fun _ q => by cases q) S.hK
  have hPC : aC ≠ P19 := hT.ne (fun _ q => by cases q) S.hC
  have hP7 : L + 7 ≠ P19 := hT.ne (fun _ q => by cases q) S.c7
  have hget : ∀ i v, (kept.map fun x : Nat => V.int x)[i]? = some v → ∃ j : Nat, kept[i]? = some j ∧ v = V.int j ∧ j < 6 := fun i v e => by
    rw [List.getElem?_map] at e
    obtain ⟨j, hj, rfl⟩ := Option.map_eq_some_iff.mp e
    exact ⟨j, hj, rfl, hlt j (List.mem_of_getElem? hj)⟩
  have hkey : ∀ i j : Nat, kept[i]? = some j → Dof cs ((kept[i]?).getD 0) = Dof cs j := fun i j e => by rw [e]; rfl
  have hmono : ∀ i j, i ≤ j → j < (kept.map fun x : Nat => V.int x).length → Dof cs ((kept[i]?).getD 0) ≤ Dof cs ((kept[j]?).getD 0) := fun i j hij hj => by
    rw [List.length_map] at hj
    rcases Nat.eq_or_lt_of_le hij with rfl | hij
    · exact Int.le_refl _
    · have hi := List.getElem?_eq_getElem (Nat.lt_trans hij hj)
      have hj' := List.getElem?_eq_getElem hj
      rw [hi, hj']
      have := pair_get hsort (i := i) (j := j) hij (a := Dof cs kept[i]) (b := Dof cs kept[j]) (by rw [List.getElem?_map, hi]; rfl) (by rw [List.getElem?_map, hj']; rfl)
      exact this
  refine W.fact fun told hLn hHL hbL => ?_
  refine WS_cons (WS_If ?_)
  walk_at "i"
  walk_at "e"
  walk_at "o"
  cases left with
  | true =>
    simp only [if_true]
    refine WS_cons (WS_Expr ?_ (by kernel_rfl!) (by kernel_rfl!))
    refine W_Call rfl rfl ?_ rfl
    refine W_global B.G.g mi3 ?_ (by walk_at "k") (by walk_at "k") (by walk_at "k") (by decide +kernel)
    dsimp only [WArgs]
    refine W_Name (W_load_cell cell_kept S.c4 ?_ rfl (.inl (by kernel_rfl!))) (by decide +kernel)
    refine W_Name (W_load_cell cell_k S.c3 ?_ rfl (.inl (by kernel_rfl!))) (by decide +kernel)
    dsimp only [WKws]
    refine W_Lambda (cl := [("cost", L + 7)]) F rfl rfl (by kernel_rfl!) rfl B.code hT hKp B.G.g B.blt ?_
    intro g H1 n1 ct' cd' hg k1 k2 hT1' hF
    dsimp only [kwNames]
    refine ⟨.inl (Fi3.at_.imp fun o e => ⟨_, e.1, e.2⟩), fun f' as ks' ef ea ek => ?_⟩
    refine Classical.byContradiction fun hneg2_ => ?_
    obtain ⟨u1, u2, rfl, eu1, eu2⟩ := map_two ea
    obtain ⟨u3, rfl, eu3⟩ := map_one ek
    have ef' : f' = .ref fj := er_ref.mp ef
    subst ef'
    refine hneg2_ ?_
    have hK1 := k1 _ _ hPK S.hK
    have hC1 := k1 _ _ hPC S.hC
    have h71 := k1 _ _ hP7 S.c7
    refine W_turnP (v := .none) (P := fun o => ∃ r : Nat, o = .list ((kept.map fun x : Nat => V.int x).take r ++ V.int k :: (kept.map fun x : Nat => V.int x).drop r) ∧ r ≤ (kept.map fun x : Nat => V.int x).length ∧ Parts (fun i => !decide (Dof cs ((kept[i]?).getD 0) < Dof cs k)) 0 (kept.map fun x : Nat => V.int x).length r) hK1 (fun ne l1 l2 => ?_) fun o n' ho hn' => ?_
    · have hs1 : Sub H1 (upd H1 L (.ns σ.m)) := fun a o e => upd_sub l2 a o e
      refine C_insL_key (d := 1) (vs := (kept.map fun x : Nat => V.int x)) (ks := fun i => Dof cs ((kept[i]?).getD 0)) (kx := Dof cs k) B.G Fi3 hT3 Fi4 hT4 mi4 eu1 eu2 eu3 ?_ ?_ ?_ (by show A.depth + 1 + 2 < _; lia) hh (hs1 _ _ hK1) S.bK (by rw [List.length_map, sizeLine_eq]; lia) ?_
      · refine KeyOk_one B.G.lim (hF.sub hs1) (by decide +kernel) (by decide +kernel) (by decide +kernel) (by kernel_rfl!) (hs1 _ _ h71) (hs1 _ _ hC1) (by rw [List.length_map]; lia) fun i v hi => ?_
        obtain ⟨j, hj, hv, hj6⟩ := hget i v hi
        exact ⟨j, hv, by rw [hkey i j hj]; exact Dof_some (by lia)⟩
      · refine KeyOk_one B.G.lim (hF.sub hs1) (by decide +kernel) (by decide +kernel) (by decide +kernel) (by kernel_rfl!) (hs1 _ _ h71) (hs1 _ _ hC1) (by rw [List.length_map]; lia) fun i v hi => ?_
        cases i with
        | zero => exact ⟨k, (Option.some.inj hi).symm, Dof_some (by lia)⟩
        | succ i => cases hi
      · exact (hF.sub hs1).callee
      · intro i j _ hij hj hp
        have := hmono i j hij hj
        simp only [Bool.not_eq_true', decide_eq_false_iff_not] at hp ⊢
        lia
    · obtain ⟨r, rfl, hr, hparts⟩ := ho
      have hrl : r ≤ kept.length := by rw [List.length_map] at hr; exact hr
      refine ⟨trivial, ?_⟩
      refine WS_nil ?_
      dsimp only
      refine h r _ n' hrl (fun i a hi e => ?_) (fun i a hi e => ?_) (fun a p ha hp e => (upd_ne ha).trans (k1 _ _ hp e)) ?_ (hT1'.move (fun b ob hkb hbp e => ?_) fun ob e => (upd_ne (Ne.symm hPK)).trans e)
      · have := hparts.2.2.1 i (Nat.zero_le _) hi
        simp only [Bool.not_eq_false', decide_eq_true_eq] at this
        rw [hkey i a e] at this; lia
      · have hil : i < (kept.map fun x : Nat => V.int x).length := by
          rw [List.length_map]
          exact (List.getElem?_eq_some_iff.mp e).1
        have := hparts.2.2.2 i hi hil
        simp only [Bool.not_eq_true', decide_eq_false_iff_not] at this
        rw [hkey i a e] at this; lia
      · show upd H1 aK _ aK = _
        rw [upd_same, List.map_append, List.map_cons, List.map_take, List.map_drop]
      · refine ⟨(upd_ne ?_).trans e, hkb⟩
        intro q; rw [q, hK1] at e; cases e
  | false =>
    simp only [Bool.false_eq_true, if_false]
    refine WS_cons (WS_Expr ?_ (by kernel_rfl!) (by kernel_rfl!))
    refine W_Call rfl rfl ?_ rfl
    refine W_global B.G.g mi1 ?_ (by walk_at "k") (by walk_at "k") (by walk_at "k") (by decide +kernel)
    dsimp only [WArgs]
    refine W_Name (W_load_cell cell_kept S.c4 ?_ rfl (.inl (by kernel_rfl!))) (by decide +kernel)
    refine W_Name (W_load_cell cell_k S.c3 ?_ rfl (.inl (by kernel_rfl!))) (by decide +kernel)
    dsimp only [WKws]
    refine W_Lambda (cl := [("cost", L + 7)]) F rfl rfl (by kernel_rfl!) rfl B.code hT hKp B.G.g B.blt ?_
    intro g H1 n1 ct' cd' hg k1 k2 hT1' hF
    dsimp only [kwNames]
    refine ⟨.inl (Fi1.at_.imp fun o e => ⟨_, e.1, e.2⟩), fun f' as ks' ef ea ek => ?_⟩
    refine Classical.byContradiction fun hneg3_ => ?_
    obtain ⟨u1, u2, rfl, eu1, eu2⟩ := map_two ea
    obtain ⟨u3, rfl, eu3⟩ := map_one ek
    have ef' : f' = .ref fi := er_ref.mp ef
    subst ef'
    refine hneg3_ ?_
    have hK1 := k1 _ _ hPK S.hK
    have hC1 := k1 _ _ hPC S.hC
    have h71 := k1 _ _ hP7 S.c7
    refine W_turnP (v := .none) (P := fun o => ∃ r : Nat, o = .list ((kept.map fun x : Nat => V.int x).take r ++ V.int k :: (kept.map fun x : Nat => V.int x).drop r) ∧ r ≤ (kept.map fun x : Nat => V.int x).length ∧ Parts (fun i => decide (Dof cs k < Dof cs ((kept[i]?).getD 0))) 0 (kept.map fun x : Nat => V.int x).length r) hK1 (fun ne l1 l2 => ?_) fun o n' ho hn' => ?_
    · have hs1 : Sub H1 (upd H1 L (.ns σ.m)) := fun a o e => upd_sub l2 a o e
      refine C_insR_key (d := 1) (vs := (kept.map fun x : Nat => V.int x)) (ks := fun i => Dof cs ((kept[i]?).getD 0)) (kx := Dof cs k) B.G Fi1 hT1 Fi2 hT2 mi2 eu1 eu2 eu3 ?_ ?_ ?_ (by show A.depth + 1 + 2 < _; lia) hh (hs1 _ _ hK1) S.bK (by rw [List.length_map, sizeLine_eq]; lia) ?_
      · refine KeyOk_one B.G.lim (hF.sub hs1) (by decide +kernel) (by decide +kernel) (by decide +kernel) (by kernel_rfl!) (hs1 _ _ h71) (hs1 _ _ hC1) (by rw [List.length_map]; lia) fun i v hi => ?_
        obtain ⟨j, hj, hv, hj6⟩ := hget i v hi
        exact ⟨j, hv, by rw [hkey i j hj]; exact Dof_some (by lia)⟩
      · refine KeyOk_one B.G.lim (hF.sub hs1) (by decide +kernel) (by decide +kernel) (by decide +kernel) (by kernel_rfl!) (hs1 _ _ h71) (hs1 _ _ hC1) (by rw [List.length_map]; lia) fun i v hi => ?_
        cases i with
        | zero => exact ⟨k, (Option.some.inj hi).symm, Dof_some (by lia)⟩
        | succ i => cases hi
      · exact (hF.sub hs1).callee
      · intro i j _ hij hj hp
        have := hmono i j hij hj
        simp only [decide_eq_true_eq] at hp ⊢
        lia
    · obtain ⟨r, rfl, hr, hparts⟩ := ho
      have hrl : r ≤ kept.length := by rw [List.length_map] at hr; exact hr
      refine ⟨trivial, ?_⟩
      refine WS_nil ?_
      dsimp only
      refine h r _ n' hrl (fun i a hi e => ?_) (fun i a hi e => ?_) (fun a p ha hp e => (upd_ne ha).trans (k1 _ _ hp e)) ?_ (hT1'.move (fun b ob hkb hbp e => ?_) fun ob e => (upd_ne (Ne.symm hPK)).trans e)
      · have := hparts.2.2.1 i (Nat.zero_le _) hi
        simp only [decide_eq_false_iff_not] at this
        rw [hkey i a e] at this; lia
      · have hil : i < (kept.map fun x : Nat => V.int x).length := by
          rw [List.length_map]
          exact (List.getElem?_eq_some_iff.mp e).1
        have := hparts.2.2.2 i hi hil
        simp only [decide_eq_true_eq] at this
        rw [hkey i a e] at this; lia
      · show upd H1 aK _ aK = _
        rw [upd_same, List.map_append, List.map_cons, List.map_take, List.map_drop]
      · refine ⟨(upd_ne ?_).trans e, hkb⟩
        intro q; rw [q, hK1] at e; cases e
end
section
set_option maxRecDepth 100000
set_option linter.unusedVariables false
variable {base : Heap} {os : OsState} {H H' : HP} {n n' : Nat} {s s' : Shared} {prog : Program} {w : World} {A : Around} {L : Addr} {σ : St} {m : Loc} {env : Env} {Q : V → St → Prop} {R : Flow → St → Prop}
variable {dV kV doc pm cdv ct : Value} {an : Option Addr} {f : Addr} {mg mb : Str → Option Value}







theorem fm_some {α : Type} (f : α → V) (g : α → Y) (l : List α) : (l.map fun x => (f x, some (g x))).filterMap (·.2) = l.map g := by
  rw [List.filterMap_map]; exact congrFun List.filterMap_eq_map _
noncomputable def pairFs (ys : List V) (ws : List (Int × Int)) (g : Int × Int → Option Y) : List (V × Option Y) := (ys.zip ws).map fun q => (q.1, g q.2)
theorem pairFs_fst {ys : List V} {ws : List (Int × Int)} {g : Int × Int → Option Y} (h : ys.length = ws.length) : (pairFs ys ws g).map (·.1) = ys := by
  unfold pairFs
  rw [List.map_map]
  exact List.map_fst_zip (Nat.le_of_eq h)
theorem pairFs_some {ys : List V} {ws : List (Int × Int)} {g : Int × Int → Option Y} (h : ys.length = ws.length) : (pairFs ys ws g).filterMap (·.2) = ws.filterMap g := by
  unfold pairFs
  rw [List.filterMap_map]
  have e : ((fun x : V × Option Y => x.2) ∘ fun q : V × (Int × Int) => (q.1, g q.2)) = g ∘ Prod.snd := rfl
  rw [e, ← List.filterMap_map, List.map_snd_zip (Nat.le_of_eq h.symm)]
theorem pairFs_len {ys : List V} {ws : List (Int × Int)} {g : Int × Int → Option Y} (h : ys.length = ws.length) : (pairFs ys ws g).length = ws.length := by
  unfold pairFs; rw [List.length_map, List.length_zip, h, Nat.min_self]
theorem all_zip {H : HP} {ws : List (Int × Int)} : ∀ {ys : List V}, All H (ws.map pairY) ys → ∀ q ∈ ys.zip ws, ∃ a, q.1 = .ref a ∧ H a = some (.tup [.int q.2.1, .int q.2.2]) := by
  induction ws with
  | nil => intro ys _ q hq; rw [List.zip_nil_right] at hq; cases hq
  | cons p ws ih =>
    intro ys h q hq
    cases h with
    | cons a r =>
      rw [List.zip_cons_cons] at hq
      rcases List.mem_cons.mp hq with rfl | hq
      · exact a
      · exact ih r q hq
theorem pairFs_mem {H : HP} {ys : List V} {ws : List (Int × Int)} {g : Int × Int → Option Y} {v : V} {Z : Option Y} (h : All H (ws.map pairY) ys) (hv : (v, Z) ∈ pairFs ys ws g) :
    ∃ a p, p ∈ ws ∧ v = .ref a ∧ H a = some (.tup [.int p.1, .int p.2]) ∧ Z = g p := by
  unfold pairFs at hv
  obtain ⟨q, hq, e⟩ := List.mem_map.mp hv
  obtain ⟨a, e1, e2⟩ := all_zip h q hq
  cases e
  exact ⟨a, q.2, (List.of_mem_zip hq).2, e1, e2, rfl⟩
-- too many hours: the longest falls out
theorem law_keep1 {c19 P19 fL aK aW aC aD : Addr} {kept ds cs : List Nat} {ws : List (Int × Int)} {k : Nat} (B : PLB w base mg mb c19 P19 fL) (F : Full base) (hh : A.handled = none) (hcs : cs.length = 6) (hds : ds.length = 6) (hk : k < 6)
    (S : RS σ.H base.objs.size L aK aW aC aD k cs ds kept ws) (hlt : ∀ j ∈ kept, j < 6) (hlen : kept.length ≤ 7) (hne : kept ≠ [])
    (h : ∀ H' n', (∀ a o, a ≠ aK → σ.H a = some o → H' a = some o) → H' aK = some (.list ((if Dof ds k < (kept.map (Dof cs)).sum then kept.dropLast else kept).map fun x : Nat => V.int x)) →
      WS PL w base os A L (keepAt 2) (lawE doc pm cdv ct an L f) R ⟨σ.m, H', n'⟩) :
    WS PL w base os A L (keepAt 1) (lawE doc pm cdv ct an L f) R σ := by
  refine W.fact fun told hLn hHL hbL => ?_
  refine WS_cons (WS_If ?_)
  walk_at "i"
  refine W_Call rfl rfl ?_ rfl
  refine W_builtin B.G.g B.G.b (v := .builtin "sum") (B.G.bi _ (.builtin "sum") (by kernel_rfl!)).1 (B.G.bi _ (.builtin "sum") (by kernel_rfl!)).2 ?_ (by walk_at "k") (by walk_at "k") (by walk_at "k") (by walk_at "k") (by decide +kernel)
  dsimp only [WArgs]
  refine W_ListComp (cl := [("cost", L + 7)]) F hh ?_ (fun _ => rfl) (by kernel_rfl!) (noCells (by kernel_rfl!)) rfl (locNames (by kernel_rfl!))
  refine W_Name (W_load_cell cell_kept S.c4 ?_ rfl (.inl (by kernel_rfl!))) (by decide +kernel)
  refine ⟨kept.map fun j : Nat => (V.int j, some (Y.val (.int (Dof cs j)))), ⟨⟨_, ⟨by rw [List.map_map]; exact srcList aK _⟩, fun H hs => hs _ _ S.hK⟩, by rw [List.length_map, sizeLine_eq]; lia, ?_⟩, ?_⟩
  · intro Cc v Z hv τ hn hs
    obtain ⟨j, hj, e⟩ := List.mem_map.mp hv
    cases e
    have hs2 : Sub σ.H τ.H := sub_of_upd hs hHL
    unfold CTurn
    refine WA_Name (WSt_local ?_ (by walk_at "k") (by walk_at "k") (by walk_at "k"))
    dsimp only [WIfs]
    refine ⟨rfl, ?_⟩
    refine W_Subscript ?_
    refine W_Name (W_load_cell (c := L + 7) (by kernel_rfl!) (hs2 _ _ S.c7) ?_ rfl (.inl (by kernel_rfl!))) (by decide +kernel)
    walk_at "e"
    exact WSub_list (hs2 _ _ S.hC) (by lia) (by rw [Int.toNat_natCast]; exact Dof_some (by have := hlt j hj; lia)) (by rw [List.length_map, sizeLine_eq]; lia) ⟨rfl, Sub.refl _⟩ rfl
  · intro D ys H1 n1 hD hs hDl hall
    rw [fm_some, show (kept.map fun j : Nat => Y.val (.int (Dof cs j))) = ((kept.map (Dof cs)).map V.int).map Y.val by simp only [List.map_map]; rfl] at hall
    rw [hall.vals] at hDl
    have S1 := S.sub hs
    dsimp only [WKws, kwNames]
    refine ⟨trivial, WCall_sum F hh hDl fun n2 => ?_⟩
    refine W_Subscript ?_
    refine W_Name (W_load_cell cell_due S1.c8 ?_ rfl (.inl (by kernel_rfl!))) (by decide +kernel)
    refine W_Name (W_load_cell cell_k S1.c3 ?_ rfl (.inl (by kernel_rfl!))) (by decide +kernel)
    refine WSub_list S1.hD (by lia) (by rw [Int.toNat_natCast]; exact Dof_some (by lia)) (by rw [List.length_map, sizeLine_eq]; lia) ?_ rfl
    refine WC_gt ?_
    refine WT_bool ?_
    by_cases hgt : Dof ds k < (kept.map (Dof cs)).sum
    · rw [if_pos (by simpa using hgt)]
      refine WS_cons (WS_Expr ?_ (by kernel_rfl!) (by kernel_rfl!))
      refine W_Method rfl rfl ?_ rfl
      refine W_Name (W_load_cell cell_kept S1.c4 ?_ rfl (.inl (by kernel_rfl!))) (by decide +kernel)
      refine WM_list S1.hK PySem.F.slot_list_pop PySem.F.type_list_pop ?_
      dsimp only [WArgs, WKws, kwNames]
      have hsp : (kept.map fun x : Nat => V.int x) = (kept.dropLast.map fun x : Nat => V.int x) ++ [V.int (kept.getLast hne : Nat)] := by
        conv => lhs; rw [← List.dropLast_concat_getLast hne]
        rw [List.map_append]; rfl
      refine WCall_pop (vs := kept.dropLast.map fun x : Nat => V.int x) (v := V.int (kept.getLast hne : Nat)) (by rw [← hsp]; exact S1.hK) S.bK (by rw [List.length_map, List.length_dropLast, sizeLine_eq]; lia) ?_
      refine ⟨trivial, ?_⟩
      refine WS_nil ?_
      dsimp only
      refine h _ _ (fun a o ha e => (upd_ne ha).trans (hs _ _ e)) ?_
      rw [if_pos hgt]
      exact upd_same _ _ _
    · rw [if_neg (by simpa using hgt)]
      refine WS_nil ?_
      dsimp only
      refine h _ _ (fun a o ha e => hs _ _ e) ?_
      rw [if_neg hgt]
      exact S1.hK
end
section
set_option maxRecDepth 100000
set_option linter.unusedVariables false
variable {base : Heap} {os : OsState} {H H' : HP} {n n' : Nat} {s s' : Shared} {prog : Program} {w : World} {A : Around} {L : Addr} {σ : St} {m : Loc} {env : Env} {Q : V → St → Prop} {R : Flow → St → Prop}
variable {dV kV doc pm cdv ct : Value} {an : Option Addr} {f : Addr} {mg mb : Str → Option Value}







theorem stepWays_map (c d : Int) (ws : List (Int × Int)) : (ws.filterMap fun p => if p.2 + c ≤ d then some (pairY (p.1 + 1, p.2 + c)) else none) = ((ws.filter fun p => decide (p.2 + c ≤ d)).map fun p => (p.1 + 1, p.2 + c)).map pairY := by
  induction ws with
  | nil => rfl
  | cons p ws ih =>
    by_cases h : p.2 + c ≤ d
    · rw [List.filter_cons_of_pos (by simpa using h), List.map_cons, List.map_cons, ← ih]
      simp only [List.filterMap_cons, if_pos h]
    · rw [List.filter_cons_of_neg (by simpa using h), ← ih]
      simp only [List.filterMap_cons, if_neg h]
-- the ways with this letter as well
theorem law_ways {c19 P19 fL aK aW aC aD : Addr} {kept ds cs : List Nat} {ws : List (Int × Int)} {k : Nat} (B : PLB w base mg mb c19 P19 fL) (F : Full base) (hh : A.handled = none) (hcs : cs.length = 6) (hds : ds.length = 6) (hk : k < 6)
    (S : RS σ.H base.objs.size L aK aW aC aD k cs ds kept ws) (hws : ws.length ≤ 100)
    (h : ∀ H' n', (∀ a o, a ≠ aW → σ.H a = some o → H' a = some o) → RS H' base.objs.size L aK aW aC aD k cs ds kept (MH.stepWays (Dof cs k) (Dof ds k) ws) → WS PL w base os A L (keepAt 3) (lawE doc pm cdv ct an L f) R ⟨σ.m, H', n'⟩) :
    WS PL w base os A L (keepAt 2) (lawE doc pm cdv ct an L f) R σ := by
  obtain ⟨ys, hy1, hy2⟩ := S.hW
  have hyl : ys.length = ws.length := by have := hy2.len; rw [List.length_map] at this; exact this
  refine W.fact fun told hLn hHL hbL => ?_
  refine WS_cons (WS_Aug ?_)
  refine W_load_cell cell_ways S.c5 ?_ rfl (.inl (by kernel_rfl!))
  refine W_ListComp (cl := [("k", L + 3), ("due", L + 8), ("cost", L + 7)]) F hh ?_ (fun _ => rfl) (by kernel_rfl!) (noCells (by kernel_rfl!)) rfl (locNames (by kernel_rfl!))
  refine W_Name (W_load_cell cell_ways S.c5 ?_ rfl (.inl (by kernel_rfl!))) (by decide +kernel)
  refine ⟨pairFs ys ws fun p => if p.2 + Dof cs k ≤ Dof ds k then some (pairY (p.1 + 1, p.2 + Dof cs k)) else none, ⟨⟨_, ⟨by rw [pairFs_fst hyl]; exact srcList aW _⟩, fun H hs => hs _ _ hy1⟩, by rw [pairFs_len hyl, sizeLine_eq]; lia, ?_⟩, ?_⟩
  · intro Cc v Z hv τ hn hs
    obtain ⟨a, p, hp, rfl, ha, rfl⟩ := pairFs_mem hy2 hv
    have hs2 : Sub σ.H τ.H := sub_of_upd hs hHL
    have S2 := S.sub hs2
    unfold CTurn
    refine WA_Tuple F rfl hh (hs2 _ _ ha) rfl fun n2 => ?_
    dsimp only [WAs]
    refine WA_Name (WSt_local ?_ (by walk_at "k") (by walk_at "k") (by walk_at "k"))
    refine WA_Name (WSt_local ?_ (by walk_at "k") (by walk_at "k") (by walk_at "k"))
    dsimp only [WIfs]
    walk_at "i"
    walk_at "e"
    walk_at "e"
    refine W_Subscript ?_
    refine W_Name (W_load_cell (c := L + 7) (by kernel_rfl!) S2.c7 ?_ rfl (.inl (by kernel_rfl!))) (by decide +kernel)
    refine W_Name (W_load_cell (c := L + 3) (by kernel_rfl!) S2.c3 ?_ rfl (.inl (by kernel_rfl!))) (by decide +kernel)
    refine WSub_list S2.hC (by lia) (by rw [Int.toNat_natCast]; exact Dof_some (by lia)) (by rw [List.length_map, sizeLine_eq]; lia) ?_ rfl
    walk_at "o"
    refine W_Subscript ?_
    refine W_Name (W_load_cell (c := L + 8) (by kernel_rfl!) S2.c8 ?_ rfl (.inl (by kernel_rfl!))) (by decide +kernel)
    refine W_Name (W_load_cell (c := L + 3) (by kernel_rfl!) S2.c3 ?_ rfl (.inl (by kernel_rfl!))) (by decide +kernel)
    refine WSub_list S2.hD (by lia) (by rw [Int.toNat_natCast]; exact Dof_some (by lia)) (by rw [List.length_map, sizeLine_eq]; lia) ?_ rfl
    refine WC_le ?_
    refine WT_bool ?_
    by_cases hle : p.2 + Dof cs k ≤ Dof ds k
    · rw [if_pos hle]
      refine ⟨by simpa using hle, WV.fact fun toldτ _ _ _ => ?_⟩
      refine W_Tuple rfl ?_
      dsimp only [WArgs]
      walk_at "e"
      walk_at "e"
      walk_at "e"
      walk_at "o"
      walk_at "e"
      walk_at "e"
      refine W_Subscript ?_
      refine W_Name (W_load_cell (c := L + 7) (by kernel_rfl!) S2.c7 ?_ rfl (.inl (by kernel_rfl!))) (by decide +kernel)
      refine W_Name (W_load_cell (c := L + 3) (by kernel_rfl!) S2.c3 ?_ rfl (.inl (by kernel_rfl!))) (by decide +kernel)
      refine WSub_list S2.hC (by lia) (by rw [Int.toNat_natCast]; exact Dof_some (by lia)) (by rw [List.length_map, sizeLine_eq]; lia) ?_ rfl
      walk_at "o"
      refine ⟨by show 2 ≤ _; decide, fun t ht => ⟨⟨t, rfl, upd_same _ _ _⟩, Sub.upd_new (fresh_none toldτ ht)⟩⟩
    · rw [if_neg hle]
      exact ⟨by simpa using hle, Sub.refl _⟩
  · intro D zs H1 n1 hD hs hDl hall
    rw [pairFs_some hyl, stepWays_map] at hall
    have S1 := S.sub hs
    have hzl : zs.length ≤ ws.length := by
      have := hall.len
      rw [List.length_map, List.length_map] at this
      have := List.length_filter_le (fun p : Int × Int => decide (p.2 + Dof cs k ≤ Dof ds k)) ws
      lia
    intro a b ea eb
    refine WA_addL ea eb (hs _ _ hy1) S.bW hDl (by lia) ?_
    have n5W : L + 5 ≠ aW := by intro q; have := S.c5; rw [q, hy1] at this; cases this
    refine WSt_cell cell_ways ((upd_ne n5W).trans S1.c5) (Nat.le_trans hbL (Nat.le_add_right _ _)) ?_ (by walk_at "k") (by walk_at "k")
    dsimp only
    have keep : ∀ a o, a ≠ aW → H1 a = some o → upd (upd H1 aW (.list (ys ++ zs))) (L + 5) (.cell (some (.ref aW))) a = some o := fun a o ha e => by
      by_cases h5 : a = L + 5
      · subst h5
        rw [S1.c5] at e; cases e
        exact upd_same _ _ _
      · exact (upd_ne h5).trans ((upd_ne ha).trans e)
    have nc : ∀ a v, H1 a = some (.cell v) → a ≠ aW := fun a v e q => by rw [q, hs _ _ hy1] at e; cases e
    have nt : ∀ a vs, H1 a = some (.tup vs) → a ≠ aW := fun a v e q => by rw [q, hs _ _ hy1] at e; cases e
    have nl : ∀ a vs, a ≠ aW → H1 a = some (.list vs) → upd (upd H1 aW (.list (ys ++ zs))) (L + 5) (.cell (some (.ref aW))) a = some (.list vs) := fun a vs ha e => keep _ _ ha e
    refine h _ _ (fun a o ha e => keep _ _ ha (hs _ _ e)) ⟨keep _ _ (nc _ _ S1.c3) S1.c3, keep _ _ (nc _ _ S1.c4) S1.c4, keep _ _ (nc _ _ S1.c5) S1.c5, keep _ _ (nc _ _ S1.c7) S1.c7, keep _ _ (nc _ _ S1.c8) S1.c8,
      nl _ _ S1.nKW S1.hK, ⟨ys ++ zs, (upd_ne (Ne.symm n5W)).trans (upd_same _ _ _), ?_⟩, nl _ _ (Ne.symm S1.nWC) S1.hC, nl _ _ (Ne.symm S1.nWD) S1.hD, S.nKW, S.nKC, S.nKD, S.nWC, S.nWD, S.bK, S.bW⟩
    unfold MH.stepWays
    rw [List.map_append]
    exact All.append ((hy2.tups fun a vs e => hs _ _ e).tups fun a vs e => keep _ _ (nt _ _ e) e) (hall.tups fun a vs e => keep _ _ (nt _ _ e) e)
end
section
set_option maxRecDepth 100000
set_option linter.unusedVariables false
variable {base : Heap} {os : OsState} {H H' : HP} {n n' : Nat} {s s' : Shared} {prog : Program} {w : World} {A : Around} {L : Addr} {σ : St} {m : Loc} {env : Env} {Q : V → St → Prop} {R : Flow → St → Prop}
variable {dV kV doc pm cdv ct : Value} {an : Option Addr} {f : Addr} {mg mb : Str → Option Value}







theorem small_upto (n : Nat) (h : n < 9) : Builtin.Range.small 0 (n : Nat) 1 = true ∧ (Builtin.Range.rangeSize 0 (n : Nat) 1).toNat = n :=
  (by decide +kernel : ∀ n : Nat, n < 9 → Builtin.Range.small 0 (n : Nat) 1 = true ∧ (Builtin.Range.rangeSize 0 (n : Nat) 1).toNat = n) n h
theorem rngV_range (n : Nat) : rngV 0 1 n = (List.range n).map fun j : Nat => V.int j := by
  refine List.ext_getElem? fun i => ?_
  by_cases h : i < n
  · rw [rngV_get _ _ _ _ h, List.getElem?_map, List.getElem?_range h]
    show some (V.int _) = some (V.int _)
    congr 2
    all_goals lia
  · rw [List.getElem?_eq_none (by rw [rngV_len']; lia), List.getElem?_eq_none (by rw [List.length_map, List.length_range]; lia)]
theorem fm_range (vs : List V) : ∀ j : Nat, (List.range j).filterMap (vs[·]?) = vs.take j
  | 0 => by simp
  | j + 1 => by
    rw [List.range_succ, List.filterMap_append, fm_range vs j, List.take_add_one]
    congr 1
theorem pick_take {vs : List V} {j : Nat} (hj : j ≤ vs.length) (hl : vs.length < 9) : pick vs none (some (j : Int)) none = vs.take j := by
  have key : ∀ n : Nat, n < 9 → ∀ j : Nat, j < n + 1 → sliceRange (sliceBounds none (some (j : Int)) none n).1 (sliceBounds none (some (j : Int)) none n).2.1 (sliceBounds none (some (j : Int)) none n).2.2 = List.range j := by decide +kernel
  unfold pick
  rw [key _ hl j (by lia)]
  exact fm_range vs j
-- the sums of the kept, from short to long
theorem law_sums {c19 P19 fL aK aW aC aD : Addr} {kept ds cs : List Nat} {ws : List (Int × Int)} {k : Nat} (B : PLB w base mg mb c19 P19 fL) (F : Full base) (hh : A.handled = none) (hcs : cs.length = 6)
    (S : RS σ.H base.objs.size L aK aW aC aD k cs ds kept ws) (hlt : ∀ j ∈ kept, j < 6) (hlen : kept.length ≤ 7)
    (h : ∀ D H' n', σ.n ≤ D → Sub σ.H H' → H' D = some (.list (((List.range (kept.length + 1)).map (MH.psum (kept.map (Dof cs)))).map V.int)) → WS PL w base os A L (keepAt 4) (lawE doc pm cdv ct an L f) R ⟨σ.m.set "sums" (.ref D), H', n'⟩) :
    WS PL w base os A L (keepAt 3) (lawE doc pm cdv ct an L f) R σ := by
  refine W.fact fun told hLn hHL hbL => ?_
  refine WS_cons (WS_AssignComp (cl := [("kept", L + 4), ("cost", L + 7)]) F hh ?_ (by kernel_rfl!) (fun _ => rfl) (by kernel_rfl!) (noCells (by kernel_rfl!)) rfl (locNames (by kernel_rfl!)) (by walk_at "k") (by walk_at "k") (by walk_at "k"))
  refine W_Call rfl rfl ?_ rfl
  refine W_builtin B.G.g B.G.b (v := .type "range") (B.G.bi _ (.type "range") (by kernel_rfl!)).1 (B.G.bi _ (.type "range") (by kernel_rfl!)).2 ?_ (by walk_at "k") (by walk_at "k") (by walk_at "k") (by walk_at "k") (by decide +kernel)
  dsimp only [WArgs]
  walk_at "e"
  refine W_Call rfl rfl ?_ rfl
  refine W_builtin B.G.g B.G.b (v := .builtin "len") (B.G.bi _ (.builtin "len") (by kernel_rfl!)).1 (B.G.bi _ (.builtin "len") (by kernel_rfl!)).2 ?_ (by walk_at "k") (by walk_at "k") (by walk_at "k") (by walk_at "k") (by decide +kernel)
  dsimp only [WArgs]
  refine W_Name (W_load_cell cell_kept S.c4 ?_ rfl (.inl (by kernel_rfl!))) (by decide +kernel)
  dsimp only [WKws, kwNames]
  refine ⟨trivial, WCall_len S.hK ?_ (by rw [List.length_map, sizeLine_eq]; lia)⟩
  walk_at "e"
  walk_at "o"
  refine ⟨trivial, WCall_range1 fun rg hrg _ o ho => ?_⟩
  rw [List.length_map, show ((kept.length : Nat) : Int) + 1 = ((kept.length + 1 : Nat) : Int) by simp] at ho
  have hHrg : σ.H rg = none := fresh_none told hrg
  have hsub1 : Sub σ.H (upd σ.H rg (.raw o)) := Sub.upd_new hHrg
  obtain ⟨q1, q2⟩ := small_upto (kept.length + 1) (by lia)
  refine ⟨(List.range (kept.length + 1)).map fun j : Nat => (V.int j, some (Y.val (.int (MH.psum (kept.map (Dof cs)) j)))), ⟨⟨_, ⟨by
      have := srcRange (prog := PL) (w := w) (base := base) (os := os) rg 0 ((kept.length + 1 : Nat) : Int) 1 q1
      rw [q2, rngV_range] at this
      rw [List.map_map]; exact this⟩, fun H hs => ?_⟩, by rw [List.length_map, List.length_range, sizeLine_eq]; lia, ?_⟩, ?_⟩
  · obtain ⟨t, u, v, hr⟩ := ho
    exact ⟨t, u, v, hs _ _ hr⟩
  · intro Cc v Z hv τ hn hs
    obtain ⟨j, hj, e⟩ := List.mem_map.mp hv
    cases e
    have hj' : j < kept.length + 1 := List.mem_range.mp hj
    have hs2 : Sub σ.H τ.H := hsub1.trans (sub_of_upd hs ((upd_ne (by rintro rfl; exact absurd hrg (Nat.not_le_of_gt hLn))).trans hHL))
    have S2 := S.sub hs2
    unfold CTurn
    refine WA_Name (WSt_local ?_ (by walk_at "k") (by walk_at "k") (by walk_at "k"))
    dsimp only [WIfs]
    refine ⟨rfl, WV.fact fun toldτ hCn hHC _ => ?_⟩
    refine W_Call rfl rfl ?_ rfl
    refine W_builtin B.G.g B.G.b (v := .builtin "sum") (B.G.bi _ (.builtin "sum") (by kernel_rfl!)).1 (B.G.bi _ (.builtin "sum") (by kernel_rfl!)).2 ?_ (by walk_at "k") (by walk_at "k") (by walk_at "k") (by walk_at "k") (by decide +kernel)
    dsimp only [WArgs]
    refine W_ListComp (cl := [("cost", L + 7)]) F hh ?_ (fun _ => rfl) (by kernel_rfl!) (noCells (by kernel_rfl!)) rfl (locNames (by kernel_rfl!))
    refine W_sliceL ?_ (fun a b => ⟨_, rfl⟩) (fun _ _ => rfl)
    refine W_Name (W_load_cell (c := L + 4) (by kernel_rfl!) S2.c4 ?_ rfl (.inl (by kernel_rfl!))) (by decide +kernel)
    dsimp only [WSl]
    walk_at "e"
    dsimp only [WSl]
    refine ⟨aK, kept.map fun x : Nat => V.int x, none, some (j : Int), none, rfl, S2.hK, by rw [List.length_map, sizeLine_eq]; lia, rfl, rfl, rfl, by decide, fun b hb => ?_⟩
    rw [pick_take (by rw [List.length_map]; lia) (by rw [List.length_map]; lia), ← List.map_take]
    have hsb := Sub.upd_new (o := .list ((kept.take j).map fun x : Nat => V.int x)) (fresh_none toldτ hb)
    refine ⟨(kept.take j).map fun i : Nat => (V.int i, some (Y.val (.int (Dof cs i)))), ⟨⟨_, ⟨by rw [List.map_map]; exact srcList b _⟩, fun H hs => hs _ _ (upd_same _ _ _)⟩, by rw [List.length_map, List.length_take, sizeLine_eq]; lia, ?_⟩, ?_⟩
    · intro Cd v Z hv τ' hn' hs'
      obtain ⟨i, hi, e⟩ := List.mem_map.mp hv
      cases e
      have hs3 := hsb.trans (sub_of_upd hs' ((upd_ne (Nat.ne_of_lt (Nat.lt_of_lt_of_le hCn hb))).trans hHC))
      have S3 := S2.sub hs3
      unfold CTurn
      refine WA_Name (WSt_local ?_ (by walk_at "k") (by walk_at "k") (by walk_at "k"))
      dsimp only [WIfs]
      refine ⟨rfl, ?_⟩
      refine W_Subscript ?_
      refine W_Name (W_load_cell (c := L + 7) (by kernel_rfl!) S3.c7 ?_ rfl (.inl (by kernel_rfl!))) (by decide +kernel)
      walk_at "e"
      exact WSub_list S3.hC (by lia) (by rw [Int.toNat_natCast]; exact Dof_some (by have := hlt i (List.mem_of_mem_take hi); lia)) (by rw [List.length_map, sizeLine_eq]; lia) ⟨rfl, Sub.refl _⟩ rfl
    · intro D ys H1 n1 hD hsD hDl hall
      rw [fm_some, show ((kept.take j).map fun j : Nat => Y.val (.int (Dof cs j))) = (((kept.take j).map (Dof cs)).map V.int).map Y.val by simp only [List.map_map]; rfl] at hall
      rw [hall.vals] at hDl
      dsimp only [WKws, kwNames]
      refine ⟨trivial, WCall_sum F hh hDl fun n2 => ⟨?_, hsb.trans hsD⟩⟩
      show V.int _ = V.int _
      refine congrArg V.int ?_
      show ((kept.take j).map (Dof cs)).sum = ((kept.map (Dof cs)).take j).sum
      rw [List.map_take]
  · intro D ys H' n' hD hs hDl hall
    rw [fm_some, show ((List.range (kept.length + 1)).map fun j : Nat => Y.val (.int (MH.psum (kept.map (Dof cs)) j))) = (((List.range (kept.length + 1)).map (MH.psum (kept.map (Dof cs)))).map V.int).map Y.val by simp only [List.map_map]; rfl] at hall
    rw [hall.vals] at hDl
    exact h D H' n' (Nat.le_trans (Nat.le_trans hrg (Nat.le_succ _)) hD) (hsub1.trans hs) hDl
end
section
set_option maxRecDepth 100000
set_option linter.unusedVariables false
variable {base : Heap} {os : OsState} {H H' : HP} {n n' : Nat} {s s' : Shared} {prog : Program} {w : World} {A : Around} {L : Addr} {σ : St} {m : Loc} {env : Env} {Q : V → St → Prop} {R : Flow → St → Prop}
variable {dV kV doc pm cdv ct : Value} {an : Option Addr} {f : Addr} {mg mb : Str → Option Value}







theorem hours_map (j : Nat) (ws : List (Int × Int)) : (ws.filterMap fun p => if p.1 = (j : Int) then some (Y.val (.int p.2)) else none) = (((ws.filter fun p => decide (p.1 = (j : Int))).map (·.2)).map V.int).map Y.val := by
  induction ws with
  | nil => rfl
  | cons p ws ih =>
    by_cases h : p.1 = (j : Int)
    · rw [List.filter_cons_of_pos (by simpa using h), List.map_cons, List.map_cons, List.map_cons, ← ih]
      simp only [List.filterMap_cons, if_pos h]
    · rw [List.filter_cons_of_neg (by simpa using h), ← ih]
      simp only [List.filterMap_cons, if_neg h]
theorem inv_most {K : List Int} {ws : List (Int × Int)} {d : Int} (I : MH.Inv K ws d) {p : Int × Int} (hp : p ∈ ws) (hm : ∀ q ∈ ws, q.1 ≤ p.1) : p.1 = K.length := by
  have h1 := hm _ (I.all K.length (Nat.le_refl _))
  obtain ⟨j, a, b, _⟩ := I.least p hp
  simp only at h1
  lia
theorem WCall.fact {f : V} {vs ks : List V} {names : List Str} (h : (∀ a o, σ.H a = some o → a < σ.n) → L < σ.n → σ.H L = none → base.objs.size ≤ L → WCall prog w base os A L f vs names ks Q σ) : WCall prog w base os A L f vs names ks Q σ :=
  fun f' as ks' ef ea ek => WV.fact fun a b c d => h a b c d f' as ks' ef ea ek
-- for every number the least hours
theorem law_least {c19 P19 fL aK aW aC aD : Addr} {kept ds cs : List Nat} {ws : List (Int × Int)} {k : Nat} {K : List Int} {d : Int} (B : PLB w base mg mb c19 P19 fL) (F : Full base) (hh : A.handled = none) (hU : A.units + 10 < cLine)
    (S : RS σ.H base.objs.size L aK aW aC aD k cs ds kept ws) (hws : ws.length ≤ 200) (I : MH.Inv K ws d) (hlen : K.length ≤ 7)
    (h : ∀ D H' n', Sub σ.H H' → H' D = some (.list (((List.range (K.length + 1)).map (MH.psum K)).map V.int)) → WS PL w base os A L (keepAt 5) (lawE doc pm cdv ct an L f) R ⟨σ.m.set "least" (.ref D), H', n'⟩) :
    WS PL w base os A L (keepAt 4) (lawE doc pm cdv ct an L f) R σ := by
  obtain ⟨ys, hy1, hy2⟩ := S.hW
  have hyl : ys.length = ws.length := by have := hy2.len; rw [List.length_map] at this; exact this
  have hwne : ws ≠ [] := by
    intro q
    have := I.all 0 (Nat.zero_le _)
    rw [q] at this; cases this
  refine W.fact fun told hLn hHL hbL => ?_
  refine WS_cons (WS_AssignCompX (nm := "size") (cl := [("ways", L + 5)]) F hh ?_ (by kernel_rfl!) (fun _ => rfl) (by kernel_rfl!) (by kernel_rfl!) rfl (locNames (by kernel_rfl!)) (by walk_at "k") (by walk_at "k") (by walk_at "k"))
  refine W_Call rfl rfl ?_ rfl
  refine W_builtin B.G.g B.G.b (v := .type "range") (B.G.bi _ (.type "range") (by kernel_rfl!)).1 (B.G.bi _ (.type "range") (by kernel_rfl!)).2 ?_ (by walk_at "k") (by walk_at "k") (by walk_at "k") (by walk_at "k") (by decide +kernel)
  dsimp only [WArgs]
  walk_at "e"
  refine W_Subscript ?_
  refine W_Call rfl rfl ?_ rfl
  refine W_builtin B.G.g B.G.b (v := .builtin "max") (B.G.bi _ (.builtin "max") (by kernel_rfl!)).1 (B.G.bi _ (.builtin "max") (by kernel_rfl!)).2 ?_ (by walk_at "k") (by walk_at "k") (by walk_at "k") (by walk_at "k") (by decide +kernel)
  dsimp only [WArgs]
  refine W_Name (W_load_cell cell_ways S.c5 ?_ rfl (.inl (by kernel_rfl!))) (by decide +kernel)
  dsimp only [WKws, kwNames]
  refine ⟨trivial, WCall_maxPairs F hh (by show A.units + 1 < cLine; lia) hy1 hy2 hwne fun b p n1 hp hm hb => ?_⟩
  have hpK : p.1 = K.length := inv_most I hp hm
  walk_at "e"
  refine WSub_tup hb (by lia) (v := .int p.1) rfl (by show 2 ≤ _; decide) ?_ rfl
  walk_at "e"
  walk_at "o"
  refine ⟨trivial, WCall.fact fun told1 hLn1 _ _ => ?_⟩
  refine WCall_range1 fun rg hrg _ o ho => ?_
  rw [hpK, show ((K.length : Nat) : Int) + 1 = ((K.length + 1 : Nat) : Int) by simp] at ho
  have hHrg : σ.H rg = none := fresh_none told1 hrg
  have hsub1 : Sub σ.H (upd σ.H rg (.raw o)) := Sub.upd_new hHrg
  obtain ⟨q1, q2⟩ := small_upto (K.length + 1) (by lia)
  refine ⟨(List.range (K.length + 1)).map fun j : Nat => (V.int j, some (Y.val (.int (MH.psum K j)))), ⟨⟨_, ⟨by
      have := srcRange (prog := PL) (w := w) (base := base) (os := os) rg 0 ((K.length + 1 : Nat) : Int) 1 q1
      rw [q2, rngV_range] at this
      rw [List.map_map]; exact this⟩, fun H hs => ?_⟩, by rw [List.length_map, List.length_range, sizeLine_eq]; lia, ?_⟩, ?_⟩
  · obtain ⟨t, u, v, hr⟩ := ho
    exact ⟨t, u, v, hs _ _ hr⟩
  · intro Cc v Z hv τ hn hs hX
    obtain ⟨j, hj, e⟩ := List.mem_map.mp hv
    cases e
    have hj' : j < K.length + 1 := List.mem_range.mp hj
    obtain ⟨vX, hX⟩ := hX
    have hs2 : Sub σ.H τ.H := hsub1.trans (sub_of_upd hs ((upd_ne (by rintro rfl; exact absurd hrg (Nat.not_le_of_gt hLn1))).trans hHL))
    have hbC : base.objs.size ≤ Cc + 1 := Nat.le_trans hbL (Nat.le_trans (Nat.le_of_lt hLn1) (Nat.le_trans hrg (Nat.le_trans (Nat.le_succ _) (Nat.le_trans hn (Nat.le_succ _)))))
    have old : ∀ a o, σ.H a = some o → a ≠ Cc + 1 := fun a o e => Nat.ne_of_lt (Nat.lt_of_lt_of_le (told1 _ _ e) (Nat.le_trans hrg (Nat.le_trans (Nat.le_succ _) (Nat.le_trans hn (Nat.le_succ _)))))
    unfold CTurnX
    refine WA_Name (WSt_cell (c := Cc + 1) (by kernel_rfl!) hX hbC ?_ (by walk_at "k") (by walk_at "k"))
    dsimp only [WIfs]
    have hs3 : Sub σ.H (upd τ.H (Cc + 1) (.cell (some (.int j)))) := fun a o e => (upd_ne (old _ _ e)).trans (hs2 _ _ e)
    have S3 := S.sub hs3
    refine ⟨rfl, WV.fact fun toldτ hCn hHC _ => ?_⟩
    refine W_Call rfl rfl ?_ rfl
    refine W_builtin B.G.g B.G.b (v := .builtin "min") (B.G.bi _ (.builtin "min") (by kernel_rfl!)).1 (B.G.bi _ (.builtin "min") (by kernel_rfl!)).2 ?_ (by walk_at "k") (by walk_at "k") (by walk_at "k") (by walk_at "k") (by decide +kernel)
    dsimp only [WArgs]
    refine W_ListComp (cl := [("size", Cc + 1)]) F hh ?_ (fun _ => rfl) (by kernel_rfl!) (noCells (by kernel_rfl!)) rfl (locNames (by kernel_rfl!))
    refine W_Name (W_load_cell (c := L + 5) (by kernel_rfl!) S3.c5 ?_ rfl (.inl (by kernel_rfl!))) (by decide +kernel)
    refine ⟨pairFs ys ws fun p => if p.1 = (j : Int) then some (Y.val (.int p.2)) else none, ⟨⟨_, ⟨by rw [pairFs_fst hyl]; exact srcList aW _⟩, fun H hs => hs _ _ (hs3 _ _ hy1)⟩, by rw [pairFs_len hyl, sizeLine_eq]; lia, ?_⟩, ?_⟩
    · intro Cd v Z hv τ' hn' hs'
      obtain ⟨a, p, hp, rfl, ha, rfl⟩ := pairFs_mem hy2 hv
      have hs4 : Sub (upd τ.H (Cc + 1) (.cell (some (.int j)))) τ'.H := sub_of_upd hs' hHC
      unfold CTurn
      refine WA_Tuple F rfl hh (hs4 _ _ (hs3 _ _ ha)) rfl fun n2 => ?_
      dsimp only [WAs]
      refine WA_Name (WSt_local ?_ (by walk_at "k") (by walk_at "k") (by walk_at "k"))
      refine WA_Name (WSt_local ?_ (by walk_at "k") (by walk_at "k") (by walk_at "k"))
      dsimp only [WIfs]
      walk_at "i"
      walk_at "e"
      refine W_Name (W_load_cell (c := Cc + 1) (by kernel_rfl!) (hs4 _ _ (upd_same _ _ _)) ?_ rfl (.inl (by kernel_rfl!))) (by decide +kernel)
      refine WC_eq ?_
      refine WT_bool ?_
      by_cases he : p.1 = (j : Int)
      · rw [if_pos he]
        refine ⟨by simpa using he, ?_⟩
        walk_at "e"
        exact ⟨rfl, Sub.refl _⟩
      · rw [if_neg he]
        exact ⟨by simpa using he, Sub.refl _⟩
    · intro D zs H1 n2 hD hsD hDl hall
      rw [pairFs_some hyl, hours_map] at hall
      rw [hall.vals] at hDl
      dsimp only [WKws, kwNames]
      have hmem : ((j : Int), MH.psum K j) ∈ ws := I.all j (by lia)
      have hin : MH.psum K j ∈ (ws.filter fun p => decide (p.1 = (j : Int))).map (·.2) := List.mem_map.mpr ⟨_, List.mem_filter.mpr ⟨hmem, by simp⟩, rfl⟩
      refine ⟨trivial, WCall_minL F hh hDl (by intro q; rw [q] at hin; cases hin) fun k2 n3 hk2 hmin => ⟨?_, fun a o ha e => hsD _ _ ((upd_ne ha).trans e), _, hsD _ _ (upd_same _ _ _)⟩⟩
      obtain ⟨q, hq, rfl⟩ := List.mem_map.mp hk2
      obtain ⟨hq1, hq2⟩ := List.mem_filter.mp hq
      obtain ⟨j', a1, a2, a3, _⟩ := I.least q hq1
      have hjj : j' = j := by simp at hq2; lia
      subst hjj
      have := hmin _ hin
      show V.int _ = V.int _
      refine congrArg V.int ?_
      lia
  · intro D ys H' n' hD hs hDl hall
    rw [fm_some, show ((List.range (K.length + 1)).map fun j : Nat => Y.val (.int (MH.psum K j))) = (((List.range (K.length + 1)).map (MH.psum K)).map V.int).map Y.val by simp only [List.map_map]; rfl] at hall
    rw [hall.vals] at hDl
    exact h D H' n' (hsub1.trans hs) hDl
end
section
set_option maxRecDepth 100000
set_option linter.unusedVariables false
variable {base : Heap} {os : OsState} {H H' : HP} {n n' : Nat} {s s' : Shared} {prog : Program} {w : World} {A : Around} {L : Addr} {σ : St} {m : Loc} {env : Env} {Q : V → St → Prop} {R : Flow → St → Prop}
variable {dV kV doc pm cdv ct : Value} {an : Option Addr} {f : Addr} {mg mb : Str → Option Value}







theorem RS.k {H H' : HP} {N : Nat} {L aK aW aC aD : Addr} {k k' : Nat} {cs ds kept : List Nat} {ws : List (Int × Int)} (S : RS H N L aK aW aC aD k cs ds kept ws) (hs : ∀ a o, a ≠ L + 3 → (∀ ob, o ≠ .raw ob) → H a = some o → H' a = some o)
    (h3 : H' (L + 3) = some (.cell (some (.int k')))) : RS H' N L aK aW aC aD k' cs ds kept ws := by
  have nl : ∀ a v, H a = some (.list v) → a ≠ L + 3 := fun a v e q => by rw [q, S.c3] at e; cases e
  have nt : ∀ a vs, H a = some (.tup vs) → a ≠ L + 3 := fun a v e q => by rw [q, S.c3] at e; cases e
  have c : ∀ a v, a ≠ L + 3 → H a = some (.cell v) → H' a = some (.cell v) := fun a v q e => hs _ _ q (fun _ q => by cases q) e
  have l : ∀ a v, H a = some (.list v) → H' a = some (.list v) := fun a v e => hs _ _ (nl a v e) (fun _ q => by cases q) e
  obtain ⟨ys, e1, e2⟩ := S.hW
  exact ⟨h3, c _ _ (Nat.ne_of_gt (by lia)) S.c4, c _ _ (Nat.ne_of_gt (by lia)) S.c5, c _ _ (Nat.ne_of_gt (by lia)) S.c7, c _ _ (Nat.ne_of_gt (by lia)) S.c8, l _ _ S.hK,
    ⟨ys, l _ _ e1, e2.tups fun a vs e => hs _ _ (nt a vs e) (fun _ q => by cases q) e⟩, l _ _ S.hC, l _ _ S.hD, S.nKW, S.nKC, S.nKD, S.nWC, S.nWD, S.bK, S.bW⟩
theorem law_same {c19 P19 fL Ds Dl : Addr} {ks : List Int} (B : PLB w base mg mb c19 P19 fL) (hU : A.units + 10 < cLine) (h1 : σ.m "sums" = some (.ref Ds)) (h2 : σ.m "least" = some (.ref Dl)) (e1 : σ.H Ds = some (.list (ks.map V.int))) (e2 : σ.H Dl = some (.list (ks.map V.int))) (h : R .next σ) :
    WS PL w base os A L (keepAt 5) (lawE doc pm cdv ct an L f) R σ := by
  refine WS_cons (WS_If ?_)
  walk_at "i"
  walk_at "e"
  walk_at "e"
  refine WC_neInts e1 e2 hU ?_
  rw [show (!(ks == ks)) = false by simp]
  refine WT_bool ?_
  simp only [Bool.false_eq_true, if_false]
  refine WS_nil ?_
  dsimp only
  refine WS_nil ?_
  exact h
-- one letter of the row
theorem law_turn {c19 P19 fL aK aW aC aD : Addr} {kept ds cs : List Nat} {ws : List (Int × Int)} {k : Nat} {left : Bool} {Kp : Addr → Prop} {d₀ : Int} (B : PLB w base mg mb c19 P19 fL) (F : Full base) (hh : A.handled = none) (hA : A.depth + 4 < recursionLimit) (hU : A.units + 10 < cLine)
    (hcs : cs.length = 6) (hds : ds.length = 6) (hk : k < 6) (h0 : σ.m "left" = some (.bool left)) (S : RS σ.H base.objs.size L aK aW aC aD k cs ds kept ws) (hlt : ∀ j ∈ kept, j < 6) (hlen : kept.length ≤ 5) (hws : ws.length ≤ 100)
    (I : MH.Inv (kept.map (Dof cs)) ws d₀) (hd : d₀ ≤ Dof ds k) (hT : Tab σ.H P19 Kp lamQ #[]) (hKp : ∀ c, σ.n ≤ c → Kp c)
    (h : ∀ D kept' ws' m' H' n', m' "left" = some (.bool left) → m' "sums" = some (.ref D) → H' D = some (.list (((List.range ((kept'.map (Dof cs)).length + 1)).map (MH.psum (kept'.map (Dof cs)))).map V.int)) → RS H' base.objs.size L aK aW aC aD k cs ds kept' ws' → (∀ j ∈ kept', j < 6) →
      kept'.length ≤ kept.length + 1 → ws'.length ≤ 2 * ws.length → MH.Inv (kept'.map (Dof cs)) ws' (Dof ds k) → Tab H' P19 Kp lamQ #[] → (∀ a o, a ≠ aK → a ≠ aW → a ≠ P19 → σ.H a = some o → H' a = some o) → R .next ⟨m', H', n'⟩) :
    WS PL w base os A L (keepAt 0) (lawE doc pm (.ref c19) ct an L f) R σ := by
  refine law_keep0 B F hh hA hcs hk h0 S hlt (by lia) I.sorted hT hKp fun r H1 n1 hr hlo hhi f1 hK1 hT1 => ?_
  have S1 : RS H1 base.objs.size L aK aW aC aD k cs ds (kept.take r ++ k :: kept.drop r) ws := S.move (fun a o ha ho e => f1 _ _ ha (hT.ne ho e) e) hK1
  have hlt1 : ∀ j ∈ kept.take r ++ k :: kept.drop r, j < 6 := fun j hj => by
    rcases List.mem_append.mp hj with hj | hj
    · exact hlt j (List.mem_of_mem_take hj)
    · rcases List.mem_cons.mp hj with rfl | hj
      · exact hk
      · exact hlt j (List.mem_of_mem_drop hj)
  have hl1 : (kept.take r ++ k :: kept.drop r).length = kept.length + 1 := by simp; lia
  have hne1 : kept.take r ++ k :: kept.drop r ≠ [] := by simp
  have hmap : (kept.take r ++ k :: kept.drop r).map (Dof cs) = MH.ins (kept.map (Dof cs)) r (Dof cs k) := by
    unfold MH.ins
    rw [List.map_append, List.map_cons, List.map_take, List.map_drop]
  generalize hk1 : kept.take r ++ k :: kept.drop r = kept1 at S1 hlt1 hl1 hne1 hmap
  refine law_keep1 B F hh hcs hds hk S1 hlt1 (by lia) hne1 fun H2 n2 f2 hK2 => ?_
  have hsub' : ∀ j ∈ (if Dof ds k < (kept1.map (Dof cs)).sum then kept1.dropLast else kept1), j ∈ kept1 := fun j hj => by
    split at hj
    · exact List.dropLast_subset _ hj
    · exact hj
  have hl2 : (if Dof ds k < (kept1.map (Dof cs)).sum then kept1.dropLast else kept1).length ≤ kept.length + 1 := by
    split
    · rw [List.length_dropLast]; lia
    · lia
  have hmap2 : (if Dof ds k < (kept1.map (Dof cs)).sum then kept1.dropLast else kept1).map (Dof cs) = MH.keepIt (MH.ins (kept.map (Dof cs)) r (Dof cs k)) (Dof ds k) := by
    unfold MH.keepIt
    rw [← hmap]
    by_cases hgt : Dof ds k < (kept1.map (Dof cs)).sum
    · rw [if_pos hgt, if_pos hgt, List.map_dropLast]
    · rw [if_neg hgt, if_neg hgt]
  generalize (if Dof ds k < (kept1.map (Dof cs)).sum then kept1.dropLast else kept1) = kept2 at hK2 hsub' hl2 hmap2
  have S2 : RS H2 base.objs.size L aK aW aC aD k cs ds kept2 ws := S1.move (fun a o ha ho e => f2 _ _ ha e) hK2
  have hT2 : Tab H2 P19 Kp lamQ #[] := hT1.move (fun b ob kb _ e => ⟨f2 _ _ (by intro q; rw [q, S1.hK] at e; cases e) e, kb⟩) fun ob e => f2 _ _ (by intro q; rw [q, S1.hK] at e; cases e) e
  have hlt2 : ∀ j ∈ kept2, j < 6 := fun j hj => hlt1 j (hsub' j hj)
  have I2 : MH.Inv (kept2.map (Dof cs)) (MH.stepWays (Dof cs k) (Dof ds k) ws) (Dof ds k) := by
    rw [hmap2]
    refine MH.step I hd (by unfold Dof; lia) (by rw [List.length_map]; exact hr) (fun j hj hji => ?_) fun j hj hji => ?_
    · rw [List.length_map] at hj
      rw [List.getElem_map]
      exact hlo j _ hji (List.getElem?_eq_getElem hj)
    · rw [List.length_map] at hj
      rw [List.getElem_map]
      exact hhi j _ hji (List.getElem?_eq_getElem hj)
  refine law_ways B F hh hcs hds hk S2 hws fun H3 n3 f3 S3 => ?_
  have hT3 : Tab H3 P19 Kp lamQ #[] := by
    obtain ⟨ys, hy, _⟩ := S2.hW
    exact hT2.move (fun b ob kb _ e => ⟨f3 _ _ (by intro q; rw [q, hy] at e; cases e) e, kb⟩) fun ob e => f3 _ _ (by intro q; rw [q, hy] at e; cases e) e
  have hwl : (MH.stepWays (Dof cs k) (Dof ds k) ws).length ≤ 2 * ws.length := by
    unfold MH.stepWays
    rw [List.length_append, List.length_map]
    have := List.length_filter_le (fun p : Int × Int => decide (p.2 + Dof cs k ≤ Dof ds k)) ws
    lia
  refine law_sums B F hh hcs S3 hlt2 (by lia) fun D H4 n4 hD s4 hD4 => ?_
  refine law_least B F hh hU (S3.sub s4) (by lia) I2 (by rw [List.length_map]; lia) fun D' H5 n5 s5 hD5 => ?_
  rw [← List.length_map (f := Dof cs) (as := kept2)] at hD4
  refine law_same (Ds := D) (Dl := D') B hU (by walk_at "m") (by walk_at "m") (s5 _ _ hD4) hD5 ?_
  refine h D kept2 _ _ H5 n5 (by walk_at "m") (by walk_at "m") (s5 _ _ hD4) ((S3.sub s4).sub s5) hlt2 hl2 hwl I2 ((hT3.sub s4).sub s5) fun a o q1 q2 q3 e => s5 _ _ (s4 _ _ (f3 _ _ q2 (f2 _ _ q1 (f1 _ _ q1 q3 e))))
end
section
set_option maxRecDepth 100000
set_option linter.unusedVariables false
variable {base : Heap} {os : OsState} {H H' : HP} {n n' : Nat} {s s' : Shared} {prog : Program} {w : World} {A : Around} {L : Addr} {σ : St} {m : Loc} {env : Env} {Q : V → St → Prop} {R : Flow → St → Prop}
variable {dV kV doc pm cdv ct : Value} {an : Option Addr} {f : Addr} {mg mb : Str → Option Value}







theorem neOf {G : HP} {a b : Addr} {x y : O} (ea : G a = some x) (eb : G b = some y) (h : x ≠ y) : a ≠ b := fun q => h (Option.some.inj (ea.symm.trans ((congrArg G q).trans eb)))
theorem RS.it {H H' : HP} {N : Nat} {L aK aW aC aD : Addr} {k : Nat} {cs ds kept : List Nat} {ws : List (Int × Int)} {c : O} (S : RS (upd H (L + 3) c) N L aK aW aC aD k cs ds kept ws) (hs : ∀ a o, (∀ ob, o ≠ .raw ob) → H a = some o → H' a = some o) : RS (upd H' (L + 3) c) N L aK aW aC aD k cs ds kept ws := by
  have key : ∀ a o, (∀ ob, o ≠ .raw ob) → upd H (L + 3) c a = some o → upd H' (L + 3) c a = some o := fun a o ho e => by
    by_cases ha : a = L + 3
    · subst ha
      rw [upd_same] at e ⊢; exact e
    · rw [upd_ne ha] at e ⊢; exact hs _ _ ho e
  exact S.move (fun a o _ ho e => key a o ho e) (key _ _ (fun _ q => by cases q) S.hK)
-- what the second loop keeps
inductive Row7J (left : Bool) (row ds cs : List Nat) (G : HP) (P19 it L aK aW aC aD N : Addr) (rem : List V) (τ : St) : Prop
  | mk (j0 : τ.m "left" = some (.bool left)) (j1 : ∀ a o, a ≠ aK → a ≠ aW → a ≠ P19 → a ≠ L + 3 → G a = some o → τ.H a = some o) (j2 : Tab τ.H P19 (· ≠ it) lamQ #[]) (j3 : ∃ v, τ.H (L + 3) = some (.cell v))
    (done rest kept : List Nat) (ws : List (Int × Int)) (d : Int) (k1 : row = done ++ rest) (k2 : rem = rest.map (fun x : Nat => V.int x)) (k3 : RS (upd τ.H (L + 3) (.cell (some (.int (0 : Nat))))) N L aK aW aC aD 0 cs ds kept ws) (k4 : ∀ j ∈ kept, j < 6) (k5 : kept.length ≤ done.length) (k6 : ws.length ≤ 2 ^ done.length) (k7 : MH.Inv (kept.map (Dof cs)) ws d) (k8 : ∀ j ∈ rest, d ≤ Dof ds j)
    (k9 : done ≠ [] → ∃ D, τ.m "sums" = some (.ref D) ∧ τ.H D = some (.list (((List.range ((kept.map (Dof cs)).length + 1)).map (MH.psum (kept.map (Dof cs)))).map V.int))) : Row7J left row ds cs G P19 it L aK aW aC aD N rem τ
-- the row is gone through
theorem law_row7 {c19 P19 fL aR aK aW aC aD : Addr} {row ds cs : List Nat} {left : Bool} {v0 : Option V} (B : PLB w base mg mb c19 P19 fL) (F : Full base) (hh : A.handled = none) (hA : A.depth + 4 < recursionLimit) (hU : A.units + 10 < cLine)
    (hcs : cs.length = 6) (hds : ds.length = 6) (h0 : σ.m "left" = some (.bool left)) (h1 : σ.m "row" = some (.ref aR)) (h2 : σ.H (L + 3) = some (.cell v0)) (h3 : σ.H aR = some (.list (row.map fun x : Nat => V.int x))) (hRK : aR ≠ aK) (hRW : aR ≠ aW)
    (S : RS (upd σ.H (L + 3) (.cell (some (.int (0 : Nat))))) base.objs.size L aK aW aC aD 0 cs ds [] [(0, 0)]) (hrow : RowOk left (Dof ds) 6 row) (hT : Tab σ.H P19 (fun _ => True) lamQ #[])
    (h : ∀ (D : Addr) (kept : List Nat) (ws : List (Int × Int)) (d : Int) m' H' n', m' "sums" = some (.ref D) → H' D = some (.list (((List.range ((kept.map (Dof cs)).length + 1)).map (MH.psum (kept.map (Dof cs)))).map V.int)) → MH.Inv (kept.map (Dof cs)) ws d → kept.length ≤ 6 → ws.length ≤ 64 → Tab H' P19 (fun _ => True) lamQ #[] →
      (∃ ys, H' aW = some (.list ys) ∧ All H' (ws.map pairY) ys) → H' (L + 5) = some (.cell (some (.ref aW))) → (∀ a o, a ≠ aK → a ≠ aW → a ≠ P19 → a ≠ L + 3 → σ.H a = some o → H' a = some o) → WS PL w base os A L (lawFrom 8) (lawE doc pm (.ref c19) ct an L f) R ⟨m', H', n'⟩) :
    WS PL w base os A L (lawFrom 7) (lawE doc pm (.ref c19) ct an L f) R σ := by
  have h3R : aR ≠ L + 3 := by intro q; rw [q, h2] at h3; cases h3
  have hRP : aR ≠ P19 := hT.ne (fun _ q => by cases q) h3
  have hP3 : L + 3 ≠ P19 := hT.ne (fun _ q => by cases q) h2
  have hrl : row.length = 6 := hrow.len
  refine W.fact fun told hLn hHL hbL => ?_
  have hb3 : base.objs.size ≤ L + 3 := Nat.le_trans hbL (Nat.le_add_right _ _)
  refine WS_cons (WS_For F hh ?_ (fun _ => rfl))
  walk_at "e"
  refine ⟨row.map fun x : Nat => V.int x, _, ⟨srcList aR _⟩, h3, fun it hit hbit => ?_⟩
  have itne : ∀ a o, σ.H a = some o → a ≠ it := fun a o e => Nat.ne_of_lt (Nat.lt_of_lt_of_le (told _ _ e) hit)
  have hPit : P19 ≠ it := by
    obtain ⟨more, e', _⟩ := hT.at_
    exact itne _ _ e'
  refine ⟨Row7J left row ds cs σ.H P19 it L aK aW aC aD base.objs.size, fun o => ?_, ?_, ?_, ?_⟩
  · refine ⟨h0, fun a p _ _ _ _ e => (upd_ne (itne _ _ e)).trans e, hT.move (fun b o' _ _ e => ⟨(upd_ne (itne _ _ e)).trans e, itne _ _ e⟩) fun o' e => (upd_ne (itne _ _ e)).trans e, ⟨v0, (upd_ne (itne _ _ h2)).trans h2⟩,
      [], row, [], [(0, 0)], 0, rfl, rfl, S.it fun a o _ e => (upd_ne (itne _ _ e)).trans e, fun j hj => (by cases hj), Nat.le_refl _, Nat.le_refl _, MH.inv_start, fun j _ => by unfold Dof; lia, fun q => absurd rfl q⟩
  · rintro rem τ o ⟨j0, j1, j2, ⟨v, j3⟩, done, rest, kept, ws, d, k1, k2, k3, k4, k5, k6, k7, k8, k9⟩ ho
    have nr : ∀ a p, (∀ ob, p ≠ .raw ob) → τ.H a = some p → a ≠ it := fun a p hp e q => by
      rw [q, ho] at e
      exact hp _ (Option.some.inj e).symm
    refine ⟨j1 _ _ hRK hRW hRP h3R h3, fun o' => ⟨j0, fun a p q1 q2 q3 q4 e => (upd_ne (itne _ _ e)).trans (j1 _ _ q1 q2 q3 q4 e), j2.move (fun b o' kb _ e => ⟨(upd_ne kb).trans e, kb⟩) fun o' e => (upd_ne hPit).trans e, ⟨v, (upd_ne (nr _ _ (fun _ q => by cases q) j3)).trans j3⟩,
      done, rest, kept, ws, d, k1, k2, k3.it fun a p hp e => (upd_ne (nr _ _ hp e)).trans e, k4, k5, k6, k7, k8, fun q => ?_⟩⟩
    obtain ⟨D, e1, e2⟩ := k9 q
    exact ⟨D, e1, (upd_ne (nr _ _ (fun _ q => by cases q) e2)).trans e2⟩
  · rintro v rem τ o ⟨j0, j1, j2, ⟨v', j3⟩, done, rest, kept, ws, d, k1, k2, k3, k4, k5, k6, k7, k8, k9⟩ ho
    cases rest with
    | nil => cases k2
    | cons k rest =>
      simp only [List.map_cons, List.cons.injEq] at k2
      obtain ⟨rfl, rfl⟩ := k2
      have hk6 : k < 6 := hrow.lt (by rw [k1]; simp)
      have hdl : done.length ≤ 5 := by
        have := congrArg List.length k1
        simp at this; lia
      have hpow : 2 ^ done.length ≤ 32 := (Nat.pow_le_pow_right (by decide) hdl : 2 ^ done.length ≤ 2 ^ 5)
      have hit3 : it ≠ L + 3 := by intro q; rw [← q, ho] at j3; cases j3
      refine WA_Name (WSt_cell cell_k j3 hb3 ?_ (by walk_at "k") (by walk_at "k"))
      dsimp only
      have up3 : ∀ a p, a ≠ L + 3 → τ.H a = some p → upd τ.H (L + 3) (.cell (some (V.int k))) a = some p := fun a p q e => (upd_ne q).trans e
      have S1 : RS (upd τ.H (L + 3) (.cell (some (V.int k)))) base.objs.size L aK aW aC aD k cs ds kept ws := k3.k (fun a p q _ e => (upd_ne q).trans ((upd_ne q).symm.trans e)) (upd_same _ _ _)
      have hoit : upd τ.H (L + 3) (.cell (some (V.int k))) it = some (.raw o) := up3 _ _ hit3 ho
      have hitK : it ≠ aK := by intro q; rw [q, S1.hK] at hoit; cases hoit
      have hitW : it ≠ aW := by
        obtain ⟨ys, hy, _⟩ := S1.hW
        intro q; rw [q, hy] at hoit; cases hoit
      refine W.fact fun told1 _ _ _ => ?_
      refine law_turn (left := left) (Kp := (· ≠ it)) B F hh hA hU hcs hds hk6 j0 S1 k4 (by lia) (by lia) k7 (k8 k (List.mem_cons_self ..)) ?_ ?_ fun D kept' ws' m' H' n' r1 r2 r3 r4 r5 r6 r7 r8 r9 r10 => ?_
      · exact j2.move (fun b o' kb _ e => ⟨(upd_ne (by intro q; rw [q, j3] at e; cases e)).trans e, kb⟩) fun o' e => (upd_ne (Ne.symm hP3)).trans e
      · intro c hc
        exact Nat.ne_of_gt (Nat.lt_of_lt_of_le (told1 _ _ hoit) hc)
      · refine ⟨r10 _ _ hitK hitW (Ne.symm hPit) hoit, r1, fun a p q1 q2 q3 q4 e => r10 _ _ q1 q2 q3 (up3 _ _ q4 (j1 _ _ q1 q2 q3 q4 e)), r9, ⟨_, r4.c3⟩,
          done ++ [k], rest, kept', ws', Dof ds k, by rw [k1]; simp, rfl, r4.k (fun a p q _ e => (upd_ne q).trans e) (upd_same _ _ _), r5, by rw [List.length_append]; simp; lia, ?_, r8, fun j hj => ?_, fun _ => ⟨D, r2, r3⟩⟩
        · rw [List.length_append, List.length_singleton, Nat.pow_succ]; lia
        · have := hrow.pair
          rw [k1, List.pairwise_append] at this
          exact before_le ((List.pairwise_cons.mp this.2.1).1 j hj)
  · rintro τ n' o ⟨j0, j1, j2, ⟨v', j3⟩, done, rest, kept, ws, d, k1, k2, k3, k4, k5, k6, k7, k8, k9⟩ ho
    have hl : rest = [] := by
      cases rest with
      | nil => rfl
      | cons _ _ => cases k2
    subst hl
    rw [List.append_nil] at k1
    have hdl : done.length = 6 := by rw [← k1]; exact hrl
    have nr : ∀ a p, (∀ ob, p ≠ .raw ob) → τ.H a = some p → a ≠ it := fun a p hp e q => by
      rw [q, ho] at e
      exact hp _ (Option.some.inj e).symm
    obtain ⟨D, e1, e2⟩ := k9 (by intro q; rw [q] at hdl; cases hdl)
    obtain ⟨ys, hy1, hy2⟩ := k3.hW
    have n3 : ∀ a p, a ≠ L + 3 → upd τ.H (L + 3) (.cell (some (.int (0 : Nat)))) a = some p → τ.H a = some p := fun a p q e => (upd_ne q).symm.trans e
    have n3W : aW ≠ L + 3 := neOf hy1 k3.c3 (by intro q; cases q)
    have dl : ∀ a p, (∀ ob, p ≠ .raw ob) → τ.H a = some p → del τ.H it a = some p := fun a p hp e => (del_ne (nr _ _ hp e)).trans e
    refine h D kept ws d τ.m (del τ.H it) n' e1 (dl _ _ (fun _ q => by cases q) e2) k7 (by lia) (by rw [hdl] at k6; exact k6) (j2.move (fun b o' kb _ e => ⟨(del_ne kb).trans e, trivial⟩) fun o' e => (del_ne hPit).trans e)
      ⟨ys, dl _ _ (fun _ q => by cases q) (n3 _ _ n3W hy1), hy2.tups fun a vs e => dl _ _ (fun _ q => by cases q) (n3 _ _ (neOf e k3.c3 (by intro q; cases q)) e)⟩
      (dl _ _ (fun _ q => by cases q) (n3 _ _ (Nat.ne_of_gt (by lia)) k3.c5)) fun a p q1 q2 q3 q4 e => (del_ne (itne _ _ e)).trans (j1 _ _ q1 q2 q3 q4 e)
end
section
set_option maxRecDepth 100000
set_option linter.unusedVariables false
variable {base : Heap} {os : OsState} {H H' : HP} {n n' : Nat} {s s' : Shared} {prog : Program} {w : World} {A : Around} {L : Addr} {σ : St} {m : Loc} {env : Env} {Q : V → St → Prop} {R : Flow → St → Prop}
variable {dV kV doc pm cdv ct : Value} {an : Option Addr} {f : Addr} {mg mb : Str → Option Value}







theorem most_map (P : Int → Bool) (ws : List (Int × Int)) : (ws.filterMap fun p => if P p.2 then some (Y.val (.int p.1)) else none) = (((ws.filter fun p => P p.2).map (·.1)).map V.int).map Y.val := by
  induction ws with
  | nil => rfl
  | cons p ws ih =>
    cases h : P p.2 with
    | true =>
      rw [List.filter_cons_of_pos (p := fun p : Int × Int => P p.2) h, List.map_cons, List.map_cons, List.map_cons, ← ih]
      simp only [List.filterMap_cons, h, if_true]
    | false =>
      rw [List.filter_cons_of_neg (p := fun p : Int × Int => P p.2) (by show ¬ P p.2 = true; rw [h]; exact Bool.false_ne_true), ← ih]
      simp only [List.filterMap_cons, h, Bool.false_eq_true, if_false]
-- how many of the sums reach to here
structure Upto (K : List Int) (t : Int) (M : Nat) : Prop where
  le : M ≤ K.length + 1
  iff : ∀ i, i ≤ K.length → (MH.psum K i ≤ t ↔ i < M)
theorem upto_of {K : List Int} {ws : List (Int × Int)} {d t k : Int} {P : Int → Bool} (I : MH.Inv K ws d) (hP : ∀ x, P x = true ↔ x ≤ t) (hk : k ∈ -1 :: (ws.filter fun p => P p.2).map (·.1)) (hm : ∀ j ∈ -1 :: (ws.filter fun p => P p.2).map (·.1), j ≤ k) :
    ∃ M : Nat, 1 + k = M ∧ Upto K t M := by
  have hin : ∀ i, i ≤ K.length → MH.psum K i ≤ t → (i : Int) ≤ k := fun i hi e => hm _ (List.mem_cons_of_mem _ (List.mem_map.mpr ⟨_, List.mem_filter.mpr ⟨I.all i hi, (hP _).mpr e⟩, rfl⟩))
  rcases List.mem_cons.mp hk with rfl | hk
  · refine ⟨0, rfl, by lia, fun i hi => ⟨fun e => ?_, fun e => absurd e (Nat.not_lt_zero _)⟩⟩
    have := hin i hi e
    lia
  · refine Classical.byContradiction fun hneg1_ => ?_
    obtain ⟨p, hp, rfl⟩ := List.mem_map.mp hk
    obtain ⟨hp1, hp2⟩ := List.mem_filter.mp hp
    obtain ⟨j, a1, a2, a3, _⟩ := I.least p hp1
    refine hneg1_ ?_
    have ht := (hP _).mp hp2
    refine ⟨j + 1, by lia, by lia, fun i hi => ⟨fun e => ?_, fun e => ?_⟩⟩
    · have := hin i hi e
      lia
    · have := MH.psum_le I.pos (i := i) (j := j) (by lia)
      lia
theorem parts_min {p : Nat → Bool} {lo hi r M : Nat} (h : Parts p lo hi r) (hp : ∀ i, i < hi → (p i = false ↔ i < M)) : (r : Int) = min (max (lo : Int) (M : Int)) (hi : Int) := by
  obtain ⟨a, b, c, d⟩ := h
  have h1 : r = lo ∨ r ≤ M := by
    rcases Nat.eq_or_lt_of_le a with e | e
    · exact .inl e.symm
    · have := (hp (r - 1) (by omega)).mp (c (r - 1) (by omega) (by omega))
      exact .inr (by omega)
  have h2 : r = hi ∨ M ≤ r := by
    rcases Nat.eq_or_lt_of_le b with e | e
    · exact .inl e
    · refine .inr (Nat.le_of_not_lt fun q => ?_)
      have := (hp r e).mpr q
      rw [d r (Nat.le_refl _) e] at this
      cases this
  omega
theorem WSub_last {value slice : Expr} {a : Addr} {vs : List V} {v : V} (ha : σ.H a = some (.list vs)) (hv : vs[vs.length - 1]? = some v) (hz : vs.length ≤ sizeLine) (h : Q v σ) (hs : notSlice slice = true) :
    WSub prog w base os A L value slice (.ref a) (.int (-1)) Q σ := fun x y ex ey s r => by
  rw [er_ref] at ex; subst ex; obtain ⟨t, rfl⟩ := er_int.mp ey
  refine Classical.byContradiction fun hneg2_ => ?_
  obtain ⟨xs, hl, e⟩ := (r.at_ ha).list
  subst e
  refine hneg2_ ?_
  rw [List.getElem?_map] at hv
  obtain ⟨u, hu, rfl⟩ := Option.map_eq_some_iff.mp hv
  rw [List.length_map] at hu
  have hlt : xs.length - 1 < xs.length := (List.getElem?_eq_some_iff.mp hu).1
  rw [List.length_map, sizeLine_eq] at hz
  exact tail_any hl.typeIs slot_list_getitem.lookup (wpAny_getItem_list_neg hl (by lia) (by rw [List.size_toArray]; lia) (by lia) (by
    rw [List.size_toArray, show ((-1 : Int) + (xs.length : Int)).toNat = xs.length - 1 by lia]; simpa using hu) ⟨σ, r, h⟩) (sub_int hs)
theorem div_small (n : Nat) (h : n < 9) : Builtin.divisionGoesByPylong (n : Nat) 2 = false ∧ Int.fdiv (n : Nat) 2 = ((n / 2 : Nat) : Int) :=
  (by decide +kernel : ∀ n : Nat, n < 9 → Builtin.divisionGoesByPylong (n : Nat) 2 = false ∧ Int.fdiv (n : Nat) 2 = ((n / 2 : Nat) : Int)) n h
noncomputable abbrev hourB : List Stmt := forB ((lawFrom 9).headD (.Pass ⟨0, 0, 0, 0⟩))
noncomputable abbrev hourAt (i : Nat) : List Stmt := hourB.drop i
noncomputable abbrev winB : List Stmt := forB ((hourAt 2).headD (.Pass ⟨0, 0, 0, 0⟩))
theorem sums_get {K : List Int} {i : Nat} (h : i < K.length + 1) : (((List.range (K.length + 1)).map (MH.psum K)).map V.int)[i]? = some (.int (MH.psum K i)) := by
  rw [List.getElem?_map, List.getElem?_map, List.getElem?_range h]; rfl
theorem sums_len (K : List Int) : (((List.range (K.length + 1)).map (MH.psum K)).map V.int).length = K.length + 1 := by
  rw [List.length_map, List.length_map, List.length_range]
-- one window: both searches find what is counted
theorem law_window {c19 P19 fL Ds : Addr} {K : List Int} {hour : Int} {lo hi M M' : Nat} (B : PLB w base mg mb c19 P19 fL) (F : Full base) (hh : A.handled = none) (hA : A.depth + 4 < recursionLimit) (hlen : K.length ≤ 7) (hpos : ∀ c ∈ K, 0 ≤ c)
    (h0 : σ.m "sums" = some (.ref Ds)) (h1 : σ.H Ds = some (.list (((List.range (K.length + 1)).map (MH.psum K)).map V.int))) (h2 : σ.H (L + 6) = some (.cell (some (.int hour)))) (h3 : σ.m "most" = some (.int M)) (h4 : σ.m "ahead" = some (.int M'))
    (h5 : σ.m "low" = some (.int lo)) (h6 : σ.m "high" = some (.int hi)) (hlo : lo ≤ hi) (hhi : hi ≤ K.length + 1) (hM : Upto K hour M) (hM' : Upto K (hour - 1) M') (h : ∀ n', R .next ⟨σ.m, σ.H, n'⟩) :
    WS PL w base os A L winB (lawE doc pm cdv ct an L f) R σ := by
  refine Classical.byContradiction fun hneg3_ => ?_
  obtain ⟨fb, T2, D2, dd2, pp2, aa2, cd2, ct2, mi2, Fi2, hT2⟩ := B.bisR
  obtain ⟨fc, T4, D4, dd4, pp4, aa4, cd4, ct4, mi4, Fi4, hT4⟩ := B.bisL
  refine hneg3_ ?_
  have hmono : ∀ i j, i ≤ j → MH.psum K i ≤ MH.psum K j := fun i j hij => MH.psum_le hpos hij
  refine WS_cons (WS_If ?_)
  walk_at "i"
  refine W_Call rfl rfl ?_ rfl
  refine W_global B.G.g mi2 ?_ (by walk_at "k") (by walk_at "k") (by walk_at "k") (by decide +kernel)
  dsimp only [WArgs]
  walk_at "e"
  refine W_Name (W_load_cell cell_hour h2 ?_ rfl (.inl (by kernel_rfl!))) (by decide +kernel)
  walk_at "e"
  walk_at "e"
  dsimp only [WKws, kwNames]
  refine ⟨.inl (Fi2.at_.imp fun o e => ⟨_, e.1, e.2⟩), WCall_ref0 fun as ea => ?_⟩
  refine Classical.byContradiction fun hneg4_ => ?_
  obtain ⟨u1, u2, u3, u4, rfl, eu1, eu2, eu3, eu4⟩ := map_four ea
  refine hneg4_ ?_
  refine W_pureP (P := fun v => ∃ r : Nat, v = .int r ∧ Parts (fun i => decide (hour < MH.psum K i)) lo hi r) (fun l1 l2 => C_bisR_ints (ks := MH.psum K) B.G Fi2 hT2 eu1 eu2 eu3 (.inl eu4) (fun i hi => sums_get (by rw [sums_len] at hi; exact hi)) (by show A.depth < _; lia)
    (upd_sub l2 _ _ h1) (by rw [sums_len, sizeLine_eq]; lia) hlo (by rw [sums_len]; exact hhi) fun i j _ hij _ hp => ?_) fun v n1 hv hn1 => ?_
  · have := hmono i j hij
    simp only [decide_eq_true_eq] at hp ⊢
    lia
  obtain ⟨r, rfl, hp⟩ := hv
  refine W_Call rfl rfl ?_ rfl
  refine W_builtin B.G.g B.G.b (v := .builtin "min") (B.G.bi _ (.builtin "min") (by kernel_rfl!)).1 (B.G.bi _ (.builtin "min") (by kernel_rfl!)).2 ?_ (by walk_at "k") (by walk_at "k") (by walk_at "k") (by walk_at "k") (by decide +kernel)
  dsimp only [WArgs]
  refine W_Call rfl rfl ?_ rfl
  refine W_builtin B.G.g B.G.b (v := .builtin "max") (B.G.bi _ (.builtin "max") (by kernel_rfl!)).1 (B.G.bi _ (.builtin "max") (by kernel_rfl!)).2 ?_ (by walk_at "k") (by walk_at "k") (by walk_at "k") (by walk_at "k") (by decide +kernel)
  dsimp only [WArgs]
  walk_at "e"
  walk_at "e"
  dsimp only [WKws, kwNames]
  refine ⟨trivial, WCall_max2 F hh fun n2 => ?_⟩
  walk_at "e"
  refine ⟨trivial, WCall_min2 F hh fun n3 => ?_⟩
  refine WC_ne ?_
  refine WT_bool ?_
  rw [← parts_min hp (M := M) (fun i hi' => by rw [decide_eq_false_iff_not, ← hM.iff i (by lia)]; lia)]
  rw [show ((r : Int) != (r : Int)) = false by simp]
  simp only [Bool.false_eq_true, if_false]
  refine WS_nil ?_
  dsimp only
  refine WS_cons (WS_If ?_)
  walk_at "i"
  refine W_Call rfl rfl ?_ rfl
  refine W_global B.G.g mi4 ?_ (by walk_at "k") (by walk_at "k") (by walk_at "k") (by decide +kernel)
  dsimp only [WArgs]
  walk_at "e"
  refine W_Name (W_load_cell cell_hour h2 ?_ rfl (.inl (by kernel_rfl!))) (by decide +kernel)
  walk_at "e"
  walk_at "e"
  dsimp only [WKws, kwNames]
  refine ⟨.inl (Fi4.at_.imp fun o e => ⟨_, e.1, e.2⟩), WCall_ref0 fun as ea => ?_⟩
  refine Classical.byContradiction fun hneg5_ => ?_
  obtain ⟨u1, u2, u3, u4, rfl, eu1, eu2, eu3, eu4⟩ := map_four ea
  refine hneg5_ ?_
  refine W_pureP (P := fun v => ∃ r : Nat, v = .int r ∧ Parts (fun i => !decide (MH.psum K i < hour)) lo hi r) (fun l1 l2 => C_bisL_ints (ks := MH.psum K) B.G Fi4 hT4 eu1 eu2 eu3 (.inl eu4) (fun i hi => sums_get (by rw [sums_len] at hi; exact hi)) (by show A.depth < _; lia)
    (upd_sub l2 _ _ h1) (by rw [sums_len, sizeLine_eq]; lia) hlo (by rw [sums_len]; exact hhi) fun i j _ hij _ hp => ?_) fun v n4 hv hn1 => ?_
  · have := hmono i j hij
    simp only [Bool.not_eq_true', decide_eq_false_iff_not] at hp ⊢
    lia
  obtain ⟨r', rfl, hp'⟩ := hv
  refine W_Call rfl rfl ?_ rfl
  refine W_builtin B.G.g B.G.b (v := .builtin "min") (B.G.bi _ (.builtin "min") (by kernel_rfl!)).1 (B.G.bi _ (.builtin "min") (by kernel_rfl!)).2 ?_ (by walk_at "k") (by walk_at "k") (by walk_at "k") (by walk_at "k") (by decide +kernel)
  dsimp only [WArgs]
  refine W_Call rfl rfl ?_ rfl
  refine W_builtin B.G.g B.G.b (v := .builtin "max") (B.G.bi _ (.builtin "max") (by kernel_rfl!)).1 (B.G.bi _ (.builtin "max") (by kernel_rfl!)).2 ?_ (by walk_at "k") (by walk_at "k") (by walk_at "k") (by walk_at "k") (by decide +kernel)
  dsimp only [WArgs]
  walk_at "e"
  walk_at "e"
  dsimp only [WKws, kwNames]
  refine ⟨trivial, WCall_max2 F hh fun n5 => ?_⟩
  walk_at "e"
  refine ⟨trivial, WCall_min2 F hh fun n6 => ?_⟩
  refine WC_ne ?_
  refine WT_bool ?_
  rw [← parts_min hp' (M := M') (fun i hi' => by rw [Bool.not_eq_false', decide_eq_true_eq, ← hM'.iff i (by lia)]; lia)]
  rw [show ((r' : Int) != (r' : Int)) = false by simp]
  simp only [Bool.false_eq_true, if_false]
  refine WS_nil ?_
  dsimp only
  refine WS_nil ?_
  exact h _
end
section
set_option maxRecDepth 100000
set_option linter.unusedVariables false
variable {base : Heap} {os : OsState} {H H' : HP} {n n' : Nat} {s s' : Shared} {prog : Program} {w : World} {A : Around} {L : Addr} {σ : St} {m : Loc} {env : Env} {Q : V → St → Prop} {R : Flow → St → Prop}
variable {dV kV doc pm cdv ct : Value} {an : Option Addr} {f : Addr} {mg mb : Str → Option Value}







theorem WB.fact {op : Operator} {x y : V} (h : (∀ a o, σ.H a = some o → a < σ.n) → L < σ.n → σ.H L = none → base.objs.size ≤ L → WB prog w base os A L op x y Q σ) : WB prog w base os A L op x y Q σ :=
  fun a b ea eb => WV.fact fun p q r s => h p q r s a b ea eb

theorem law_most {c19 P19 fL aW : Addr} {ws : List (Int × Int)} {K : List Int} {d hour : Int} (B : PLB w base mg mb c19 P19 fL) (F : Full base) (hh : A.handled = none) (h2 : σ.H (L + 6) = some (.cell (some (.int hour)))) (h5 : σ.H (L + 5) = some (.cell (some (.ref aW))))
    (hW : ∃ ys, σ.H aW = some (.list ys) ∧ All σ.H (ws.map pairY) ys) (hws : ws.length ≤ 200) (I : MH.Inv K ws d) (h : ∀ (M : Nat) H' n', Upto K (hour) M → Sub σ.H H' → WS PL w base os A L (hourAt 1) (lawE doc pm cdv ct an L f) R ⟨σ.m.set "most" (.int M), H', n'⟩) :
    WS PL w base os A L (hourAt 0) (lawE doc pm cdv ct an L f) R σ := by
  obtain ⟨ys, hy1, hy2⟩ := hW
  have hyl : ys.length = ws.length := by have := hy2.len; rw [List.length_map] at this; exact this
  refine W.fact fun told hLn hHL hbL => ?_
  refine WS_cons (WS_Assign ?_ (by walk_at "k"))
  walk_at "e"
  walk_at "e"
  refine W_Call rfl rfl ?_ rfl
  refine W_builtin B.G.g B.G.b (v := .builtin "max") (B.G.bi _ (.builtin "max") (by kernel_rfl!)).1 (B.G.bi _ (.builtin "max") (by kernel_rfl!)).2 ?_ (by walk_at "k") (by walk_at "k") (by walk_at "k") (by walk_at "k") (by decide +kernel)
  dsimp only [WArgs]
  walk_at "e"
  refine W_List rfl ?_
  dsimp only [WArgs]
  walk_at "e"
  walk_at "e"
  refine WU_neg ?_
  refine ⟨by show 1 ≤ _; decide, fun a0 ha0 => ?_⟩
  have hs0 : Sub σ.H (upd σ.H a0 (.list [.int (-1)])) := Sub.upd_new (fresh_none told ha0)
  have hL0 : upd σ.H a0 (.list [.int (-1)]) L = none := (upd_ne (Nat.ne_of_lt (Nat.lt_of_lt_of_le hLn ha0))).trans hHL
  refine W_ListComp (cl := [("hour", L + 6)]) F hh ?_ (fun _ => rfl) (by kernel_rfl!) (noCells (by kernel_rfl!)) rfl (locNames (by kernel_rfl!))
  refine W_Name (W_load_cell cell_ways (hs0 _ _ h5) ?_ rfl (.inl (by kernel_rfl!))) (by decide +kernel)
  refine ⟨pairFs ys ws fun p => if (fun x : Int => decide (x ≤ hour)) p.2 then some (Y.val (.int p.1)) else none, ⟨⟨_, ⟨by rw [pairFs_fst hyl]; exact srcList aW _⟩, fun H hs => hs _ _ (hs0 _ _ hy1)⟩, by rw [pairFs_len hyl, sizeLine_eq]; lia, ?_⟩, ?_⟩
  · intro Cc v Z hv τ hn hs
    obtain ⟨a, p, hp, rfl, ha, rfl⟩ := pairFs_mem hy2 hv
    have hs2 : Sub σ.H τ.H := hs0.trans (sub_of_upd hs hL0)
    unfold CTurn
    refine WA_Tuple F rfl hh (hs2 _ _ ha) rfl fun n2 => ?_
    dsimp only [WAs]
    refine WA_Name (WSt_local ?_ (by walk_at "k") (by walk_at "k") (by walk_at "k"))
    refine WA_Name (WSt_local ?_ (by walk_at "k") (by walk_at "k") (by walk_at "k"))
    dsimp only [WIfs]
    walk_at "i"
    walk_at "e"
    refine W_Name (W_load_cell (c := L + 6) (by kernel_rfl!) (hs2 _ _ h2) ?_ rfl (.inl (by kernel_rfl!))) (by decide +kernel)
    refine WC_le ?_
    refine WT_bool ?_
    show (match (if (decide (p.2 ≤ hour)) = true then some (Y.val (.int p.1)) else none) with | none => _ | some Z => _)
    cases hle : decide (p.2 ≤ hour) with
    | true =>
      simp only [if_true]
      refine ⟨trivial, ?_⟩
      walk_at "e"
      exact ⟨rfl, Sub.refl _⟩
    | false =>
      simp only [Bool.false_eq_true, if_false]
      exact ⟨trivial, Sub.refl _⟩
  · intro D zs H1 n1 hD hs hDl hall
    rw [pairFs_some hyl, most_map (fun x : Int => decide (x ≤ hour))] at hall
    rw [hall.vals] at hDl
    refine WB.fact fun told1 _ _ _ => ?_
    refine WB_addL (hs _ _ (upd_same _ _ _)) hDl ?_ fun c hc => ?_
    · have := List.length_filter_le (fun p : Int × Int => decide (p.2 ≤ hour)) ws
      rw [List.length_map, List.length_map, sizeLine_eq]
      simp only [List.length_cons, List.length_nil]
      lia
    dsimp only [WKws, kwNames]
    refine ⟨trivial, ?_⟩
    refine WCall_maxL (ks := -1 :: (ws.filter fun p => (fun x : Int => decide (x ≤ hour)) p.2).map (·.1)) F hh (upd_same _ _ _) (by simp) fun k n2 hk hm => ?_
    obtain ⟨M, hM, hup⟩ := upto_of (P := fun x : Int => decide (x ≤ hour)) (t := hour) I (fun x => by simp only [decide_eq_true_eq] <;> lia) hk hm
    refine WB_add ?_
    rw [hM]
    refine WSt_local ?_ (by walk_at "k") (by walk_at "k") (by walk_at "k")
    refine h M _ _ hup ?_
    exact fun a o e => (upd_ne (Nat.ne_of_lt (Nat.lt_of_lt_of_le (told1 _ _ (hs _ _ (hs0 _ _ e))) hc))).trans (hs _ _ (hs0 _ _ e))

theorem law_ahead {c19 P19 fL aW : Addr} {ws : List (Int × Int)} {K : List Int} {d hour : Int} (B : PLB w base mg mb c19 P19 fL) (F : Full base) (hh : A.handled = none) (h2 : σ.H (L + 6) = some (.cell (some (.int hour)))) (h5 : σ.H (L + 5) = some (.cell (some (.ref aW))))
    (hW : ∃ ys, σ.H aW = some (.list ys) ∧ All σ.H (ws.map pairY) ys) (hws : ws.length ≤ 200) (I : MH.Inv K ws d) (h : ∀ (M : Nat) H' n', Upto K (hour - 1) M → Sub σ.H H' → WS PL w base os A L (hourAt 2) (lawE doc pm cdv ct an L f) R ⟨σ.m.set "ahead" (.int M), H', n'⟩) :
    WS PL w base os A L (hourAt 1) (lawE doc pm cdv ct an L f) R σ := by
  obtain ⟨ys, hy1, hy2⟩ := hW
  have hyl : ys.length = ws.length := by have := hy2.len; rw [List.length_map] at this; exact this
  refine W.fact fun told hLn hHL hbL => ?_
  refine WS_cons (WS_Assign ?_ (by walk_at "k"))
  walk_at "e"
  walk_at "e"
  refine W_Call rfl rfl ?_ rfl
  refine W_builtin B.G.g B.G.b (v := .builtin "max") (B.G.bi _ (.builtin "max") (by kernel_rfl!)).1 (B.G.bi _ (.builtin "max") (by kernel_rfl!)).2 ?_ (by walk_at "k") (by walk_at "k") (by walk_at "k") (by walk_at "k") (by decide +kernel)
  dsimp only [WArgs]
  walk_at "e"
  refine W_List rfl ?_
  dsimp only [WArgs]
  walk_at "e"
  walk_at "e"
  refine WU_neg ?_
  refine ⟨by show 1 ≤ _; decide, fun a0 ha0 => ?_⟩
  have hs0 : Sub σ.H (upd σ.H a0 (.list [.int (-1)])) := Sub.upd_new (fresh_none told ha0)
  have hL0 : upd σ.H a0 (.list [.int (-1)]) L = none := (upd_ne (Nat.ne_of_lt (Nat.lt_of_lt_of_le hLn ha0))).trans hHL
  refine W_ListComp (cl := [("hour", L + 6)]) F hh ?_ (fun _ => rfl) (by kernel_rfl!) (noCells (by kernel_rfl!)) rfl (locNames (by kernel_rfl!))
  refine W_Name (W_load_cell cell_ways (hs0 _ _ h5) ?_ rfl (.inl (by kernel_rfl!))) (by decide +kernel)
  refine ⟨pairFs ys ws fun p => if (fun x : Int => decide (x < hour)) p.2 then some (Y.val (.int p.1)) else none, ⟨⟨_, ⟨by rw [pairFs_fst hyl]; exact srcList aW _⟩, fun H hs => hs _ _ (hs0 _ _ hy1)⟩, by rw [pairFs_len hyl, sizeLine_eq]; lia, ?_⟩, ?_⟩
  · intro Cc v Z hv τ hn hs
    obtain ⟨a, p, hp, rfl, ha, rfl⟩ := pairFs_mem hy2 hv
    have hs2 : Sub σ.H τ.H := hs0.trans (sub_of_upd hs hL0)
    unfold CTurn
    refine WA_Tuple F rfl hh (hs2 _ _ ha) rfl fun n2 => ?_
    dsimp only [WAs]
    refine WA_Name (WSt_local ?_ (by walk_at "k") (by walk_at "k") (by walk_at "k"))
    refine WA_Name (WSt_local ?_ (by walk_at "k") (by walk_at "k") (by walk_at "k"))
    dsimp only [WIfs]
    walk_at "i"
    walk_at "e"
    refine W_Name (W_load_cell (c := L + 6) (by kernel_rfl!) (hs2 _ _ h2) ?_ rfl (.inl (by kernel_rfl!))) (by decide +kernel)
    refine WC_lt ?_
    refine WT_bool ?_
    show (match (if (decide (p.2 < hour)) = true then some (Y.val (.int p.1)) else none) with | none => _ | some Z => _)
    cases hle : decide (p.2 < hour) with
    | true =>
      simp only [if_true]
      refine ⟨trivial, ?_⟩
      walk_at "e"
      exact ⟨rfl, Sub.refl _⟩
    | false =>
      simp only [Bool.false_eq_true, if_false]
      exact ⟨trivial, Sub.refl _⟩
  · intro D zs H1 n1 hD hs hDl hall
    rw [pairFs_some hyl, most_map (fun x : Int => decide (x < hour))] at hall
    rw [hall.vals] at hDl
    refine WB.fact fun told1 _ _ _ => ?_
    refine WB_addL (hs _ _ (upd_same _ _ _)) hDl ?_ fun c hc => ?_
    · have := List.length_filter_le (fun p : Int × Int => decide (p.2 < hour)) ws
      rw [List.length_map, List.length_map, sizeLine_eq]
      simp only [List.length_cons, List.length_nil]
      lia
    dsimp only [WKws, kwNames]
    refine ⟨trivial, ?_⟩
    refine WCall_maxL (ks := -1 :: (ws.filter fun p => (fun x : Int => decide (x < hour)) p.2).map (·.1)) F hh (upd_same _ _ _) (by simp) fun k n2 hk hm => ?_
    obtain ⟨M, hM, hup⟩ := upto_of (P := fun x : Int => decide (x < hour)) (t := hour - 1) I (fun x => by simp only [decide_eq_true_eq] <;> lia) hk hm
    refine WB_add ?_
    rw [hM]
    refine WSt_local ?_ (by walk_at "k") (by walk_at "k") (by walk_at "k")
    refine h M _ _ hup ?_
    exact fun a o e => (upd_ne (Nat.ne_of_lt (Nat.lt_of_lt_of_le (told1 _ _ (hs _ _ (hs0 _ _ e))) hc))).trans (hs _ _ (hs0 _ _ e))
end
section
set_option maxRecDepth 100000
set_option linter.unusedVariables false
variable {base : Heap} {os : OsState} {H H' : HP} {n n' : Nat} {s s' : Shared} {prog : Program} {w : World} {A : Around} {L : Addr} {σ : St} {m : Loc} {env : Env} {Q : V → St → Prop} {R : Flow → St → Prop}
variable {dV kV doc pm cdv ct : Value} {an : Option Addr} {f : Addr} {mg mb : Str → Option Value}







-- what the loop keeps
inductive WinJ (G : HP) (Ds aT t1 t2 t3 : Addr) (M M' mid : Int) (K : List Int) (rem : List V) (τ : St) : Prop
  | mk (f0 : τ.m "sums" = some (.ref Ds))
    (f1 : τ.m "most" = some (.int M))
    (f2 : τ.m "ahead" = some (.int M'))
    (f3 : τ.m "middle" = some (.int mid))
    (f4 : (∀ a o, G a = some o → τ.H a = some o))
    (f5 : τ.H aT = some (.list [.ref t1, .ref t2, .ref t3]))
    (rest : List Addr)
    (g0 : rem = rest.map V.ref)
    (g1 : ∀ t ∈ rest, ∃ lo hi : Nat, lo ≤ hi ∧ hi ≤ K.length + 1 ∧ τ.H t = some (.tup [.int lo, .int hi])) : WinJ G Ds aT t1 t2 t3 M M' mid K rem τ
-- the three windows
theorem law_windows {c19 P19 fL Ds : Addr} {K : List Int} {hour : Int} {mid M M' : Nat} (B : PLB w base mg mb c19 P19 fL) (F : Full base) (hh : A.handled = none) (hA : A.depth + 4 < recursionLimit) (hlen : K.length ≤ 7) (hpos : ∀ c ∈ K, 0 ≤ c) (hmid : mid ≤ K.length)
    (h0 : σ.m "sums" = some (.ref Ds)) (h1 : σ.H Ds = some (.list (((List.range (K.length + 1)).map (MH.psum K)).map V.int))) (h2 : σ.H (L + 6) = some (.cell (some (.int hour)))) (h3 : σ.m "most" = some (.int M)) (h4 : σ.m "ahead" = some (.int M'))
    (h5 : σ.m "middle" = some (.int mid)) (hM : Upto K hour M) (hM' : Upto K (hour - 1) M') (h : ∀ m' H' n', m' "sums" = some (.ref Ds) → m' "middle" = some (.int mid) → Sub σ.H H' → R .next ⟨m', H', n'⟩) :
    WS PL w base os A L (hourAt 2) (lawE doc pm cdv ct an L f) R σ := by
  refine W.fact fun told hLn hHL hbL => ?_
  refine WS_cons (WS_For F hh ?_ (fun _ => rfl))
  refine W_List rfl ?_
  dsimp only [WArgs]
  refine W_Tuple rfl ?_
  dsimp only [WArgs]
  walk_at "e"
  refine W_Call rfl rfl ?_ rfl
  refine W_builtin B.G.g B.G.b (v := .builtin "len") (B.G.bi _ (.builtin "len") (by kernel_rfl!)).1 (B.G.bi _ (.builtin "len") (by kernel_rfl!)).2 ?_ (by walk_at "k") (by walk_at "k") (by walk_at "k") (by walk_at "k") (by decide +kernel)
  dsimp only [WArgs]
  walk_at "e"
  dsimp only [WKws, kwNames]
  refine ⟨trivial, WCall_len h1 ?_ (by rw [sums_len, sizeLine_eq]; lia)⟩
  refine ⟨by show 2 ≤ _; decide, fun t1 ht1 => ?_⟩
  have g1 : upd σ.H t1 (.tup [.int 0, .int ((((List.range (K.length + 1)).map (MH.psum K)).map V.int).length : Nat)]) Ds = some (.list (((List.range (K.length + 1)).map (MH.psum K)).map V.int)) := (upd_ne (Nat.ne_of_lt (Nat.lt_of_lt_of_le (told _ _ h1) ht1))).trans h1
  refine W_Tuple rfl ?_
  dsimp only [WArgs]
  walk_at "e"
  walk_at "e"
  refine ⟨by show 2 ≤ _; decide, fun t2 ht2 => ?_⟩
  have ht2' : t1 + 1 ≤ t2 := ht2
  refine W_Tuple rfl ?_
  dsimp only [WArgs]
  walk_at "e"
  walk_at "e"
  walk_at "e"
  walk_at "o"
  refine W_Call rfl rfl ?_ rfl
  refine W_builtin B.G.g B.G.b (v := .builtin "len") (B.G.bi _ (.builtin "len") (by kernel_rfl!)).1 (B.G.bi _ (.builtin "len") (by kernel_rfl!)).2 ?_ (by walk_at "k") (by walk_at "k") (by walk_at "k") (by walk_at "k") (by decide +kernel)
  dsimp only [WArgs]
  walk_at "e"
  dsimp only [WKws, kwNames]
  refine ⟨trivial, WCall_len ((upd_ne (Nat.ne_of_lt (Nat.lt_of_lt_of_le (told _ _ h1) (Nat.le_trans ht1 (Nat.le_of_succ_le ht2'))))).trans g1) ?_ (by rw [sums_len, sizeLine_eq]; lia)⟩
  refine ⟨by show 2 ≤ _; decide, fun t3 ht3 => ?_⟩
  have ht3' : t2 + 1 ≤ t3 := ht3
  refine ⟨by show 3 ≤ _; decide, fun aT haT => ?_⟩
  have haT' : t3 + 1 ≤ aT := haT
  rw [sums_len]
  generalize hH1 : upd (upd (upd (upd σ.H t1 _) t2 _) t3 _) aT (.list [.ref t1, .ref t2, .ref t3]) = H1
  have n12 : t1 ≠ t2 := Nat.ne_of_lt ht2'
  have n23 : t2 ≠ t3 := Nat.ne_of_lt ht3'
  have n13 : t1 ≠ t3 := Nat.ne_of_lt (Nat.lt_of_lt_of_le ht2' (Nat.le_of_succ_le ht3'))
  have n3T : t3 ≠ aT := Nat.ne_of_lt haT'
  have n2T : t2 ≠ aT := Nat.ne_of_lt (Nat.lt_of_lt_of_le ht3' (Nat.le_of_succ_le haT'))
  have n1T : t1 ≠ aT := Nat.ne_of_lt (Nat.lt_of_lt_of_le ht2' (Nat.le_trans (Nat.le_of_succ_le ht3') (Nat.le_of_succ_le haT')))
  have low : ∀ a o, σ.H a = some o → H1 a = some o := fun a o e => by
    have q1 : a < t1 := Nat.lt_of_lt_of_le (told _ _ e) ht1
    have q2 : a < t2 := Nat.lt_trans q1 ht2'
    have q3 : a < t3 := Nat.lt_trans q2 ht3'
    have q4 : a < aT := Nat.lt_trans q3 haT'
    subst hH1
    exact (upd_ne (Nat.ne_of_lt q4)).trans ((upd_ne (Nat.ne_of_lt q3)).trans ((upd_ne (Nat.ne_of_lt q2)).trans ((upd_ne (Nat.ne_of_lt q1)).trans e)))
  have w1 : H1 t1 = some (.tup [.int (0 : Nat), .int (K.length + 1 : Nat)]) := by
    subst hH1
    exact (upd_ne n1T).trans ((upd_ne n13).trans ((upd_ne n12).trans (upd_same _ _ _)))
  have w2 : H1 t2 = some (.tup [.int (0 : Nat), .int (mid : Nat)]) := by
    subst hH1
    exact (upd_ne n2T).trans ((upd_ne n23).trans (upd_same _ _ _))
  have w3 : H1 t3 = some (.tup [.int (mid + 1 : Nat), .int (K.length + 1 : Nat)]) := by
    subst hH1
    exact (upd_ne n3T).trans (upd_same _ _ _)
  have wT : H1 aT = some (.list [.ref t1, .ref t2, .ref t3]) := by
    subst hH1
    exact upd_same _ _ _
  clear hH1
  refine ⟨[.ref t1, .ref t2, .ref t3], _, ⟨srcList aT _⟩, wT, fun it hit hbit => ?_⟩
  have hit' : aT + 1 ≤ it := hit
  have itT : ∀ a, a ≤ aT → a ≠ it := fun a ha => Nat.ne_of_lt (Nat.lt_of_le_of_lt ha hit')
  have l3 : t3 ≤ aT := Nat.le_of_succ_le haT'
  have l2 : t2 ≤ aT := Nat.le_trans (Nat.le_of_succ_le ht3') l3
  have l1 : t1 ≤ aT := Nat.le_trans (Nat.le_of_succ_le ht2') l2
  have itlow : ∀ a o, σ.H a = some o → a ≠ it := fun a o e => itT a (Nat.le_trans (Nat.le_of_lt (Nat.lt_of_lt_of_le (told _ _ e) ht1)) l1)
  refine ⟨WinJ σ.H Ds aT t1 t2 t3 M M' mid K, fun o => ?_, ?_, ?_, ?_⟩
  · refine ⟨h0, h3, h4, h5, fun a p e => (upd_ne (itlow _ _ e)).trans (low _ _ e), (upd_ne (itT _ (Nat.le_refl _))).trans wT, [t1, t2, t3], rfl, fun t ht => ?_⟩
    rcases List.mem_cons.mp ht with rfl | ht
    · exact ⟨0, K.length + 1, by lia, by lia, (upd_ne (itT _ l1)).trans w1⟩
    · rcases List.mem_cons.mp ht with rfl | ht
      · exact ⟨0, mid, by lia, by lia, (upd_ne (itT _ l2)).trans w2⟩
      · rcases List.mem_cons.mp ht with rfl | ht
        · exact ⟨mid + 1, K.length + 1, by lia, by lia, (upd_ne (itT _ l3)).trans w3⟩
        · cases ht
  · rintro rem τ o ⟨j0, j1, j2, j3, j4, j5, rest, j6, j7⟩ ho
    refine ⟨j5, fun o' => ⟨j0, j1, j2, j3, fun a p e => (upd_ne (itlow _ _ e)).trans (j4 _ _ e), (upd_ne (itT _ (Nat.le_refl _))).trans j5, rest, j6, fun t ht => ?_⟩⟩
    obtain ⟨lo, hi, a1, a2, a3⟩ := j7 t ht
    exact ⟨lo, hi, a1, a2, (upd_ne (neOf a3 ho (by intro q; cases q))).trans a3⟩
  · rintro v rem τ o ⟨j0, j1, j2, j3, j4, j5, rest, j6, j7⟩ ho
    cases rest with
    | nil => cases j6
    | cons t rest =>
      simp only [List.map_cons, List.cons.injEq] at j6
      obtain ⟨rfl, rfl⟩ := j6
      obtain ⟨lo, hi, a1, a2, a3⟩ := j7 t (List.mem_cons_self ..)
      refine WA_Tuple F rfl hh a3 rfl fun n2 => ?_
      dsimp only [WAs]
      refine WA_Name (WSt_local ?_ (by walk_at "k") (by walk_at "k") (by walk_at "k"))
      refine WA_Name (WSt_local ?_ (by walk_at "k") (by walk_at "k") (by walk_at "k"))
      dsimp only
      refine law_window (lo := lo) (hi := hi) (M := M) (M' := M') B F hh hA hlen hpos (by walk_at "m") (j4 _ _ h1) (j4 _ _ h2) (by walk_at "m") (by walk_at "m") (by walk_at "m") (by walk_at "m") a1 a2 hM hM' fun n3 => ?_
      exact ⟨ho, by walk_at "m", by walk_at "m", by walk_at "m", by walk_at "m", j4, j5, rest, rfl, fun t' ht' => j7 t' (List.mem_cons_of_mem _ ht')⟩
  · rintro τ n' o ⟨j0, j1, j2, j3, j4, j5, rest, j6, j7⟩ ho
    dsimp only
    refine WS_nil ?_
    exact h _ _ _ j0 j3 fun a p e => (del_ne (itlow _ _ e)).trans (j4 _ _ e)
end
section
set_option maxRecDepth 100000
set_option linter.unusedVariables false
variable {base : Heap} {os : OsState} {H H' : HP} {n n' : Nat} {s s' : Shared} {prog : Program} {w : World} {A : Around} {L : Addr} {σ : St} {m : Loc} {env : Env} {Q : V → St → Prop} {R : Flow → St → Prop}
variable {dV kV doc pm cdv ct : Value} {an : Option Addr} {f : Addr} {mg mb : Str → Option Value}







-- one hour
theorem law_hour {c19 P19 fL Ds aW : Addr} {ws : List (Int × Int)} {K : List Int} {d hour : Int} {mid : Nat} (B : PLB w base mg mb c19 P19 fL) (F : Full base) (hh : A.handled = none) (hA : A.depth + 4 < recursionLimit) (hlen : K.length ≤ 7) (hmid : mid ≤ K.length)
    (h0 : σ.m "sums" = some (.ref Ds)) (h1 : σ.H Ds = some (.list (((List.range (K.length + 1)).map (MH.psum K)).map V.int))) (h2 : σ.H (L + 6) = some (.cell (some (.int hour)))) (h5 : σ.m "middle" = some (.int mid))
    (h6 : σ.H (L + 5) = some (.cell (some (.ref aW)))) (hW : ∃ ys, σ.H aW = some (.list ys) ∧ All σ.H (ws.map pairY) ys) (hws : ws.length ≤ 200) (I : MH.Inv K ws d) (h : ∀ m' H' n', m' "sums" = some (.ref Ds) → m' "middle" = some (.int mid) → Sub σ.H H' → R .next ⟨m', H', n'⟩) :
    WS PL w base os A L (hourAt 0) (lawE doc pm cdv ct an L f) R σ := by
  refine law_most B F hh h2 h6 hW hws I fun M H1 n1 hM s1 => ?_
  obtain ⟨ys, y1, y2⟩ := hW
  refine law_ahead B F hh (s1 _ _ h2) (s1 _ _ h6) ⟨ys, s1 _ _ y1, y2.tups fun a vs e => s1 _ _ e⟩ hws I fun M' H2 n2 hM' s2 => ?_
  refine law_windows (mid := mid) (M := M) (M' := M') B F hh hA hlen I.pos hmid (by walk_at "m") (s2 _ _ (s1 _ _ h1)) (s2 _ _ (s1 _ _ h2)) (by walk_at "m") (by walk_at "m") (by walk_at "m") hM hM' fun m' H' n' r1 r2 r3 => ?_
  exact h _ _ _ r1 r2 (s1.trans (s2.trans r3))
-- what the loop keeps
inductive HourJ (G : HP) (Ds aH L : Addr) (mid : Int) (xs : List Int) (rem : List V) (τ : St) : Prop
  | mk (f0 : τ.m "sums" = some (.ref Ds))
    (f1 : τ.m "middle" = some (.int mid))
    (f2 : (∀ a o, a ≠ L + 6 → G a = some o → τ.H a = some o))
    (f3 : τ.H aH = some (.list (xs.map V.int)))
    (f4 : (∃ v, τ.H (L + 6) = some (.cell v)))
    (rest : List Int)
    (g0 : rem = rest.map V.int) : HourJ G Ds aH L mid xs rem τ
-- the middle, the four hours, and the end
theorem law_end {c19 P19 fL Ds aW aS : Addr} {ws : List (Int × Int)} {K script : List Int} {d : Int} {v0 : Option V} (B : PLB w base mg mb c19 P19 fL) (F : Full base) (hh : A.handled = none) (hA : A.depth + 4 < recursionLimit) (hlen : K.length ≤ 6)
    (h0 : σ.m "sums" = some (.ref Ds)) (h1 : σ.H Ds = some (.list (((List.range (K.length + 1)).map (MH.psum K)).map V.int))) (h2 : σ.H (L + 6) = some (.cell v0)) (hS : σ.H (L + 1) = some (.cell (some (.ref aS)))) (hS2 : σ.H aS = some (.list (script.map V.int)))
    (h6 : σ.H (L + 5) = some (.cell (some (.ref aW)))) (hW : ∃ ys, σ.H aW = some (.list ys) ∧ All σ.H (ws.map pairY) ys) (hws : ws.length ≤ 200) (I : MH.Inv K ws d)
    (h : ∀ a m' H' n', er a = .bool true → (∀ b o, b ≠ L + 6 → σ.H b = some o → H' b = some o) → R (.ret a) ⟨m', H', n'⟩) :
    WS PL w base os A L (lawFrom 8) (lawE doc pm cdv ct an L f) R σ := by
  obtain ⟨q1, q2⟩ := div_small (K.length + 1) (by lia)
  have h6D : Ds ≠ L + 6 := neOf h1 h2 (by intro q; cases q)
  refine WS_cons (WS_Assign ?_ (by walk_at "k"))
  walk_at "e"
  refine W_Call rfl rfl ?_ rfl
  refine W_builtin B.G.g B.G.b (v := .builtin "len") (B.G.bi _ (.builtin "len") (by kernel_rfl!)).1 (B.G.bi _ (.builtin "len") (by kernel_rfl!)).2 ?_ (by walk_at "k") (by walk_at "k") (by walk_at "k") (by walk_at "k") (by decide +kernel)
  dsimp only [WArgs]
  walk_at "e"
  dsimp only [WKws, kwNames]
  refine ⟨trivial, WCall_len h1 ?_ (by rw [sums_len, sizeLine_eq]; lia)⟩
  rw [sums_len]
  walk_at "e"
  refine WB_div ?_ (by decide) q1
  rw [q2]
  refine WSt_local ?_ (by walk_at "k") (by walk_at "k") (by walk_at "k")
  generalize hmd : (K.length + 1) / 2 = mid
  have hmid : mid ≤ K.length := by lia
  have v1 : (σ.m.set "middle" (.int mid)) "sums" = some (.ref Ds) := by walk_at "m"
  have v2 : (σ.m.set "middle" (.int mid)) "middle" = some (.int mid) := by walk_at "m"
  revert v1 v2
  generalize σ.m.set "middle" (.int mid) = m1
  intro v1 v2
  refine W.fact fun told hLn hHL hbL => ?_
  refine WS_cons (WS_For F hh ?_ (fun _ => rfl))
  refine W_List rfl ?_
  dsimp only [WArgs]
  walk_at "e"
  walk_at "e"
  walk_at "e"
  walk_at "e"
  refine WSub_list h1 (by lia) (by rw [Int.toNat_natCast]; exact sums_get (by lia)) (by rw [sums_len, sizeLine_eq]; lia) ?_ rfl
  walk_at "e"
  walk_at "o"
  walk_at "e"
  walk_at "e"
  walk_at "e"
  refine WSub_list h1 (by lia) (by rw [Int.toNat_natCast]; exact sums_get (by lia)) (by rw [sums_len, sizeLine_eq]; lia) ?_ rfl
  walk_at "e"
  walk_at "e"
  walk_at "e"
  walk_at "e"
  refine WU_neg ?_
  refine WSub_last h1 (by rw [sums_len]; exact sums_get (by lia)) (by rw [sums_len, sizeLine_eq]; lia) ?_ rfl
  walk_at "e"
  walk_at "e"
  walk_at "e"
  walk_at "e"
  walk_at "e"
  walk_at "e"
  refine WU_neg ?_
  refine WSub_last h1 (by rw [sums_len]; exact sums_get (by lia)) (by rw [sums_len, sizeLine_eq]; lia) ?_ rfl
  walk_at "e"
  walk_at "o"
  refine W_Call rfl rfl ?_ rfl
  refine W_builtin B.G.g B.G.b (v := .builtin "abs") (B.G.bi _ (.builtin "abs") (by kernel_rfl!)).1 (B.G.bi _ (.builtin "abs") (by kernel_rfl!)).2 ?_ (by walk_at "k") (by walk_at "k") (by walk_at "k") (by walk_at "k") (by decide +kernel)
  dsimp only [WArgs]
  refine W_Call rfl rfl ?_ rfl
  refine W_builtin B.G.g B.G.b (v := .builtin "sum") (B.G.bi _ (.builtin "sum") (by kernel_rfl!)).1 (B.G.bi _ (.builtin "sum") (by kernel_rfl!)).2 ?_ (by walk_at "k") (by walk_at "k") (by walk_at "k") (by walk_at "k") (by decide +kernel)
  dsimp only [WArgs]
  refine W_Name (W_load_cell cell_script hS ?_ rfl (.inl (by kernel_rfl!))) (by decide +kernel)
  dsimp only [WKws, kwNames]
  refine ⟨trivial, WCall_sum F hh hS2 fun n1 => ?_⟩
  refine ⟨trivial, WCall.fact fun told1 _ _ _ => WCall_abs ?_⟩
  walk_at "o"
  refine ⟨by show 4 ≤ _; decide, fun aH haH => ?_⟩
  generalize hhs : [V.int _, V.int _, V.int _, V.int _] = hs
  have hhs' : ∃ xs : List Int, hs = xs.map V.int := ⟨[_, _, _, _], hhs.symm⟩
  clear hhs
  obtain ⟨xs, rfl⟩ := hhs'
  have low : ∀ a o, σ.H a = some o → a ≠ aH := fun a o e => Nat.ne_of_lt (Nat.lt_of_lt_of_le (told1 _ _ e) haH)
  refine ⟨xs.map V.int, _, ⟨srcList aH _⟩, upd_same _ _ _, fun it hit hbit => ?_⟩
  have hit' : aH + 1 ≤ it := hit
  have itlow : ∀ a o, σ.H a = some o → a ≠ it := fun a o e => Nat.ne_of_lt (Nat.lt_of_lt_of_le (told1 _ _ e) (Nat.le_trans haH (Nat.le_of_succ_le hit')))
  have itH : aH ≠ it := Nat.ne_of_lt hit'
  obtain ⟨ys, y1, y2⟩ := hW
  have n6W : aW ≠ L + 6 := neOf y1 h2 (by intro q; cases q)
  have n56 : L + 5 ≠ L + 6 := Nat.ne_of_lt (by lia)
  have nH6 : aH ≠ L + 6 := Ne.symm (low _ _ h2)
  refine ⟨HourJ σ.H Ds aH L mid xs, fun o => ?_, ?_, ?_, ?_⟩
  · exact ⟨v1, v2, fun a p _ e => (upd_ne (itlow _ _ e)).trans ((upd_ne (low _ _ e)).trans e), (upd_ne itH).trans (upd_same _ _ _), ⟨v0, (upd_ne (itlow _ _ h2)).trans ((upd_ne (low _ _ h2)).trans h2)⟩, xs, rfl⟩
  · rintro rem τ o ⟨j0, j1, j2, j3, ⟨v, j4⟩, rest, j5⟩ ho
    exact ⟨j3, fun o' => ⟨j0, j1, fun a p q e => (upd_ne (itlow _ _ e)).trans (j2 _ _ q e), (upd_ne itH).trans j3, ⟨v, (upd_ne (neOf j4 ho (by intro q; cases q))).trans j4⟩, rest, j5⟩⟩
  · rintro v rem τ o ⟨j0, j1, j2, j3, ⟨v', j4⟩, rest, j5⟩ ho
    cases rest with
    | nil => cases j5
    | cons hour rest =>
      simp only [List.map_cons, List.cons.injEq] at j5
      obtain ⟨rfl, rfl⟩ := j5
      have hit6 : it ≠ L + 6 := neOf ho j4 (by intro q; cases q)
      refine WA_Name (WSt_cell cell_hour j4 (Nat.le_trans hbL (Nat.le_add_right _ _)) ?_ (by walk_at "k") (by walk_at "k"))
      dsimp only
      have up6 : ∀ a p, a ≠ L + 6 → τ.H a = some p → upd τ.H (L + 6) (.cell (some (V.int hour))) a = some p := fun a p q e => (upd_ne q).trans e
      have upσ : ∀ a p, a ≠ L + 6 → σ.H a = some p → upd τ.H (L + 6) (.cell (some (V.int hour))) a = some p := fun a p q e => up6 _ _ q (j2 _ _ q e)
      refine law_hour (mid := mid) (hour := hour) B F hh hA (by lia) hmid j0 (upσ _ _ h6D h1) (upd_same _ _ _) j1 (upσ _ _ n56 h6) ⟨ys, upσ _ _ n6W y1, y2.tups fun a vs e => upσ _ _ (neOf e h2 (by intro q; cases q)) e⟩ hws I fun m' H' n' r1 r2 r3 => ?_
      exact ⟨r3 _ _ (up6 _ _ hit6 ho), r1, r2, fun a p q e => r3 _ _ (upσ _ _ q e), r3 _ _ (up6 _ _ nH6 j3), ⟨_, r3 _ _ (upd_same _ _ _)⟩, rest, rfl⟩
  · rintro τ n' o ⟨j0, j1, j2, j3, ⟨v', j4⟩, rest, j5⟩ ho
    dsimp only
    refine WS_cons (WS_Return ?_)
    refine W_bool ?_
    intro a ea
    exact h a _ _ _ ea fun b p q e => (del_ne (itlow _ _ e)).trans (j2 _ _ q e)
end
section
set_option maxRecDepth 100000
set_option linter.unusedVariables false
variable {base : Heap} {os : OsState} {H H' : HP} {n n' : Nat} {s s' : Shared} {prog : Program} {w : World} {A : Around} {L : Addr} {σ : St} {m : Loc} {env : Env} {Q : V → St → Prop} {R : Flow → St → Prop}
variable {dV kV doc pm cdv ct : Value} {an : Option Addr} {f : Addr} {mg mb : Str → Option Value}






-- what the loop keeps
inductive Row5J (left : Bool) (ds : List Nat) (mm : Loc) (G : HP) (r : Addr) (ob : O) (P19 it L aR : Addr) (rem : List V) (τ : St) : Prop
  | mk (f0 : τ.m = mm)
    (f1 : (∀ a o, a ≠ aR → a ≠ P19 → a ≠ L + 3 → upd G r ob a = some o → τ.H a = some o))
    (f2 : (∃ k row, k ≤ 6 ∧ rem = rngV (k : Nat) 1 (6 - k) ∧ RowOk left (Dof ds) k row ∧ τ.H aR = some (.list (row.map fun x : Nat => V.int x))))
    (f3 : Tab τ.H P19 (· ≠ it) lamQ #[])
    (f4 : ∃ v, τ.H (L + 3) = some (.cell v)) : Row5J left ds mm G r ob P19 it L aR rem τ
theorem law_row5 {c19 P19 fL aR aD : Addr} {ds : List Nat} {left : Bool} {v0 : Option V} (B : PLB w base mg mb c19 P19 fL) (F : Full base) (hh : A.handled = none) (hA : A.depth + 4 < recursionLimit) (hds : ds.length = 6)
    (h0 : σ.m "left" = some (.bool left)) (h1 : σ.m "row" = some (.ref aR)) (h2 : σ.H (L + 3) = some (.cell v0)) (h3 : σ.H aR = some (.list [])) (hb : base.objs.size ≤ aR)
    (h4 : σ.H (L + 8) = some (.cell (some (.ref aD)))) (h5 : σ.H aD = some (.list (ds.map fun x : Nat => V.int x))) (hRD : aR ≠ aD)
    (hT : Tab σ.H P19 (fun _ => True) lamQ #[])
    (h : ∀ row H' n', RowOk left (Dof ds) 6 row → (∀ a o, a ≠ aR → a ≠ P19 → a ≠ L + 3 → σ.H a = some o → H' a = some o) → H' aR = some (.list (row.map fun x : Nat => V.int x)) → Tab H' P19 (fun _ => True) lamQ #[] → (∃ v, H' (L + 3) = some (.cell v)) → WS PL w base os A L (lawFrom 6) (lawE doc pm (.ref c19) ct an L f) R ⟨σ.m, H', n'⟩) :
    WS PL w base os A L (lawFrom 5) (lawE doc pm (.ref c19) ct an L f) R σ := by
  have hPn : ∀ q : O, (∀ ob, q ≠ .raw ob) → σ.H P19 ≠ some q := fun q hq e => by
    obtain ⟨more, e', _⟩ := hT.at_
    rw [e'] at e; exact hq _ (Option.some.inj e).symm
  have hPR : aR ≠ P19 := fun q => hPn _ (fun _ q' => by cases q') (q ▸ h3)
  have hPD : aD ≠ P19 := fun q => hPn _ (fun _ q' => by cases q') (q ▸ h5)
  have hP8 : L + 8 ≠ P19 := fun q => hPn _ (fun _ q' => by cases q') (q ▸ h4)
  have hP3 : L + 3 ≠ P19 := fun q => hPn _ (fun _ q' => by cases q') (q ▸ h2)
  have h8R : L + 8 ≠ aR := by intro q; rw [q, h3] at h4; cases h4
  have h3R : L + 3 ≠ aR := by intro q; rw [q, h3] at h2; cases h2
  have h3D : L + 3 ≠ aD := by intro q; rw [q, h5] at h2; cases h2
  have h83 : L + 8 ≠ L + 3 := Nat.ne_of_gt (by lia)
  refine W.fact fun told hLn hHL hbL => ?_
  refine WS_cons (WS_For F hh ?_ (fun _ => rfl))
  refine W_Call rfl rfl ?_ rfl
  refine W_builtin B.G.g B.G.b (v := .type "range") (B.G.bi _ (.type "range") (by kernel_rfl!)).1 (B.G.bi _ (.type "range") (by kernel_rfl!)).2 ?_ (by walk_at "k") (by walk_at "k") (by walk_at "k") (by walk_at "k") (by decide +kernel)
  dsimp only [WArgs]
  walk_at "e"
  dsimp only [WKws, kwNames]
  refine ⟨trivial, WCall_range1 fun r hr _ ob hrng => ?_⟩
  have rne : ∀ a o, σ.H a = some o → a ≠ r := fun a o e => Nat.ne_of_lt (Nat.lt_of_lt_of_le (told _ _ e) hr)
  refine ⟨rngV 0 1 6, _, ⟨srcRange r 0 6 1 (by decide)⟩, hrng, fun it hit hbit => ?_⟩
  have hit' : r + 1 ≤ it := hit
  have rit : r ≠ it := Nat.ne_of_lt hit'
  have itne : ∀ a o, σ.H a = some o → a ≠ it := fun a o e => Nat.ne_of_lt (Nat.lt_of_lt_of_le (Nat.lt_of_lt_of_le (told _ _ e) hr) (Nat.le_of_succ_le hit'))
  refine ⟨Row5J left ds σ.m σ.H r (.raw ob) P19 it L aR, fun o => ?_, ?_, ?_, ?_⟩
  · refine ⟨rfl, fun a p _ _ _ e => (upd_ne ?_).trans e, ⟨0, [], by lia, rfl, RowOk.nil _ _, (upd_ne (itne _ _ h3)).trans ((upd_ne (rne _ _ h3)).trans h3)⟩, ?_, v0, (upd_ne (itne _ _ h2)).trans ((upd_ne (rne _ _ h2)).trans h2)⟩
    · by_cases ha : a = r
      · rw [ha]; exact rit
      · exact itne _ _ ((upd_ne ha).symm.trans e)
    · exact hT.move (fun b o' _ _ e => ⟨(upd_ne (itne _ _ e)).trans ((upd_ne (rne _ _ e)).trans e), itne _ _ e⟩) fun o' e => (upd_ne (itne _ _ e)).trans ((upd_ne (rne _ _ e)).trans e)
  · rintro rem τ o ⟨j0, j1, ⟨k, row, j2, j3, j4, j5⟩, j6, v, j7⟩ ho
    have hitR : aR ≠ it := by intro e; rw [e, ho] at j5; cases j5
    have hit3 : L + 3 ≠ it := by intro e; rw [e, ho] at j7; cases j7
    have rR : r ≠ aR := Ne.symm (rne _ _ h3)
    have rP : r ≠ P19 := by
      obtain ⟨more, e', _⟩ := hT.at_
      exact Ne.symm (rne _ _ e')
    have r3 : r ≠ L + 3 := Ne.symm (rne _ _ h2)
    have itP : P19 ≠ it := by
      obtain ⟨more, e', _⟩ := hT.at_
      exact itne _ _ e'
    refine ⟨?_, fun o' => ⟨j0, fun a p q1 q2 q3 e => (upd_ne ?_).trans (j1 _ _ q1 q2 q3 e), ⟨k, row, j2, j3, j4, (upd_ne hitR).trans j5⟩, ?_, v, (upd_ne hit3).trans j7⟩⟩
    · obtain ⟨t, u, v, e⟩ := hrng
      exact ⟨t, u, v, j1 _ _ rR rP r3 e⟩
    · by_cases ha : a = r
      · rw [ha]; exact rit
      · exact itne _ _ ((upd_ne ha).symm.trans e)
    · exact j6.move (fun b o' k1 _ e => ⟨(upd_ne k1).trans e, k1⟩) fun o' e => (upd_ne itP).trans e
  · rintro v rem τ o ⟨j0, j1, ⟨k, row, j2, j3, j4, j5⟩, j6, v', j7⟩ ho
    have hk : k < 6 := by
      rcases Nat.lt_or_ge k 6 with hk | hk
      · exact hk
      · have : 6 - k = 0 := by lia
        rw [this] at j3; cases j3
    obtain ⟨q, hq⟩ : ∃ q, 6 - k = q + 1 := ⟨5 - k, by lia⟩
    rw [hq] at j3
    simp only [rngV, List.cons.injEq] at j3
    obtain ⟨rfl, rfl⟩ := j3
    have hitR : aR ≠ it := by intro e; rw [e, ho] at j5; cases j5
    have hit3 : it ≠ L + 3 := by intro e; rw [← e, ho] at j7; cases j7
    have itP : it ≠ P19 := by
      obtain ⟨more, e', _⟩ := hT.at_
      exact Ne.symm (itne _ _ e')
    refine WA_Name (WSt_cell cell_k j7 (Nat.le_trans hbL (Nat.le_add_right _ _)) ?_ (by walk_at "k") (by walk_at "k"))
    dsimp only
    have up3 : ∀ a o, a ≠ L + 3 → τ.H a = some o → upd τ.H (L + 3) (.cell (some (V.int k))) a = some o := fun a o q e => (upd_ne q).trans e
    have k4 := j1 _ _ h8R hP8 h83 ((upd_ne (rne _ _ h4)).trans h4)
    have k5 := j1 _ _ (Ne.symm hRD) hPD (Ne.symm h3D) ((upd_ne (rne _ _ h5)).trans h5)
    refine W.fact fun told1 hLn1 hHL1 _ => ?_
    refine law_row1 (k := k) (row := row) (left := left) (Kp := (· ≠ it)) B F hh hA hds hk (by rw [j0]; exact h0) (by rw [j0]; exact h1) (upd_same _ _ _) (up3 _ _ (Ne.symm h3R) j5) hb (up3 _ _ h83 k4) (up3 _ _ (Ne.symm h3D) k5) hRD ?_ ?_ j4 fun row' H' n' r1 r2 r3 r4 => ?_
    · exact j6.move (fun b o' k1 _ e => ⟨(upd_ne (by intro q; rw [q, j7] at e; cases e)).trans e, k1⟩) fun o' e => (upd_ne (Ne.symm hP3)).trans e
    · intro c hc
      exact Nat.ne_of_gt (Nat.lt_of_lt_of_le (told1 _ _ (up3 _ _ hit3 ho)) hc)
    · refine ⟨r2 _ _ (Ne.symm hitR) itP (up3 _ _ hit3 ho), j0, fun a p q1 q2 q3 e => r2 _ _ q1 q2 (up3 _ _ q3 (j1 _ _ q1 q2 q3 e)), ⟨k + 1, row', hk, ?_, r1, r3⟩, r4, _, r2 _ _ h3R hP3 (upd_same _ _ _)⟩
      have : 6 - (k + 1) = q := by lia
      rw [this]; rfl
  · rintro τ n' o ⟨j0, j1, ⟨k, row, j2, j3, j4, j5⟩, j6, v', j7⟩ ho
    have hk : k = 6 := by
      rcases Nat.lt_or_ge k 6 with hk | hk
      · obtain ⟨q, hq⟩ : ∃ q, 6 - k = q + 1 := ⟨5 - k, by lia⟩
        rw [hq] at j3; cases j3
      · lia
    subst hk
    have hitR : aR ≠ it := by intro e; rw [e, ho] at j5; cases j5
    have hit3 : L + 3 ≠ it := by intro e; rw [e, ho] at j7; cases j7
    have itP : P19 ≠ it := by
      obtain ⟨more, e', _⟩ := hT.at_
      exact itne _ _ e'
    have := h row (del τ.H it) n' j4 (fun a p q1 q2 q3 e => (del_ne (itne _ _ e)).trans (j1 _ _ q1 q2 q3 ((upd_ne (rne _ _ e)).trans e))) ((del_ne hitR).trans j5) (j6.move (fun b o' k1 _ e => ⟨(del_ne k1).trans e, trivial⟩) fun o' e => (del_ne itP).trans e) ⟨v', (del_ne hit3).trans j7⟩
    rw [← j0] at this
    exact this
end
section
set_option maxRecDepth 100000
set_option linter.unusedVariables false
variable {base : Heap} {os : OsState} {H H' : HP} {n n' : Nat} {s s' : Shared} {prog : Program} {w : World} {A : Around} {L : Addr} {σ : St} {m : Loc} {env : Env} {Q : V → St → Prop} {R : Flow → St → Prop}
variable {dV kV doc pm cdv ct : Value} {an : Option Addr} {f : Addr} {mg mb : Str → Option Value}







theorem law_sorted {c19 P19 fL aR aD : Addr} {row ds : List Nat} {left : Bool} (B : PLB w base mg mb c19 P19 fL) (F : Full base) (hh : A.handled = none) (hA : A.depth + 4 < recursionLimit) (hU : A.units + 10 < cLine) (hds : ds.length = 6)
    (h0 : σ.m "left" = some (.bool left)) (h1 : σ.m "row" = some (.ref aR)) (h3 : σ.H aR = some (.list (row.map fun x : Nat => V.int x)))
    (h4 : σ.H (L + 8) = some (.cell (some (.ref aD)))) (h5 : σ.H aD = some (.list (ds.map fun x : Nat => V.int x)))
    (hT : Tab σ.H P19 (fun _ => True) lamQ #[]) (hrow : RowOk left (Dof ds) 6 row)
    (h : ∀ H' n', (∀ a o, a ≠ P19 → σ.H a = some o → H' a = some o) → Tab H' P19 (fun _ => True) lamQ #[] → WS PL w base os A L (lawFrom 7) (lawE doc pm (.ref c19) ct an L f) R ⟨σ.m, H', n'⟩) :
    WS PL w base os A L (lawFrom 6) (lawE doc pm (.ref c19) ct an L f) R σ := by
  have hPn : ∀ q : O, (∀ ob, q ≠ .raw ob) → σ.H P19 ≠ some q := fun q hq e => by
    obtain ⟨more, e', _⟩ := hT.at_
    rw [e'] at e; exact hq _ (Option.some.inj e).symm
  have hPR : aR ≠ P19 := fun q => hPn _ (fun _ q' => by cases q') (q ▸ h3)
  have hPD : aD ≠ P19 := fun q => hPn _ (fun _ q' => by cases q') (q ▸ h5)
  have hP8 : L + 8 ≠ P19 := fun q => hPn _ (fun _ q' => by cases q') (q ▸ h4)
  refine W.fact fun told hLn hHL hbL => ?_
  refine WS_cons (WS_If ?_)
  walk_at "i"
  walk_at "e"
  refine W_Call rfl rfl ?_ rfl
  refine W_builtin B.G.g B.G.b (v := .builtin "sorted") (B.G.bi _ (.builtin "sorted") (by kernel_rfl!)).1 (B.G.bi _ (.builtin "sorted") (by kernel_rfl!)).2 ?_ (by walk_at "k") (by walk_at "k") (by walk_at "k") (by walk_at "k") (by decide +kernel)
  dsimp only [WArgs]
  refine W_IfExp ?_
  walk_at "i"
  walk_at "e"
  walk_at "o"
  cases left with
  | true =>
    simp only [if_true]
    refine W_Call rfl rfl ?_ rfl
    refine W_builtin B.G.g B.G.b (v := .type "range") (B.G.bi _ (.type "range") (by kernel_rfl!)).1 (B.G.bi _ (.type "range") (by kernel_rfl!)).2 ?_ (by walk_at "k") (by walk_at "k") (by walk_at "k") (by walk_at "k") (by decide +kernel)
    dsimp only [WArgs]
    walk_at "e"
    walk_at "e"
    walk_at "e"
    refine WU_neg ?_
    walk_at "e"
    walk_at "e"
    refine WU_neg ?_
    dsimp only [WKws, kwNames]
    refine ⟨trivial, WCall_range3 (by decide) (by decide) fun r hr ob hrng => ?_⟩
    have rne : ∀ a o, σ.H a = some o → a ≠ r := fun a o e => Nat.ne_of_lt (Nat.lt_of_lt_of_le (told _ _ e) hr)
    refine W_Lambda (cl := [("due", L + 8)]) (Kp := fun _ => True) F rfl rfl (by kernel_rfl!) rfl B.code (hT.sub (fun a o e => (upd_ne (rne _ _ e)).trans e)) (fun _ _ => trivial) B.G.g B.blt ?_
    intro g H1 n1 ct' cd' hg k1 k1b hT1' hF
    have k2 : ∀ a o, a ≠ P19 → σ.H a = some o → H1 a = some o := fun a o q e => k1 _ _ q ((upd_ne (rne _ _ e)).trans e)
    have hrP : r ≠ P19 := by
      obtain ⟨more, e', _⟩ := hT.at_
      exact Ne.symm (rne _ _ e')
    dsimp only [kwNames]
    refine ⟨trivial, WCall_sortedRng (k := 6) (its := [5, 4, 3, 2, 1, 0]) (key := fun i => Dof ds i.toNat) (inv := fun j => (5 - j).toNat) F hh (hrng.imp fun _ => Exists.imp fun _ => Exists.imp fun _ e => k1 _ _ hrP e) (by decide) (by decide) (by decide) (by decide) rfl ?_ (fun A' hd hh' i hi a' σ' ea hs => ?_) fun out l H' n' hp ho hs hl => ?_⟩
    · intro i j e
      have hi : i < 6 := (List.getElem?_eq_some_iff.mp e).1
      match i, hi, e with
      | 0, _, e => cases e; rfl
      | 1, _, e => cases e; rfl
      | 2, _, e => cases e; rfl
      | 3, _, e => cases e; rfl
      | 4, _, e => cases e; rfl
      | 5, _, e => cases e; rfl
    · have hi6 : 0 ≤ i ∧ i < 6 := (by decide : ∀ i ∈ ([5, 4, 3, 2, 1, 0] : List Int), 0 ≤ i ∧ i < 6) i hi
      refine W_pure (v := .int (Dof ds i.toNat)) (fun l1 l2 => ?_) fun n' _ => ⟨rfl, rfl, rfl⟩
      have hs1 : Sub H1 (upd σ'.H L (.ns σ'.m)) := fun a o e => upd_sub l2 _ _ (hs _ _ e)
      refine C_one (i := i.toNat) B.G.lim (hF.sub hs1) (by rw [hd]; lia) (by decide +kernel) (by decide +kernel) (by decide +kernel) (by kernel_rfl!) (hs1 _ _ (k2 _ _ hP8 h4)) (hs1 _ _ (k2 _ _ hPD h5)) (by rw [List.length_map]; lia) (Dof_some (by lia)) ?_
      rw [ea, Int.toNat_of_nonneg hi6.1]
    · have e : (row.map fun (j : Nat) => (j : Int)) = out := sorted_is_row hrow hp ho (by decide) fun a b ha hb => by simp <;> lia
      refine WC_neInts (ks := row.map fun (j : Nat) => (j : Int)) (by rw [List.map_map]; exact hs _ _ (k2 _ _ hPR h3)) hl hU ?_
      rw [e]
      rw [show (!(out == out)) = false by simp]
      refine WT_bool ?_
      simp only [Bool.false_eq_true, if_false]
      refine WS_nil ?_
      dsimp only
      exact h H' n' (fun a o q e => hs _ _ (k2 _ _ q e)) (hT1'.sub hs)
  | false =>
    simp only [Bool.false_eq_true, if_false]
    refine W_Call rfl rfl ?_ rfl
    refine W_builtin B.G.g B.G.b (v := .type "range") (B.G.bi _ (.type "range") (by kernel_rfl!)).1 (B.G.bi _ (.type "range") (by kernel_rfl!)).2 ?_ (by walk_at "k") (by walk_at "k") (by walk_at "k") (by walk_at "k") (by decide +kernel)
    dsimp only [WArgs]
    walk_at "e"
    dsimp only [WKws, kwNames]
    refine ⟨trivial, WCall_range1 fun r hr _ ob hrng => ?_⟩
    have rne : ∀ a o, σ.H a = some o → a ≠ r := fun a o e => Nat.ne_of_lt (Nat.lt_of_lt_of_le (told _ _ e) hr)
    refine W_Lambda (cl := [("due", L + 8)]) (Kp := fun _ => True) F rfl rfl (by kernel_rfl!) rfl B.code (hT.sub (fun a o e => (upd_ne (rne _ _ e)).trans e)) (fun _ _ => trivial) B.G.g B.blt ?_
    intro g H1 n1 ct' cd' hg k1 k1b hT1' hF
    have k2 : ∀ a o, a ≠ P19 → σ.H a = some o → H1 a = some o := fun a o q e => k1 _ _ q ((upd_ne (rne _ _ e)).trans e)
    have hrP : r ≠ P19 := by
      obtain ⟨more, e', _⟩ := hT.at_
      exact Ne.symm (rne _ _ e')
    dsimp only [kwNames]
    refine ⟨trivial, WCall_sortedRng (k := 6) (its := [0, 1, 2, 3, 4, 5]) (key := fun i => Dof ds i.toNat) (inv := fun j => j.toNat) F hh (hrng.imp fun _ => Exists.imp fun _ => Exists.imp fun _ e => k1 _ _ hrP e) (by decide) (by decide) (by decide) (by decide) rfl ?_ (fun A' hd hh' i hi a' σ' ea hs => ?_) fun out l H' n' hp ho hs hl => ?_⟩
    · intro i j e
      have hi : i < 6 := (List.getElem?_eq_some_iff.mp e).1
      match i, hi, e with
      | 0, _, e => cases e; rfl
      | 1, _, e => cases e; rfl
      | 2, _, e => cases e; rfl
      | 3, _, e => cases e; rfl
      | 4, _, e => cases e; rfl
      | 5, _, e => cases e; rfl
    · have hi6 : 0 ≤ i ∧ i < 6 := (by decide : ∀ i ∈ ([0, 1, 2, 3, 4, 5] : List Int), 0 ≤ i ∧ i < 6) i hi
      refine W_pure (v := .int (Dof ds i.toNat)) (fun l1 l2 => ?_) fun n' _ => ⟨rfl, rfl, rfl⟩
      have hs1 : Sub H1 (upd σ'.H L (.ns σ'.m)) := fun a o e => upd_sub l2 _ _ (hs _ _ e)
      refine C_one (i := i.toNat) B.G.lim (hF.sub hs1) (by rw [hd]; lia) (by decide +kernel) (by decide +kernel) (by decide +kernel) (by kernel_rfl!) (hs1 _ _ (k2 _ _ hP8 h4)) (hs1 _ _ (k2 _ _ hPD h5)) (by rw [List.length_map]; lia) (Dof_some (by lia)) ?_
      rw [ea, Int.toNat_of_nonneg hi6.1]
    · have e : (row.map fun (j : Nat) => (j : Int)) = out := sorted_is_row hrow hp ho (by decide) fun a b ha hb => by simp <;> lia
      refine WC_neInts (ks := row.map fun (j : Nat) => (j : Int)) (by rw [List.map_map]; exact hs _ _ (k2 _ _ hPR h3)) hl hU ?_
      rw [e]
      rw [show (!(out == out)) = false by simp]
      refine WT_bool ?_
      simp only [Bool.false_eq_true, if_false]
      refine WS_nil ?_
      dsimp only
      exact h H' n' (fun a o q e => hs _ _ (k2 _ _ q e)) (hT1'.sub hs)
end
section
set_option Elab.async false
set_option maxRecDepth 100000
set_option linter.unusedVariables false
-- what the law's walk shows
noncomputable def PLWalk : Prop := ∀ (w : World) (base : Heap) (os : OsState) (mg mb : Str → Option Value) (c P f a : Addr) (ks : List Int), PLB w base mg mb c P f → Full base → ks.length ≤ 63 → P < base.objs.size → a < base.objs.size → P ≠ a →
  C PL w base os callerA (.call (.ref f) ⟨[.ref a], []⟩) (fun v H' n' => v = .bool true ∧ ∃ more, H' P = some (.raw { cls := .none, data := .fields more }))
    (upd (upd (fun _ => none) P (.raw { cls := .none, data := .fields #[] })) a (.list (ks.map V.int))) base.objs.size
theorem PLbig {w : World} {s s₀ s₂ : Shared} {rest : List Stmt} {pos : Pos} (X : HeadFacts PL w PLseen PLnames [40, 49, 58, 67, 84] [39, 48, 57, 66, 83] [29, 4, 32, 41, 50, 59, 71, 76] [33, 42, 51, 60] [30, 72, 77] PLenv PLpre rest pos s s₀ s₂) : 85 ≤ s₂.heap.objs.size := by
  have hfns := X.fns
  simp only [PLseen, List.map_cons, List.map_nil, List.cons.injEq, and_true] at hfns
  obtain ⟨o, ho, _⟩ := funcAt_spec hfns.2.2.2.2
  exact Heap.lt_size ho
theorem PLtri : TriplesOk PLps.toList := by
  show TriplesOk [_, _, _, _, _, _, _, _, _, _, _, _, _, _, _]
  simp [TriplesOk]
theorem PLthe : PL.theDef "law" = some (fparams (pst PL 19), fbody (pst PL 19), fscope (pst PL 19)) ∧ fname (pst PL 19) = "law" ∧ (fparams (pst PL 19)).defaults = [] ∧ (fparams (pst PL 19)).kwonlyargs = [] ∧ (fparams (pst PL 19)).kw_defaults = [] :=
  ⟨by kernel_rfl, by kernel_rfl, by kernel_rfl, by kernel_rfl, by kernel_rfl⟩
theorem callOk_of {w : World} {s₁ : Shared} (walk : PLWalk) {mg : Str → Option Value} {c P f : Addr} (hNs : s₁.heap.Ns mainGlobals mg) (hf : mg "law" = some (.ref f)) (htab : s₁.heap.TableAt c P #[])
    (hB : ∀ h : Heap, (∀ b o, s₁.heap.get? b = some o → h.get? b = some o) → ∃ mg mb, PLB w (without h P) mg mb c P f) : CallOk PL w "law" s₁ := by
  refine ⟨f, c, P, mg, hNs, hf, htab, fun ks hlen s a xs k keep ho hxs hlast hg => ?_⟩
  obtain ⟨mg', mb', B⟩ := hB s.heap keep
  have hP := keep _ _ htab.2
  have hPa : P ≠ a := by
    rintro rfl
    rw [hP] at ho; cases ho
  have hsz : (without s.heap P).objs.size = s.heap.objs.size := without_size _ _
  have F : Full (without s.heap P) := ⟨_, by rw [hsz, hlast, Nat.add_sub_cancel, without_ne (Ne.symm hPa)]; exact ho⟩
  have hC := walk w (without s.heap P) s.os mg' mb' c P f a ks B F hlen (by rw [hsz]; exact Heap.lt_size hP) (by rw [hsz]; exact Heap.lt_size ho) hPa
  have rep : Rep (without s.heap P) s.os (upd (upd (fun _ => none) P (.raw { cls := .none, data := .fields #[] })) a (.list (ks.map V.int))) (without s.heap P).objs.size s := by
    refine ⟨fun b o e => ?_, fun b o e => ?_, Nat.le_of_eq hsz, Nat.le_refl _, hg, rfl⟩
    · have hb : b ≠ P := by rintro rfl; rw [without_at] at e; cases e
      rw [without_ne hb] at e; exact e
    · by_cases hba : b = a
      · subst hba
        rw [upd_same] at e; cases e
        exact ⟨by rw [hsz]; exact Heap.lt_size ho, xs, k, ho, hxs⟩
      · rw [upd_ne hba] at e
        by_cases hbP : b = P
        · subst hbP
          rw [upd_same] at e; cases e
          exact ⟨by rw [hsz]; exact Heap.lt_size hP, hP⟩
        · rw [upd_ne hbP] at e; cases e
  refine wpAny_call (codeAny_mono (hC s rep) fun r s' ⟨v, H', n', e, r', hv, more, hm⟩ => ?_)
  subst e
  refine ⟨er_bool.mp hv, fun b o hb e => r'.keep b o (by rw [without_ne hb]; exact e), ⟨more, (r'.tells _ _ hm).2⟩, r'.gens, r'.os⟩
theorem PLhead (walk : PLWalk) (w : World) : ∃ s s₀ s₁, AfterRun (opening PL) w s ∧ fenceModules? PL s = some s₀ ∧ s₀.gens = #[] ∧ TopRan PL w s₀ s₁ ∧ s₁.asleep ∧ s₁.gens = #[] ∧ isTheDefsW PL s₁.heap "law" ∧ CallOk PL w "law" s₁ := by
  refine Classical.byContradiction fun hneg1_ => ?_
  obtain ⟨s, s₀, s₂, X⟩ := head_facts (pos := ⟨61, 0, 61, 8⟩) (rest := PLbody.drop 11) (PLlooks w) (by kernel_rfl) (by kernel_rfl) (by kernel_rfl) (by kernel_rfl) rfl rfl
  have hbig := PLbig X
  have n8 := pickAt X.names 8 rfl rfl
  have n18 := pickAt X.names 18 rfl rfl
  have n19 := pickAt X.names 19 rfl rfl
  have n22 := pickAt X.names 22 rfl rfl
  have o29 := pickAt X.objs 0 rfl rfl
  have o4 := pickAt X.objs 1 rfl rfl
  have d30 := pickAt X.flds 0 rfl rfl
  obtain ⟨o30, a1, a2, a3, a4⟩ := fieldsAt_spec d30
  refine hneg1_ ?_
  have hmain : s₂.heap.Main (s₂.heap.nsMap mainGlobals) 30 29 PLps :=
    ⟨.of_isNs X.main2, ⟨o30, _, _, _, _, _, _, _, _, _, a1, a4, rfl, rfl, rfl, rfl, rfl, o29, by kernel_rfl, PLtri, by decide⟩, by decide, ⟨4, _, n8, by decide, by decide, by decide, o4, rfl, rfl, rfl⟩⟩
  have htab : s₂.heap.TableAt 30 29 PLps := ⟨⟨o30, _, a1, a2, a4, rfl⟩, o29⟩
  have hbv : ∀ x : Str, x ≠ "__name__" → s₂.heap.nsMap builtinsNs x = bootBuiltins x := fun x hx => Heap.of_bltView X.blt2 X.bltv x hx
  have E := PLend (w := w) (A := topA PLenv) rfl (TS.refl hmain htab) (.of_isNs X.blt2) ⟨n22, (hbv _ (by decide +kernel)).trans (by kernel_rfl)⟩ ⟨n19, (hbv _ (by decide +kernel)).trans (by kernel_rfl)⟩ ⟨n18, (hbv _ (by decide +kernel)).trans (by kernel_rfl)⟩ hbig
  have e17 : fname (pst PL 17) = "_law_sign" := by kernel_rfl
  have e18 : fname (pst PL 18) = "_law_letter" := by kernel_rfl
  obtain ⟨s₁, T, z1, g1, ⟨d1, a13, d3, a15, a17, a18, a19, c19, P19, t, Y⟩, _⟩ := top_ran X rfl (mg := fun _ => none) (ps := #[]) (R := fun s₁ => ∃ d1 a13 d3 a15 a17 a18 a19 c19 P19 t, TopEnd PL w b1All (s₂.heap.nsMap mainGlobals) s₂ s₁ d1 a13 d3 a15 a17 a18 a19 c19 P19 t "law_rw0112_01")
    (wpAny_mono E (fun f s₁ hy1_ => by
      obtain ⟨hf, d1, a13, d3, a15, a17, a18, a19, c19, P19, t, Y⟩ := hy1_
      obtain ⟨ps, T⟩ := Y.ts
      rw [e17, e18] at T
      refine ⟨hf, _, ps, T, fun x v hx => ?_, fun x hx => ?_, d1, a13, d3, a15, a17, a18, a19, c19, P19, t, Y⟩
      · by_cases hn : x ∈ newL "_law_sign" "_law_letter"
        · right
          have : (newL "_law_sign" "_law_letter").all (fun x => PL.boundNames.contains x) = true := by kernel_rfl
          exact List.contains_iff_mem.mp (List.all_eq_true.mp this x hn)
        · rw [chain_ne hn] at hx; exact .inl hx
      · refine chain_ne fun hn => ?_
        have : laidNames.all (fun x => !(newL "_law_sign" "_law_letter").contains x) = true := by decide +kernel
        have := List.all_eq_true.mp this x hx
        rw [List.contains_iff_mem.mpr hn] at this
        cases this) fun _ _ e => e)
  obtain ⟨mg₁, mb₁, B₁, hNs₁⟩ := PLbase X hbig Y (h := s₁.heap) (fun _ _ e => e)
  refine ⟨s, s₀, s₁, X.after, X.fence, X.gens0, T, z1, g1, ?_, callOk_of walk hNs₁ B₁.self Y.tab fun h k => ?_⟩
  · refine Classical.byContradiction fun hneg2_ => ?_
    obtain ⟨o, ho, hd⟩ := Y.f19.fn.at_
    obtain ⟨t1, t2, t3, t4, t5⟩ := PLthe
    refine hneg2_ ?_
    refine ⟨a19, o, _, _, _, _, (PySem.Claim2Try.globalOf_of_ns hNs₁ _).trans B₁.self, ho, hd, t1, t2, t2, rfl, rfl, rfl, rfl, rfl, rfl, .inl ⟨t3, rfl⟩, [], by rw [t4, t5]; rfl, .inl ⟨rfl, rfl⟩⟩
  · obtain ⟨mg, mb, B, _⟩ := PLbase X hbig Y k
    exact ⟨mg, mb, B⟩
theorem PLholds (walk : PLWalk) (said : PySem.Challenge.rw_rw0112_01.row.wellSaid = true) (prm : PySem.Challenge.rw_rw0112_01.row.toRowW.promised) : PySem.Challenge.rw_rw0112_01.row.Holds :=
  law_holds (l := PySem.Challenge.rw_rw0112_01) said rfl rfl rfl prm ⟨rfl, rfl, rfl, rfl, rfl, by decide +kernel⟩ (by kernel_rfl) fun w => PLhead walk w
end
section
set_option maxRecDepth 100000
set_option maxHeartbeats 8000000
set_option linter.unusedVariables false
variable {base : Heap} {os : OsState} {H H' : HP} {n n' : Nat} {s s' : Shared} {prog : Program} {w : World} {A : Around} {L : Addr} {σ : St} {m : Loc} {env : Env} {Q : V → St → Prop} {R : Flow → St → Prop}
variable {dV kV doc pm cdv ct : Value} {an : Option Addr} {f : Addr} {mg mb : Str → Option Value}







theorem hA_law {env : Env} : (callerA.deeper env).depth + 4 < recursionLimit := by
  show callerA.depth + 1 + 4 < recursionLimit
  decide +kernel
theorem hU_law {env : Env} : (callerA.deeper env).units + 10 < cLine := by
  show 4 + 3 + 10 < 9900
  decide
theorem the_walk : PLWalk := by
  intro w base os mg mb c P f a ks B F hlen hP ha hPa
  obtain ⟨pm, hf⟩ := B.law
  refine C_defC (fd := fdOf lawF .none .none .none pm none (.ref c) .none) (body := lawFrom 0) (binds := [("script", .ref a)]) F (fun s r => hf.keeps r.keep) B.G.lim (by decide +kernel) rfl (by kernel_rfl!) rfl (fun L x hx => ?_) (fun L H₀ n₀ hn hs hL hc => ?_) rfl rfl rfl
  · rcases List.mem_cons.mp hx with rfl | hx
    · exact .inr ⟨by kernel_rfl!, by kernel_rfl!⟩
    · cases hx
  have c1 : H₀ (L + 1) = some (.cell (some (.ref a))) := (hc _ _ cell_script).1.trans (by kernel_rfl!)
  have c2 : H₀ (L + 2) = some (.cell none) := (hc _ _ cell_own).1.trans (by kernel_rfl!)
  have c3 : H₀ (L + 3) = some (.cell none) := (hc _ _ cell_k).1.trans (by kernel_rfl!)
  have c4 : H₀ (L + 4) = some (.cell none) := (hc _ _ cell_kept).1.trans (by kernel_rfl!)
  have c5 : H₀ (L + 5) = some (.cell none) := (hc _ _ cell_ways).1.trans (by kernel_rfl!)
  have c6 : H₀ (L + 6) = some (.cell none) := (hc _ _ cell_hour).1.trans (by kernel_rfl!)
  have c7 : H₀ (L + 7) = some (.cell none) := (hc _ _ cell_cost).1.trans (by kernel_rfl!)
  have c8 : H₀ (L + 8) = some (.cell none) := (hc _ _ cell_due).1.trans (by kernel_rfl!)
  have ca : H₀ a = some (.list (ks.map V.int)) := hs _ _ (upd_same _ _ _)
  have cP : H₀ P = some (.raw { cls := .none, data := .fields #[] }) := hs _ _ ((upd_ne hPa).trans (upd_same _ _ _))
  clear hc hs
  generalize (fun x => (bindL (callEnvC (fdOf lawF .none .none .none pm none (.ref c) .none) L f).kindOf [("script", .ref a)] (fun _ => none) x).map er) = m₀
  refine W.fact fun told0 hLn0 hHL0 hbL => ?_
  refine law_own (S := 0) c2 hbL fun D n1 hD => ?_
  have n2D : L + 2 ≠ D := Nat.ne_of_lt (Nat.lt_of_lt_of_le (told0 _ _ c2) hD)
  generalize hH1 : upd (upd H₀ D (.list ([42909348270783, 6879925916744, 16729459472468, 14425405140681, 5011004347407, 1643520465900].map V.int))) (L + 2) (.cell (some (.ref D))) = H1
  have f1 : ∀ b o, b ≠ L + 2 → H₀ b = some o → H1 b = some o := fun b o q e => by
    subst hH1
    exact (upd_ne q).trans ((upd_ne (Nat.ne_of_lt (Nat.lt_of_lt_of_le (told0 _ _ e) hD))).trans e)
  have d2 : H1 (L + 2) = some (.cell (some (.ref D))) := by subst hH1; exact upd_same _ _ _
  have dD : H1 D = some (.list (ownL.map V.int)) := by subst hH1; exact (upd_ne (Ne.symm n2D)).trans (upd_same _ _ _)
  clear hH1
  have n12 : L + 1 ≠ L + 2 := Nat.ne_of_lt (by lia)
  have na2 : a ≠ L + 2 := neOf ca c2 (by intro q; cases q)
  refine law_numbers (script := ks) (aS := a) (aO := D) B.G F rfl (f1 _ _ n12 c1) (f1 _ _ na2 ca) hlen d2 dD fun aN H2 n2 hN s2 eN => ?_
  have f2 : ∀ b o, b ≠ L + 2 → H₀ b = some o → H2 b = some o := fun b o q e => s2 _ _ (f1 _ _ q e)
  generalize hxs : (List.range 6).map (numOf ks) = xs at eN
  have hxl : xs.length = 6 := by rw [← hxs, List.length_map, List.length_range]
  have hx : ∀ x ∈ xs, x < 2 ^ 60 := fun x hx => by
    rw [← hxs] at hx
    obtain ⟨k, _, rfl⟩ := List.mem_map.mp hx
    exact Nat.lt_trans (numI_eq ks k).2 (by decide)
  have hnum : (Loc.set m₀ "numbers" (.ref aN)) "numbers" = some (.ref aN) := Loc.set_same _ _ _
  refine W.fact fun told2 hLn2 hHL2 _ => ?_
  refine law_due (xs := xs) (aN := aN) B.G F rfl hnum eN (by lia) (f2 _ _ (Nat.ne_of_gt (by lia)) c7) (f2 _ _ (Nat.ne_of_gt (by lia)) c8) fun aD aC H3 n3 hD3 hC3 hDC f3' e8 eD e7 eC => ?_
  have f3 : ∀ b o, b ≠ L + 2 → b ≠ L + 7 → b ≠ L + 8 → H₀ b = some o → H3 b = some o := fun b o q2 q7 q8 e => f3' _ _ q7 q8 (f2 _ _ q2 e)
  have eN3 : H3 aN = some (.list (xs.map fun x : Nat => V.int x)) := f3' _ _ (neOf eN (f2 _ _ (Nat.ne_of_gt (by lia)) c7) (by intro q; cases q)) (neOf eN (f2 _ _ (Nat.ne_of_gt (by lia)) c8) (by intro q; cases q)) eN
  have hbC : base.objs.size ≤ aC := Nat.le_trans hbL (Nat.le_trans (Nat.le_of_lt hLn2) hC3)
  have hNC : aN ≠ aC := Nat.ne_of_lt (Nat.lt_of_lt_of_le (told2 _ _ eN) hC3)
  refine law_letters (xs := xs) (aN := aN) (aC := aC) B F rfl (Nat.lt_of_succ_lt hA_law) hx (by lia) hnum eN3 e7 eC hbC hNC fun m4 H4 n4 f4' eC4 => ?_
  have f4 : ∀ b o, b ≠ L + 2 → b ≠ L + 7 → b ≠ L + 8 → b ≠ aC → H₀ b = some o → H4 b = some o := fun b o q2 q7 q8 qC e => f4' _ _ qC (f3 _ _ q2 q7 q8 e)
  have eD4 := f4' _ _ hDC eD
  have e84 := f4' _ _ (neOf e8 eC (by intro q; cases q)) e8
  have e74 := f4' _ _ (neOf e7 eC (by intro q; cases q)) e7
  -- the old objects that the following asks for
  have oldC : ∀ b o, b ≠ L + 2 → b ≠ L + 7 → b ≠ L + 8 → (∀ l, o ≠ .list l) → H₀ b = some o → H4 b = some o := fun b o q2 q7 q8 ql e => f4 _ _ q2 q7 q8 (neOf (f3 _ _ q2 q7 q8 e) eC (ql _)) e
  have c14 := oldC _ _ n12 (Nat.ne_of_lt (by lia)) (Nat.ne_of_lt (by lia)) (fun l q => by cases q) c1
  have c34 := oldC _ _ (Nat.ne_of_gt (by lia)) (Nat.ne_of_lt (by lia)) (Nat.ne_of_lt (by lia)) (fun l q => by cases q) c3
  have c44 := oldC _ _ (Nat.ne_of_gt (by lia)) (Nat.ne_of_lt (by lia)) (Nat.ne_of_lt (by lia)) (fun l q => by cases q) c4
  have c54 := oldC _ _ (Nat.ne_of_gt (by lia)) (Nat.ne_of_lt (by lia)) (Nat.ne_of_lt (by lia)) (fun l q => by cases q) c5
  have c64 := oldC _ _ (Nat.ne_of_gt (by lia)) (Nat.ne_of_lt (by lia)) (Nat.ne_of_lt (by lia)) (fun l q => by cases q) c6
  have cP4 := oldC _ _ (neOf cP c2 (by intro q; cases q)) (neOf cP c7 (by intro q; cases q)) (neOf cP c8 (by intro q; cases q)) (fun l q => by cases q) cP
  have haC : a ≠ aC := Nat.ne_of_lt (Nat.lt_of_lt_of_le ha hbC)
  have ca4 := f4 _ _ na2 (neOf ca c7 (by intro q; cases q)) (neOf ca c8 (by intro q; cases q)) haC ca
  generalize hcs : xs.map (fun x => (letterOf x).2.length) = cs at eC4
  generalize hds : xs.map (· % 24) = ds at eD4
  have hcl : cs.length = 6 := by rw [← hcs, List.length_map, hxl]
  have hdl : ds.length = 6 := by rw [← hds, List.length_map, hxl]
  refine W.fact fun told4 hLn4 hHL4 _ => ?_
  refine law_rows (script := ks) (aS := a) B.G F rfl c14 ca4 hlen c44 c54 fun aR aK aW t0 m5 H5 n5 left hR l1 l2 l3 hleft hrow f5 eR e4 eK e5 eW et => ?_
  have hRl : ∀ b o, H4 b = some o → b < aR := fun b o e => Nat.lt_of_lt_of_le (told4 _ _ e) hR
  have hbR : base.objs.size ≤ aR := Nat.le_trans hbL (Nat.le_trans (Nat.le_of_lt hLn4) hR)
  have n34 : L + 3 ≠ L + 4 := Nat.ne_of_lt (by lia)
  have n35 : L + 3 ≠ L + 5 := Nat.ne_of_lt (by lia)
  have c35 := f5 _ _ n34 n35 c34
  have c65 := f5 _ _ (Nat.ne_of_gt (by lia)) (Nat.ne_of_gt (by lia)) c64
  have c15 := f5 _ _ (Nat.ne_of_lt (by lia)) (Nat.ne_of_lt (by lia)) c14
  have ca5 := f5 _ _ (neOf ca4 c44 (by intro q; cases q)) (neOf ca4 c54 (by intro q; cases q)) ca4
  have cP5 := f5 _ _ (neOf cP4 c44 (by intro q; cases q)) (neOf cP4 c54 (by intro q; cases q)) cP4
  have e85 := f5 _ _ (Nat.ne_of_gt (by lia)) (Nat.ne_of_gt (by lia)) e84
  have e75 := f5 _ _ (Nat.ne_of_gt (by lia)) (Nat.ne_of_gt (by lia)) e74
  have eD5 := f5 _ _ (neOf eD4 c44 (by intro q; cases q)) (neOf eD4 c54 (by intro q; cases q)) eD4
  have eC5 := f5 _ _ (neOf eC4 c44 (by intro q; cases q)) (neOf eC4 c54 (by intro q; cases q)) eC4
  have hTab : Tab H5 P (fun _ => True) lamQ #[] := ⟨#[], cP5, trivial, fun pos => .inl rfl⟩
  have nDR : aD < aR := hRl _ _ eD4
  have nCR : aC < aR := hRl _ _ eC4
  have naR : a < aR := hRl _ _ ca4
  refine law_row5 (ds := ds) (left := left) B F rfl hA_law hdl hleft hrow c35 eR hbR e85 eD5 (Nat.ne_of_gt nDR) hTab fun row H6 n6 hro f6 eR6 hT6 c36 => ?_
  refine law_sorted (aD := aD) (row := row) (ds := ds) (left := left) B F rfl hA_law hU_law hdl hleft hrow eR6 ?_ ?_ hT6 hro fun H7 n7 f7 hT7 => ?_
  · exact f6 _ _ (neOf e85 eR (by intro q; cases q)) (neOf e85 cP5 (by intro q; cases q)) (Nat.ne_of_gt (by lia)) e85
  · exact f6 _ _ (Nat.ne_of_lt nDR) (neOf eD5 cP5 (by intro q; cases q)) (neOf eD5 c35 (by intro q; cases q)) eD5
  have g7 : ∀ b o, b ≠ aR → b ≠ L + 3 → (∀ ob, o ≠ .raw ob) → H5 b = some o → H7 b = some o := fun b o q1 q3 qr e => by
    have qP : b ≠ P := neOf e cP5 (qr _)
    exact f7 _ _ qP (f6 _ _ q1 qP q3 e)
  obtain ⟨v3, c36⟩ := c36
  have c37 := f7 _ _ (hT6.ne (fun _ q => by cases q) c36) c36
  have eR7 := f7 _ _ (hT6.ne (fun _ q => by cases q) eR6) eR6
  have gc : ∀ b v, b ≠ L + 3 → H5 b = some (.cell v) → H7 b = some (.cell v) := fun b v q e => g7 _ _ (neOf e eR (by intro q; cases q)) q (fun _ q => by cases q) e
  have gl : ∀ b v, b ≠ aR → H5 b = some (.list v) → H7 b = some (.list v) := fun b v q e => g7 _ _ q (neOf e c35 (by intro q; cases q)) (fun _ q => by cases q) e
  have up3 : ∀ b o, b ≠ L + 3 → H7 b = some o → upd H7 (L + 3) (.cell (some (.int (0 : Nat)))) b = some o := fun b o q e => (upd_ne q).trans e
  have uc : ∀ b v, b ≠ L + 3 → H5 b = some (.cell v) → upd H7 (L + 3) (.cell (some (.int (0 : Nat)))) b = some (.cell v) := fun b v q e => up3 _ _ q (gc _ _ q e)
  have ul : ∀ b v, b ≠ aR → H5 b = some (.list v) → upd H7 (L + 3) (.cell (some (.int (0 : Nat)))) b = some (.list v) := fun b v q e => up3 _ _ (neOf (gl _ _ q e) c37 (by intro q; cases q)) (gl _ _ q e)
  have et7 : H7 t0 = some (.tup [.int 0, .int 0]) := g7 _ _ (neOf et eR (by intro q; cases q)) (neOf et c35 (by intro q; cases q)) (fun _ q => by cases q) et
  have S : RS (upd H7 (L + 3) (.cell (some (.int (0 : Nat))))) base.objs.size L aK aW aC aD 0 cs ds [] [(0, 0)] :=
    ⟨upd_same _ _ _, uc _ _ (Nat.ne_of_gt (by lia)) e4, uc _ _ (Nat.ne_of_gt (by lia)) e5, uc _ _ (Nat.ne_of_gt (by lia)) e75, uc _ _ (Nat.ne_of_gt (by lia)) e85, ul _ _ (Nat.ne_of_gt l1) eK,
      ⟨[.ref t0], ul _ _ (Nat.ne_of_gt (Nat.lt_trans l1 (Nat.lt_trans l2 l3))) eW, .cons ⟨t0, rfl, up3 _ _ (neOf et7 c37 (by intro q; cases q)) et7⟩ .nil⟩, ul _ _ (Nat.ne_of_lt nCR) eC5, ul _ _ (Nat.ne_of_lt nDR) eD5,
      Nat.ne_of_lt (Nat.lt_trans l2 l3), Nat.ne_of_gt (Nat.lt_trans nCR l1), Nat.ne_of_gt (Nat.lt_trans nDR l1), Nat.ne_of_gt (Nat.lt_trans nCR (Nat.lt_trans l1 (Nat.lt_trans l2 l3))), Nat.ne_of_gt (Nat.lt_trans nDR (Nat.lt_trans l1 (Nat.lt_trans l2 l3))),
      Nat.le_trans hbR (Nat.le_of_lt l1), Nat.le_trans hbR (Nat.le_of_lt (Nat.lt_trans l1 (Nat.lt_trans l2 l3)))⟩
  refine law_row7 (left := left) B F rfl hA_law hU_law hcl hdl hleft hrow c37 eR7 (Nat.ne_of_lt l1) (Nat.ne_of_lt (Nat.lt_trans l1 (Nat.lt_trans l2 l3))) S hro hT7 fun Ds kept ws d m8 H8 n8 es eDs hI hkl hwl hT8 hW8 e58 f8 => ?_
  have k8 : ∀ b o, b ≠ aK → b ≠ aW → b ≠ L + 3 → (∀ ob, o ≠ .raw ob) → H7 b = some o → H8 b = some o := fun b o q1 q2 q3 qr e => f8 _ _ q1 q2 (hT7.ne qr e) q3 e
  have eK7 := gl _ _ (Nat.ne_of_gt l1) eK
  have eW7 := gl _ _ (Nat.ne_of_gt (Nat.lt_trans l1 (Nat.lt_trans l2 l3))) eW
  have c18 : H8 (L + 1) = some (.cell (some (.ref a))) := k8 _ _ (neOf (gc _ _ (Nat.ne_of_lt (by lia)) c15) eK7 (by intro q; cases q)) (neOf (gc _ _ (Nat.ne_of_lt (by lia)) c15) eW7 (by intro q; cases q)) (Nat.ne_of_lt (by lia)) (fun _ q => by cases q) (gc _ _ (Nat.ne_of_lt (by lia)) c15)
  have c68 : H8 (L + 6) = some (.cell none) := k8 _ _ (neOf (gc _ _ (Nat.ne_of_gt (by lia)) c65) eK7 (by intro q; cases q)) (neOf (gc _ _ (Nat.ne_of_gt (by lia)) c65) eW7 (by intro q; cases q)) (Nat.ne_of_gt (by lia)) (fun _ q => by cases q) (gc _ _ (Nat.ne_of_gt (by lia)) c65)
  have ca7 := gl _ _ (Nat.ne_of_lt naR) ca5
  have ca8 := k8 _ _ (Nat.ne_of_lt (Nat.lt_trans naR l1)) (Nat.ne_of_lt (Nat.lt_trans naR (Nat.lt_trans l1 (Nat.lt_trans l2 l3)))) (neOf ca7 c37 (by intro q; cases q)) (fun _ q => by cases q) ca7
  refine law_end (K := kept.map (Dof cs)) (script := ks) B F rfl hA_law (by rw [List.length_map]; exact hkl) es eDs c68 c18 ca8 e58 hW8 (by lia) hI fun ra m9 H9 n9 era f9 => ?_
  obtain ⟨more, eP, _⟩ := hT8.at_
  exact ⟨H9, fun _ _ e => e, era, _, f9 _ _ (neOf eP c68 (by intro q; cases q)) eP⟩
end
end Mine
end
open PySem PySem.W PyProof.Rows
set_option maxRecDepth 100000 in
set_option maxHeartbeats 8000000 in
theorem PySem.Challenge.cw_rw0112_01_holds : PySem.Challenge.rw_rw0112_01.Holds :=
  holds_law (by decide +kernel) fun said => Mine.PLholds Mine.the_walk said ⟨[.list []], by decide +kernel, by decide +kernel⟩
