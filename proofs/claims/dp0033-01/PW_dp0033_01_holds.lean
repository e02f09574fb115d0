import PyProof.Rows.All
import Wide.All
import OpenK.AllK
import Wide.FinOn
import PyProof.ExcStrAll.TypeError
import PyProof.ExcStrAll.IndexError
import PySem.Challenge.RW_dp0033_01
set_option Elab.async false
set_option linter.unusedVariables false
set_option linter.unusedSimpArgs false
section MA
set_option maxRecDepth 100000
open PySem PySem.W PyProof.Rows
namespace Mine

/-! ## what the heap is known to hold -/
abbrev Atom := Addr × (Obj → Prop)

/-- the base stays as it was; each atom's address is new to the base, they differ, and the object there is as told -/
structure Sat (h₀ h : Heap) (l : List Atom) : Prop where
  keep : ∀ b o, h₀.get? b = some o → h.get? b = some o
  nd : (l.map (·.1)).Nodup
  has : ∀ p ∈ l, h₀.get? p.1 = none ∧ ∃ o, h.get? p.1 = some o ∧ p.2 o

def nsP (m : Str → Option Value) : Obj → Prop := fun o => ∃ es ep, o.data = .dict es ep ∧ StrKeys es ∧ ∀ name, nsFind es name = m name
def lstP (xs : List Value) : Obj → Prop := fun o => o.cls = .type "list" ∧ ∃ n, o.data = .seq xs.toArray n
def plP (xs : List Value) : Obj → Prop := fun o => ∃ n, o = { cls := .type "list", dict := none, data := .seq xs.toArray n, slots := #[] }
theorem plP.lst {xs : List Value} {o : Obj} (h : plP xs o) : lstP xs o := by obtain ⟨n, rfl⟩ := h; exact ⟨rfl, n, rfl⟩
def cellP (v : Option Value) : Obj → Prop := fun o => o.data = .cell v
def upd (m : Str → Option Value) (x : Str) (v : Value) : Str → Option Value := fun y => if y = x then some v else m y
theorem upd_self (m : Str → Option Value) (x : Str) (v : Value) : upd m x v x = some v := by simp [upd]
theorem upd_ne {m : Str → Option Value} {x y : Str} {v : Value} (h : y ≠ x) : upd m x v y = m y := by simp [upd, h]

theorem hide_none_all {h : Heap} {as : List Addr} {b : Addr} (hb : b ∈ as) : (hideAll h as).get? b = none := hideAll_none _ hb

section
variable {h₀ h h' : Heap} {l l' : List Atom}

theorem Sat.nil (hk : ∀ b o, h₀.get? b = some o → h.get? b = some o) : Sat h₀ h [] := ⟨hk, List.nodup_nil, fun _ hp => nomatch hp⟩
theorem Sat.perm (S : Sat h₀ h l) (hp : l.Perm l') : Sat h₀ h l' :=
  ⟨S.keep, (hp.map _).nodup_iff.mp S.nd, fun p h1 => S.has p (hp.mem_iff.mpr h1)⟩
theorem Sat.sub (S : Sat h₀ h l) (hp : l'.Sublist l) : Sat h₀ h l' :=
  ⟨S.keep, S.nd.sublist (hp.map _), fun p h1 => S.has p (hp.subset h1)⟩
theorem Sat.tail {p : Atom} (S : Sat h₀ h (p :: l)) : Sat h₀ h l := S.sub (List.sublist_cons_self _ _)
theorem Sat.left (S : Sat h₀ h (l ++ l')) : Sat h₀ h l := S.sub (List.sublist_append_left _ _)
theorem Sat.right (S : Sat h₀ h (l ++ l')) : Sat h₀ h l' := S.sub (List.sublist_append_right _ _)
theorem Sat.keeps (S : Sat h₀ h l) (hk : ∀ b o, h.get? b = some o → h'.get? b = some o) : Sat h₀ h' l :=
  ⟨fun b o e => hk b o (S.keep b o e), S.nd, fun p hp => ⟨(S.has p hp).1, let ⟨o, ho, r⟩ := (S.has p hp).2; ⟨o, hk _ _ ho, r⟩⟩⟩
theorem Sat.at {i : Nat} {p : Atom} (S : Sat h₀ h l) (hi : l[i]? = some p) : ∃ o, h.get? p.1 = some o ∧ p.2 o := (S.has p (List.mem_of_getElem? hi)).2
theorem Sat.new {i : Nat} {p : Atom} (S : Sat h₀ h l) (hi : l[i]? = some p) : h₀.get? p.1 = none := (S.has p (List.mem_of_getElem? hi)).1
/-- all but W kept, W off the atoms and off the base -/
theorem Sat.keepsBut {W : List Addr} (S : Sat h₀ h l) (hk : ∀ b o, b ∉ W → h.get? b = some o → h'.get? b = some o) (hb : ∀ b ∈ W, h₀.get? b = none) (ha : ∀ p ∈ l, p.1 ∉ W) : Sat h₀ h' l :=
  ⟨fun b o e => hk b o (fun hm => by rw [hb b hm] at e; cases e) (S.keep b o e), S.nd, fun p hp => ⟨(S.has p hp).1, let ⟨o, ho, r⟩ := (S.has p hp).2; ⟨o, hk _ _ (ha p hp) ho, r⟩⟩⟩
theorem Sat.push (S : Sat h₀ h l) {o : Obj} {P : Obj → Prop} (hP : P o) (hf : o.isFreed = false := by rfl) : Sat h₀ (h.push o) ((h.objs.size, P) :: l) := by
  refine ⟨fun b o' e => Heap.get?_push_of_some _ (S.keep b o' e), ?_, fun p hp => ?_⟩
  · refine List.nodup_cons.mpr ⟨fun hm => ?_, S.nd⟩
    obtain ⟨p, hp, e⟩ := List.mem_map.mp hm
    obtain ⟨o', ho', _⟩ := (S.has p hp).2
    have h1 : p.1 = h.objs.size := e
    rw [h1] at ho'
    exact absurd (Heap.lt_size ho') (Nat.lt_irrefl _)
  · rcases List.mem_cons.mp hp with rfl | hp
    · refine ⟨?_, o, Heap.get?_push_size _ hf, hP⟩
      cases q : h₀.get? h.objs.size with
      | none => rfl
      | some o' => exact absurd (Heap.lt_size (S.keep _ _ q)) (Nat.lt_irrefl _)
    · exact ⟨(S.has p hp).1, let ⟨o', ho', r⟩ := (S.has p hp).2; ⟨o', Heap.get?_push_of_some _ ho', r⟩⟩
/-- a new object known by what it is -/
theorem Sat.cons (S : Sat h₀ h l) {a : Addr} {o : Obj} {P : Obj → Prop} (ho : h.get? a = some o) (hP : P o) (hn : h₀.get? a = none) (hl : ∀ p ∈ l, p.1 ≠ a) : Sat h₀ h ((a, P) :: l) := by
  refine ⟨S.keep, List.nodup_cons.mpr ⟨fun hm => ?_, S.nd⟩, fun p hp => ?_⟩
  · obtain ⟨p, hp, e⟩ := List.mem_map.mp hm
    exact hl p hp e
  · rcases List.mem_cons.mp hp with rfl | hp
    · exact ⟨hn, o, ho, hP⟩
    · exact S.has p hp
theorem Sat.mem_ne {p : Atom} (S : Sat h₀ h (p :: l)) : ∀ q ∈ l, q.1 ≠ p.1 := fun q hq e =>
  (List.nodup_cons.mp S.nd).1 (List.mem_map.mpr ⟨q, hq, e⟩)
theorem Sat.updHead {a : Addr} {P P' : Obj → Prop} {o : Obj} (S : Sat h₀ h ((a, P) :: l)) (hs : Heap.ExtBut a h h') (ho : h'.get? a = some o) (hP : P' o) : Sat h₀ h' ((a, P') :: l) := by
  have h1 := (S.has (a, P) (List.mem_cons_self ..)).1
  refine ⟨fun b o' e => hs b o' (fun q => by rw [q] at e; rw [h1] at e; cases e) (S.keep b o' e), S.nd, fun p hp => ?_⟩
  rcases List.mem_cons.mp hp with rfl | hp
  · exact ⟨h1, o, ho, hP⟩
  · have h2 := S.has p (List.mem_cons_of_mem _ hp)
    exact ⟨h2.1, let ⟨o', ho', r⟩ := h2.2; ⟨o', hs _ _ (S.mem_ne p hp) ho', r⟩⟩
theorem perm_at {α : Type} : ∀ (l : List α) (i : Nat) (p : α), l[i]? = some p → l.Perm (p :: l.eraseIdx i)
  | [], i, p, h => by simp at h
  | x :: l, 0, p, h => by simp at h; subst h; simp
  | x :: l, i + 1, p, h => by
    simp only [List.getElem?_cons_succ] at h
    have := perm_at l i p h
    simp only [List.eraseIdx_cons_succ]
    exact (List.Perm.cons x this).trans (List.Perm.swap _ _ _)
theorem perm_set {α : Type} : ∀ (l : List α) (i : Nat) (p q : α), l[i]? = some p → (q :: l.eraseIdx i).Perm (l.set i q)
  | [], i, p, q, h => by simp at h
  | x :: l, 0, p, q, h => by simp
  | x :: l, i + 1, p, q, h => by
    simp only [List.getElem?_cons_succ] at h
    have := perm_set l i p q h
    simp only [List.eraseIdx_cons_succ, List.set_cons_succ]
    exact (List.Perm.swap _ _ _).trans (List.Perm.cons x this)
theorem Sat.focus {i : Nat} {p : Atom} (S : Sat h₀ h l) (hi : l[i]? = some p) : Sat h₀ h (p :: l.eraseIdx i) := S.perm (perm_at l i p hi)
theorem Sat.unfocus {i : Nat} {p q : Atom} (S : Sat h₀ h (q :: l.eraseIdx i)) (hi : l[i]? = some p) : Sat h₀ h (l.set i q) := S.perm (perm_set l i p q hi)
theorem Sat.set {i : Nat} {a : Addr} {P P' : Obj → Prop} {o : Obj} (S : Sat h₀ h l) (hi : l[i]? = some (a, P)) (hs : Heap.ExtBut a h h') (ho : h'.get? a = some o) (hP : P' o) : Sat h₀ h' (l.set i (a, P')) :=
  ((S.focus hi).updHead hs ho hP).unfocus hi
/-- the same atom under another word -/
theorem Sat.weaken {i : Nat} {a : Addr} {P P' : Obj → Prop} (S : Sat h₀ h l) (hi : l[i]? = some (a, P)) (hP : ∀ o, P o → P' o) : Sat h₀ h (l.set i (a, P')) := by
  obtain ⟨o, ho, hp⟩ := S.at hi
  exact S.set hi (Heap.ExtBut.refl _ _) ho (hP o hp)

theorem Sat.ns {i : Nat} {a : Addr} {m : Str → Option Value} (S : Sat h₀ h l) (hi : l[i]? = some (a, nsP m)) : h.Ns a m := by
  obtain ⟨o, ho, es, ep, h1, h2, h3⟩ := S.at hi
  exact ⟨o, es, ep, ho, h1, h2, h3⟩
theorem Sat.list {i : Nat} {a : Addr} {xs : List Value} (S : Sat h₀ h l) (hi : l[i]? = some (a, lstP xs)) : h.IsList a xs.toArray := by
  obtain ⟨o, ho, h1, h2⟩ := S.at hi
  exact ⟨o, ho, h1, h2⟩
theorem Sat.plist {i : Nat} {a : Addr} {xs : List Value} (S : Sat h₀ h l) (hi : l[i]? = some (a, plP xs)) : h.IsList a xs.toArray := by
  obtain ⟨o, ho, h1⟩ := S.at hi
  exact ⟨o, ho, h1.lst⟩
theorem Sat.plain {i : Nat} {a : Addr} {xs : List Value} (S : Sat h₀ h l) (hi : l[i]? = some (a, plP xs)) : ∃ n, IsL h a xs.toArray n := by
  obtain ⟨o, ho, n, rfl⟩ := S.at hi
  exact ⟨n, ho⟩
theorem Sat.snoc {p : Atom} (S : Sat h₀ h (p :: l)) : Sat h₀ h (l ++ [p]) := S.perm (List.perm_append_comm (l₁ := [p]))
theorem Sat.cell {i : Nat} {a : Addr} {v : Option Value} (S : Sat h₀ h l) (hi : l[i]? = some (a, cellP v)) : h.IsCell a v := by
  obtain ⟨o, ho, h1⟩ := S.at hi
  exact ⟨o, ho, h1⟩

/-- all that is not an atom goes into a new base -/
theorem Sat.rebase (S : Sat h₀ h l) : ∃ h₁ : Heap, (∀ b o, h₀.get? b = some o → h₁.get? b = some o) ∧ (∀ b o, b ∉ l.map (·.1) → h.get? b = some o → h₁.get? b = some o) ∧ Sat h₁ h l := by
  refine ⟨hideAll h (l.map (·.1)), fun b o e => hideAll_get _ (S.keep b o e) fun hm => ?_, fun b o hb e => hideAll_get _ e hb, ⟨fun b o e => of_hideAll _ e, S.nd, fun p hp => ⟨hideAll_none _ (List.mem_map_of_mem hp), (S.has p hp).2⟩⟩⟩
  obtain ⟨p, hp, rfl⟩ := List.mem_map.mp hm
  rw [(S.has p hp).1] at e; cases e
theorem Sat.base {h₁ : Heap} (S : Sat h₁ h l) (hk : ∀ b o, h₀.get? b = some o → h₁.get? b = some o) : Sat h₀ h l :=
  ⟨fun b o e => S.keep b o (hk b o e), S.nd, fun p hp => ⟨fresh_of_stays hk (S.has p hp).1, (S.has p hp).2⟩⟩
end

/-! ## a state that differs in the heap and the tokens alone -/
def SR (s s' : Shared) : Prop := ∃ h tk, s' = { s with heap := h, toks := tk }
theorem SR.refl (s : Shared) : SR s s := ⟨s.heap, s.toks, rfl⟩
theorem SR.mk' (s : Shared) (h : Heap) (tk : Nat) : SR s { s with heap := h, toks := tk } := ⟨h, tk, rfl⟩
theorem SR.trans {s s' s'' : Shared} (a : SR s s') (b : SR s' s'') : SR s s'' := by
  obtain ⟨h, tk, rfl⟩ := a
  obtain ⟨h', tk', rfl⟩ := b
  exact ⟨h', tk', rfl⟩
theorem SR.eq {s s' : Shared} (a : SR s s') : s' = { s with heap := s'.heap, toks := s'.toks } := by
  obtain ⟨h, tk, rfl⟩ := a; rfl

end Mine

end MA
section MB
set_option maxRecDepth 100000
open PySem PySem.W PyProof.Rows
namespace Mine

/-! ## pure trees: they read the heap, make tokens alone -/
section
variable {prog : Program} {w : World} {A : Around} {α β : Type} {h : Heap} {env : Env}

def PE (prog : Program) (w : World) (A : Around) {α : Type} (t : Sem α) (h : Heap) (R : α → Prop) : Prop :=
  ∀ (s : Shared) (Q : α → Shared → Prop) (E : Value → Shared → Prop), s.heap = h → (∀ a tk, R a → Q a { s with toks := tk }) → wpAny (model prog w) A t Q E s

theorem PE.use {t : Sem α} {R : α → Prop} {s : Shared} {Q : α → Shared → Prop} {E : Value → Shared → Prop} (p : PE prog w A t s.heap R) (hq : ∀ a tk, R a → Q a { s with toks := tk }) : wpAny (model prog w) A t Q E s := p s Q E rfl hq
theorem PE.mono {t : Sem α} {R R' : α → Prop} (p : PE prog w A t h R) (hr : ∀ a, R a → R' a) : PE prog w A t h R' := fun s Q E e hq => p s Q E e fun a tk ha => hq a tk (hr a ha)
theorem PE.pure {a : α} {R : α → Prop} (ha : R a) : PE prog w A (pure a) h R := fun s Q E _ hq => wpAny_pure (hq a s.toks ha)
theorem PE.of {t : Sem α} {R : α → Prop} {a : α} (ha : R a) (p : ∀ (s : Shared) (Q : α → Shared → Prop) (E : Value → Shared → Prop), s.heap = h → Q a s → wpAny (model prog w) A t Q E s) : PE prog w A t h R := fun s Q E e hq => p s Q E e (hq a s.toks ha)
theorem PE.keeps {t : Sem α} {R : α → Prop} {s : Shared} {E : Value → Shared → Prop} (p : PE prog w A t s.heap R) : wpAny (model prog w) A t (fun a s' => R a ∧ Keeps s s') E s :=
  p.use fun a tk ha => ⟨ha, s.heap, tk, rfl, fun _ _ e => e⟩

def isI (i : Int) : Value → Prop := fun v => ∃ t, v = .int i t
def isS (x : Str) : Value → Prop := fun v => ∃ t, v = .str x t
def isB (b : Bool) : Value → Prop := fun v => v = .bool b
def isV (v : Value) : Value → Prop := fun u => u = v

/-! names -/
theorem pe_local {x : Str} {pos : Pos} {m : Str → Option Value} {v : Value} (hn : h.Ns env.locals m) (hv : m x = some v) (hk : env.scope.kind = .function) (hl : env.kindOf x = some .local)
    (hd : (x == ("__debug__" : Str)) = false := by decide) : PE prog w A (eval (.Name x pos) env) h (isV v) := fun s Q E e hq => by
  subst e
  exact wpAny_Name (wpAny_loadName_local hk hl hn hv (hq v s.toks rfl)) hd
theorem pe_cell {x : Str} {pos : Pos} {c : Addr} {v : Value} (hc : env.cells.lookup x = some c) (hv : h.IsCell c (some v)) (hk : env.scope.kind = .function) (hl : env.kindOf x = some .cell)
    (hd : (x == ("__debug__" : Str)) = false := by decide) : PE prog w A (eval (.Name x pos) env) h (isV v) := fun s Q E e hq => by
  subst e
  exact wpAny_Name (wpAny_loadName_cell hk hl hc hv (hq v s.toks rfl)) hd
theorem pe_global {x : Str} {pos : Pos} {mg : Str → Option Value} {v : Value} (hg : h.Ns env.globals mg) (hv : mg x = some v) (hk : env.scope.kind = .function) (hx : env.kindOf x = some .globalImplicit)
    (hd : (x == ("__debug__" : Str)) = false := by decide) : PE prog w A (eval (.Name x pos) env) h (isV v) := fun s Q E e hq => by
  subst e
  exact Calls.Name_function_global hk hx (Calls.loadGlobal_global hg hv (hq v s.toks rfl)) hd
theorem pe_builtin {x : Str} {pos : Pos} {mg mb : Str → Option Value} {v : Value} (hg : h.Ns env.globals mg) (hm : mg x = none) (hb : h.Ns env.builtins mb) (hv : mb x = some v) (hk : env.scope.kind = .function) (hx : env.kindOf x = some .globalImplicit)
    (hd : (x == ("__debug__" : Str)) = false := by decide) : PE prog w A (eval (.Name x pos) env) h (isV v) := fun s Q E e hq => by
  subst e
  exact Calls.Name_function_global hk hx (Calls.loadGlobal_builtin hg hm hb hv (hq v s.toks rfl)) hd

/-! literals -/
theorem pe_int {i : Int} {k : Nat} {pos : Pos} : PE prog w A (eval (.Constant (.int i) k pos) env) h (isI i) := fun s Q E e hq => wpAny_Constant_int (hq _ _ ⟨_, rfl⟩)
theorem pe_str {x : Str} {k : Nat} {pos : Pos} : PE prog w A (eval (.Constant (.str x) k pos) env) h (isS x) := fun s Q E e hq => wpAny_Constant_str (hq _ _ ⟨_, rfl⟩)
theorem pe_none {k : Nat} {pos : Pos} : PE prog w A (eval (.Constant .none k pos) env) h (isV .none) := fun s Q E e hq => wpAny_Constant_none (hq _ s.toks rfl)
theorem pe_bool {b : Bool} {k : Nat} {pos : Pos} : PE prog w A (eval (.Constant (.bool b) k pos) env) h (isB b) := fun s Q E e hq => wpAny_Constant_bool (hq _ s.toks rfl)

/-! binary -/
theorem pe_bin {l r : Expr} {op : Operator} {pos : Pos} {R₁ R₂ R : Value → Prop} (p : PE prog w A (eval l env) h R₁) (q : PE prog w A (eval r env) h R₂) (k : ∀ a b, R₁ a → R₂ b → PE prog w A (binaryOp op a b) h R) :
    PE prog w A (eval (.BinOp l op r pos) env) h R := fun s Q E e hq =>
  wpAny_BinOp (p s _ _ e fun a tk ha => q _ _ _ e fun b tk' hb => k a b ha hb _ _ _ e hq)
theorem pe_add {l r : Expr} {pos : Pos} {a b : Int} (p : PE prog w A (eval l env) h (isI a)) (q : PE prog w A (eval r env) h (isI b)) : PE prog w A (eval (.BinOp l .Add r pos) env) h (isI (a + b)) :=
  pe_bin p q fun _ _ ⟨_, e1⟩ ⟨_, e2⟩ s Q E _ hq => by subst e1; subst e2; exact add_int (hq _ _ ⟨_, rfl⟩)
theorem pe_sub {l r : Expr} {pos : Pos} {a b : Int} (p : PE prog w A (eval l env) h (isI a)) (q : PE prog w A (eval r env) h (isI b)) : PE prog w A (eval (.BinOp l .Sub r pos) env) h (isI (a - b)) :=
  pe_bin p q fun _ _ ⟨_, e1⟩ ⟨_, e2⟩ s Q E _ hq => by subst e1; subst e2; exact sub_int (hq _ _ ⟨_, rfl⟩)
theorem pe_mod {l r : Expr} {pos : Pos} {a b : Int} (hb : b ≠ 0) (p : PE prog w A (eval l env) h (isI a)) (q : PE prog w A (eval r env) h (isI b)) : PE prog w A (eval (.BinOp l .Mod r pos) env) h (isI (a.fmod b)) :=
  pe_bin p q fun _ _ ⟨_, e1⟩ ⟨_, e2⟩ s Q E _ hq => by subst e1; subst e2; exact mod_int hb (hq _ _ ⟨_, rfl⟩)
theorem pe_div {l r : Expr} {pos : Pos} {a b : Int} (hb : b ≠ 0) (hs : b.natAbs < 1073741824) (p : PE prog w A (eval l env) h (isI a)) (q : PE prog w A (eval r env) h (isI b)) : PE prog w A (eval (.BinOp l .FloorDiv r pos) env) h (isI (a.fdiv b)) :=
  pe_bin p q fun _ _ ⟨_, e1⟩ ⟨_, e2⟩ s Q E _ hq => by subst e1; subst e2; exact floordiv_int hb (hq _ _ ⟨_, rfl⟩) (.inl (PyProof.noPylong_small hs))
theorem pe_shr {l r : Expr} {pos : Pos} {a b : Int} (hb : 0 ≤ b) (p : PE prog w A (eval l env) h (isI a)) (q : PE prog w A (eval r env) h (isI b)) : PE prog w A (eval (.BinOp l .RShift r pos) env) h (isI (a.fdiv (2 ^ b.toNat))) :=
  pe_bin p q fun _ _ ⟨_, e1⟩ ⟨_, e2⟩ s Q E _ hq => by subst e1; subst e2; exact rshift_int hb (hq _ _ ⟨_, rfl⟩)

/-! compare -/
theorem pe_cmp {l r : Expr} {op : CmpOp} {pos : Pos} {R₁ R₂ R : Value → Prop} (p : PE prog w A (eval l env) h R₁) (q : PE prog w A (eval r env) h R₂) (k : ∀ a b, R₁ a → R₂ b → PE prog w A (compareOp op a b) h R)
    (hm : behindInMarks op r = false) : PE prog w A (eval (.Compare l [op] [r] pos) env) h R := fun s Q E e hq =>
  wpAny_Compare1 (p s _ _ e fun a tk ha => q _ _ _ e fun b tk' hb => k a b ha hb _ _ _ e hq) hm
theorem pe_test {l r : Expr} {op : CmpOp} {pos : Pos} {b : Bool} {whole : Sem Value} {R₁ R₂ : Value → Prop} (p : PE prog w A (eval l env) h R₁) (q : PE prog w A (eval r env) h R₂) (k : ∀ u v, R₁ u → R₂ v → PE prog w A (compareOp op u v) h (isB b))
    (hm : behindInMarks op r = false) : PE prog w A (isTrue (.Compare l [op] [r] pos) env whole) h (· = b) := fun s Q E e hq =>
  wpAny_isTrue_Compare1 (p s _ _ e fun a tk ha => q _ _ _ e fun c tk' hc => k a c ha hc _ _ _ e fun v tk hv => by subst hv; exact wpAny_truthy_bool (hq _ _ rfl)) hm
theorem pc_gt {a b : Int} : ∀ u v, isI a u → isI b v → PE prog w A (compareOp .Gt u v) h (isB (decide (b < a))) :=
  fun _ _ ⟨_, e1⟩ ⟨_, e2⟩ s Q E _ hq => by subst e1; subst e2; exact gt_int (hq _ s.toks rfl)
theorem pc_lt {a b : Int} : ∀ u v, isI a u → isI b v → PE prog w A (compareOp .Lt u v) h (isB (decide (a < b))) :=
  fun _ _ ⟨_, e1⟩ ⟨_, e2⟩ s Q E _ hq => by subst e1; subst e2; exact lt_int (hq _ s.toks rfl)
theorem pc_ge {a b : Int} : ∀ u v, isI a u → isI b v → PE prog w A (compareOp .GtE u v) h (isB (decide (b ≤ a))) :=
  fun _ _ ⟨_, e1⟩ ⟨_, e2⟩ s Q E _ hq => by subst e1; subst e2; exact ge_int (hq _ s.toks rfl)
theorem pc_eq {a b : Int} : ∀ u v, isI a u → isI b v → PE prog w A (compareOp .Eq u v) h (isB (a == b)) :=
  fun _ _ ⟨_, e1⟩ ⟨_, e2⟩ s Q E _ hq => by subst e1; subst e2; exact eq_int (hq _ s.toks rfl)

/-! conditional expression -/
theorem pe_if {test body orelse : Expr} {pos : Pos} {b : Bool} {R : Value → Prop} (p : PE prog w A (isTrue test env (eval test env)) h (· = b)) (q : b = true → PE prog w A (eval body env) h R) (r : b = false → PE prog w A (eval orelse env) h R) :
    PE prog w A (eval (.IfExp test body orelse pos) env) h R := fun s Q E e hq =>
  wpAny_IfExp (p s _ _ e fun b' tk hb => by
    subst hb
    cases b' with
    | true => simp only [if_true]; exact q rfl _ _ _ e hq
    | false => simp only [Bool.false_eq_true, if_false]; exact r rfl _ _ _ e hq)

/-! an item of a list -/
theorem pe_item {value slice : Expr} {pos : Pos} {l : Addr} {xs : List Value} {k : Int} {v : Value} (p : PE prog w A (eval value env) h (isV (.ref l))) (q : PE prog w A (eval slice env) h (isI k)) (hl : h.IsList l xs.toArray)
    (h0 : 0 ≤ k) (hx : xs[k.toNat]? = some v) (hhi : k < 2 ^ 63)
    (hs : ∀ u, subscripted slice false (.ref l) (.int k u) = operate [.ref l, .int k u] (getItem (.ref l) (.int k u))) : PE prog w A (eval (.Subscript value slice pos) env) h (isV v) := fun s Q E e hq => by
  refine Subscript_ (p s _ _ e fun a tk ha => q _ _ _ e fun b tk' hb => ?_)
  obtain ⟨t, rfl⟩ := hb
  cases ha
  subst e
  exact tail_any (s := { s with toks := tk' }) (Heap.IsList.typeIs hl) slot_list_getitem.lookup (wpAny_getItem_list hl h0 hhi (by simpa using hx) (hq v tk' rfl)) (hs t)
end
end Mine

end MB
section P1
set_option maxRecDepth 100000
open PySem PySem.W PyProof.Rows
namespace Mine
def stAt (p : Program) (i : Nat) : Stmt := p.main.body.getD i (.Pass default)
def bodyOf : Stmt → List Stmt | .FunctionDef _ _ b _ _ _ _ _ _ _ => b | _ => []
def scopeOf : Stmt → Scope | .FunctionDef _ _ _ _ _ _ s _ _ _ => s | _ => default
def argsOf : Stmt → Arguments | .FunctionDef _ a _ _ _ _ _ _ _ _ => a | _ => default
abbrev PP : Program := PySem.Challenge.pw_dp0033_01
end Mine

end P1
section MC
set_option maxRecDepth 100000
open PySem PySem.W PyProof.Rows
namespace Mine

/-! ## stores -/
section
variable {prog : Program} {w : World} {A : Around} {E : Value → Shared → Prop} {s : Shared} {env : Env} {h₀ : Heap} {l : List Atom}
theorem st_local {x : Str} {v : Value} {i : Nat} {m : Str → Option Value} {Q : Unit → Shared → Prop} (S : Sat h₀ s.heap l) (hi : l[i]? = some (env.locals, nsP m)) (hl : env.kindOf x = some .local)
    (hk : env.scope.kind = .function) (h : ∀ h' tk, Sat h₀ h' (l.set i (env.locals, nsP (upd m x v))) → Q () { s with heap := h', toks := tk }) : wpAny (model prog w) A (storeName env x v) Q E s := by
  refine wpAny_storeName_local hl (S.ns hi) (fun h' hn hs => ?_) (by rw [hk]; rfl)
  obtain ⟨o, es, ep, ho, h1, h2, h3⟩ := hn
  exact h h' _ (S.set hi hs.extBut ho ⟨es, ep, h1, h2, h3⟩)
theorem st_cell {x : Str} {v : Value} {i : Nat} {c : Addr} {v₀ : Option Value} {Q : Unit → Shared → Prop} (S : Sat h₀ s.heap l) (hi : l[i]? = some (c, cellP v₀)) (hc : env.cells.lookup x = some c) (hl : env.kindOf x = some .cell)
    (hk : env.scope.kind = .function) (h : ∀ h', Sat h₀ h' (l.set i (c, cellP (some v))) → Q () { s with heap := h' }) : wpAny (model prog w) A (storeName env x v) Q E s := by
  refine wpAny_storeName_cell hk hl hc (S.cell hi) fun h' hv hs => ?_
  obtain ⟨o, ho, h1⟩ := hv
  exact h h' (S.set hi hs.extBut ho h1)
theorem set_item {a : Addr} {k : Int} {t : Tok} {v : Value} {i : Nat} {xs : List Value} {Q : Unit → Shared → Prop} (S : Sat h₀ s.heap l) (hi : l[i]? = some (a, lstP xs)) (h0 : 0 ≤ k) (hn : k < xs.length) (hf : xs.length < 2 ^ 62)
    (h : ∀ h', Sat h₀ h' (l.set i (a, lstP (xs.set k.toNat v))) → Q () { s with heap := h' }) : wpAny (model prog w) A (setItem (.ref a) (.int k t) v) Q E s := by
  refine wpAny_setItem_list (S.list hi) h0 (by omega) (by simpa using hn) fun h' hl hs => ?_
  obtain ⟨o, ho, h1, n, h2⟩ := hl
  refine h h' (S.set hi hs.extBut ho ⟨h1, n, ?_⟩)
  rw [h2]; simp
end

/-! ## loops, an error passed on as it is -/
section
variable {prog : Program} {w : World} {A : Around} {E : Value → Shared → Prop} {s : Shared} {env : Env}
theorem while_own {test : Expr} {body : List Stmt} {pos : Pos} {Q : Flow → Shared → Prop} (hE : PassesOwn (model prog w) A env E) (I : Nat → Shared → Prop)
    (turn : ∀ n s, I n s → wpAny (model prog w) A (isTrue test env (eval test env)) (fun b s₂ =>
      if b then wpAny (model prog w) A (execs body env) (fun f s₃ => match f with | .next | .cont => ∃ m, m < n ∧ I m s₃ | .brk => Q .next s₃ | .ret v => Q (.ret v) s₃) E s₂ else Q .next s₂) E s)
    (n : Nat) (h : I n s) : wpAny (model prog w) A (exec (.While test body [] pos) env) Q E s := by
  refine wpAny_While (codeAny_whileLoop I (fun n s hI => wpAny_passesOwn hE (wpAny_mono (turn n s hI) (fun b s₂ h₂ => ?_) fun _ _ x => x)) n h)
  cases b with
  | true => simp only [if_true] at h₂ ⊢; exact wpAny_passesOwn hE h₂
  | false => simp only [Bool.false_eq_true, if_false] at h₂ ⊢; exact wpAny_execs_nil h₂
theorem for_own {target iter : Expr} {body : List Stmt} {pos : Pos} {Q : Flow → Shared → Prop} (hE : PassesOwn (model prog w) A env E)
    (h : wpAny (model prog w) A (eval iter env) (fun x s₁ => wpAny (model prog w) A (pyIter x) (fun it s₂ => ∃ (I : Nat → Shared → Prop) (n : Nat), I n s₂ ∧
      ∀ n s, I n s → wpAny (model prog w) A (pyNext it) (fun r s₁ => match r with
        | none => Q .next s₁
        | some v => wpAny (model prog w) A (letOwnedTupleGo target it v) (fun _ s₁' => wpAny (model prog w) A (assign target env v) (fun _ s₂ => wpAny (model prog w) A (execs body env) (fun f s₃ => match f with
            | .next | .cont => ∃ m, m < n ∧ I m s₃
            | .brk => Q .next s₃
            | .ret v => Q (.ret v) s₃) E s₂) E s₁') E s₁) E s) E s₁) E s)
    (hs : ∀ x, foldedSetIterable iter env x = pure x) : wpAny (model prog w) A (exec (.For target iter body [] pos) env) Q E s := by
  refine wpAny_For (wpAny_mono h (fun x s₁ h₁ => wpAny_mono h₁ (fun it s₂ h₂ => ?_) fun _ _ x => x) fun _ _ x => x) hs
  obtain ⟨I, n, h0, turn⟩ := h₂
  refine codeAny_forLoop_any I (fun n s hI => wpAny_passesOwn hE (wpAny_mono (turn n s hI) (fun r s₁ hr => ?_) fun _ _ x => x)) n h0
  cases r with
  | none => exact wpAny_execs_nil hr
  | some v => exact wpAny_passesOwn hE (wpAny_mono hr (fun _ s₂ h₂ => wpAny_passesOwn hE (wpAny_mono h₂ (fun _ s₃ h₃ => wpAny_passesOwn hE h₃) fun _ _ x => x)) fun _ _ x => x)
end

/-! ## what the loop does, plainly: c u v = none where '<' raises -/
def sift (c : Value → Value → Option Bool) (st : Nat) (new : Value) (xs : List Value) (p : Nat) : List Value × Option Value :=
  if h : st < p then
    match c (xs.getD ((p - 1) / 2) .none) new with
    | none => (xs, some (xs.getD ((p - 1) / 2) .none))
    | some true => sift c st new (xs.set p (xs.getD ((p - 1) / 2) .none)) ((p - 1) / 2)
    | some false => (xs.set p new, none)
  else (xs.set p new, none)
termination_by p
decreasing_by omega

theorem sift_stop {c : Value → Value → Option Bool} {st : Nat} {new : Value} {xs : List Value} {p : Nat} (h : ¬ st < p) : sift c st new xs p = (xs.set p new, none) := by
  rw [sift, dif_neg h]
theorem sift_none {c : Value → Value → Option Bool} {st : Nat} {new : Value} {xs : List Value} {p : Nat} (h : st < p) (hc : c (xs.getD ((p - 1) / 2) .none) new = none) : sift c st new xs p = (xs, some (xs.getD ((p - 1) / 2) .none)) := by
  rw [sift, dif_pos h, hc]
theorem sift_go {c : Value → Value → Option Bool} {st : Nat} {new : Value} {xs : List Value} {p : Nat} (h : st < p) (hc : c (xs.getD ((p - 1) / 2) .none) new = some true) :
    sift c st new xs p = sift c st new (xs.set p (xs.getD ((p - 1) / 2) .none)) ((p - 1) / 2) := by
  rw [sift, dif_pos h, hc]
theorem sift_end {c : Value → Value → Option Bool} {st : Nat} {new : Value} {xs : List Value} {p : Nat} (h : st < p) (hc : c (xs.getD ((p - 1) / 2) .none) new = some false) : sift c st new xs p = (xs.set p new, none) := by
  rw [sift, dif_pos h, hc]

theorem fdiv2 (p : Nat) (hp : 0 < p) : ((p : Int) - 1).fdiv (2 ^ (1 : Int).toNat) = (((p - 1) / 2 : Nat) : Int) := by
  have e : (2 : Int) ^ (1 : Int).toNat = 2 := by decide
  rw [e, Int.fdiv_eq_ediv_of_nonneg _ (by omega)]
  omega

/-- '<' of two values, on any heap that holds the base -/
def CmpAt (prog : Program) (w : World) (A : Around) (h₀ : Heap) (c : Value → Value → Option Bool) (msg : Value → Value → Str) (u v : Value) : Prop :=
  ∀ (s : Shared) (Q E : Value → Shared → Prop), (∀ b o, h₀.get? b = some o → s.heap.get? b = some o) →
    (∀ b tk, c u v = some b → Q (.bool b) { s with toks := tk }) →
    (∀ h' tk e t, c u v = none → Heap.MadeExcOf s.heap h' e (.type "TypeError") [.str (msg u v) t] → E (.ref e) { s with heap := h', toks := tk }) →
    wpAny (model prog w) A (compareOp .Lt u v) Q E s

abbrev sdB : List Stmt := bodyOf (stAt PP 1)
abbrev sdSc : Scope := scopeOf (stAt PP 1)
abbrev sdAr : Arguments := argsOf (stAt PP 1)
abbrev sdN : Str := Str.ofString "_siftdown_max"

section
variable {prog : Program} {w : World} {A : Around} {E : Value → Shared → Prop} {s : Shared} {h₀ : Heap} {l : List Atom} {L f aH : Addr} {cd : Value}

theorem sift_body {c : Value → Value → Option Bool} {msg : Value → Value → Str} {st p : Nat} {t1 t2 : Tok} {xs : List Value} {m : Str → Option Value} {new : Value} {Q : Flow → Shared → Prop}
    (S : Sat h₀ s.heap ((L, nsP m) :: (aH, lstP xs) :: l)) (m1 : m (Str.ofString "heap") = some (.ref aH)) (m2 : m (Str.ofString "startpos") = some (.int st t1)) (m3 : m (Str.ofString "pos") = some (.int p t2))
    (hp : xs[p]? = some new) (hlen : xs.length < 2 ^ 60) (hc : ∀ u ∈ xs, CmpAt prog w A h₀ c msg u new) (hE : PassesOwn (model prog w) A (envOf sdN sdSc L f cd) E)
    (ok : ∀ h' tk m', (sift c st new xs p).2 = none → Sat h₀ h' ((L, nsP m') :: (aH, lstP (sift c st new xs p).1) :: l) → Q .next { s with heap := h', toks := tk })
    (err : ∀ h h' tk e t u m', (sift c st new xs p).2 = some u → Sat h₀ h ((L, nsP m') :: (aH, lstP (sift c st new xs p).1) :: l) → Heap.MadeExcOf h h' e (.type "TypeError") [.str (msg u new) t] → E (.ref e) { s with heap := h', toks := tk }) :
    wpAny (model prog w) A (execs sdB (envOf sdN sdSc L f cd)) Q E s := by
  have hpl : p < xs.length := (List.getElem?_eq_some_iff.mp hp).1
  -- newitem = heap[pos]
  with_unfolding_all refine wpAny_execs_cons ?_
  with_unfolding_all refine wpAny_Assign_Name ?_ (by rfl)
  have n1 : s.heap.Ns L m := S.ns (i := 0) rfl
  have hl1 : s.heap.IsList aH xs.toArray := S.list (i := 1) rfl
  refine (pe_item (k := (p : Int)) (v := new) (pe_local n1 m1 rfl rfl) ((pe_local n1 m3 rfl rfl).mono fun _ e => ⟨t2, e⟩) hl1 (by omega) (by simpa using hp) (by omega) (fun _ => by with_unfolding_all rfl)).use fun a tk1 ha => ?_
  cases ha
  refine st_local (i := 0) (S : Sat h₀ _ _) rfl rfl rfl fun h1 tk2 S1 => ?_
  dsimp only [List.set_cons_zero] at S1
  -- behind the loop
  have fin : ∀ (xs' : List Value) (m' : Str → Option Value) (n : Nat) (t : Tok) (h : Heap) (tk : Nat), Sat h₀ h ((L, nsP m') :: (aH, lstP xs') :: l) → m' (Str.ofString "heap") = some (.ref aH) → m' (Str.ofString "pos") = some (.int n t) →
      m' (Str.ofString "newitem") = some new → sift c st new xs p = (xs'.set n new, none) → xs'.length = xs.length → n < xs.length →
      wpAny (model prog w) A (execs (sdB.drop 2) (envOf sdN sdSc L f cd)) Q E { s with heap := h, toks := tk } := by
    intro xs' m' n t h tk S' e1 e3 e4 e5 e6 e7
    have n2 : h.Ns L m' := S'.ns (i := 0) rfl
    with_unfolding_all refine wpAny_execs_cons ?_
    with_unfolding_all refine wpAny_Assign_Subscript ?_ (by rfl)
    refine PE.use (pe_local n2 e4 rfl rfl) fun v tk3 hv => ?_
    cases hv
    refine PE.use (pe_local n2 e1 rfl rfl) fun v tk4 hv => ?_
    cases hv
    refine PE.use (pe_local n2 e3 rfl rfl) fun v tk5 hv => ?_
    cases hv
    refine set_item (i := 1) (S' : Sat h₀ _ _) rfl (by omega) (by omega) (by omega) fun h' S2 => ?_
    refine wpAny_execs_nil ?_
    dsimp only [List.set_cons_zero, List.set_cons_succ, Int.toNat_natCast] at S2
    exact ok h' tk5 m' (by rw [e5]) (by rw [e5]; exact S2)
  -- the loop
  dsimp only
  with_unfolding_all refine wpAny_execs_cons ?_
  have key : ∀ (xs' : List Value) (p' : Nat), p' < xs'.length → xs'.length = xs.length → (∀ u ∈ xs', u ∈ xs) → st < p' →
      c (xs'.getD ((p' - 1) / 2) .none) new = some true → (xs'.set p' (xs'.getD ((p' - 1) / 2) .none)).length = xs.length ∧ ∀ u ∈ xs'.set p' (xs'.getD ((p' - 1) / 2) .none), u ∈ xs := by
    intro xs' p' h1 h2 h3 h4 _
    refine ⟨by simpa using h2, fun u hu => ?_⟩
    rcases List.mem_or_eq_of_mem_set hu with hu | rfl
    · exact h3 u hu
    · have hq : (p' - 1) / 2 < xs'.length := by omega
      rw [List.getD_eq_getElem?_getD, List.getElem?_eq_getElem hq]
      exact h3 _ (List.getElem_mem hq)
  with_unfolding_all refine while_own hE (fun n s' => ∃ xs' m' t h tk, s' = { s with heap := h, toks := tk } ∧ Sat h₀ h ((L, nsP m') :: (aH, lstP xs') :: l) ∧ m' (Str.ofString "heap") = some (.ref aH) ∧ m' (Str.ofString "startpos") = some (.int st t1) ∧
      m' (Str.ofString "pos") = some (.int n t) ∧ m' (Str.ofString "newitem") = some new ∧ sift c st new xs' n = sift c st new xs p ∧ xs'.length = xs.length ∧ n < xs.length ∧ ∀ u ∈ xs', u ∈ xs) ?_ p ?_
  rotate_left
  · exact ⟨xs, _, t2, h1, tk2, rfl, S1, (upd_ne (by decide)).trans m1, (upd_ne (by decide)).trans m2, (upd_ne (by decide)).trans m3, upd_self _ _ _, rfl, rfl, hpl, fun _ hu => hu⟩
  rintro n s' ⟨xs', m', t, h, tk, rfl, S', e1, e2, e3, e4, e5, e6, e7, e8⟩
  have n2 : h.Ns L m' := S'.ns (i := 0) rfl
  have hl2 : h.IsList aH xs'.toArray := S'.list (i := 1) rfl
  -- pos > startpos
  refine (pe_test (b := decide ((st : Int) < (n : Int))) ((pe_local n2 e3 rfl rfl).mono fun _ e => (⟨t, e⟩ : isI n _)) ((pe_local n2 e2 rfl rfl).mono fun _ e => (⟨t1, e⟩ : isI st _)) pc_gt (by with_unfolding_all rfl)).use fun b tk3 hb => ?_
  subst hb
  by_cases hlt : st < n
  · rw [if_pos (by simpa using hlt)]
    -- parentpos = pos - 1 >> 1
    have hq : (n - 1) / 2 < xs'.length := by omega
    have hpar : xs'[(n - 1) / 2]? = some (xs'.getD ((n - 1) / 2) .none) := by rw [List.getD_eq_getElem?_getD, List.getElem?_eq_getElem hq]; rfl
    with_unfolding_all refine wpAny_execs_cons ?_
    with_unfolding_all refine wpAny_Assign_Name ?_ (by rfl)
    refine PE.use (pe_shr (a := (n : Int) - 1) (b := 1) (by decide) (pe_sub ((pe_local n2 e3 rfl rfl).mono fun _ e => (⟨t, e⟩ : isI n _)) pe_int) pe_int) fun v tk4 hv => ?_
    rw [fdiv2 n (by omega)] at hv
    obtain ⟨t4, rfl⟩ := hv
    refine st_local (i := 0) (S' : Sat h₀ _ _) rfl rfl rfl fun h2 tk5 S2 => ?_
    dsimp only [List.set_cons_zero] at S2
    dsimp only
    -- parent = heap[parentpos]
    have n3 : h2.Ns L _ := S2.ns (i := 0) rfl
    have hl3 : h2.IsList aH xs'.toArray := S2.list (i := 1) rfl
    with_unfolding_all refine wpAny_execs_cons ?_
    with_unfolding_all refine wpAny_Assign_Name ?_ (by rfl)
    refine PE.use (pe_item (k := (((n - 1) / 2 : Nat) : Int)) (pe_local n3 ((upd_ne (by decide)).trans e1) rfl rfl) ((pe_local n3 (upd_self _ _ _) rfl rfl).mono fun _ e => ⟨t4, e⟩) hl3 (by omega) (by rw [Int.toNat_natCast]; exact hpar) (by omega) (fun _ => by with_unfolding_all rfl)) fun v tk6 hv => ?_
    cases hv
    refine st_local (i := 0) (S2 : Sat h₀ _ _) rfl rfl rfl fun h3 tk7 S3 => ?_
    dsimp only [List.set_cons_zero] at S3
    dsimp only
    -- if parent < newitem
    have n4 : h3.Ns L _ := S3.ns (i := 0) rfl
    with_unfolding_all refine wpAny_execs_cons ?_
    with_unfolding_all refine wpAny_If (wpAny_isTrue_Compare1 ?_ (by with_unfolding_all rfl))
    refine PE.use (pe_local n4 (upd_self _ _ _) rfl rfl) fun v tk8 hv => ?_
    cases hv
    refine PE.use (pe_local n4 (((upd_ne (by decide)).trans (upd_ne (by decide))).trans e4) rfl rfl) fun v tk9 hv => ?_
    cases hv
    refine hc _ (e8 _ (List.mem_of_getElem? hpar)) _ _ _ S3.keep (fun b tk10 hb => ?_) fun h' tk10 e te hn hx => ?_
    · refine wpAny_truthy_bool ?_
      cases b with
      | true =>
        simp only [if_true]
        have n5 := n4
        -- heap[pos] = parent
        with_unfolding_all refine wpAny_execs_cons ?_
        with_unfolding_all refine wpAny_Assign_Subscript ?_ (by rfl)
        refine PE.use (pe_local n4 (upd_self _ _ _) rfl rfl) fun v tk11 hv => ?_
        cases hv
        refine PE.use (pe_local n4 (((upd_ne (by decide)).trans (upd_ne (by decide))).trans e1) rfl rfl) fun v tk12 hv => ?_
        cases hv
        refine PE.use (pe_local n4 (((upd_ne (by decide)).trans (upd_ne (by decide))).trans e3) rfl rfl) fun v tk13 hv => ?_
        cases hv
        refine set_item (i := 1) (S3 : Sat h₀ _ _) rfl (by omega) (by omega) (by omega) fun h4 S4 => ?_
        dsimp only [List.set_cons_zero, List.set_cons_succ, Int.toNat_natCast] at S4
        dsimp only
        -- pos = parentpos
        have n6 : h4.Ns L _ := S4.ns (i := 0) rfl
        with_unfolding_all refine wpAny_execs_cons ?_
        with_unfolding_all refine wpAny_Assign_Name ?_ (by rfl)
        refine PE.use (pe_local n6 ((upd_ne (by decide)).trans (upd_self _ _ _)) rfl rfl) fun v tk14 hv => ?_
        cases hv
        refine st_local (i := 0) (S4 : Sat h₀ _ _) rfl rfl rfl fun h5 tk15 S5 => ?_
        dsimp only [List.set_cons_zero] at S5
        dsimp only
        with_unfolding_all refine wpAny_execs_cons (wpAny_Continue ?_)
        obtain ⟨k1, k2⟩ := key xs' n (by omega) e6 e8 hlt hb
        refine ⟨(n - 1) / 2, by omega, xs'.set n (xs'.getD ((n - 1) / 2) .none), _, t4, h5, tk15, rfl, S5, ?_, ?_, upd_self _ _ _, ?_, ?_, k1, by omega, k2⟩
        · exact ((upd_ne (by decide)).trans ((upd_ne (by decide)).trans (upd_ne (by decide)))).trans e1
        · exact ((upd_ne (by decide)).trans ((upd_ne (by decide)).trans (upd_ne (by decide)))).trans e2
        · exact ((upd_ne (by decide)).trans ((upd_ne (by decide)).trans (upd_ne (by decide)))).trans e4
        · rw [← e5]; exact (sift_go hlt hb).symm
      | false =>
        simp only [Bool.false_eq_true, if_false]
        refine wpAny_execs_nil ?_
        with_unfolding_all refine wpAny_execs_cons (wpAny_Break ?_)
        with_unfolding_all exact fin xs' _ n t h3 tk10 S3 (((upd_ne (by decide)).trans (upd_ne (by decide))).trans e1) (((upd_ne (by decide)).trans (upd_ne (by decide))).trans e3) (((upd_ne (by decide)).trans (upd_ne (by decide))).trans e4) (by rw [← e5]; exact sift_end hlt hb) e6 e7
    · exact err h3 h' tk10 e te _ _ (by rw [← e5, sift_none hlt hn]) (by rw [← e5, sift_none hlt hn]; exact S3) hx
  · rw [if_neg (by simpa using hlt)]
    dsimp only
    with_unfolding_all exact fin xs' m' n t h tk3 S' e1 e3 e4 (by rw [← e5]; exact sift_stop hlt) e6 e7
end
end Mine

end MC
section MD
set_option maxRecDepth 100000
open PySem PySem.W PyProof.Rows
namespace Mine

/-- a def of the text's, where the base holds it -/
structure FnAt (h₀ : Heap) (name : Str) (params : Arguments) (body : List Stmt) (scope : Scope) (f : Addr) : Prop where
  it : ∃ o pm cd doc, h₀.get? f = some o ∧ o.data = .func (Calls.docDef name params body scope pm cd doc) ∧ h₀.CodeRec cd name

section
variable {prog : Program} {w : World} {A : Around} {s : Shared} {h₀ : Heap} {l : List Atom} {L f aH : Addr} {R : Result → Shared → Prop}

theorem sift_callE {c : Value → Value → Option Bool} {msg : Value → Value → Str} {st p : Nat} {t1 t2 : Tok} {xs : List Value} {m : Str → Option Value} {new : Value} {cenv : Env}
    (S : Sat h₀ s.heap ((L, nsP m) :: (aH, lstP xs) :: l)) (fn : FnAt h₀ sdN sdAr sdB sdSc f) (lim : h₀.NoLimit) (room : A.depth < recursionLimit) (hfr : A.frames = some [cenv]) (hL : cenv.frame = some L) (hke : cenv.scope.kind = .function)
    (hp : xs[p]? = some new) (hlen : xs.length < 2 ^ 60) (hc : ∀ env', ∀ u ∈ xs, CmpAt prog w (A.deeper env') h₀ c msg u new) (hh : A.handled = none)
    (ok : ∀ h' tk, (sift c st new xs p).2 = none → Sat h₀ h' ((L, nsP m) :: (aH, lstP (sift c st new xs p).1) :: l) → R (.ok (.ret .none)) { s with heap := h', toks := tk })
    (err : ∀ B h' tk e t u tt, (sift c st new xs p).2 = some u → Sat h₀ B ((aH, lstP (sift c st new xs p).1) :: l) → B.get? L = none → h'.Ns L m → Heap.FlyingW B [cenv] e (.type "TypeError") (.ref t) h' →
      h'.TupAt t [.str (msg u new) tt] → B.get? t = none → R (.error (.ref e)) { s with heap := h', toks := tk }) :
    codeAny (model prog w) A (.call (.ref f) ⟨[.ref aH, .int st t1, .int p t2], []⟩) R s := by
  obtain ⟨o, pm, cd, doc, ho, hd, hcd⟩ := fn.it
  refine call_plain (binds := [(Str.ofString "heap", .ref aH), (Str.ofString "startpos", .int st t1), (Str.ofString "pos", .int p t2)]) room (S.keep _ _ ho) hd (lim.keeps S.keep) (hcd.keeps S.keep) (by rfl) (locs (by rfl)) (fun h₁ F => ?_)
  have S1 : Sat h₀ h₁ ((s.heap.objs.size, nsP fun x => List.lookup x [(Str.ofString "heap", Value.ref aH), (Str.ofString "startpos", .int st t1), (Str.ofString "pos", .int p t2)].reverse) :: (aH, lstP xs) :: (L, nsP m) :: l) := by
    obtain ⟨o1, es, ep, g1, g2, g3, g4⟩ := F.ns
    refine ((S.keeps F.keep).perm (List.Perm.swap _ _ _)).cons g1 ⟨es, ep, g2, g3, g4⟩ ?_ fun q hq e => ?_
    · cases q : h₀.get? s.heap.objs.size with
      | none => rfl
      | some o' => exact absurd (Heap.lt_size (S.keep _ _ q)) (Nat.lt_irrefl _)
    · obtain ⟨o', ho', _⟩ := (S.has q ((List.Perm.swap _ _ _).mem_iff.mp hq)).2
      rw [e] at ho'
      exact absurd (Heap.lt_size ho') (Nat.lt_irrefl _)
  refine sift_body (msg := msg) (c := c) (st := st) (p := p) (t1 := t1) (t2 := t2) (xs := xs) (new := new) S1 rfl rfl rfl hp hlen (hc _) PassesOwn.leaving (fun h' tk m' hn S2 => ?_) fun h h' tk e t u m' hs S2 hx => ?_
  · dsimp only
    exact ok h' _ hn (S2.tail.perm (List.Perm.swap _ _ _))
  · have S3 : Sat h₀ h ((L, nsP m) :: (s.heap.objs.size, nsP m') :: (aH, lstP (sift c st new xs p).1) :: l) := S2.perm (by
      refine (List.Perm.cons _ (List.Perm.swap _ _ _)).trans (List.Perm.swap _ _ _))
    obtain ⟨oL, esL, epL, hoL, hdL, _, _⟩ := S3.ns (i := 0) rfl
    obtain ⟨o1, es1, ep1, ho1, hd1, _, _⟩ := S3.ns (i := 1) rfl
    have hBL : (hideAll h [s.heap.objs.size, L]).get? L = none := hideAll_none _ (by simp)
    refine wpAny_leaves_madeW (base := hideAll h [s.heap.objs.size, L]) (h := h) (env := envOf sdN sdSc s.heap.objs.size f cd) (outer := [cenv]) (L := s.heap.objs.size) (Around.frames_deeper hfr) rfl (fun b o' q => of_hideAll _ q) ?_ hx fun h'' t' x1 x2 x3 x4 => ?_
    · refine ⟨(by show sdSc.kind ≠ _; decide), ⟨_, o1, rfl, hideAll_none _ (by simp), ho1, fun vs q => by rw [hd1] at q; cases q⟩, ⟨by rw [hke]; decide, ⟨L, oL, hL, hBL, hoL, fun vs q => by rw [hdL] at q; cases q⟩, trivial⟩⟩
    · have hne : ∀ q ∈ (aH, lstP (sift c st new xs p).1) :: l, q.1 ∉ [s.heap.objs.size, L] := by
        intro q hq hm
        rcases List.mem_cons.mp hm with e1 | hm
        · exact S3.tail.mem_ne q hq e1
        · exact S3.mem_ne q (List.mem_cons_of_mem _ hq) (List.mem_singleton.mp hm)
      refine err _ h'' tk e t' u t hs ⟨fun b o' q => hideAll_get _ (S3.keep b o' q) fun hm => ?_, S3.tail.tail.nd, fun q hq => ⟨(S3.tail.tail.has q hq).1, ?_⟩⟩ hBL (x4.ns ((S3.ns (i := 0) rfl).keeps hx.keeps)) x1 x2 x3
      · rcases List.mem_cons.mp hm with e1 | hm
        · rw [e1, (S3.has (_, nsP m') (by simp)).1] at q; cases q
        · rw [List.mem_singleton.mp hm, (S3.has (L, nsP m) (by simp)).1] at q; cases q
      · obtain ⟨o', ho', r⟩ := (S3.tail.tail.has q hq).2
        exact ⟨o', hideAll_get _ ho' (hne q hq), r⟩
theorem sift_call {c : Value → Value → Option Bool} {msg : Value → Value → Str} {st p : Nat} {t1 t2 : Tok} {xs : List Value} {m : Str → Option Value} {new : Value} {cenv : Env}
    (S : Sat h₀ s.heap ((L, nsP m) :: (aH, lstP xs) :: l)) (fn : FnAt h₀ sdN sdAr sdB sdSc f) (lim : h₀.NoLimit) (room : A.depth < recursionLimit) (hfr : A.frames = some [cenv]) (hL : cenv.frame = some L) (hke : cenv.scope.kind = .function)
    (hp : xs[p]? = some new) (hlen : xs.length < 2 ^ 60) (hc : ∀ A, A.handled = none → ∀ u ∈ xs, CmpAt prog w A h₀ c msg u new) (hh : A.handled = none)
    (ok : ∀ h' tk, (sift c st new xs p).2 = none → Sat h₀ h' ((L, nsP m) :: (aH, lstP (sift c st new xs p).1) :: l) → R (.ok (.ret .none)) { s with heap := h', toks := tk })
    (err : ∀ B h' tk e t u tt, (sift c st new xs p).2 = some u → Sat h₀ B ((aH, lstP (sift c st new xs p).1) :: l) → B.get? L = none → h'.Ns L m → Heap.FlyingW B [cenv] e (.type "TypeError") (.ref t) h' →
      h'.TupAt t [.str (msg u new) tt] → B.get? t = none → R (.error (.ref e)) { s with heap := h', toks := tk }) :
    codeAny (model prog w) A (.call (.ref f) ⟨[.ref aH, .int st t1, .int p t2], []⟩) R s :=
  sift_callE S fn lim room hfr hL hke hp hlen (fun env' u hu => hc (A.deeper env') hh u hu) hh ok err
end
end Mine

end MD
section ME
set_option maxRecDepth 100000
open PySem PySem.W PyProof.Rows
namespace Mine

section
variable {α : Type} {M : Model} {A : Around} {E : Value → Shared → Prop} {s : Shared}
theorem raise_words {cls msg : String} {Q : α → Shared → Prop} (hp : PlainExc cls) (hh : A.handled = none)
    (h : ∀ h' tk e t, Heap.MadeExcOf s.heap h' e (.type cls) [.str (msg : Str) t] → E (.ref e) { s with heap := h', toks := tk }) :
    wpAny M A (raiseErrorWords cls msg : Sem α) Q E s := by
  unfold raiseErrorWords
  refine wpAny_bind (wpAny_mkText (wpAny_bind ?_))
  unfold newExc newTuple
  refine wpAny_bind (wpAny_newObj_type ?_)
  refine wpAny_bind (m := firstArgMember _ _) (wpAny_of_eq (a := Value.none) (by simp only [firstArgMember, hp.first]; rfl) ?_)
  rw [hp.own]
  refine wpAny_newObj_type ?_
  unfold raiseNew
  refine wpAny_bind (wpAny_handled ?_)
  rw [hh]
  first
    | refine wpAny_throw ?_
    | refine wpAny_bind (wpAny_pure (wpAny_throw ?_))
  refine h _ _ _ s.toks ⟨fun b o hb => Heap.get?_push_of_some _ (Heap.get?_push_of_some _ hb), Heap.get?_none_of_le (by simp), s.heap.objs.size, ?_, Heap.get?_none_of_le (Nat.le_refl _), Heap.get?_push_of_some _ (Heap.get?_push_size _ rfl)⟩
  exact Heap.get?_push_size _ rfl
theorem raise_made {cls msg : String} {Q : α → Shared → Prop} (hp : PlainExc cls) (hh : A.handled = none) (hm : (msg : Str).length ≤ sizeLine)
    (h : ∀ h' tk e t, Heap.MadeExcOf s.heap h' e (.type cls) [.str (msg : Str) t] → E (.ref e) { s with heap := h', toks := tk }) :
    wpAny M A (raiseErrorMade cls msg : Sem α) Q E s := by
  unfold raiseErrorMade
  refine wpAny_bind (wpAny_mkStr (wpAny_bind ?_) hm)
  unfold newExc newTuple
  refine wpAny_bind (wpAny_newObj_type ?_)
  refine wpAny_bind (m := firstArgMember _ _) (wpAny_of_eq (a := Value.none) (by simp only [firstArgMember, hp.first]; rfl) ?_)
  rw [hp.own]
  refine wpAny_newObj_type ?_
  unfold raiseNew
  refine wpAny_bind (wpAny_handled ?_)
  rw [hh]
  first
    | refine wpAny_throw ?_
    | refine wpAny_bind (wpAny_pure (wpAny_throw ?_))
  refine h _ _ _ s.toks ⟨fun b o hb => Heap.get?_push_of_some _ (Heap.get?_push_of_some _ hb), Heap.get?_none_of_le (by simp), s.heap.objs.size, ?_, Heap.get?_none_of_le (Nat.le_refl _), Heap.get?_push_of_some _ (Heap.get?_push_size _ rfl)⟩
  exact Heap.get?_push_size _ rfl
end

def ltWords (a b : String) : String := "'<' not supported between instances of '" ++ a ++ "' and '" ++ b ++ "'"

section
variable {prog : Program} {w : World} {A : Around} {E : Value → Shared → Prop} {s : Shared}
theorem isSubtype_int_str' : isSubtype (.type "int") (.type "str") = pure false := by rw [isSubtype_type]; kernel_rfl
theorem lt_declined {a b : Value} {Ta Tb ida idb : String} {Q : Value → Shared → Prop} (hh : A.handled = none) (ha : ∀ s' : Shared, s'.TypeIs a Ta) (hb : ∀ s' : Shared, s'.TypeIs b Tb)
    (hne : (Value.type Ta != Value.type Tb) = true) (hsub : isSubtype (.type Tb) (.type Ta) = pure false) (h1 : Slot Ta (cmpInfo .Lt).2.1 ida) (h2 : Slot Tb (cmpInfo .Lt).2.2 idb)
    (hna : (Value.type Ta == Value.type "builtin_function_or_method") = false) (hnb : (Value.type Tb == Value.type "builtin_function_or_method") = false)
    (hc : wpAny (model prog w) A (call (.builtin ida) [a, b]) (fun v s₁ => v = .notImplemented ∧ wpAny (model prog w) A (call (.builtin idb) [b, a]) (fun v s₂ => v = .notImplemented ∧
      ∀ h' tk e t, Heap.MadeExcOf s₂.heap h' e (.type "TypeError") [.str (Str.ofString (ltWords Ta Tb)) t] → E (.ref e) { s₂ with heap := h', toks := tk }) E s₁) E s)
    (hv : [a, b].any Value.onHeap = false) (sa : shownName Ta = Ta) (sb : shownName Tb = Tb) (hsz : (Str.ofString (ltWords Ta Tb)).length ≤ sizeLine) :
    wpAny (model prog w) A (richCompare .Lt a b) Q E s := by
  simp only [richCompare, cmpInfo, (ha s).oneThing_none] at h1 h2 ⊢
  refine wpAny_holding ?_
  refine wpAny_bind (wpAny_cRoomFor_or (.inl hv) ?_)
  refine wpAny_bind (wpAny_typeOf (ha s) (wpAny_bind (wpAny_typeOf (hb s) ?_)))
  simp only [hne, if_true]
  refine wpAny_bind (wpAny_of_eq hsub ?_)
  simp only [Bool.false_eq_true, if_false, Bool.not_false, if_true]
  refine wpAny_bind (m := tryCompare a _ b) (wpAny_tryCompare_declines (ha s) h1 (wpAny_mono hc (fun v s₁ h₁ => ⟨h₁.1, ?_⟩) fun _ _ x => x))
  refine wpAny_bind (m := tryCompare b _ a) (wpAny_tryCompare_declines (hb s₁) h2 (wpAny_mono h₁.2 (fun v s₂ h₂ => ⟨h₂.1, ?_⟩) fun _ _ x => x))
  refine wpAny_bind (wpAny_rule (wpAny_bind (wpAny_typeNameOf' (ha s₂) hna (wpAny_bind (wpAny_typeNameOf' (hb s₂) hnb ?_)))))
  rw [sa, sb]
  exact raise_made (msg := ltWords Ta Tb) plainExc_TypeError hh hsz h₂.2
theorem lt_int_str {i : Int} {t : Tok} {x : Str} {u : Tok} {Q : Value → Shared → Prop} (hh : A.handled = none)
    (h : ∀ h' tk e t, Heap.MadeExcOf s.heap h' e (.type "TypeError") [.str (Str.ofString (ltWords "int" "str")) t] → E (.ref e) { s with heap := h', toks := tk }) :
    wpAny (model prog w) A (compareOp .Lt (.int i t) (.str x u)) Q E s := by
  show wpAny _ _ (richCompare .Lt (.int i t) (.str x u)) Q E s
  refine lt_declined hh (fun s' => typeIs_int s' i t) (fun s' => typeIs_str s' x u) (by decide) isSubtype_str_int slot_int_lt PySem.slot_str_gt (by decide) (by decide) ?_ rfl (by decide +kernel) (by decide +kernel) (by decide +kernel)
  refine wpAny_call_entry slot_int_lt (typeIs_int s i t) entry_int_lt
    (show wpAny _ _ (do rule "int.binary.not-an-int"; ret .notImplemented) _ _ s from wpAny_bind (wpAny_rule (wpAny_pure ⟨_, rfl, rfl, ?_⟩))) (args_int_lt _ _)
  refine wpAny_call_entry PySem.slot_str_gt (typeIs_str s x u) PySem.entry_str_gt
    (show wpAny _ _ (do rule "str.__gt__.not-a-str"; ret .notImplemented) _ _ s from wpAny_bind (wpAny_rule (wpAny_pure ⟨_, rfl, rfl, h⟩))) (PySem.args_str_gt _ _)
theorem lt_str_int {i : Int} {t : Tok} {x : Str} {u : Tok} {Q : Value → Shared → Prop} (hh : A.handled = none)
    (h : ∀ h' tk e t, Heap.MadeExcOf s.heap h' e (.type "TypeError") [.str (Str.ofString (ltWords "str" "int")) t] → E (.ref e) { s with heap := h', toks := tk }) :
    wpAny (model prog w) A (compareOp .Lt (.str x u) (.int i t)) Q E s := by
  show wpAny _ _ (richCompare .Lt (.str x u) (.int i t)) Q E s
  refine lt_declined hh (fun s' => typeIs_str s' x u) (fun s' => typeIs_int s' i t) (by decide) isSubtype_int_str' F.slot_str_lt F.slot_int_gt_refl (by decide) (by decide) ?_ rfl (by decide +kernel) (by decide +kernel) (by decide +kernel)
  refine wpAny_call_entry F.slot_str_lt (typeIs_str s x u) F.entry_str_lt
    (show wpAny _ _ (do rule "str.__lt__.not-a-str"; ret .notImplemented) _ _ s from wpAny_bind (wpAny_rule (wpAny_pure ⟨_, rfl, rfl, ?_⟩))) (F.args_str_lt_2 _ _)
  refine wpAny_call_entry F.slot_int_gt_refl (typeIs_int s i t) F.entry_int_gt
    (show wpAny _ _ (do rule "int.binary.not-an-int"; ret .notImplemented) _ _ s from wpAny_bind (wpAny_rule (wpAny_pure ⟨_, rfl, rfl, h⟩))) (F.args_int_gt_2 _ _)
end
end Mine

end ME
section MF
set_option maxRecDepth 100000
open PySem PySem.W PyProof.Rows
namespace Mine

section
variable {prog : Program} {w : World} {A : Around} {E : Value → Shared → Prop} {s : Shared} {h₀ B : Heap} {l : List Atom} {L e t : Addr} {env : Env}

theorem caught_as {X T : String} {m : Str → Option Value} {args : List Value} {tx : Expr} {n : Str} {b₀ : Stmt} {suite : List Stmt} {pos : Pos} {Q : Flow → Shared → Prop}
    (hfr : A.frames = some [env]) (hL : env.frame = some L) (hlo : env.locals = L) (hke : env.scope.kind = .function) (hl : env.kindOf n = some .local)
    (hexc : isSubtype (.type T) (.type "BaseException") = pure true) (hnt : isSubtype (.type ((Manifest.find? T).elim "type" fun y => y.metatype)) (.type "tuple") = pure false) (hsub : isSubtype (.type X) (.type T) = pure true)
    (SB : Sat h₀ B l) (hBL : B.get? L = none) (h₀L : h₀.get? L = none) (hm : s.heap.Ns L m) (hfl : Heap.FlyingW B [env] e (.type X) (.ref t) s.heap) (htup : s.heap.TupAt t args)
    (htx : ∀ h, (∀ b o, h₀.get? b = some o → h.get? b = some o) → PE prog w (A.mark (some (.ref e))) (eval tx env) h (isV (.type T)))
    (k : ∀ h' tk, Sat h₀ h' ((L, nsP (upd m n (.ref e))) :: l) → h'.ExcAt e X (.ref t) → h'.TupAt t args →
      wpAny (model prog w) (A.mark (some (.ref e))) (execs (b₀ :: suite) env) (fun f s₄ => wpAny (model prog w) A (do bindName env n .none; unbindBehindTheSuite env n pos) (fun _ s₅ => Q f s₅) E s₄) (fun _ _ => False) { s with heap := h', toks := tk }) :
    wpAny (model prog w) A (noteFrame (.ref e) env) (fun _ s₂ => wpAny (model prog w) A (setFlight (.ref e) none) (fun _ s₃ =>
      wpAny (model prog w) A (handleBy (.ref e) env [.ExceptHandler (some tx) (some n) (b₀ :: suite) pos]) Q E s₃) E s₂) E s := by
  have hst : ∀ h, B.StaysIn h → h.Ns L m → Sat h₀ h ((L, nsP m) :: l) := fun h hk hn => by
    obtain ⟨o, es, ep, g1, g2, g3, g4⟩ := hn
    refine (SB.keeps hk).cons g1 ⟨es, ep, g2, g3, g4⟩ h₀L fun q hq e' => ?_
    obtain ⟨o', ho', _⟩ := (SB.has q hq).2
    rw [e', hBL] at ho'; cases ho'
  refine wpAny_looks_onW hfr hL hfl fun h₄ hheld₄ hsm₄ => ?_
  refine wpAny_landsW hheld₄ fun h₅ hheld hsm₅ => ?_
  have hn₅ : h₅.Ns L m := hsm₅.ns (hsm₄.ns hm)
  have S₅ := hst h₅ hheld.1 hn₅
  obtain ⟨ob, hob, hobc⟩ := hheld.there
  refine wpAny_handleBy_builtin_as (X := X) (T := T) (b := true) hexc hnt hsub ?_
  refine (htx h₅ S₅.keep) _ _ _ rfl fun c tk hc => ?_
  cases hc
  refine ⟨rfl, ⟨ob, hob, hobc⟩, ?_⟩
  simp only [if_true]
  refine lands_againW (s := { s with heap := h₅, toks := tk }) hheld fun h₆ hfl₆ hsm₆ => ?_
  have hn₆ : h₆.Ns L m := hsm₆.ns hn₅
  have S₆ := hst h₆ hfl₆.1 hn₆
  obtain ⟨oe, ws, hoe, hoec, hoed, hoe0⟩ := hfl₆.first
  have ht₆ := ((htup.of_slots hsm₄).of_slots hsm₅).of_slots hsm₆
  subst hlo
  obtain ⟨oL, esL, epL, hoL, hdL, hkL, hfL⟩ := hn₆
  refine wpAny_storeName_local hl ⟨oL, esL, epL, hoL, hdL, hkL, hfL⟩ (fun h₇ hn₇ hs₇ => ?_) (by rw [hke]; rfl)
  obtain ⟨o7, es7, ep7, ho7, g2, g3, g4⟩ := hn₇
  have heL : e ≠ env.locals := fun q => by rw [q, hoL] at hoe; injection hoe with hoe; rw [← hoe, hdL] at hoed; cases hoed
  have htL : t ≠ env.locals := fun q => by
    obtain ⟨ot, nt, hot, _, hotd⟩ := ht₆
    rw [q, hoL] at hot; injection hot with hot; rw [← hot, hdL] at hotd; cases hotd
  have S₇ : Sat h₀ h₇ ((env.locals, nsP (upd m n (.ref e))) :: l) := S₆.updHead hs₇.extBut ho7 ⟨es7, ep7, g2, g3, g4⟩
  refine wpAny_mono (k h₇ _ S₇ ⟨oe, ws, (hs₇.2 e heL).trans hoe, hoec, hoed, hoe0⟩ ?_) (fun _ _ x => x) fun _ _ x => x.elim
  obtain ⟨ot, nt, hot, hotc, hotd⟩ := ht₆
  exact ⟨ot, nt, (hs₇.2 t htL).trans hot, hotc, hotd⟩
/-- the name of the clause goes: all other names stay -/
theorem name_goes {n : Str} {pos : Pos} {i : Nat} {m : Str → Option Value} {Q : Unit → Shared → Prop} (S : Sat h₀ s.heap l) (hi : l[i]? = some (env.locals, nsP m)) (hl : env.kindOf n = some .local) (hk : env.scope.kind = .function)
    (h : ∀ h' tk m', (∀ x, x ≠ n → m' x = m x) → Sat h₀ h' (l.set i (env.locals, nsP m')) → Q () { s with heap := h', toks := tk }) :
    wpAny (model prog w) A (do bindName env n .none; unbindBehindTheSuite env n pos) Q E s := by
  refine wpAny_nameGoes_keeps hl (S.ns hi) (by rw [hk]; rfl) fun h' v hn hs => ?_
  obtain ⟨o, es, ep, ho, g2, g3, g4⟩ := hn
  exact h h' _ _ (fun x hx => by simp [hx]) (S.set hi hs.extBut ho ⟨es, ep, g2, g3, g4⟩)
end
end Mine

end MF
section MG
set_option maxRecDepth 100000
open PySem PySem.W PyProof.Rows
namespace Mine

def exW (h : Heap) (wr : List Addr) : List Atom := wr.map fun b => (b, fun o => h.get? b = some o)
theorem exW_addr (h : Heap) (wr : List Addr) : (exW h wr).map (·.1) = wr := by simp [exW, Function.comp_def]

theorem Sat.addW {h₁ h : Heap} {l : List Atom} {wr : List Addr} (S : Sat h₁ h l) (hnd : wr.Nodup) (hn : ∀ b ∈ wr, h₁.get? b = none) (hlive : ∀ b ∈ wr, ∃ o, h.get? b = some o) (hd : ∀ p ∈ l, p.1 ∉ wr) : Sat h₁ h (l ++ exW h wr) := by
  refine ⟨S.keep, ?_, fun p hp => ?_⟩
  · rw [List.map_append, exW_addr]
    refine List.nodup_append.mpr ⟨S.nd, hnd, fun a ha b hb e => ?_⟩
    obtain ⟨p, hp, rfl⟩ := List.mem_map.mp ha
    exact hd p hp (e ▸ hb)
  · rcases List.mem_append.mp hp with hp | hp
    · exact S.has p hp
    · obtain ⟨b, hb, rfl⟩ := List.mem_map.mp hp
      obtain ⟨o, ho⟩ := hlive b hb
      exact ⟨hn b hb, o, ho, ho⟩
theorem Sat.offW {h₁ h h' : Heap} {l : List Atom} {wr : List Addr} (S : Sat h₁ h (l ++ exW h' wr)) : ∀ p ∈ l, p.1 ∉ wr := fun p hp hm => by
  have := S.nd
  rw [List.map_append, exW_addr] at this
  exact (List.nodup_append.mp this).2.2 _ (List.mem_map_of_mem hp) _ hm rfl
theorem Sat.keptW {h₁ h h' : Heap} {l : List Atom} {wr : List Addr} (S : Sat h₁ h (l ++ exW h' wr)) : ∀ b ∈ wr, ∀ o, h'.get? b = some o → h.get? b = some o := fun b hb o ho => by
  obtain ⟨o', ho', e⟩ := (S.has (b, fun o => h'.get? b = some o) (List.mem_append_right _ (List.mem_map.mpr ⟨b, hb, rfl⟩))).2
  rw [show h'.get? b = some o' from e] at ho
  cases ho
  exact ho'

def ForEnd (J : List Atom → Prop) (h₁ : Heap) (r : List Atom) (s₂ : Shared) (Q : Flow → Shared → Prop) (f : Flow) (s₄ : Shared) : Prop :=
  match f with
  | .next | .cont => ∃ l', J l' ∧ Sat h₁ s₄.heap (l' ++ r) ∧ SR s₂ s₄
  | .brk => Q .next s₄
  | .ret v => Q (.ret v) s₄

section
variable {prog : Program} {w : World} {A : Around} {E : Value → Shared → Prop} {s : Shared} {env : Env}

/-- a for over anything that walks, its turns over atoms -/
theorem for_walks {target iter : Expr} {body : List Stmt} {pos : Pos} {Q : Flow → Shared → Prop} (hE : PassesOwn (model prog w) A env E)
    (h : wpAny (model prog w) A (eval iter env) (fun x s₁ => wpAny (model prog w) A (pyIter x) (fun it s₂ => ∃ I fp wr n P St h₁ l₀, ∃ J : Nat → List Atom → Prop, it = .ref I ∧ Walks prog w A I fp wr n P St ∧ St 0 s₂.heap ∧
      (∀ i h, St i h → ∀ b ∈ wr, ∃ o, h.get? b = some o) ∧ wr.Nodup ∧ (∀ b ∈ fp, b ∉ wr → ∃ o, h₁.get? b = some o) ∧ (∀ b ∈ wr, h₁.get? b = none) ∧ Sat h₁ s₂.heap l₀ ∧ (∀ p ∈ l₀, p.1 ∉ wr) ∧ J 0 l₀ ∧
      (∀ i v l r s', i < n → P i v → J i l → SR s₂ s' → Sat h₁ s'.heap (l ++ r) → wpAny (model prog w) A (assign target env v) (fun _ s₃ => wpAny (model prog w) A (execs body env) (ForEnd (J (i + 1)) h₁ r s₂ Q) E s₃) E s') ∧
      (∀ l s', J n l → Sat h₁ s'.heap l → SR s₂ s' → Q .next s')) E s₁) E s)
    (ht : ∀ it v, letOwnedTupleGo target it v = pure ()) (hs : ∀ x, foldedSetIterable iter env x = pure x) : wpAny (model prog w) A (exec (.For target iter body [] pos) env) Q E s := by
  refine for_own hE (wpAny_mono h (fun x s₁ h₁ => wpAny_mono h₁ (fun it s₂ h₂ => ?_) fun _ _ x => x) fun _ _ x => x) hs
  obtain ⟨I, fp, wr, n, P, St, hb, l₀, J, rfl, W, hst, hlive, hnd, hfp, hwr, S, hoff, hJ, turn, done⟩ := h₂
  refine ⟨fun k s' => ∃ i l, SR s₂ s' ∧ J i l ∧ Sat hb s'.heap l ∧ (∀ p ∈ l, p.1 ∉ wr) ∧ St i s'.heap ∧ i ≤ n ∧ k = n + 1 - i, n + 1, ⟨0, l₀, SR.refl _, hJ, S, hoff, hst, Nat.zero_le _, rfl⟩, ?_⟩
  rintro k s' ⟨i, l, hsr, hJi, Si, hoffi, hsti, hi, rfl⟩
  by_cases hlt : i < n
  · refine W.item i s' _ _ hlt hsti fun v h' tk hP hst' hk => ?_
    dsimp only
    rw [ht]
    refine wpAny_pure ?_
    have S' : Sat hb h' (l ++ exW h' wr) := (Si.keepsBut hk hwr hoffi).addW hnd hwr (hlive _ _ hst') hoffi
    refine wpAny_mono (turn i v l _ _ hlt hP hJi (hsr.trans (SR.mk' _ _ _)) S') (fun _ s₃ h₃ => wpAny_mono h₃ (fun f s₄ h₄ => ?_) fun _ _ x => x) fun _ _ x => x
    have fin : (∃ l', J (i + 1) l' ∧ Sat hb s₄.heap (l' ++ exW h' wr) ∧ SR s₂ s₄) → ∃ m, m < n + 1 - i ∧ ∃ i l, SR s₂ s₄ ∧ J i l ∧ Sat hb s₄.heap l ∧ (∀ p ∈ l, p.1 ∉ wr) ∧ St i s₄.heap ∧ i ≤ n ∧ m = n + 1 - i := by
      rintro ⟨l', hJ', S4, hsr4⟩
      refine ⟨n + 1 - (i + 1), by omega, i + 1, l', hsr4, hJ', S4.left, S4.offW, W.frame _ _ _ hst' fun b hb' o e => ?_, hlt, rfl⟩
      by_cases hbw : b ∈ wr
      · exact S4.keptW b hbw o e
      · obtain ⟨o', ho'⟩ := hfp b hb' hbw
        have e1 := S'.keep b o' ho'
        rw [e] at e1
        cases e1
        exact S4.keep b o ho'
    cases f with
    | next => exact fin h₄
    | cont => exact fin h₄
    | brk => exact h₄
    | ret v => exact h₄
  · have hin : i = n := by omega
    subst hin
    refine W.done s' _ _ hsti fun h' tk hk => ?_
    exact done l _ hJi (Si.keepsBut hk hwr hoffi) (hsr.trans (SR.mk' _ _ _))

/-- the same where a tuple is handed out -/
theorem for_walksT {elts : List Expr} {ek : Nat} {epos : Pos} {iter : Expr} {body : List Stmt} {pos : Pos} {Q : Flow → Shared → Prop} (hE : PassesOwn (model prog w) A env E)
    (h : wpAny (model prog w) A (eval iter env) (fun x s₁ => wpAny (model prog w) A (pyIter x) (fun it s₂ => ∃ I fp wr n Pt St Mid h₁ l₀, ∃ J : Nat → List Atom → Prop, it = .ref I ∧ WalksT prog w A I fp wr n Pt St Mid ∧ St 0 s₂.heap ∧
      (∀ i h, St i h → ∀ b ∈ wr, ∃ o, h.get? b = some o) ∧ wr.Nodup ∧ (∀ b ∈ fp, b ∉ wr → ∃ o, h₁.get? b = some o) ∧ (∀ b ∈ wr, h₁.get? b = none) ∧ Sat h₁ s₂.heap l₀ ∧ (∀ p ∈ l₀, p.1 ∉ wr) ∧ J 0 l₀ ∧
      (∀ i vals T l r s', i < n → Pt i vals → J i l → SR s₂ s' → s'.heap.IsTuple T vals → Sat h₁ s'.heap (l ++ r) → wpAny (model prog w) A (assign (.Tuple elts ek epos) env (.ref T)) (fun _ s₃ => wpAny (model prog w) A (execs body env) (ForEnd (J (i + 1)) h₁ r s₂ Q) E s₃) E s') ∧
      (∀ l s', J n l → Sat h₁ s'.heap l → SR s₂ s' → Q .next s')) E s₁) E s)
    (hs : ∀ x, foldedSetIterable iter env x = pure x) : wpAny (model prog w) A (exec (.For (.Tuple elts ek epos) iter body [] pos) env) Q E s := by
  refine for_own hE (wpAny_mono h (fun x s₁ h₁ => wpAny_mono h₁ (fun it s₂ h₂ => ?_) fun _ _ x => x) fun _ _ x => x) hs
  obtain ⟨I, fp, wr, n, Pt, St, Mid, hb, l₀, J, rfl, W, hst, hlive, hnd, hfp, hwr, S, hoff, hJ, turn, done⟩ := h₂
  refine ⟨fun k s' => ∃ i l, SR s₂ s' ∧ J i l ∧ Sat hb s'.heap l ∧ (∀ p ∈ l, p.1 ∉ wr) ∧ St i s'.heap ∧ i ≤ n ∧ k = n + 1 - i, n + 1, ⟨0, l₀, SR.refl _, hJ, S, hoff, hst, Nat.zero_le _, rfl⟩, ?_⟩
  rintro k s' ⟨i, l, hsr, hJi, Si, hoffi, hsti, hi, rfl⟩
  by_cases hlt : i < n
  · refine W.item i s' _ _ hlt hsti fun T vals h0 tk hP hT hTup hmid hk0 => ?_
    dsimp only
    refine W.go elts ek epos i T _ _ _ hmid fun h' hst' hk1 => ?_
    have hk : ∀ b o, b ∉ wr → s'.heap.get? b = some o → h'.get? b = some o := fun b o hb' e => hk1 b o hb' (hk0 b o hb' e)
    have S' : Sat hb h' (l ++ exW h' wr) := (Si.keepsBut hk hwr hoffi).addW hnd hwr (hlive _ _ hst') hoffi
    have hT' : h'.IsTuple T vals := hTup.at fun o e => hk1 T o (W.apart i T _ hmid) e
    refine wpAny_mono (turn i vals T l _ _ hlt hP hJi (hsr.trans ((SR.mk' _ h0 tk).trans (SR.mk' _ h' tk))) hT' S') (fun _ s₃ h₃ => wpAny_mono h₃ (fun f s₄ h₄ => ?_) fun _ _ x => x) fun _ _ x => x
    have fin : (∃ l', J (i + 1) l' ∧ Sat hb s₄.heap (l' ++ exW h' wr) ∧ SR s₂ s₄) → ∃ m, m < n + 1 - i ∧ ∃ i l, SR s₂ s₄ ∧ J i l ∧ Sat hb s₄.heap l ∧ (∀ p ∈ l, p.1 ∉ wr) ∧ St i s₄.heap ∧ i ≤ n ∧ m = n + 1 - i := by
      rintro ⟨l', hJ', S4, hsr4⟩
      refine ⟨n + 1 - (i + 1), by omega, i + 1, l', hsr4, hJ', S4.left, S4.offW, W.frame _ _ _ hst' fun b hb' o e => ?_, hlt, rfl⟩
      by_cases hbw : b ∈ wr
      · exact S4.keptW b hbw o e
      · obtain ⟨o', ho'⟩ := hfp b hb' hbw
        have e1 := S'.keep b o' ho'
        rw [e] at e1
        cases e1
        exact S4.keep b o ho'
    cases f with
    | next => exact fin h₄
    | cont => exact fin h₄
    | brk => exact h₄
    | ret v => exact h₄
  · have hin : i = n := by omega
    subst hin
    refine W.done s' _ _ hsti fun h' tk hk => ?_
    exact done l _ hJi (Si.keepsBut hk hwr hoffi) (hsr.trans (SR.mk' _ _ _))

/-- a pair laid upon two local names -/
theorem assign_two {xa xb : Str} {pa pb : Pos} {ek : Nat} {epos : Pos} {T : Addr} {u v : Value} {h₀ : Heap} {l : List Atom} {i : Nat} {m : Str → Option Value} {Q : Unit → Shared → Prop} (hh : A.handled = none) (hT : s.heap.IsTuple T #[u, v])
    (S : Sat h₀ s.heap l) (hi : l[i]? = some (env.locals, nsP m)) (ha : env.kindOf xa = some .local) (hb : env.kindOf xb = some .local) (hk : env.scope.kind = .function)
    (h : ∀ h' tk, Sat h₀ h' (l.set i (env.locals, nsP (upd (upd m xa u) xb v))) → Q () { s with heap := h', toks := tk }) :
    wpAny (model prog w) A (assign (.Tuple [.Name xa pa, .Name xb pb] ek epos) env (.ref T)) Q E s := by
  refine wpAny_assign_Tuple hh hT rfl rfl fun h' hx => ?_
  have S1 : Sat h₀ h' l := S.keepsBut (W := [s.heap.objs.size]) (fun b o hb' e => hx b o (fun q => hb' (by simp [q])) e) (fun b hb' => by
      rw [List.mem_singleton.mp hb']
      cases q : h₀.get? s.heap.objs.size with
      | none => rfl
      | some o => exact absurd (Heap.lt_size (S.keep _ _ q)) (Nat.lt_irrefl _)) fun p hp hm => by
      obtain ⟨o, ho, _⟩ := (S.has p hp).2
      rw [List.mem_singleton.mp hm] at ho
      exact absurd (Heap.lt_size ho) (Nat.lt_irrefl _)
  show wpAny _ A (do holding [v] (assign (.Name xa pa) env u); do holding [] (assign (.Name xb pb) env v); pure ()) _ _ _
  refine wpAny_bind (wpAny_holding (wpAny_assign_Name (st_local (i := i) (S1 : Sat h₀ _ _) hi ha hk fun h2 tk2 S2 => ?_)))
  have hlt : i < l.length := (List.getElem?_eq_some_iff.mp hi).1
  refine wpAny_bind (wpAny_holding (wpAny_assign_Name (st_local (i := i) (m := upd m xa u) (S2 : Sat h₀ _ _) (by simp [hlt]) hb hk fun h3 tk3 S3 => ?_)))
  rw [List.set_set] at S3
  exact wpAny_pure (h h3 tk3 S3)
end
end Mine

end MG
section MH
set_option maxRecDepth 100000
open PySem PySem.W PyProof.Rows
namespace Mine

abbrev testsOf (ifs : List Expr) (env : Env) : Sem Bool :=
  forIn ifs true fun c r => if r = true then do let ok ← isTrue c env (eval c env); pure (ForInStep.yield ok) else pure (ForInStep.yield r)

section
variable {prog : Program} {w : World} {A : Around} {E : Value → Shared → Prop} {s : Shared} {env : Env} {h : Heap}

theorem pe_tests_nil : PE prog w A (testsOf [] env) h (· = true) := fun s Q E e hq => wpAny_tests_nil (hq true s.toks rfl)
theorem pe_tests_one {c : Expr} {b : Bool} (p : PE prog w A (isTrue c env (eval c env)) h (· = b)) : PE prog w A (testsOf [c] env) h (· = b) := fun s Q E e hq => wpAny_tests_one (p s _ _ e hq)

theorem pe_call1 {func e : Expr} {pos : Pos} {id : String} {R₁ R : Value → Prop} (p : PE prog w A (eval func env) h (isV (.builtin id))) (q : PE prog w A (eval e env) h R₁) (k : ∀ v, R₁ v → PE prog w A (call (.builtin id) [v]) h R)
    (he : eval (.Call func [e] [] pos) env = (do callWith pos (← eval func env) [] (backTo pos (starEach [e] env)) (backToKw pos (keywordEach [] env)))) (hs : starEach [e] env = (false, eval e env) :: starEach [] env) :
    PE prog w A (eval (.Call func [e] [] pos) env) h R := fun s Q E e' hq => by
  refine Call_ (p s _ _ e' fun f tk hf => ?_) he
  cases hf
  refine callWith_builtin1 (args_cons ?_ hs) hs rfl
  exact q _ _ _ e' fun v tk' hv => args_nil (k v hv _ _ _ e' hq)
theorem pe_call2 {func e₁ e₂ : Expr} {pos : Pos} {id : String} {R₁ R₂ R : Value → Prop} (p : PE prog w A (eval func env) h (isV (.builtin id))) (q : PE prog w A (eval e₁ env) h R₁) (r : PE prog w A (eval e₂ env) h R₂)
    (k : ∀ u v, R₁ u → R₂ v → PE prog w A (call (.builtin id) [u, v]) h R)
    (he : eval (.Call func [e₁, e₂] [] pos) env = (do callWith pos (← eval func env) [] (backTo pos (starEach [e₁, e₂] env)) (backToKw pos (keywordEach [] env)))) (hs : starEach [e₁, e₂] env = (false, eval e₁ env) :: starEach [e₂] env) (hs2 : starEach [e₂] env = (false, eval e₂ env) :: starEach [] env) :
    PE prog w A (eval (.Call func [e₁, e₂] [] pos) env) h R := fun s Q E e' hq => by
  refine Call_ (p s _ _ e' fun f tk hf => ?_) he
  cases hf
  refine callWith_builtin1 (args_cons ?_ hs) hs (by rw [hs2]; rfl)
  exact q _ _ _ e' fun v tk' hv => args_cons (r _ _ _ e' fun v' tk'' hv' => args_nil (k v v' hv hv' _ _ _ e' hq)) hs2
theorem pe_len {func e : Expr} {pos : Pos} {a : Addr} {xs : List Value} (p : PE prog w A (eval func env) h (isV (.builtin "len"))) (q : PE prog w A (eval e env) h (isV (.ref a))) (hl : h.IsList a xs.toArray) (hz : xs.length < 2 ^ 62)
    (he : eval (.Call func [e] [] pos) env = (do callWith pos (← eval func env) [] (backTo pos (starEach [e] env)) (backToKw pos (keywordEach [] env)))) (hs : starEach [e] env = (false, eval e env) :: starEach [] env) :
    PE prog w A (eval (.Call func [e] [] pos) env) h (isI xs.length) :=
  pe_call1 p q (fun v hv s Q E e' hq => by
    cases hv
    subst e'
    refine Calls.call_len_list hl (by simp only [List.size_toArray]; omega) ?_
    simp only [List.size_toArray]
    exact hq _ _ ⟨_, rfl⟩) he hs

/-- what is asked of a comprehension behind its iterator; K: what is wanted of the new list D and its items -/
def CompTo (prog : Program) (w : World) (A : Around) (env : Env) (scope : Scope) (cl : List (Str × Addr)) (x : Str) (ifs : List Expr) (elt : Expr) (p : Value → Bool) (F : Value → Value → Prop) (s : Shared) (K : Addr → List Value → Prop) (it : Value) (s₂ : Shared) : Prop :=
  ∃ I fp wr n P St, it = .ref I ∧ Walks prog w A I fp wr n P St ∧ n ≤ sizeLine ∧ St 0 s₂.heap ∧ (∀ b ∈ fp, b < s₂.heap.objs.size) ∧ SR s s₂ ∧
      (∀ b o, s.heap.get? b = some o → s₂.heap.get? b = some o ∧ b ∉ wr) ∧
      (∀ C i v h' m₃, P i v → (∀ b o, s.heap.get? b = some o → h'.get? b = some o) → h'.Ns C m₃ → m₃ x = some v → PE prog w A (testsOf ifs (compEnvC scope cl C env)) h' (· = p v)) ∧
      (∀ C i v s₃ m₃ E', P i v → p v = true → (∀ b o, s.heap.get? b = some o → s₃.heap.get? b = some o) → s₃.heap.Ns C m₃ → m₃ x = some v → wpAny (model prog w) A (eval elt (compEnvC scope cl C env)) (fun y s₄ => F v y ∧ Keeps s₃ s₄) E' s₃) ∧
      (∀ D ys (vs : List Value), vs.length = n → (∀ j v, vs[j]? = some v → P j v) → Paired F (vs.filter p) ys → s.heap.get? D = none → K D ys)

/-- a comprehension whose tests are pure, whose elements keep the heap -/
theorem comp_gen {h₀ : Heap} {l : List Atom} {elt iter : Expr} {x : Str} {px : Pos} {ifs : List Expr} {scope : Scope} {cl : List (Str × Addr)} {pos : Pos} {Q : Value → Shared → Prop} (p : Value → Bool) (F : Value → Value → Prop)
    (S : Sat h₀ s.heap l) (hclos : closureFor scope env = pure cl) (hcell : ∀ y ∈ scope.names, y.2 ≠ .cell) (hkind : scope.kind = .function)
    (hnames : ∀ y ∈ scope.names, y.2 = .local → scope.names.lookup y.1 = some .local) (hx : scope.names.lookup x = some .local)
    (h : wpAny (model prog w) A (eval iter env) (fun xv s₁ => wpAny (model prog w) A (pyIter xv) (CompTo prog w A env scope cl x ifs elt p F s fun D ys =>
      ∀ h' tk, Sat h₀ h' ((D, plP ys) :: l) → (∀ b o, s.heap.get? b = some o → h'.get? b = some o) → Q (.ref D) { s with heap := h', toks := tk }) E s₁) E s)
    (hs : ∀ x, foldedSetIterable iter env x = pure x) :
    wpAny (model prog w) A (eval (.ListComp elt [⟨.Name x px, iter, ifs, 0⟩] scope pos) env) Q E s := by
  refine wpAny_ListComp_free p F hclos hcell hkind hnames hx (wpAny_mono h (fun xv s₁ h₁ => wpAny_mono h₁ (fun it s₂ h₂ => ?_) fun _ _ e => e) fun _ _ e => e) hs
  obtain ⟨I, fp, wr, n, P, St, rfl, W, hsz, hst, hfp, hsr, hold, ht, he, hQ⟩ := h₂
  refine ⟨I, fp, wr, n, P, St, rfl, W, hsz, hst, hfp, ⟨?_, ?_⟩, ?_⟩
  · intro C i v s₃ m₃ E' _ hP hn hm hk _
    exact (ht C i v s₃.heap m₃ hP (fun b o e => hk b o (hold b o e).2 (hold b o e).1) hn hm).keeps
  · intro C i v s₃ m₃ E' _ hP hp hn hm hk _
    exact he C i v s₃ m₃ E' hP hp (fun b o e => hk b o (hold b o e).2 (hold b o e).1) hn hm
  · intro D h' tk ys vs hD hl hpl hlen hP hF hk
    have keep : ∀ b o, s.heap.get? b = some o → h'.get? b = some o := fun b o e => hk b o (hold b o e).2 (hold b o e).1
    have hD' : s.heap.get? D = none := by
      cases q : s.heap.get? D with
      | none => rfl
      | some o => have := (hold D o q).1; rw [hD] at this; cases this
    obtain ⟨h2, tk2, e2⟩ := hsr
    subst e2
    obtain ⟨nn, ho⟩ := hpl
    refine hQ D ys.toList vs hlen hP hF hD' h' tk ((S.keeps keep).cons ho ⟨nn, by simp⟩ (fresh_of_stays S.keep hD') fun q hq e => ?_) keep
    obtain ⟨o', ho', _⟩ := (S.has q hq).2
    rw [e, hD'] at ho'; cases ho'

/-- the same, stored at once in a local name -/
theorem assign_comp {h₀ : Heap} {l : List Atom} {elt iter : Expr} {x y : Str} {px py : Pos} {ifs : List Expr} {scope : Scope} {cl : List (Str × Addr)} {pos spos : Pos} {Q : Flow → Shared → Prop} {i : Nat} {m : Str → Option Value} (p : Value → Bool) (F : Value → Value → Prop)
    (S : Sat h₀ s.heap l) (hi : l[i]? = some (env.locals, nsP m)) (hsw : swapsWith (.ListComp elt [⟨.Name x px, iter, ifs, 0⟩] scope pos) (some (.Name y py)) spos.line env = pure true)
    (hclos : closureFor scope env = pure cl) (hcell : ∀ y ∈ scope.names, y.2 ≠ .cell) (hkind : scope.kind = .function)
    (hnames : ∀ y ∈ scope.names, y.2 = .local → scope.names.lookup y.1 = some .local) (hx : scope.names.lookup x = some .local) (hy : env.kindOf y = some .local) (hk : env.scope.kind = .function)
    (h : wpAny (model prog w) A (eval iter env) (fun xv s₁ => wpAny (model prog w) A (pyIter xv) (CompTo prog w A env scope cl x ifs elt p F s fun D ys =>
      ∀ h' tk, Sat h₀ h' ((D, plP ys) :: l.set i (env.locals, nsP (upd m y (.ref D)))) → (∀ b o, b ≠ env.locals → s.heap.get? b = some o → h'.get? b = some o) → Q .next { s with heap := h', toks := tk }) E s₁) E s)
    (hs : ∀ x, foldedSetIterable iter env x = pure x) :
    wpAny (model prog w) A (exec (.Assign [.Name y py] (.ListComp elt [⟨.Name x px, iter, ifs, 0⟩] scope pos) spos) env) Q E s := by
  refine wpAny_Assign_ListComp_free p F hsw hclos hcell hkind hnames hx hy (by rw [hk]; rfl) (wpAny_mono h (fun xv s₁ h₁ => wpAny_mono h₁ (fun it s₂ h₂ => ?_) fun _ _ e => e) fun _ _ e => e) hs
  obtain ⟨I, fp, wr, n, P, St, rfl, W, hsz, hst, hfp, hsr, hold, ht, he, hQ⟩ := h₂
  obtain ⟨oL, hoL, hLp⟩ := S.at hi
  refine ⟨I, fp, wr, n, P, St, m, rfl, W, hsz, hst, hfp, (hold _ _ hoL).2, ?_, ⟨?_, ?_⟩, ?_⟩
  · obtain ⟨es, ep, g1, g2, g3⟩ := hLp
    exact ⟨oL, es, ep, (hold _ _ hoL).1, g1, g2, g3⟩
  · intro C i v s₃ m₃ E' _ hP hn hm hk _
    exact (ht C i v s₃.heap m₃ hP (fun b o e => hk b o (hold b o e).2 (hold b o e).1) hn hm).keeps
  · intro C i v s₃ m₃ E' _ hP hp hn hm hk _
    exact he C i v s₃ m₃ E' hP hp (fun b o e => hk b o (hold b o e).2 (hold b o e).1) hn hm
  · intro D h' tk ys vs hD hl hpl hlen hP hF hns hk
    have keep : ∀ b o, b ≠ env.locals → s.heap.get? b = some o → h'.get? b = some o := fun b o hb e => hk b o hb (hold b o e).2 (hold b o e).1
    have hD' : s.heap.get? D = none := by
      cases q : s.heap.get? D with
      | none => rfl
      | some o => have := (hold D o q).1; rw [hD] at this; cases this
    obtain ⟨h2, tk2, e2⟩ := hsr
    subst e2
    obtain ⟨nn, ho⟩ := hpl
    obtain ⟨o1, es, ep, ho1, g1, g2, g3⟩ := hns
    have S' : Sat h₀ h' (l.set i (env.locals, nsP (upd m y (.ref D)))) := S.set hi (fun b o hb e => keep b o hb e) ho1 ⟨es, ep, g1, g2, g3⟩
    refine hQ D ys.toList vs hlen hP hF hD' h' tk (S'.cons ho ⟨nn, by simp⟩ (fresh_of_stays S.keep hD') fun q hq e => ?_) keep
    rcases List.mem_or_eq_of_mem_set hq with hq | rfl
    · obtain ⟨o', ho', _⟩ := (S.has q hq).2
      rw [e, hD'] at ho'; cases ho'
    · have e' : env.locals = D := e
      rw [e', hD'] at hoL; cases hoL

/-- over a list -/
theorem to_list {elt iter : Expr} {x : Str} {ifs : List Expr} {scope : Scope} {cl : List (Str × Addr)} {ax : Addr} {items : List Value} {p : Value → Bool} {F : Value → Value → Prop} {K : Addr → List Value → Prop}
    (hh : A.handled = none) (hit : PE prog w A (eval iter env) s.heap (isV (.ref ax))) (hl : s.heap.IsList ax items.toArray) (hz : items.length ≤ sizeLine)
    (ht : ∀ C v h' m₃, v ∈ items → (∀ b o, s.heap.get? b = some o → h'.get? b = some o) → h'.Ns C m₃ → m₃ x = some v → PE prog w A (testsOf ifs (compEnvC scope cl C env)) h' (· = p v))
    (he : ∀ C v s₃ m₃ E', v ∈ items → p v = true → (∀ b o, s.heap.get? b = some o → s₃.heap.get? b = some o) → s₃.heap.Ns C m₃ → m₃ x = some v → wpAny (model prog w) A (eval elt (compEnvC scope cl C env)) (fun y s₄ => F v y ∧ Keeps s₃ s₄) E' s₃)
    (hQ : ∀ D ys, Paired F (items.filter p) ys → s.heap.get? D = none → K D ys) :
    wpAny (model prog w) A (eval iter env) (fun xv s₁ => wpAny (model prog w) A (pyIter xv) (CompTo prog w A env scope cl x ifs elt p F s K) E s₁) E s := by
  refine hit.use fun v tk hv => ?_
  cases hv
  have hl' : Heap.IsList ({ s with toks := tk } : Shared).heap ax items.toArray := hl
  refine wpAny_pyIter_list hl' ?_
  have hax : ax < s.heap.objs.size := by obtain ⟨_, e, _⟩ := hl; exact Heap.lt_size e
  refine ⟨s.heap.objs.size, [s.heap.objs.size, ax], [s.heap.objs.size], items.toArray.size, (fun i v => items.toArray[i]? = some v), _, rfl, Walks.list hh s.heap.objs.size ax (Nat.ne_of_lt hax) items.toArray, by simpa using hz,
    ⟨⟨_, Heap.get?_push_size _ rfl, rfl, rfl⟩, hl.push _⟩, ?_, ⟨_, _, rfl⟩, fun b o e => ⟨Heap.get?_push_of_some _ e, fun hm => ?_⟩, ?_, ?_, ?_⟩
  · intro b hb
    show b < (s.heap.push _).objs.size
    rw [Heap.size_push]
    rcases List.mem_cons.mp hb with rfl | hb
    · exact Nat.lt_succ_self _
    · rw [List.mem_singleton.mp hb]; exact Nat.lt_succ_of_lt hax
  · have := Heap.lt_size e
    rw [List.mem_singleton.mp hm] at this
    exact Nat.lt_irrefl _ this
  · intro C i v h' m₃ hP
    exact ht C v h' m₃ (List.mem_of_getElem? (by simpa using hP))
  · intro C i v s₃ m₃ E' hP
    exact he C v s₃ m₃ E' (List.mem_of_getElem? (by simpa using hP))
  · intro D ys vs hlen hP hF hD
    have e := list_of_places (items := items.toArray) hlen hP
    rw [e] at hF
    exact hQ D ys (by simpa using hF) hD

/-- over a range object -/
theorem to_range {elt iter : Expr} {x : Str} {ifs : List Expr} {scope : Scope} {cl : List (Str × Addr)} {p : Value → Bool} {F : Value → Value → Prop} {K : Addr → List Value → Prop} {a₀ b₀ c₀ : Int} {n : Nat}
    (hh : A.handled = none)
    (hit : wpAny (model prog w) A (eval iter env) (fun v s₁ => ∃ r t₀ u₀ v₀, v = .ref r ∧ SR s s₁ ∧ (∀ b o, s.heap.get? b = some o → s₁.heap.get? b = some o) ∧ IsRange s₁.heap r a₀ b₀ c₀ t₀ u₀ v₀) E s)
    (hsm : Builtin.Range.small a₀ b₀ c₀ = true) (hn : Builtin.Range.rangeSize a₀ b₀ c₀ = ((n : Nat) : Int)) (hz : n ≤ sizeLine)
    (ht : ∀ C (i : Nat) t h' m₃, i < n → (∀ b o, s.heap.get? b = some o → h'.get? b = some o) → h'.Ns C m₃ → m₃ x = some (.int (a₀ + (i : Int) * c₀) t) → PE prog w A (testsOf ifs (compEnvC scope cl C env)) h' (· = p (.int (a₀ + (i : Int) * c₀) t)))
    (he : ∀ C (i : Nat) t s₃ m₃ E', i < n → p (.int (a₀ + (i : Int) * c₀) t) = true → (∀ b o, s.heap.get? b = some o → s₃.heap.get? b = some o) → s₃.heap.Ns C m₃ → m₃ x = some (.int (a₀ + (i : Int) * c₀) t) → wpAny (model prog w) A (eval elt (compEnvC scope cl C env)) (fun y s₄ => F (.int (a₀ + (i : Int) * c₀) t) y ∧ Keeps s₃ s₄) E' s₃)
    (hQ : ∀ D ys (vs : List Value), vs.length = n → (∀ (j : Nat) v, vs[j]? = some v → ∃ t, v = .int (a₀ + (j : Int) * c₀) t) → Paired F (vs.filter p) ys → s.heap.get? D = none → K D ys) :
    wpAny (model prog w) A (eval iter env) (fun xv s₁ => wpAny (model prog w) A (pyIter xv) (CompTo prog w A env scope cl x ifs elt p F s K) E s₁) E s := by
  refine wpAny_mono hit (fun v s₁ h₁ => ?_) fun _ _ e => e
  obtain ⟨r, t₀, u₀, v₀, rfl, hsr, hk, hr⟩ := h₁
  refine wpAny_pyIter_range hr hsm ?_
  have W : Walks prog w A s₁.heap.objs.size [s₁.heap.objs.size] [s₁.heap.objs.size] n (fun i v => i < n ∧ ∃ t, v = .int (a₀ + i * c₀) t)
      (fun i h => IsRangeIter h s₁.heap.objs.size (a₀ + (i : Nat) * c₀) ((n : Int) - (i : Nat)) c₀) := (Walks.range hh _ a₀ c₀ n).bound
  have hlt : ∀ b o, s.heap.get? b = some o → b ∉ [s₁.heap.objs.size] := fun b o e hm => by
    have := Heap.lt_size (hk b o e)
    rw [List.mem_singleton.mp hm] at this
    exact Nat.lt_irrefl _ this
  refine ⟨s₁.heap.objs.size, _, _, n, _, _, rfl, W, hz, ?_, ?_, hsr.trans ⟨_, _, rfl⟩, fun b o e => ⟨Heap.get?_push_of_some _ (hk b o e), hlt b o e⟩, ?_, ?_, ?_⟩
  · show IsRangeIter _ _ _ _ _
    rw [hn]; simpa using Heap.get?_push_size _ rfl
  · intro b hb
    show b < (s₁.heap.push _).objs.size
    rw [Heap.size_push, List.mem_singleton.mp hb]; exact Nat.lt_succ_self _
  · rintro C i v h' m₃ ⟨hi, t, rfl⟩
    exact ht C i t h' m₃ hi
  · rintro C i v s₃ m₃ E' ⟨hi, t, rfl⟩
    exact he C i t s₃ m₃ E' hi
  · intro D ys vs hlen hP hF hD
    exact hQ D ys vs hlen (fun j v hj => (hP j v hj).2) hF hD
end
end Mine

end MH
section MI
set_option maxRecDepth 100000
open PySem PySem.W PyProof.Rows
namespace Mine

def bis : List (Str × Value) := [(Str.ofString "len", .builtin "len"), (Str.ofString "range", .type "range"), (Str.ofString "min", .builtin "min"), (Str.ofString "sum", .builtin "sum"), (Str.ofString "list", .type "list"),
  (Str.ofString "enumerate", .type "enumerate"), (Str.ofString "zip", .type "zip"), (Str.ofString "isinstance", .builtin "isinstance"), (Str.ofString "int", .type "int"), (Str.ofString "str", .type "str"),
  (Str.ofString "TypeError", .type "TypeError"), (Str.ofString "IndexError", .type "IndexError"), (Str.ofString "sorted", .builtin "sorted")]

structure Glb (h₀ : Heap) (mg mb : Str → Option Value) : Prop where
  g : h₀.Ns mainGlobals mg
  b : h₀.Ns builtinsNs mb
  lim : h₀.NoLimit
  bi : ∀ x ∈ bis, mg x.1 = none ∧ mb x.1 = some x.2

section
variable {prog : Program} {w : World} {A : Around} {E : Value → Shared → Prop} {s : Shared} {env : Env} {h₀ h : Heap} {mg mb : Str → Option Value}

theorem Glb.keeps {h₁ : Heap} (G : Glb h₀ mg mb) (hk : ∀ b o, h₀.get? b = some o → h₁.get? b = some o) : Glb h₁ mg mb := ⟨G.g.keeps hk, G.b.keeps hk, G.lim.keeps hk, G.bi⟩
theorem Glb.pe {x : Str} {v : Value} {pos : Pos} (G : Glb h₀ mg mb) (hk : ∀ b o, h₀.get? b = some o → h.get? b = some o) (hm : (x, v) ∈ bis) (hg : env.globals = mainGlobals) (hb : env.builtins = builtinsNs) (hki : env.scope.kind = .function)
    (hx : env.kindOf x = some .globalImplicit) (hd : (x == ("__debug__" : Str)) = false) : PE prog w A (eval (.Name x pos) env) h (isV v) :=
  pe_builtin (hg ▸ G.g.keeps hk) (G.bi _ hm).1 (hb ▸ G.b.keeps hk) (G.bi _ hm).2 hki hx hd
theorem Glb.pf {x : Str} {v : Value} {pos : Pos} (G : Glb h₀ mg mb) (hk : ∀ b o, h₀.get? b = some o → h.get? b = some o) (hm : mg x = some v) (hg : env.globals = mainGlobals) (hki : env.scope.kind = .function)
    (hx : env.kindOf x = some .globalImplicit) (hd : (x == ("__debug__" : Str)) = false) : PE prog w A (eval (.Name x pos) env) h (isV v) :=
  pe_global (hg ▸ G.g.keeps hk) hm hki hx hd

/-! trees that keep the heap -/
def KV (prog : Program) (w : World) (A : Around) {α : Type} (t : Sem α) (s : Shared) (R : α → Prop) : Prop :=
  ∀ (Q : α → Shared → Prop) (E : Value → Shared → Prop), (∀ a h' tk, (∀ b o, s.heap.get? b = some o → h'.get? b = some o) → R a → Q a { s with heap := h', toks := tk }) → wpAny (model prog w) A t Q E s
theorem KV.of {α : Type} {t : Sem α} {R : α → Prop} (p : PE prog w A t s.heap R) : KV prog w A t s R := fun Q E hq => p.use fun a tk ha => hq a s.heap tk (fun _ _ e => e) ha
theorem KV.mono {α : Type} {t : Sem α} {R R' : α → Prop} (p : KV prog w A t s R) (hr : ∀ a, R a → R' a) : KV prog w A t s R' := fun Q E hq => p Q E fun a h' tk hk ha => hq a h' tk hk (hr a ha)
theorem KV.keeps {α : Type} {t : Sem α} {R : α → Prop} (p : KV prog w A t s R) : wpAny (model prog w) A t (fun a s' => R a ∧ Keeps s s') E s := p _ _ fun a h' tk hk ha => ⟨ha, h', tk, rfl, hk⟩

def RangeAt (s : Shared) (a b c : Int) (v : Value) (s₁ : Shared) : Prop :=
  ∃ r t₀ u₀ v₀, v = .ref r ∧ SR s s₁ ∧ (∀ b o, s.heap.get? b = some o → s₁.heap.get? b = some o) ∧ IsRange s₁.heap r a b c t₀ u₀ v₀

theorem ev_range1 {func e : Expr} {pos : Pos} {n : Int} (p : PE prog w A (eval func env) s.heap (isV (.type "range"))) (q : ∀ tk, KV prog w A (eval e env) { s with toks := tk } (isI n))
    (he : eval (.Call func [e] [] pos) env = (do callWith pos (← eval func env) [] (backTo pos (starEach [e] env)) (backToKw pos (keywordEach [] env)))) (hs : starEach [e] env = (false, eval e env) :: starEach [] env) :
    wpAny (model prog w) A (eval (.Call func [e] [] pos) env) (RangeAt s 0 n 1) E s := by
  refine Call_ (p.use fun f tk hf => ?_) he
  cases hf
  refine callWith_type1 (args_cons ?_ hs) hs rfl
  refine q tk _ _ fun v h' tk' hk hv => args_nil ?_
  obtain ⟨t, rfl⟩ := hv
  refine call_range_1 ?_
  exact ⟨_, _, _, _, rfl, ⟨_, _, rfl⟩, fun b o e => Heap.get?_push_of_some _ (hk b o e), Heap.get?_push_size _ rfl⟩
theorem ev_range2 {func e₁ e₂ : Expr} {pos : Pos} {a b : Int} (p : PE prog w A (eval func env) s.heap (isV (.type "range"))) (q : PE prog w A (eval e₁ env) s.heap (isI a)) (r : PE prog w A (eval e₂ env) s.heap (isI b))
    (he : eval (.Call func [e₁, e₂] [] pos) env = (do callWith pos (← eval func env) [] (backTo pos (starEach [e₁, e₂] env)) (backToKw pos (keywordEach [] env)))) (hs : starEach [e₁, e₂] env = (false, eval e₁ env) :: starEach [e₂] env) (hs2 : starEach [e₂] env = (false, eval e₂ env) :: starEach [] env) :
    wpAny (model prog w) A (eval (.Call func [e₁, e₂] [] pos) env) (RangeAt s a b 1) E s := by
  refine Call_ (p.use fun f tk hf => ?_) he
  cases hf
  refine callWith_type1 (args_cons ?_ hs) hs (by rw [hs2]; rfl)
  refine q _ _ _ rfl fun v tk' hv => args_cons (r _ _ _ rfl fun v' tk'' hv' => args_nil ?_) hs2
  obtain ⟨t, rfl⟩ := hv
  obtain ⟨t', rfl⟩ := hv'
  refine call_range_2 ?_
  exact ⟨_, _, _, _, rfl, ⟨_, _, rfl⟩, fun b o e => Heap.get?_push_of_some _ e, Heap.get?_push_size _ rfl⟩

/-- min of two ints -/
theorem kv_min2 {func e₁ e₂ : Expr} {pos : Pos} {a b : Int} (hh : A.handled = none) (p : PE prog w A (eval func env) s.heap (isV (.builtin "min"))) (q : PE prog w A (eval e₁ env) s.heap (isI a)) (r : PE prog w A (eval e₂ env) s.heap (isI b))
    (he : eval (.Call func [e₁, e₂] [] pos) env = (do callWith pos (← eval func env) [] (backTo pos (starEach [e₁, e₂] env)) (backToKw pos (keywordEach [] env)))) (hs : starEach [e₁, e₂] env = (false, eval e₁ env) :: starEach [e₂] env) (hs2 : starEach [e₂] env = (false, eval e₂ env) :: starEach [] env) :
    KV prog w A (eval (.Call func [e₁, e₂] [] pos) env) s (isI (if b < a then b else a)) := fun Q E hq => by
  refine Call_ (p.use fun f tk hf => ?_) he
  cases hf
  refine callWith_builtin1 (args_cons ?_ hs) hs (by rw [hs2]; rfl)
  refine q _ _ _ rfl fun v tk' hv => args_cons (r _ _ _ rfl fun v' tk'' hv' => args_nil ?_) hs2
  obtain ⟨t, rfl⟩ := hv
  obtain ⟨t', rfl⟩ := hv'
  refine min_two_ints hh fun h' tk3 hk => ?_
  by_cases hba : b < a
  · rw [if_pos hba] at hq ⊢; exact hq _ _ _ hk ⟨_, rfl⟩
  · rw [if_neg hba] at hq ⊢; exact hq _ _ _ hk ⟨_, rfl⟩

/-- a slice of a list -/
theorem ev_slice {value : Expr} {lower upper : Option Expr} {p pos : Pos} {Q : Value → Shared → Prop} {a : Addr} {xs : List Value} {lo hi : Option Int} (pv : PE prog w A (eval value env) s.heap (isV (.ref a))) (hl : s.heap.IsList a xs.toArray) (hz : xs.length ≤ sizeLine)
    (pl : PE prog w A (evalPart lower env) s.heap (IsPart · lo)) (pu : ∀ tk, KV prog w A (evalPart upper env) { s with toks := tk } (IsPart · hi))
    (hQ : ∀ D h' tk, s.heap.get? D = none → h'.get? D = some { cls := .type "list", data := .seq (slicePick xs.toArray lo hi none) } → (∀ b o, s.heap.get? b = some o → h'.get? b = some o) → Q (.ref D) { s with heap := h', toks := tk })
    (ht : ∀ o r, letTemporaryGo value o r = pure ()) : wpAny (model prog w) A (eval (.Subscript value (.Slice lower upper none p) pos) env) Q E s := by
  refine wpAny_Subscript_list_slice (pv.use fun v tk hv => ?_) ht
  cases hv
  refine pl _ _ _ rfl fun vl tk2 hvl => pu tk2 _ _ fun vu h2 tk3 hk hvu => ?_
  refine ⟨a, xs.toArray, lo, hi, rfl, hl.at fun o e => hk a o e, by simpa using hz, hvl, hvu, ?_⟩
  refine hQ _ _ _ ?_ ?_ fun b o e => Heap.get?_push_of_some _ (Heap.get?_push_of_some _ (hk b o e))
  · cases q : s.heap.get? (h2.objs.size + 1) with
    | none => rfl
    | some o => exact absurd (Heap.lt_size (hk _ _ q)) (Nat.not_lt.mpr (Nat.le_succ _))
  · have := Heap.get?_push_size (h2.push { cls := .type "slice", data := .fields #[vl, vu, .none] }) (o := { cls := .type "list", data := .seq (slicePick xs.toArray lo hi none) }) rfl
    rwa [Heap.size_push] at this

theorem part_none {h : Heap} : PE prog w A (evalPart none env) h (IsPart · none) := fun s Q E e hq => by rw [evalPart_none]; exact wpAny_pure (hq _ s.toks .none)
theorem part_int {h : Heap} {e : Expr} {k : Int} (p : PE prog w A (eval e env) h (isI k)) : PE prog w A (evalPart (some e) env) h (IsPart · (some k)) := by
  rw [evalPart_some]; exact p.mono fun _ ⟨t, e⟩ => e ▸ .int k t
theorem kv_part {e : Expr} {k : Int} (p : KV prog w A (eval e env) s (isI k)) : KV prog w A (evalPart (some e) env) s (IsPart · (some k)) := by
  rw [evalPart_some]; exact p.mono fun _ ⟨t, e⟩ => e ▸ .int k t
end
end Mine

end MI
section L1A
set_option maxRecDepth 100000
open PySem PySem.W PyProof.Rows
namespace Mine

/-! ## law 1: items are ints and texts -/
def IsItem (v : Value) : Prop := (∃ n t, v = .int n t) ∨ ∃ x t, v = .str x t
def kindS : Value → String | .int _ _ => "int" | _ => "str"
def kindV (v : Value) : Str := Str.ofString (kindS v)
def c1 : Value → Value → Option Bool
  | .int a _, .int b _ => some (decide (a < b))
  | .str x _, .str y _ => some (decide (x.cps.toList < y.cps.toList))
  | _, _ => none
def msg1 (u v : Value) : Str := Str.ofString (ltWords (kindS u) (kindS v))

theorem cmp1 {prog : Program} {w : World} {A : Around} {h₀ : Heap} {u v : Value} (hh : A.handled = none) (hu : IsItem u) (hv : IsItem v) : CmpAt prog w A h₀ c1 msg1 u v := by
  intro s Q E hk hq he
  rcases hu with ⟨a, t, rfl⟩ | ⟨a, t, rfl⟩ <;> rcases hv with ⟨b, r, rfl⟩ | ⟨b, r, rfl⟩
  · exact lt_int (hq _ s.toks rfl)
  · exact lt_int_str hh fun h' tk e t' hx => he h' tk e t' rfl hx
  · exact lt_str_int hh fun h' tk e t' hx => he h' tk e t' rfl hx
  · exact PySem.P.lt_str (hq _ s.toks rfl)

theorem c1_none {u v : Value} (hu : IsItem u) (hv : IsItem v) : c1 u v = none ↔ kindV u ≠ kindV v := by
  rcases hu with ⟨a, t, rfl⟩ | ⟨a, t, rfl⟩ <;> rcases hv with ⟨b, r, rfl⟩ | ⟨b, r, rfl⟩ <;> simp [c1, kindV, kindS]
  · decide
  · decide

abbrev lkB : List Stmt := bodyOf (stAt PP 3)
abbrev lkSc : Scope := scopeOf (stAt PP 3)
abbrev lkAr : Arguments := argsOf (stAt PP 3)
abbrev lkN : Str := Str.ofString "_law_kind"

section
variable {prog : Program} {w : World} {A : Around} {E : Value → Shared → Prop} {s : Shared} {env : Env} {h₀ h : Heap} {mg mb : Str → Option Value}

theorem pe_isinst {u v : Value} (hu : IsItem u) : ∀ a b, isV u a → isV (.type "int") b → PE prog w A (call (.builtin "isinstance") [a, b]) h (isB (kindS u == "int")) := by
  intro a b ha hb s Q E e hq
  cases ha; cases hb
  rcases hu with ⟨n, t, rfl⟩ | ⟨n, t, rfl⟩
  · exact IsiPair.int_int (hq _ s.toks rfl)
  · exact IsiPair.str_int (hq _ _ rfl)
theorem pe_true_val {e : Expr} {whole : Sem Value} {b : Bool} (p : PE prog w A whole h (isB b)) (he : isTrue e env whole = (do let v ← whole; standAt e.pos; holding [v] (truthy v))) : PE prog w A (isTrue e env whole) h (· = b) := fun s Q E e' hq =>
  wpAny_isTrue_value (p s _ _ e' fun v tk hv => by cases hv; exact wpAny_truthy_bool (hq _ _ rfl)) he

theorem law_kind {f : Addr} {v : Value} (G : Glb h₀ mg mb) (fn : FnAt h₀ lkN lkAr lkB lkSc f) (room : A.depth < recursionLimit) (hk : ∀ b o, h₀.get? b = some o → s.heap.get? b = some o) (hv : IsItem v) :
    KV prog w A (call (.ref f) [v]) s (isS (kindV v)) := fun Q E hq => by
  obtain ⟨o, pm, cd, doc, ho, hd, hcd⟩ := fn.it
  refine wpAny_call (call_plain (binds := [(Str.ofString "item", v)]) room (hk _ _ ho) hd (G.lim.keeps hk) (hcd.keeps hk) (by rfl) (locs (by rfl)) (fun h₁ F => ?_))
  have hk1 : ∀ b o, h₀.get? b = some o → h₁.get? b = some o := fun b o e => F.keep b o (hk b o e)
  with_unfolding_all refine wpAny_execs_cons (wpAny_Return_some ?_)
  have n1 : h₁.Ns s.heap.objs.size _ := F.ns
  refine PE.use (R := isS (kindV v)) (pe_if (b := kindS v == "int") (pe_true_val (pe_call2 (G.pe hk1 (by decide) rfl rfl rfl rfl (by decide)) (pe_local n1 (by rfl) rfl rfl) (G.pe hk1 (by decide) rfl rfl rfl rfl (by decide)) (pe_isinst (v := v) hv) (by rfl) (by rfl) (by rfl)) (by rfl)) (fun hb => ?_) (fun hb => ?_)) fun a tk ha => ?_
  · have e : kindV v = Str.ofString "int" := by unfold kindV; rw [beq_iff_eq.mp hb]
    rw [e]; exact pe_str
  · have e : kindV v = Str.ofString "str" := by
      rcases hv with ⟨n, t, rfl⟩ | ⟨n, t, rfl⟩
      · simp [kindS] at hb
      · rfl
    rw [e]; exact pe_str
  · exact hq a h₁ tk F.keep ha
end
end Mine

end L1A
section PL
set_option maxRecDepth 100000
open PySem PySem.W PyProof.Rows
namespace Mine

/-! ## lists that go pairwise -/
section
variable {α β γ : Type} {R : α → β → Prop}
theorem pd_of : ∀ {l₁ : List α} {l₂ : List β}, l₁.length = l₂.length → (∀ (i : Nat) a b, l₁[i]? = some a → l₂[i]? = some b → R a b) → Paired R l₁ l₂
  | [], [], _, _ => .nil
  | a :: l₁, b :: l₂, hl, h => .cons (h 0 a b rfl rfl) (pd_of (by simpa using hl) fun i x y hx hy => h (i + 1) x y (by simpa using hx) (by simpa using hy))
  | [], _ :: _, hl, _ => by simp at hl
  | _ :: _, [], hl, _ => by simp at hl
theorem pd_get : ∀ {l₁ : List α} {l₂ : List β}, Paired R l₁ l₂ → ∀ {i : Nat} {a : α}, l₁[i]? = some a → ∃ b, l₂[i]? = some b ∧ R a b
  | _, _, .nil, i, a, h => by simp at h
  | _, _, .cons (a := x) (b := y) hR t, 0, a, h => by simp at h; subst h; exact ⟨y, rfl, hR⟩
  | _, _, .cons hR t, i + 1, a, h => by
    simp only [List.getElem?_cons_succ] at h ⊢
    exact pd_get t h
theorem pd_get' : ∀ {l₁ : List α} {l₂ : List β}, Paired R l₁ l₂ → ∀ {i : Nat} {b : β}, l₂[i]? = some b → ∃ a, l₁[i]? = some a ∧ R a b
  | _, _, .nil, i, a, h => by simp at h
  | _, _, .cons (a := x) (b := y) hR t, 0, a, h => by simp at h; subst h; exact ⟨x, rfl, hR⟩
  | _, _, .cons hR t, i + 1, a, h => by
    simp only [List.getElem?_cons_succ] at h ⊢
    exact pd_get' t h
theorem pd_filter {p : α → Bool} {q : β → Bool} (hpq : ∀ a b, R a b → p a = q b) : ∀ {l₁ : List α} {l₂ : List β}, Paired R l₁ l₂ → Paired R (l₁.filter p) (l₂.filter q)
  | _, _, .nil => .nil
  | _, _, .cons (a := x) (b := y) hR t => by
    have ih := pd_filter hpq t
    have e := hpq _ _ hR
    cases hq : q y with
    | true => rw [List.filter_cons_of_pos (by rw [e, hq]), List.filter_cons_of_pos hq]; exact .cons hR ih
    | false => rw [List.filter_cons_of_neg (by rw [e, hq]; simp), List.filter_cons_of_neg (by simp [hq])]; exact ih
theorem pd_comp {F : α → γ → Prop} : ∀ {l₁ : List α} {l₂ : List β} {l₃ : List γ}, Paired R l₁ l₂ → Paired F l₁ l₃ → Paired (fun c b => ∃ a, R a b ∧ F a c) l₃ l₂
  | _, _, _, .nil, .nil => .nil
  | _, _, _, .cons h t, .cons h' t' => .cons ⟨_, h, h'⟩ (pd_comp t t')
theorem pd_map {g : β → γ} {F : α → γ → Prop} (hg : ∀ a b, R a b → F a (g b)) : ∀ {l₁ : List α} {l₂ : List β}, Paired R l₁ l₂ → Paired F l₁ (l₂.map g)
  | _, _, .nil => .nil
  | _, _, .cons h t => .cons (hg _ _ h) (pd_map hg t)
theorem pd_mono {F : α → β → Prop} (hg : ∀ a b, R a b → F a b) : ∀ {l₁ : List α} {l₂ : List β}, Paired R l₁ l₂ → Paired F l₁ l₂
  | _, _, .nil => .nil
  | _, _, .cons h t => .cons (hg _ _ h) (pd_mono hg t)
theorem pd_eq {l₁ l₂ : List α} (h : Paired (fun a b => a = b) l₁ l₂) : l₁ = l₂ := by
  induction h with
  | nil => rfl
  | cons h _ ih => rw [h, ih]
theorem pd_drop (n : Nat) : ∀ {l₁ : List α} {l₂ : List β}, Paired R l₁ l₂ → Paired R (l₁.drop n) (l₂.drop n) := by
  induction n with
  | zero => intro l₁ l₂ h; simpa using h
  | succ n ih =>
    intro l₁ l₂ h
    cases h with
    | nil => simpa using Paired.nil
    | cons _ t => simpa using ih t
theorem pd_take (n : Nat) : ∀ {l₁ : List α} {l₂ : List β}, Paired R l₁ l₂ → Paired R (l₁.take n) (l₂.take n) := by
  induction n with
  | zero => intro l₁ l₂ h; simpa using Paired.nil
  | succ n ih =>
    intro l₁ l₂ h
    cases h with
    | nil => simpa using Paired.nil
    | cons h t => simpa using Paired.cons h (ih t)
theorem pd_append {l₁ k₁ : List α} {l₂ k₂ : List β} (h : Paired R l₁ l₂) (k : Paired R k₁ k₂) : Paired R (l₁ ++ k₁) (l₂ ++ k₂) := by
  induction h with
  | nil => exact k
  | cons h _ ih => exact .cons h ih
theorem pd_mem {l₁ : List α} {l₂ : List β} (h : Paired R l₁ l₂) : ∀ a ∈ l₁, ∃ b ∈ l₂, R a b := by
  induction h with
  | nil => intro a ha; cases ha
  | cons h _ ih =>
    intro a ha
    rcases List.mem_cons.mp ha with rfl | ha
    · exact ⟨_, List.mem_cons_self .., h⟩
    · obtain ⟨b, hb, hr⟩ := ih a ha
      exact ⟨b, List.mem_cons_of_mem _ hb, hr⟩
end

/-- the values are these numbers -/
def NatsAre (vs : List Value) (ns : List Nat) : Prop := Paired (fun v (n : Nat) => isI (n : Int) v) vs ns
def NumsAre (vs : List Value) (ns : List Int) : Prop := Paired (fun v n => isI n v) vs ns

theorem pd_range {vs ys : List Value} {n : Nat} {a c : Int} {p : Value → Bool} {F : Value → Value → Prop} {γ : Type} {H : Value → γ → Prop} {P' : Nat → Bool} {g : Nat → γ} (hlen : vs.length = n)
    (hvs : ∀ (j : Nat) v, vs[j]? = some v → ∃ t, v = .int (a + (j : Int) * c) t) (hF : Paired F (vs.filter p) ys) (hp : ∀ (j : Nat) t, j < n → p (.int (a + (j : Int) * c) t) = P' j)
    (hg : ∀ (j : Nat) t y, j < n → P' j = true → F (.int (a + (j : Int) * c) t) y → H y (g j)) : Paired H ys (((List.range n).filter P').map g) := by
  have h1 : Paired (fun v (j : Nat) => j < n ∧ ∃ t, v = Value.int (a + (j : Int) * c) t) vs (List.range n) := by
    refine pd_of (by simp [hlen]) fun i u j hu hj => ?_
    have hi : i < n := by rw [← hlen]; exact (List.getElem?_eq_some_iff.mp hu).1
    have : j = i := by simpa [hi] using hj.symm
    subst this
    exact ⟨hi, hvs _ _ hu⟩
  have h2 := pd_filter (p := p) (q := P') (fun v j hj => by obtain ⟨hj, t, rfl⟩ := hj; exact hp j t hj) h1
  have h3 : Paired (fun v (j : Nat) => P' j = true ∧ j < n ∧ ∃ t, v = Value.int (a + (j : Int) * c) t) (vs.filter p) ((List.range n).filter P') := by
    refine pd_of h2.length fun i u j hu hj => ?_
    obtain ⟨j', hj', hr⟩ := pd_get h2 hu
    rw [hj] at hj'; cases hj'
    exact ⟨(List.mem_filter.mp (List.mem_of_getElem? hj)).2, hr⟩
  exact pd_map (fun y j ⟨v, ⟨h1, h2, t, e⟩, hf⟩ => hg j t y h2 h1 (e ▸ hf)) (pd_comp h3 hF)
end Mine

end PL
section PL1
set_option maxRecDepth 100000
open PySem
namespace Mine

/-! ## the way up, plainly -/
def wayN (place : Nat) : List Nat := ((List.range 7).filter fun k => decide (0 < (place + 1) / 2 ^ k)).map fun k => (place + 1) / 2 ^ k - 1
def cutN (st place : Nat) : List Nat := (wayN place).take (1 + ((wayN place).filter fun c => decide (st < c)).length)
def wayF (st : Nat) : Nat → Nat → List Nat
  | 0, p => [p]
  | f + 1, p => if st < p then p :: wayF st f ((p - 1) / 2) else [p]
theorem cut_eq : ∀ place, place < 31 → ∀ st, st < 33 → cutN st place = wayF st 7 place := by decide +kernel
theorem wayN_lt : ∀ place, place < 31 → ∀ c ∈ wayN place, c ≤ place := by decide +kernel

theorem wayF_ne (st f p : Nat) : ∃ r, wayF st f p = p :: r := by
  cases f with
  | zero => exact ⟨[], rfl⟩
  | succ f => unfold wayF; split; exact ⟨_, rfl⟩; exact ⟨[], rfl⟩
theorem wayF_le (st : Nat) : ∀ f p, ∀ c ∈ wayF st f p, c ≤ p
  | 0, p, c, h => by simp [wayF] at h; omega
  | f + 1, p, c, h => by
    unfold wayF at h
    split at h
    · rcases List.mem_cons.mp h with rfl | h
      · exact Nat.le_refl _
      · have := wayF_le st f _ c h; omega
    · simp at h; omega

def siftW (c : Value → Value → Option Bool) (new : Value) (items : List Value) : List Value → List Nat → List Value × Option Value
  | xs, [] => (xs, none)
  | xs, [p] => (xs.set p new, none)
  | xs, p :: q :: r => match c (items.getD q .none) new with
    | none => (xs, some (items.getD q .none))
    | some true => siftW c new items (xs.set p (items.getD q .none)) (q :: r)
    | some false => (xs.set p new, none)

theorem sift_way {c : Value → Value → Option Bool} {st : Nat} {new : Value} {items : List Value} : ∀ (f p : Nat) (xs : List Value), p < 2 ^ f → (∀ q, q < p → xs.getD q .none = items.getD q .none) →
    sift c st new xs p = siftW c new items xs (wayF st f p)
  | 0, p, xs, hp, hx => by
    have : ¬ st < p := by simp at hp; omega
    rw [sift_stop this]; rfl
  | f + 1, p, xs, hp, hx => by
    unfold wayF
    split
    · rename_i hst
      have hq : (p - 1) / 2 < p := by omega
      have e := hx _ hq
      obtain ⟨r, hr⟩ := wayF_ne st f ((p - 1) / 2)
      rw [hr]
      unfold siftW
      rw [← e]
      cases hc : c (xs.getD ((p - 1) / 2) .none) new with
      | none => rw [sift_none hst hc]
      | some b =>
        cases b with
        | false => rw [sift_end hst hc]
        | true =>
          rw [sift_go hst hc]
          dsimp only
          rw [sift_way f _ _ (by rw [Nat.pow_succ] at hp; omega) (fun q hq' => ?_), hr]
          rw [← hx q (by omega)]
          have : p ≠ q := by omega
          simp [List.getD_eq_getElem?_getD, List.getElem?_set, this]
    · rename_i hst
      rw [sift_stop hst]; rfl

def fillP (xs : List Value) (l : List (Nat × Value)) : List Value := l.foldl (fun ys q => ys.set q.1 q.2) xs
theorem fillP_len (l : List (Nat × Value)) : ∀ xs : List Value, (fillP xs l).length = xs.length := by
  induction l with
  | nil => intro xs; rfl
  | cons q l ih => intro xs; unfold fillP at *; rw [List.foldl_cons, ih]; simp

def rowP (items : List Value) (way : List Nat) : List Value := way.map fun q => items.getD q .none

theorem siftW_stop {c : Value → Value → Option Bool} {new : Value} {items : List Value} : ∀ (m : Nat) (way : List Nat) (xs : List Value), m + 1 ≤ way.length →
    (∀ k, 1 ≤ k → k < m + 1 → c ((rowP items way).getD k .none) new = some true) → (m + 1 < way.length → c ((rowP items way).getD (m + 1) .none) new ≠ some true) →
    siftW c new items xs way = (if m + 1 < way.length ∧ c ((rowP items way).getD (m + 1) .none) new = none then (fillP xs (way.zip (((rowP items way).drop 1).take m)), some ((rowP items way).getD (m + 1) .none))
      else ((fillP xs (way.zip (((rowP items way).drop 1).take m))).set (way.getD m 0) new, none))
  | 0, [], xs, hl, h1, h2 => by simp at hl
  | 0, [p], xs, hl, h1, h2 => by simp [siftW, fillP]
  | 0, p :: q :: r, xs, hl, h1, h2 => by
    have h3 := h2 (by simp)
    simp only [rowP, List.map_cons, List.getD_cons_succ, List.getD_cons_zero, List.length_cons] at h3 ⊢
    unfold siftW
    cases hc : c (items.getD q .none) new with
    | none => simp [fillP]
    | some b =>
      cases b with
      | true => exact absurd hc h3
      | false => simp [fillP]
  | m + 1, [], xs, hl, h1, h2 => by simp at hl
  | m + 1, [p], xs, hl, h1, h2 => by simp at hl
  | m + 1, p :: q :: r, xs, hl, h1, h2 => by
    have h3 := h1 1 (by omega) (by omega)
    simp only [rowP, List.map_cons, List.getD_cons_succ, List.getD_cons_zero] at h3
    have ih := siftW_stop (c := c) (new := new) (items := items) m (q :: r) (xs.set p (items.getD q .none)) (by simpa using hl) (fun k hk hk' => by
      have := h1 (k + 1) (by omega) (by omega)
      simpa [rowP] using this) (fun hlt => by
      have := h2 (by simpa using hlt)
      simpa [rowP] using this)
    unfold siftW
    rw [h3]
    dsimp only
    rw [ih]
    simp only [rowP, List.map_cons, List.getD_cons_succ, List.length_cons, List.drop_succ_cons, List.drop_zero, List.take_succ_cons, List.zip_cons_cons]
    simp only [fillP, List.foldl_cons, Nat.add_lt_add_iff_right]

/-- the law's own reckoning is what the loop does -/
theorem left_eq {c : Value → Value → Option Bool} {st place m : Nat} {items : List Value} (hp : place < 31) (hst : st < 33) (h1 : 1 ≤ m) (hm : m ≤ (cutN st place).length)
    (hgo : ∀ k, 1 ≤ k → k < m → c ((rowP items (cutN st place)).getD k .none) (items.getD place .none) = some true)
    (hstop : m < (cutN st place).length → c ((rowP items (cutN st place)).getD m .none) (items.getD place .none) ≠ some true) :
    sift c st (items.getD place .none) items place =
      (if m < (cutN st place).length ∧ c ((rowP items (cutN st place)).getD m .none) (items.getD place .none) = none then (fillP items ((cutN st place).zip (((rowP items (cutN st place)).drop 1).take (m - 1))), some ((rowP items (cutN st place)).getD m .none))
      else ((fillP items ((cutN st place).zip (((rowP items (cutN st place)).drop 1).take (m - 1)))).set ((cutN st place).getD (m - 1) 0) (items.getD place .none), none)) := by
  rw [sift_way (items := items) 7 place items (by omega) (fun _ _ => rfl), ← cut_eq place hp st hst]
  obtain ⟨k, rfl⟩ : ∃ k, m = k + 1 := ⟨m - 1, by omega⟩
  exact siftW_stop k (cutN st place) items hm hgo hstop
end Mine

end PL1
section MJ
set_option maxRecDepth 100000
open PySem PySem.W PyProof.Rows
namespace Mine

section
variable {prog : Program} {w : World} {A : Around} {E : Value → Shared → Prop} {s : Shared} {env : Env} {h₀ h : Heap} {l : List Atom}

theorem kv_bin {a b : Expr} {op : Operator} {pos : Pos} {R₁ R₂ R : Value → Prop} (p : PE prog w A (eval a env) s.heap R₁) (q : ∀ tk, KV prog w A (eval b env) { s with toks := tk } R₂)
    (k : ∀ u v (s' : Shared), R₁ u → R₂ v → PE prog w A (binaryOp op u v) s'.heap R) : KV prog w A (eval (.BinOp a op b pos) env) s R := fun Q E hq =>
  wpAny_BinOp (p.use fun u tk hu => q tk _ _ fun v h' tk' hk hv => (k u v { s with heap := h', toks := tk' } hu hv).use fun r tk'' hr => hq r h' tk'' hk hr)
theorem kv_add {a b : Expr} {pos : Pos} {m n : Int} (p : PE prog w A (eval a env) s.heap (isI m)) (q : ∀ tk, KV prog w A (eval b env) { s with toks := tk } (isI n)) : KV prog w A (eval (.BinOp a .Add b pos) env) s (isI (m + n)) :=
  kv_bin p q fun _ _ s' ⟨_, e1⟩ ⟨_, e2⟩ s Q E _ hq => by subst e1; subst e2; exact add_int (hq _ _ ⟨_, rfl⟩)

/-- two plain lists, one behind the other -/
theorem add_plain {a b : Addr} {xs ys : List Value} {n1 n2 : Nat} {Q : Value → Shared → Prop} (S : Sat h₀ s.heap l) (h1 : IsL s.heap a xs.toArray n1) (h2 : IsL s.heap b ys.toArray n2) (hz : xs.length + ys.length ≤ sizeLine)
    (hQ : ∀ D h', Sat h₀ h' ((D, plP (xs ++ ys)) :: l) → (∀ b o, s.heap.get? b = some o → h'.get? b = some o) → Q (.ref D) { s with heap := h' }) : wpAny (model prog w) A (binaryOp .Add (.ref a) (.ref b)) Q E s :=
  P.add_list h1 h2 (hQ _ _ (S.push ⟨0, by simp⟩) fun b o e => Heap.get?_push_of_some _ e) (by simpa using hz)

/-- list(xs) -/
theorem copy_list {func e : Expr} {pos : Pos} {a : Addr} {xs : List Value} {Q : Value → Shared → Prop} (p : PE prog w A (eval func env) s.heap (isV (.type "list"))) (q : PE prog w A (eval e env) s.heap (isV (.ref a))) (hl : s.heap.IsList a xs.toArray) (hz : xs.length ≤ sizeLine)
    (S : Sat h₀ s.heap l) (hQ : ∀ D h' tk, Sat h₀ h' ((D, plP xs) :: l) → (∀ b o, s.heap.get? b = some o → h'.get? b = some o) → s.heap.get? D = none → Q (.ref D) { s with heap := h', toks := tk })
    (he : eval (.Call func [e] [] pos) env = (do callWith pos (← eval func env) [] (backTo pos (starEach [e] env)) (backToKw pos (keywordEach [] env)))) (hs : starEach [e] env = (false, eval e env) :: starEach [] env) :
    wpAny (model prog w) A (eval (.Call func [e] [] pos) env) Q E s := by
  refine Call_ (p.use fun f tk hf => ?_) he
  cases hf
  refine callWith_type1 (args_cons ?_ hs) hs rfl
  refine q _ _ _ rfl fun v tk' hv => args_nil ?_
  cases hv
  obtain ⟨o, ho, hc, n, hd⟩ := hl
  refine call_list_seq a (s := { s with toks := tk' }) (.inl rfl) ho hc hd (fun h' c' hk hD => ?_) (by simpa using hz)
  have hn : s.heap.get? s.heap.objs.size = none := Heap.get?_none_of_le (Nat.le_refl _)
  refine hQ _ h' tk' ((S.keeps hk).cons hD ⟨c', rfl⟩ (fresh_of_stays S.keep hn) fun q hq e => ?_) hk hn
  obtain ⟨o', ho', _⟩ := (S.has q hq).2
  rw [e] at ho'
  exact absurd (Heap.lt_size ho') (Nat.lt_irrefl _)

/-- len of something made on the spot -/
theorem kv_len {func e : Expr} {pos : Pos} {n : Nat} (p : PE prog w A (eval func env) s.heap (isV (.builtin "len")))
    (q : ∀ tk (Q : Value → Shared → Prop) E, (∀ D xs h' tk', xs.length = n → h'.IsList D (List.toArray xs) → (∀ b o, s.heap.get? b = some o → h'.get? b = some o) → Q (.ref D) { s with heap := h', toks := tk' }) → wpAny (model prog w) A (eval e env) Q E { s with toks := tk })
    (hz : n < 2 ^ 62) (he : eval (.Call func [e] [] pos) env = (do callWith pos (← eval func env) [] (backTo pos (starEach [e] env)) (backToKw pos (keywordEach [] env)))) (hs : starEach [e] env = (false, eval e env) :: starEach [] env) :
    KV prog w A (eval (.Call func [e] [] pos) env) s (isI n) := fun Q E hq => by
  refine Call_ (p.use fun f tk hf => ?_) he
  cases hf
  refine callWith_builtin1 (args_cons ?_ hs) hs rfl
  refine q tk _ _ fun D xs h' tk' hlen hl hk => args_nil ?_
  refine Calls.call_len_list hl (by simp only [List.size_toArray]; omega) ?_
  simp only [List.size_toArray, hlen]
  exact hq _ _ _ hk ⟨_, rfl⟩
end

/-! min of a list of ints -/
theorem argBest_le (f : Nat → Int) : ∀ n, argBest (fun i j => decide (f i < f j)) n ≤ n ∧ ∀ j, j ≤ n → f (argBest (fun i j => decide (f i < f j)) n) ≤ f j
  | 0 => ⟨Nat.le_refl _, fun j hj => by have : j = 0 := by omega
                                        subst this; exact Int.le_refl _⟩
  | n + 1 => by
    obtain ⟨h1, h2⟩ := argBest_le f n
    unfold argBest
    by_cases hlt : f (n + 1) < f (argBest (fun i j => decide (f i < f j)) n)
    · rw [if_pos (by simpa using hlt)]
      refine ⟨Nat.le_refl _, fun j hj => ?_⟩
      rcases Nat.lt_or_ge j (n + 1) with hj' | hj'
      · have := h2 j (by omega); omega
      · have : j = n + 1 := by omega
        subst this; exact Int.le_refl _
    · rw [if_neg (by simpa using hlt)]
      refine ⟨by omega, fun j hj => ?_⟩
      rcases Nat.lt_or_ge j (n + 1) with hj' | hj'
      · exact h2 j (by omega)
      · have : j = n + 1 := by omega
        subst this; omega

section
variable {prog : Program} {w : World} {A : Around} {E : Value → Shared → Prop} {s : Shared}
theorem min_nats {a : Addr} {vs : List Value} {ns : List Nat} {Q : Value → Shared → Prop} (hh : A.handled = none) (hl : s.heap.IsList a vs.toArray) (hv : NatsAre vs ns) (hne : 0 < ns.length)
    (hQ : ∀ h' tk (m : Nat) t, m ∈ ns → (∀ x ∈ ns, m ≤ x) → (∀ b o, s.heap.get? b = some o → h'.get? b = some o) → Q (.int m t) { s with heap := h', toks := tk }) :
    wpAny (model prog w) A (call (.builtin "min") [.ref a]) Q E s := by
  have hax : a < s.heap.objs.size := by obtain ⟨_, e, _⟩ := hl; exact Heap.lt_size e
  have hsz : vs.length = ns.length := hv.length
  refine call_min_walk (wpAny_pyIter_list hl ?_)
  have W := Walks.list (prog := prog) (w := w) (A := A.in1) hh s.heap.objs.size a (Nat.ne_of_lt hax) vs.toArray
  refine ⟨_, _, _, _, _, _, _, rfl, W, ⟨⟨_, Heap.get?_push_size _ rfl, rfl, rfl⟩, hl.push _⟩, ?_, by simpa [hsz] using hne, CmpOf.ints_lt (fun i => ((ns.getD i 0 : Nat) : Int)) (fun i v hi => ?_), fun v h' tk hP hk => ?_⟩
  · intro b hb
    show b < (s.heap.push _).objs.size
    rw [Heap.size_push]
    rcases List.mem_cons.mp hb with rfl | hb
    · exact Nat.lt_succ_self _
    · rw [List.mem_singleton.mp hb]; exact Nat.lt_succ_of_lt hax
  · obtain ⟨n, hn, t, ht⟩ := pd_get hv (i := i) (a := v) (by simpa using hi)
    exact ⟨t, by rw [ht]; simp [List.getD_eq_getElem?_getD, hn]⟩
  · obtain ⟨h1, h2⟩ := argBest_le (fun i => ((ns.getD i 0 : Nat) : Int)) (vs.toArray.size - 1)
    rw [List.getElem?_toArray] at hP
    obtain ⟨n, hn, t, ht⟩ := pd_get hv hP
    have hk' : ∀ b o, s.heap.get? b = some o → h'.get? b = some o := fun b o e => hk b o (fun hm => by
      have := Heap.lt_size e
      rw [List.mem_singleton.mp hm] at this
      exact Nat.lt_irrefl _ this) (Heap.get?_push_of_some _ e)
    rw [ht]
    refine hQ h' tk n t (List.mem_of_getElem? hn) (fun x hx => ?_) hk'
    obtain ⟨j, hj⟩ := List.getElem?_of_mem hx
    have hjl : j < ns.length := (List.getElem?_eq_some_iff.mp hj).1
    have h3 := h2 j (by simp only [List.size_toArray]; omega)
    have e1 : ns.getD (argBest (fun i j => decide (((ns.getD i 0 : Nat) : Int) < ((ns.getD j 0 : Nat) : Int))) (vs.toArray.size - 1)) 0 = n := by rw [List.getD_eq_getElem?_getD, hn]; rfl
    have e2 : ns.getD j 0 = x := by rw [List.getD_eq_getElem?_getD, hj]; rfl
    try dsimp only at h3
    rw [e1, e2] at h3
    omega
end
end Mine

end MJ
section MK
set_option maxRecDepth 100000
open PySem PySem.W PyProof.Rows
namespace Mine

def isInt (v : Value) : Prop := ∃ n t, v = .int n t

theorem slicePick_mem {items : Array Value} {lo hi st : Option Int} {v : Value} (h : v ∈ (slicePick items lo hi st).toList) : v ∈ items.toList := by
  unfold slicePick at h
  obtain ⟨j, _, hj⟩ := List.mem_filterMap.mp (by simpa using h)
  rw [← Array.getElem?_toList] at hj
  exact List.mem_of_getElem? hj

section
variable {prog : Program} {w : World} {A : Around} {E : Value → Shared → Prop} {s : Shared} {env : Env} {h₀ h : Heap} {l : List Atom}

/-- a slice of a list, by a step -/
theorem ev_sliceS {value st : Expr} {lower : Option Expr} {p pos : Pos} {Q : Value → Shared → Prop} {a : Addr} {xs : List Value} {lo : Option Int} {k : Int} (pv : PE prog w A (eval value env) s.heap (isV (.ref a))) (hl : s.heap.IsList a xs.toArray) (hz : xs.length ≤ sizeLine) (hk : k ≠ 0)
    (pl : PE prog w A (evalPart lower env) s.heap (IsPart · lo)) (ps : PE prog w A (eval st env) s.heap (isI k))
    (hQ : ∀ D h' tk, s.heap.get? D = none → h'.get? D = some { cls := .type "list", data := .seq (slicePick xs.toArray lo none (some k)) } → (∀ b o, s.heap.get? b = some o → h'.get? b = some o) → Q (.ref D) { s with heap := h', toks := tk })
    (ht : ∀ o r, letTemporaryGo value o r = pure ()) : wpAny (model prog w) A (eval (.Subscript value (.Slice lower none (some st) p) pos) env) Q E s := by
  refine wpAny_Subscript_Slice_step (T := "list") slot_list_getitem.lookup (pv.use fun v tk hv => ?_) ht
  cases hv
  refine wpAny_Slice (pl _ _ _ rfl fun vl tk2 hvl => part_none _ _ _ rfl fun vu tk3 hvu => ?_)
  refine (part_int ps) _ _ _ rfl fun vs tk4 hvs => ?_
  have hl' : (s.heap.push { cls := .type "slice", data := .fields #[vl, vu, vs] }).IsList a xs.toArray := hl.push _
  refine ⟨hl'.typeIs, ?_⟩
  refine wpAny_getItem_list_slice (s := { s with heap := s.heap.push { cls := .type "slice", data := .fields #[vl, vu, vs] }, toks := tk4 }) hl' ⟨_, Heap.get?_push_size _ rfl, rfl, rfl⟩ hvl hvu hvs (by simpa using hk) ?_ (by simpa using hz)
  refine hQ _ _ tk4 ?_ (Heap.get?_push_size _ rfl) fun b o e => Heap.get?_push_of_some _ (Heap.get?_push_of_some _ e)
  refine Heap.get?_none_of_le ?_
  rw [Heap.size_push]; exact Nat.le_succ _

/-- sum of a list of ints -/
theorem kv_sum_slice {func value st : Expr} {lower : Option Expr} {p pos pos' : Pos} {a : Addr} {xs : List Value} {lo : Option Int} {k : Int} (hh : A.handled = none) (pf : PE prog w A (eval func env) s.heap (isV (.builtin "sum"))) (pv : PE prog w A (eval value env) s.heap (isV (.ref a))) (hl : s.heap.IsList a xs.toArray) (hz : xs.length ≤ sizeLine) (hk : k ≠ 0)
    (hi : ∀ v ∈ xs, isInt v) (pl : PE prog w A (evalPart lower env) s.heap (IsPart · lo)) (ps : PE prog w A (eval st env) s.heap (isI k))
    (ht : ∀ o r, letTemporaryGo value o r = pure ())
    (he : eval (.Call func [.Subscript value (.Slice lower none (some st) p) pos] [] pos') env = (do callWith pos' (← eval func env) [] (backTo pos' (starEach [.Subscript value (.Slice lower none (some st) p) pos] env)) (backToKw pos' (keywordEach [] env))))
    (hs : starEach [.Subscript value (.Slice lower none (some st) p) pos] env = (false, eval (.Subscript value (.Slice lower none (some st) p) pos) env) :: starEach [] env) :
    KV prog w A (eval (.Call func [.Subscript value (.Slice lower none (some st) p) pos] [] pos') env) s isInt := fun Q E hq => by
  refine Call_ (pf.use fun f tk hf => ?_) he
  cases hf
  refine callWith_builtin1 (args_cons ?_ hs) hs rfl
  refine ev_sliceS (s := { s with toks := tk }) pv hl hz hk pl ps (fun D h' tk' hD hDo hkk => args_nil ?_) ht
  have hDl : h'.IsList D (slicePick xs.toArray lo none (some k)) := ⟨_, hDo, rfl, 0, rfl⟩
  refine call_sum_walkG (s := { s with heap := h', toks := tk' }) (wpAny_pyIter_list hDl ?_)
  have hlt : D < h'.objs.size := Heap.lt_size hDo
  have W := Walks.list (prog := prog) (w := w) (A := A.in1) hh h'.objs.size D (Nat.ne_of_lt hlt) (slicePick xs.toArray lo none (some k))
  refine ⟨_, _, _, _, _, _, fun i => match (slicePick xs.toArray lo none (some k))[i]? with | some (.int n _) => n | _ => 0, rfl, W, ⟨⟨_, Heap.get?_push_size _ rfl, rfl, rfl⟩, hDl.push _⟩, ?_, ?_, fun h2 tk2 t2 hk2 => ?_⟩
  · intro b hb
    show b < (h'.push _).objs.size
    rw [Heap.size_push]
    rcases List.mem_cons.mp hb with rfl | hb
    · exact Nat.lt_succ_self _
    · rw [List.mem_singleton.mp hb]; exact Nat.lt_succ_of_lt hlt
  · intro i v hv
    have hm : v ∈ (slicePick xs.toArray lo none (some k)).toList := List.mem_of_getElem? (by rw [Array.getElem?_toList]; exact hv)
    obtain ⟨n, t, rfl⟩ := hi v (by simpa using slicePick_mem hm)
    refine ⟨t, ?_⟩
    dsimp only
    rw [hv]
  · refine hq _ h2 tk2 (fun b o e => hk2 b o (fun hm => ?_) (Heap.get?_push_of_some _ (hkk b o e))) ⟨_, _, rfl⟩
    have h1 := Heap.lt_size (hkk b o e)
    rw [List.mem_singleton.mp hm] at h1
    exact Nat.lt_irrefl _ h1
end
end Mine

end MK
section ML
set_option maxRecDepth 100000
open PySem PySem.W PyProof.Rows
namespace Mine

theorem Sat.ne_at {h₀ h : Heap} {l : List Atom} (S : Sat h₀ h l) {i j : Nat} {p q : Atom} (hi : l[i]? = some p) (hj : l[j]? = some q) (hij : i ≠ j) : p.1 ≠ q.1 := by
  have key : ∀ {i j : Nat} {p q : Atom}, l[i]? = some p → l[j]? = some q → i < j → p.1 ≠ q.1 := by
    intro i j p q hi hj hij
    obtain ⟨h1, e1⟩ := List.getElem?_eq_some_iff.mp hi
    obtain ⟨h2, e2⟩ := List.getElem?_eq_some_iff.mp hj
    have := (List.pairwise_iff_getElem.mp S.nd) i j (by simpa using h1) (by simpa using h2) hij
    simpa [e1, e2] using this
  rcases Nat.lt_or_gt_of_ne hij with h | h
  · exact key hi hj h
  · exact (key hj hi h).symm
/-- ahead of a loop: all but the atoms and the iterator's own goes into the base -/
theorem Sat.forBase {h₀ h : Heap} {l : List Atom} {wr : List Addr} (S : Sat h₀ h l) (hnd : wr.Nodup) (hn : ∀ b ∈ wr, h₀.get? b = none) (hlive : ∀ b ∈ wr, ∃ o, h.get? b = some o) (hd : ∀ p ∈ l, p.1 ∉ wr) :
    ∃ h₁ : Heap, (∀ b o, h₀.get? b = some o → h₁.get? b = some o) ∧ (∀ b o, b ∉ l.map (·.1) → b ∉ wr → h.get? b = some o → h₁.get? b = some o) ∧ (∀ b ∈ wr, h₁.get? b = none) ∧ Sat h₁ h l := by
  have S1 := S.addW hnd hn hlive hd
  obtain ⟨h₁, k1, k2, S2⟩ := S1.rebase
  refine ⟨h₁, k1, fun b o hb hw e => k2 b o (fun hm => ?_) e, fun b hb => ?_, S2.left⟩
  · rw [List.map_append, exW_addr] at hm
    rcases List.mem_append.mp hm with hm | hm
    · exact hb hm
    · exact hw hm
  · exact (S2.has (b, fun o => h.get? b = some o) (List.mem_append_right _ (List.mem_map.mpr ⟨b, hb, rfl⟩))).1

section
variable {prog : Program} {w : World} {A : Around} {E : Value → Shared → Prop} {s : Shared} {env : Env} {h₀ h : Heap} {l : List Atom}

/-- a.append(e), the value's heap kept -/
theorem ev_append {o e : Expr} {apos pos : Pos} {a : Addr} {xs : List Value} {i : Nat} {R : Value → Prop} {pl : Sem Bool} {Q : Value → Shared → Prop} (S : Sat h₀ s.heap l) (hi : l[i]? = some (a, plP xs)) (hz : xs.length ≤ sizeLine)
    (p : PE prog w A (eval o env) s.heap (isV (.ref a))) (q : PE prog w A (eval e env) s.heap R) (hQ : ∀ v h' tk, R v → Sat h₀ h' (l.set i (a, plP (xs ++ [v]))) → Q .none { s with heap := h', toks := tk })
    (he : eval (.Call (.Attribute o (Str.ofString "append") apos) [e] [] pos) env = (do
      let ov ← eval o env
      standAt apos.atName
      let (f, first) ← holding [ov] (getMethod ov (Str.ofString "append") pl)
      callWith pos f first (backTo pos (starEach [e] env)) [])) (hs : starEach [e] env = (false, eval e env) :: starEach [] env) :
    wpAny (model prog w) A (eval (.Call (.Attribute o (Str.ofString "append") apos) [e] [] pos) env) Q E s := by
  refine MethodCall_ (p.use fun ov tk hov => ?_) he
  cases hov
  obtain ⟨n, hL⟩ := S.plain hi
  refine Calls.getMethod_list_append (s := { s with toks := tk }) hL rfl rfl ?_
  refine callWith_method1 (args_cons (q _ _ _ rfl fun v tk2 hv => args_nil ?_) hs) hs rfl
  refine wpAny_list_append_plain (s := { s with toks := tk2 }) (l := a) (items := xs.toArray) ⟨n, hL⟩ (fun h' hl' hsame => ?_) (by simpa using hz)
  obtain ⟨n', ho'⟩ := hl'
  exact hQ v h' tk2 hv (S.set hi hsame.extBut ho' ⟨n', by simp⟩)
theorem st_append {o e : Expr} {apos pos pos' : Pos} {a : Addr} {xs : List Value} {i : Nat} {R : Value → Prop} {pl : Sem Bool} {Q : Flow → Shared → Prop} (S : Sat h₀ s.heap l) (hi : l[i]? = some (a, plP xs)) (hz : xs.length ≤ sizeLine)
    (p : PE prog w A (eval o env) s.heap (isV (.ref a))) (q : PE prog w A (eval e env) s.heap R) (hQ : ∀ v h' tk, R v → Sat h₀ h' (l.set i (a, plP (xs ++ [v]))) → Q .next { s with heap := h', toks := tk })
    (he : eval (.Call (.Attribute o (Str.ofString "append") apos) [e] [] pos) env = (do
      let ov ← eval o env
      standAt apos.atName
      let (f, first) ← holding [ov] (getMethod ov (Str.ofString "append") pl)
      callWith pos f first (backTo pos (starEach [e] env)) [])) (hs : starEach [e] env = (false, eval e env) :: starEach [] env)
    (hin : interactive env = false) (hsw : swapsWith (.Call (.Attribute o (Str.ofString "append") apos) [e] [] pos) none pos'.line env = pure false) :
    wpAny (model prog w) A (exec (.Expr (.Call (.Attribute o (Str.ofString "append") apos) [e] [] pos) pos') env) Q E s :=
  wpAny_Expr_any (ev_append S hi hz p q (fun v h' tk hv S' => hQ v h' tk hv S') he hs) hin hsw


/-- for over a list that no atom holds -/
theorem for_list {target iter : Expr} {body : List Stmt} {pos : Pos} {Q : Flow → Shared → Prop} (hE : PassesOwn (model prog w) A env E) (hh : A.handled = none)
    (h : wpAny (model prog w) A (eval iter env) (fun v s₁ => ∃ a xs l₀, v = .ref a ∧ s₁.heap.IsList a (List.toArray xs) ∧ Sat h₀ s₁.heap l₀ ∧ a ∉ l₀.map (·.1) ∧
      ∀ h₁ : Heap, (∀ b o, h₀.get? b = some o → h₁.get? b = some o) → (∀ b o, b ∉ l₀.map (·.1) → s₁.heap.get? b = some o → h₁.get? b = some o) → ∃ J : Nat → List Atom → Prop, J 0 l₀ ∧
      (∀ s₂ i v l r s', SR s₁ s₂ → xs[i]? = some v → J i l → SR s₂ s' → Sat h₁ s'.heap (l ++ r) → wpAny (model prog w) A (assign target env v) (fun _ s₃ => wpAny (model prog w) A (execs body env) (ForEnd (J (i + 1)) h₁ r s₂ Q) E s₃) E s') ∧
      (∀ l s', J xs.length l → Sat h₁ s'.heap l → SR s₁ s' → Q .next s')) E s)
    (ht : ∀ it v, letOwnedTupleGo target it v = pure ()) (hs : ∀ x, foldedSetIterable iter env x = pure x) : wpAny (model prog w) A (exec (.For target iter body [] pos) env) Q E s := by
  refine for_walks hE (wpAny_mono h (fun v s₁ h₁ => ?_) fun _ _ x => x) ht hs
  obtain ⟨a, xs, l₀, rfl, hl, S, hal, hJ⟩ := h₁
  have hal' : a < s₁.heap.objs.size := by obtain ⟨_, e, _⟩ := hl; exact Heap.lt_size e
  refine wpAny_pyIter_list hl ?_
  have W := Walks.list (prog := prog) (w := w) (A := A) hh s₁.heap.objs.size a (Nat.ne_of_lt hal') xs.toArray
  have hk : ∀ b o, s₁.heap.get? b = some o → (s₁.heap.push { cls := .type "list_iterator", data := .fields #[.ref a, .int 0 0] }).get? b = some o := fun b o e => Heap.get?_push_of_some _ e
  have hst0 : (s₁.heap.push { cls := .type "list_iterator", data := .fields #[.ref a, .int 0 0] }).IsListIter s₁.heap.objs.size a 0 ∧ (s₁.heap.push { cls := .type "list_iterator", data := .fields #[.ref a, .int 0 0] }).IsList a xs.toArray := ⟨⟨_, Heap.get?_push_size _ rfl, rfl, rfl⟩, hl.push _⟩
  have hoff : ∀ q ∈ l₀, q.1 ∉ [s₁.heap.objs.size] := fun q hq hm => by
    obtain ⟨o, ho, _⟩ := (S.has q hq).2
    rw [List.mem_singleton.mp hm] at ho
    exact absurd (Heap.lt_size ho) (Nat.lt_irrefl _)
  have hlive : ∀ (i : Nat) (h : Heap), (h.IsListIter s₁.heap.objs.size a i ∧ h.IsList a xs.toArray) → ∀ b ∈ [s₁.heap.objs.size], ∃ o, h.get? b = some o := by
    rintro i h ⟨⟨o, ho, _⟩, _⟩ b hb
    rw [List.mem_singleton.mp hb]; exact ⟨o, ho⟩
  obtain ⟨h₁, k1, k2, k3, S1⟩ := (S.keeps hk).forBase (wr := [s₁.heap.objs.size]) (by simp) (fun b hb => by
    rw [List.mem_singleton.mp hb]
    cases q : h₀.get? s₁.heap.objs.size with
    | none => rfl
    | some o => exact absurd (Heap.lt_size (S.keep _ _ q)) (Nat.lt_irrefl _)) (hlive 0 _ hst0) hoff
  have k4 : ∀ b o, b ∉ l₀.map (·.1) → s₁.heap.get? b = some o → h₁.get? b = some o := fun b o hb e => k2 b o hb (fun hm => by
    have h1 := Heap.lt_size e
    rw [List.mem_singleton.mp hm] at h1
    exact Nat.lt_irrefl _ h1) (hk b o e)
  obtain ⟨J, j0, turn, done⟩ := hJ h₁ k1 k4
  refine ⟨_, _, _, _, _, _, h₁, l₀, J, rfl, W, hst0, hlive, by simp, ?_, k3, S1, hoff, j0, ?_, ?_⟩
  · intro b hb hbw
    rcases List.mem_cons.mp hb with rfl | hb
    · exact absurd (by simp) hbw
    · rw [List.mem_singleton.mp hb]
      obtain ⟨o, ho, _⟩ := hl
      exact ⟨o, k4 _ _ hal ho⟩
  · intro i v l r s' hi hP hJi hsr Sr
    exact turn _ i v l r s' ⟨_, _, rfl⟩ (by simpa using hP) hJi hsr Sr
  · intro l s' hJn Sn hsr
    exact done l s' (by simpa using hJn) Sn (SR.trans ⟨_, _, rfl⟩ hsr)

/-- for a, b in enumerate(a list that no atom holds) -/
theorem for_enum {elts : List Expr} {ek : Nat} {epos : Pos} {func e : Expr} {body : List Stmt} {pos cpos : Pos} {Q : Flow → Shared → Prop} (hE : PassesOwn (model prog w) A env E) (hh : A.handled = none) {a : Addr} {xs : List Value} {l₀ : List Atom}
    (p : PE prog w A (eval func env) s.heap (isV (.type "enumerate"))) (q : PE prog w A (eval e env) s.heap (isV (.ref a))) (hl : s.heap.IsList a (List.toArray xs)) (S : Sat h₀ s.heap l₀) (hal : a ∉ l₀.map (·.1))
    (hJ : ∀ h₁ : Heap, (∀ b o, h₀.get? b = some o → h₁.get? b = some o) → (∀ b o, b ∉ l₀.map (·.1) → s.heap.get? b = some o → h₁.get? b = some o) → ∃ J : Nat → List Atom → Prop, J 0 l₀ ∧
      (∀ s₂ i v t T l r s', SR s s₂ → xs[i]? = some v → J i l → SR s₂ s' → s'.heap.IsTuple T #[.int (i : Int) t, v] → Sat h₁ s'.heap (l ++ r) → wpAny (model prog w) A (assign (.Tuple elts ek epos) env (.ref T)) (fun _ s₃ => wpAny (model prog w) A (execs body env) (ForEnd (J (i + 1)) h₁ r s₂ Q) E s₃) E s') ∧
      (∀ l s', J xs.length l → Sat h₁ s'.heap l → SR s s' → Q .next s'))
    (he : eval (.Call func [e] [] cpos) env = (do callWith cpos (← eval func env) [] (backTo cpos (starEach [e] env)) (backToKw cpos (keywordEach [] env)))) (hse : starEach [e] env = (false, eval e env) :: starEach [] env)
    (hs : ∀ x, foldedSetIterable (.Call func [e] [] cpos) env x = pure x) : wpAny (model prog w) A (exec (.For (.Tuple elts ek epos) (.Call func [e] [] cpos) body [] pos) env) Q E s := by
  refine for_walksT hE (Call_ (p.use fun f tk hf => ?_) he) hs
  cases hf
  refine callWith_type1 (args_cons ?_ hse) hse rfl
  refine q _ _ _ rfl fun v tk' hv => args_nil ?_
  cases hv
  refine call_enumerate_list (s := { s with toks := tk' }) hl fun h2 z1 z2 zsz hk => ?_
  dsimp only at z1 z2 zsz hk
  have hal' : a < s.heap.objs.size := by obtain ⟨_, e, _⟩ := hl; exact Heap.lt_size e
  have W := WalksT.enumerate (prog := prog) (w := w) (A := A) hh (s.heap.objs.size + 1) s.heap.objs.size a (Nat.ne_of_gt (Nat.lt_succ_self _)) (Nat.ne_of_lt (Nat.lt_succ_of_lt hal')) (Nat.ne_of_lt hal') xs.toArray
  have hst0 : (∃ old, IsEnum h2 (s.heap.objs.size + 1) s.heap.objs.size ((0 : Nat) : Int) old) ∧ h2.IsListIter s.heap.objs.size a 0 ∧ h2.IsList a xs.toArray := ⟨⟨_, z1⟩, z2, hl.at fun o e => hk a o e⟩
  refine W.self 0 _ _ _ hst0 ?_
  have hold : ∀ b, b ∈ [s.heap.objs.size + 1, s.heap.objs.size] → ∀ o, s.heap.get? b ≠ some o := by
    intro b hb o e
    have h1 : b < s.heap.objs.size := Heap.lt_size e
    simp only [List.mem_cons, List.not_mem_nil, or_false] at hb
    omega
  have hoff : ∀ q ∈ l₀, q.1 ∉ [s.heap.objs.size + 1, s.heap.objs.size] := fun q hq hm => by
    obtain ⟨o, ho, _⟩ := (S.has q hq).2
    exact hold _ hm o ho
  have hlive : ∀ (i : Nat) (h : Heap), ((∃ old, IsEnum h (s.heap.objs.size + 1) s.heap.objs.size (i : Int) old) ∧ h.IsListIter s.heap.objs.size a i ∧ h.IsList a xs.toArray) → ∀ b ∈ [s.heap.objs.size + 1, s.heap.objs.size], ∃ o, h.get? b = some o := by
    rintro i h ⟨⟨old, he⟩, ⟨o, ho, _⟩, _⟩ b hb
    simp only [List.mem_cons, List.not_mem_nil, or_false] at hb
    rcases hb with rfl | rfl
    · exact ⟨_, he⟩
    · exact ⟨o, ho⟩
  have hnd : ([s.heap.objs.size + 1, s.heap.objs.size] : List Addr).Nodup := by simp
  obtain ⟨h₁, k1, k2, k3, S1⟩ := (S.keeps hk).forBase hnd (fun b hb => by
    cases q : h₀.get? b with
    | none => rfl
    | some o => exact absurd (S.keep b o q) (hold b hb o)) (hlive 0 _ hst0) hoff
  have k4 : ∀ b o, b ∉ l₀.map (·.1) → s.heap.get? b = some o → h₁.get? b = some o := fun b o hb e => k2 b o hb (fun hm => hold b hm o e) (hk b o e)
  obtain ⟨J, j0, turn, done⟩ := hJ h₁ k1 k4
  refine ⟨_, _, _, _, _, _, _, h₁, l₀, J, rfl, W, hst0, hlive, hnd, ?_, k3, S1, hoff, j0, ?_, ?_⟩
  · intro b hb hbw
    simp only [List.mem_cons, List.not_mem_nil, or_false] at hb hbw
    rcases hb with rfl | rfl | rfl
    · exact absurd (.inl rfl) hbw
    · exact absurd (.inr rfl) hbw
    · obtain ⟨o, ho, _⟩ := hl
      exact ⟨o, k4 _ _ hal ho⟩
  · rintro i vals T l r s' hi ⟨t, x, hx, rfl⟩ hJi hsr hT Sr
    exact turn _ i x t T l r s' ⟨_, _, rfl⟩ (by simpa using hx) hJi hsr hT Sr
  · intro l s' hJn Sn hsr
    exact done l s' (by simpa using hJn) Sn (SR.trans ⟨_, _, rfl⟩ hsr)
end
end Mine

end ML
section L1B
set_option maxRecDepth 100000
open PySem PySem.W PyProof.Rows
namespace Mine

abbrev llB : List Stmt := bodyOf (stAt PP 4)
abbrev llSc : Scope := scopeOf (stAt PP 4)
abbrev llAr : Arguments := argsOf (stAt PP 4)
abbrev llN : Str := Str.ofString "_law_left"

section
variable {prog : Program} {w : World} {A : Around} {E : Value → Shared → Prop} {s : Shared} {h₀ : Heap} {mg mb : Str → Option Value}

/-- the frame of _law_left: its names and its five cells -/
def llAt (L : Addr) (m : Str → Option Value) (k r p t i : Option Value) : List Atom :=
  [(L, nsP m), (L + 5, cellP k), (L + 4, cellP r), (L + 3, cellP p), (L + 2, cellP t), (L + 1, cellP i)]

theorem way_val (place k : Nat) : ((place : Int) + 1).fdiv (2 ^ ((k : Nat) : Int).toNat) = (((place + 1) / 2 ^ k : Nat) : Int) := by
  have e : (2 : Int) ^ k = ((2 ^ k : Nat) : Int) := by push_cast; rfl
  have e' : (place : Int) + 1 = ((place + 1 : Nat) : Int) := by push_cast; rfl
  rw [Int.toNat_natCast, e, e', Int.fdiv_eq_ediv_of_nonneg _ (Int.natCast_nonneg _), ← Int.natCast_ediv]

theorem ll_way {L f : Addr} {cd : Value} {place : Nat} {tp : Tok} {m : Str → Option Value} {k r t i : Option Value} {Q : Flow → Shared → Prop} {rest : List Stmt} (G : Glb h₀ mg mb) (hh : A.handled = none) (hp : place < 31)
    (S : Sat h₀ s.heap (llAt L m k r (some (.int place tp)) t i))
    (hQ : ∀ D ys h' tk, NatsAre ys (wayN place) → Sat h₀ h' (llAt L (upd m (Str.ofString "way") (.ref D)) k r (some (.int place tp)) t i ++ [(D, plP ys)]) → wpAny (model prog w) A (execs (llB.drop 1) (envOfC llN llSc L f cd)) Q E { s with heap := h', toks := tk }) :
    wpAny (model prog w) A (execs llB (envOfC llN llSc L f cd)) Q E s := by
  with_unfolding_all refine wpAny_execs_cons ?_
  have hcell : s.heap.IsCell (L + 3) (some (.int place tp)) := S.cell (i := 3) rfl
  with_unfolding_all refine assign_comp (i := 0) (fun v => match v with | .int k _ => decide (0 < ((place : Int) + 1).fdiv (2 ^ k.toNat)) | _ => false) (fun v y => ∃ k t, v = .int k t ∧ isI (((place : Int) + 1).fdiv (2 ^ k.toNat) - 1) y) S rfl (by rfl) (cl := [(Str.ofString "place", L + 3)]) (by rfl) (by decide) rfl (by decide) (by rfl) rfl rfl ?_ (fun _ => by rfl)
  refine to_range (a₀ := 0) (b₀ := 7) (c₀ := 1) (n := 7) hh (ev_range1 (G.pe S.keep (by decide) rfl rfl rfl rfl (by decide)) (fun tk => KV.of pe_int) (by rfl) (by rfl)) (by decide) (by decide) (by decide) ?_ ?_ ?_
  · intro C j t' h' m₃ hj hk hn hm
    have hc : h'.IsCell (L + 3) (some (.int place tp)) := hcell.keeps hk
    exact pe_tests_one (pe_test (pe_shr (by omega) (pe_add ((pe_cell rfl hc rfl rfl).mono fun _ e => ⟨tp, e⟩) pe_int) ((pe_local hn hm rfl rfl).mono fun _ e => ⟨t', e⟩)) pe_int pc_gt (by with_unfolding_all rfl))
  · intro C j t' s₃ m₃ E' hj hp' hk hn hm
    have hc : s₃.heap.IsCell (L + 3) (some (.int place tp)) := hcell.keeps hk
    exact ((pe_sub (pe_shr (by omega) (pe_add ((pe_cell rfl hc rfl rfl).mono fun _ e => ⟨tp, e⟩) pe_int) ((pe_local hn hm rfl rfl).mono fun _ e => ⟨t', e⟩)) pe_int).mono fun y hy => ⟨_, _, rfl, hy⟩).keeps
  · intro D ys vs hlen hvs hF hD h' tk S' hk
    dsimp only
    refine hQ D ys h' tk ?_ S'.snoc
    refine pd_range (P' := fun j => decide (0 < (place + 1) / 2 ^ j)) (g := fun j => (place + 1) / 2 ^ j - 1) hlen hvs hF (fun j t hj => ?_) fun j t y hj hP hF => ?_
    · show decide (0 < ((place : Int) + 1).fdiv (2 ^ ((0 : Int) + (j : Int) * 1).toNat)) = decide (0 < (place + 1) / 2 ^ j)
      have e : (0 : Int) + (j : Int) * 1 = ((j : Nat) : Int) := by omega
      rw [e, way_val]
      simp only [decide_eq_decide]
      omega
    · obtain ⟨k, t', e, hy⟩ := hF
      have e1 : (0 : Int) + (j : Int) * 1 = ((j : Nat) : Int) := by omega
      injection e with e2 _
      rw [← e2, e1, way_val] at hy
      have hpos : 0 < (place + 1) / 2 ^ j := by simpa using hP
      obtain ⟨u, rfl⟩ := hy
      exact ⟨u, by congr 1; omega⟩

theorem pd_all {α β : Type} {F : α → β → Prop} {l : List α} {ys : List β} (h : Paired F (l.filter fun _ => true) ys) : Paired F l ys := by
  rwa [List.filter_eq_self.mpr (by simp)] at h
theorem pd_refl {α : Type} (l : List α) : Paired (fun a b => a = b) l l := pd_of rfl fun i a b h1 h2 => by rw [h1] at h2; exact Option.some.inj h2
theorem nats_get {vs : List Value} {ns : List Nat} (h : NatsAre vs ns) {v : Value} (hv : v ∈ vs) : ∃ n ∈ ns, ∃ t, v = .int (n : Int) t := by
  obtain ⟨n, hn, t, e⟩ := pd_mem h v hv
  exact ⟨n, hn, t, e⟩

theorem ll_cut {L f D : Addr} {cd : Value} {place st : Nat} {ts : Tok} {m : Str → Option Value} {k r p i : Option Value} {ys : List Value} {Q : Flow → Shared → Prop} (G : Glb h₀ mg mb) (hh : A.handled = none)
    (hy : NatsAre ys (wayN place)) (hm : m (Str.ofString "way") = some (.ref D)) (hlen : ys.length ≤ 7)
    (S : Sat h₀ s.heap (llAt L m k r p (some (.int st ts)) i ++ [(D, plP ys)]))
    (hQ : ∀ D' ys' h' tk, NatsAre ys' (cutN st place) → Sat h₀ h' (llAt L (upd m (Str.ofString "way") (.ref D')) k r p (some (.int st ts)) i ++ [(D', plP ys')]) → wpAny (model prog w) A (execs (llB.drop 2) (envOfC llN llSc L f cd)) Q E { s with heap := h', toks := tk }) :
    wpAny (model prog w) A (execs (llB.drop 1) (envOfC llN llSc L f cd)) Q E s := by
  with_unfolding_all refine wpAny_execs_cons ?_
  with_unfolding_all refine wpAny_Assign_Name ?_ (by rfl)
  have n1 : s.heap.Ns L m := S.ns (i := 0) rfl
  have hl : s.heap.IsList D ys.toArray := S.plist (i := 6) rfl
  have hz : sizeLine = 2 ^ 24 := by rw [sizeLine_eq]
  have hcell : s.heap.IsCell (L + 2) (some (.int st ts)) := S.cell (i := 4) rfl
  refine ev_slice (lo := none) (hi := some (1 + (((wayN place).filter fun c => decide (st < c)).length : Int))) (pe_local n1 hm rfl rfl) hl (by omega) part_none (fun tk => kv_part (kv_add pe_int fun tk => kv_len (G.pe S.keep (by decide) rfl rfl rfl rfl (by decide)) (fun tk Q' E' hq => ?_) ?_ (by rfl) (by rfl))) (fun D' h' tk hD hDo hk => ?_) (fun _ _ => by rfl)
  · refine comp_gen (fun v => match v with | .int c _ => decide ((st : Int) < c) | _ => false) (fun v y => y = v) (S : Sat h₀ _ _) (cl := [(Str.ofString "start", L + 2)]) (by rfl) (by decide) rfl (by decide) (by rfl) (to_list hh (pe_local n1 hm rfl rfl) hl (by omega) ?_ ?_ ?_) (fun _ => by rfl)
    · intro C v h'' m₃ hv hk hn hm₃
      obtain ⟨c, hc, t, rfl⟩ := nats_get hy hv
      exact pe_tests_one (pe_test ((pe_local hn hm₃ rfl rfl).mono fun _ e => ⟨t, e⟩) ((pe_cell rfl (hcell.keeps hk) rfl rfl).mono fun _ e => ⟨ts, e⟩) pc_gt (by with_unfolding_all rfl))
    · intro C v s₃ m₃ E'' hv hp hk hn hm₃
      exact ((pe_local hn hm₃ rfl rfl).mono fun y hy => hy).keeps
    · intro D2 zs hF hD2 h2 tk2 S2 hk2
      refine hq D2 zs h2 tk2 ?_ (S2.plist (i := 0) rfl) hk2
      have h1 : Paired (fun v (n : Nat) => isI (n : Int) v) (ys.filter fun v => match v with | .int c _ => decide ((st : Int) < c) | _ => false) ((wayN place).filter fun c => decide (st < c)) := pd_filter (q := fun c => decide (st < c)) (fun v c hc => by
        obtain ⟨t, rfl⟩ := hc
        show decide ((st : Int) < (c : Int)) = decide (st < c)
        simp) hy
      rw [← hF.length, h1.length]
  · have := List.length_filter_le (fun c => decide (st < c)) (wayN place)
    have := hy.length
    omega
  · have e1 : slicePick ys.toArray none (some (1 + (((wayN place).filter fun c => decide (st < c)).length : Int))) none = (ys.take (1 + ((wayN place).filter fun c => decide (st < c)).length)).toArray := by
      have := slicePick_upto' ys.toArray (1 + ((wayN place).filter fun c => decide (st < c)).length)
      simpa using this
    rw [e1] at hDo
    have S1 : Sat h₀ h' (llAt L m k r p (some (.int st ts)) i ++ [(D', plP (ys.take (1 + ((wayN place).filter fun c => decide (st < c)).length)))]) := by
      refine ((S.left.keeps hk).cons hDo ⟨0, rfl⟩ (fresh_of_stays S.keep hD) fun q hq e => ?_).snoc
      obtain ⟨o', ho', _⟩ := (S.has q (List.mem_append_left _ hq)).2
      rw [e, hD] at ho'; cases ho'
    refine st_local (i := 0) (S1 : Sat h₀ _ _) rfl rfl rfl fun h3 tk3 S3 => ?_
    dsimp only
    exact hQ D' _ h3 tk3 (pd_take _ hy) S3

theorem ll_row {L f D aI : Addr} {cd : Value} {way : List Nat} {m : Str → Option Value} {k r p t : Option Value} {ws items : List Value} {Q : Flow → Shared → Prop} (hh : A.handled = none)
    (hw : NatsAre ws way) (hm : m (Str.ofString "way") = some (.ref D)) (hlen : ws.length ≤ 7) (hI : h₀.IsList aI items.toArray) (hlt : ∀ c ∈ way, c < items.length) (hz : items.length < 2 ^ 60)
    (S : Sat h₀ s.heap (llAt L m k r p t (some (.ref aI)) ++ [(D, plP ws)]))
    (hQ : ∀ R h' tk, Sat h₀ h' (llAt L m k (some (.ref R)) p t (some (.ref aI)) ++ [(D, plP ws), (R, plP (rowP items way))]) → wpAny (model prog w) A (execs (llB.drop 3) (envOfC llN llSc L f cd)) Q E { s with heap := h', toks := tk }) :
    wpAny (model prog w) A (execs (llB.drop 2) (envOfC llN llSc L f cd)) Q E s := by
  with_unfolding_all refine wpAny_execs_cons ?_
  with_unfolding_all refine wpAny_Assign_Name ?_ (by rfl)
  have n1 : s.heap.Ns L m := S.ns (i := 0) rfl
  have hl : s.heap.IsList D ws.toArray := S.plist (i := 6) rfl
  have hz2 : sizeLine = 2 ^ 24 := by rw [sizeLine_eq]
  have hcell : s.heap.IsCell (L + 1) (some (.ref aI)) := S.cell (i := 5) rfl
  refine comp_gen (fun v => true) (fun v y => ∃ c t, v = .int (c : Int) t ∧ y = items.getD c.toNat .none) (S : Sat h₀ _ _) (cl := [(Str.ofString "items", L + 1)]) (by rfl) (by decide) rfl (by decide) (by rfl) (to_list hh (pe_local n1 hm rfl rfl) hl (by omega) ?_ ?_ ?_) (fun _ => by rfl)
  · intro C v h' m₃ hv hk hn hm₃
    exact pe_tests_nil
  · intro C v s₃ m₃ E' hv _ hk hn hm₃
    obtain ⟨c, hc, t', rfl⟩ := nats_get hw hv
    have hlc := hlt c hc
    have hI' : s₃.heap.IsList aI items.toArray := hI.at fun o e => hk aI o (S.keep aI o e)
    exact ((pe_item (k := (c : Int)) (pe_cell rfl (hcell.keeps hk) rfl rfl) ((pe_local hn hm₃ rfl rfl).mono fun _ e => ⟨t', e⟩) hI' (by omega) (by rw [Int.toNat_natCast, List.getElem?_eq_getElem hlc]) (by omega) (fun _ => by with_unfolding_all rfl)).mono fun y hy => ⟨(c : Int), t', rfl, by
      rw [show y = items[c] from hy, Int.toNat_natCast, List.getD_eq_getElem?_getD, List.getElem?_eq_getElem hlc]; rfl⟩).keeps
  · intro R zs hF hR h' tk S1 hk1
    have ez : zs = rowP items way := by
      have h1 : Paired (fun y (n : Nat) => y = items.getD n .none) zs way := by
        refine pd_mono ?_ (pd_comp hw (pd_all hF))
        rintro y n ⟨v, ⟨t1, e1⟩, c, t2, e2, e3⟩
        rw [e1] at e2; injection e2 with e2; rw [e3, ← e2, Int.toNat_natCast]
      exact pd_eq (pd_map (g := fun q => items.getD q .none) (fun y n hy => hy) h1)
    subst ez
    refine st_cell (i := 2) (S1.snoc : Sat h₀ _ _) rfl rfl rfl rfl fun h3 S3 => ?_
    dsimp only
    exact hQ R h3 tk S3

theorem ll_kinds {L f D R fk : Addr} {cd : Value} {m : Str → Option Value} {k p t i : Option Value} {ws rows : List Value} {Q : Flow → Shared → Prop} (G : Glb h₀ mg mb) (hmk : mg lkN = some (.ref fk)) (fn : FnAt h₀ lkN lkAr lkB lkSc fk) (room : A.depth < recursionLimit) (hh : A.handled = none)
    (hit : ∀ v ∈ rows, IsItem v) (hlen : rows.length ≤ 7)
    (S : Sat h₀ s.heap (llAt L m k (some (.ref R)) p t i ++ [(D, plP ws), (R, plP rows)]))
    (hQ : ∀ K ks h' tk, Paired (fun y v => isS (kindV v) y) ks rows → Sat h₀ h' (llAt L m (some (.ref K)) (some (.ref R)) p t i ++ [(D, plP ws), (R, plP rows), (K, plP ks)]) → wpAny (model prog w) A (execs (llB.drop 4) (envOfC llN llSc L f cd)) Q E { s with heap := h', toks := tk }) :
    wpAny (model prog w) A (execs (llB.drop 3) (envOfC llN llSc L f cd)) Q E s := by
  with_unfolding_all refine wpAny_execs_cons ?_
  with_unfolding_all refine wpAny_Assign_Name ?_ (by rfl)
  have hl : s.heap.IsList R rows.toArray := S.plist (i := 7) rfl
  have hz2 : sizeLine = 2 ^ 24 := by rw [sizeLine_eq]
  have hcell : s.heap.IsCell (L + 4) (some (.ref R)) := S.cell (i := 2) rfl
  refine comp_gen (fun v => true) (fun v y => isS (kindV v) y) (S : Sat h₀ _ _) (cl := []) (by rfl) (by decide) rfl (by decide) (by rfl) (to_list hh (pe_cell rfl hcell rfl rfl) hl (by omega) ?_ ?_ ?_) (fun _ => by rfl)
  · intro C v h' m₃ hv hk hn hm₃
    exact pe_tests_nil
  · intro C v s₃ m₃ E' hv _ hk hn hm₃
    have hk' : ∀ b o, h₀.get? b = some o → s₃.heap.get? b = some o := fun b o e => hk b o (S.keep b o e)
    obtain ⟨o, pm, cdk, doc, ho, hd, hcd⟩ := fn.it
    refine Call_ ((G.pf hk' hmk rfl rfl rfl (by decide)).use fun fv tk hf => ?_) (by rfl)
    cases hf
    refine callWith_def hd (args_cons ((pe_local hn hm₃ rfl rfl) _ _ _ rfl fun a tk' ha => args_nil ⟨hk' _ _ ho, ?_⟩) (by rfl)) (by rfl)
    cases ha
    refine law_kind (s := { s₃ with toks := tk' }) G fn room hk' (hit v hv) _ _ fun a h' tk2 hk2 ha => ⟨ha, h', tk2, rfl, hk2⟩
  · intro K ks hF hK h' tk S1 hk1
    have hF' : Paired (fun y v => isS (kindV v) y) ks rows := by
      refine pd_mono ?_ (pd_comp (pd_refl rows) (pd_all hF))
      rintro y v ⟨u, e, hu⟩
      rw [← e]; exact hu
    refine st_cell (i := 1) (S1.snoc : Sat h₀ _ _) rfl rfl rfl rfl fun h3 S3 => ?_
    dsimp only
    exact hQ K ks h3 tk hF' S3
end
end Mine

end L1B
section L1C
set_option maxRecDepth 100000
open PySem PySem.W PyProof.Rows
namespace Mine

section
variable {prog : Program} {w : World} {A : Around} {E : Value → Shared → Prop} {s : Shared} {env : Env} {h₀ h : Heap} {mg mb : Str → Option Value}

theorem pe_or2 {a b : Expr} {pos : Pos} {x y : Bool} {whole : Sem Value} (p : PE prog w A (isTrue a env (eval a env)) h (· = x)) (q : x = false → PE prog w A (isTrue b env (eval b env)) h (· = y)) :
    PE prog w A (isTrue (.BoolOp .Or [a, b] pos) env whole) h (· = (x || y)) := fun s Q E e hq => by
  refine wpAny_isTrue_BoolOp (wpAny_allTrue_Or_cons (p s _ _ e fun b1 tk h1 => ?_))
  subst h1
  cases b1 with
  | true => rw [if_pos rfl]; exact hq _ tk rfl
  | false =>
    rw [if_neg (by simp)]
    refine wpAny_allTrue_Or_cons (q rfl _ _ _ e fun b2 tk2 h2 => ?_)
    subst h2
    cases b2 with
    | true => rw [if_pos rfl]; exact hq _ tk2 rfl
    | false => rw [if_neg (by simp)]; exact wpAny_allTrue_Or_nil (hq _ tk2 rfl)
theorem pe_and2 {a b : Expr} {pos : Pos} {x y : Bool} {whole : Sem Value} (p : PE prog w A (isTrue a env (eval a env)) h (· = x)) (q : x = true → PE prog w A (isTrue b env (eval b env)) h (· = y)) :
    PE prog w A (isTrue (.BoolOp .And [a, b] pos) env whole) h (· = (x && y)) := fun s Q E e hq => by
  refine wpAny_isTrue_BoolOp (wpAny_allTrue_And_cons (p s _ _ e fun b1 tk h1 => ?_))
  subst h1
  cases b1 with
  | false => rw [if_neg (by simp)]; exact hq _ tk rfl
  | true =>
    rw [if_pos rfl]
    refine wpAny_allTrue_And_cons (q rfl _ _ _ e fun b2 tk2 h2 => ?_)
    subst h2
    cases b2 with
    | false => rw [if_neg (by simp)]; exact hq _ tk2 rfl
    | true => rw [if_pos rfl]; exact wpAny_allTrue_And_nil (hq _ tk2 rfl)
theorem pe_not {a : Expr} {pos : Pos} {x : Bool} {whole : Sem Value} (p : PE prog w A (isTrue a env (eval a env)) h (· = x)) : PE prog w A (isTrue (.UnaryOp .Not a pos) env whole) h (· = !x) := fun s Q E e hq =>
  wpAny_isTrue_Not (p s _ _ e fun b tk hb => by subst hb; exact hq _ tk rfl)
theorem pc_nes {a b : Str} : ∀ u v, isS a u → isS b v → PE prog w A (compareOp .NotEq u v) h (isB (a != b)) :=
  fun _ _ ⟨_, e1⟩ ⟨_, e2⟩ s Q E _ hq => by subst e1; subst e2; exact PyProof.Rows.ne_str (hq _ s.toks rfl)
theorem pc_item {u v : Value} {b : Bool} (hu : IsItem u) (hv : IsItem v) (hc : c1 u v = some b) : ∀ x y, isV u x → isV v y → PE prog w A (compareOp .Lt x y) h (isB b) := by
  intro x y hx hy s Q E e hq
  cases hx; cases hy
  rcases hu with ⟨a, t, rfl⟩ | ⟨a, t, rfl⟩ <;> rcases hv with ⟨a', r, rfl⟩ | ⟨a', r, rfl⟩ <;> simp only [c1, Option.some.injEq, reduceCtorEq] at hc
  · subst hc; exact lt_int (hq _ s.toks rfl)
  · subst hc; exact PySem.P.lt_str (hq _ s.toks rfl)

def badK (rows : List Value) (k : Nat) : Bool := !decide (c1 (rows.getD k .none) (rows.getD 0 .none) = some true)

theorem ll_stop {L f D R K : Addr} {cd : Value} {m : Str → Option Value} {p t i : Option Value} {ws rows ks : List Value} {Q : Flow → Shared → Prop} (G : Glb h₀ mg mb) (hh : A.handled = none)
    (hit : ∀ v ∈ rows, IsItem v) (hlen : rows.length ≤ 7) (hpos : 0 < rows.length) (hks : Paired (fun y v => isS (kindV v) y) ks rows)
    (S : Sat h₀ s.heap (llAt L m (some (.ref K)) (some (.ref R)) p t i ++ [(D, plP ws), (R, plP rows), (K, plP ks)]))
    (hQ : ∀ (stop : Nat) tk' h' tk, 1 ≤ stop → stop ≤ rows.length → (∀ k, 1 ≤ k → k < stop → badK rows k = false) → (stop < rows.length → badK rows stop = true) →
      Sat h₀ h' (llAt L (upd m (Str.ofString "stop") (.int stop tk')) (some (.ref K)) (some (.ref R)) p t i ++ [(D, plP ws), (R, plP rows), (K, plP ks)]) → wpAny (model prog w) A (execs (llB.drop 5) (envOfC llN llSc L f cd)) Q E { s with heap := h', toks := tk }) :
    wpAny (model prog w) A (execs (llB.drop 4) (envOfC llN llSc L f cd)) Q E s := by
  with_unfolding_all refine wpAny_execs_cons ?_
  with_unfolding_all refine wpAny_Assign_Name ?_ (by rfl)
  have hz2 : sizeLine = 2 ^ 24 := by rw [sizeLine_eq]
  have hR : s.heap.IsList R rows.toArray := S.plist (i := 7) rfl
  have hK : s.heap.IsList K ks.toArray := S.plist (i := 8) rfl
  have hcR : s.heap.IsCell (L + 4) (some (.ref R)) := S.cell (i := 2) rfl
  have hcK : s.heap.IsCell (L + 5) (some (.ref K)) := S.cell (i := 1) rfl
  refine Call_ ((G.pe (v := .builtin "min") S.keep (by decide) rfl rfl rfl rfl (by decide)).use fun fv tk hf => ?_) (by rfl)
  cases hf
  refine callWith_builtin1 (args_cons ?_ (by rfl)) (by rfl) (by rfl)
  -- [len(row)]
  refine wpAny_BinOp (wpAny_List (args_cons ((pe_len (xs := rows) (G.pe S.keep (by decide) rfl rfl rfl rfl (by decide)) (pe_cell rfl hcR rfl rfl) hR (by omega) (by rfl) (by rfl)) _ _ _ rfl fun vl tk1 hvl => args_nil ⟨by simp; omega, ?_⟩) (by rfl)))
  have S1 : Sat h₀ (s.heap.push { cls := .type "list", data := .seq [vl].toArray }) ((s.heap.objs.size, plP [vl]) :: (llAt L m (some (.ref K)) (some (.ref R)) p t i ++ [(D, plP ws), (R, plP rows), (K, plP ks)])) := S.push ⟨0, rfl⟩
  have hk0 : ∀ b o, s.heap.get? b = some o → (s.heap.push { cls := .type "list", data := .seq [vl].toArray }).get? b = some o := fun b o e => Heap.get?_push_of_some _ e
  -- the places that stop it
  refine comp_gen (fun v => match v with | .int k _ => badK rows k.toNat | _ => false) (fun v y => y = v) (S1 : Sat h₀ _ _) (cl := [(Str.ofString "row", L + 4), (Str.ofString "kinds", L + 5)]) (by rfl) (by decide) rfl (by decide) (by rfl)
    (to_range (a₀ := 1) (b₀ := (rows.length : Int)) (c₀ := 1) (n := rows.length - 1) hh (ev_range2 (G.pe (fun b o e => hk0 b o (S.keep b o e)) (by decide) rfl rfl rfl rfl (by decide)) pe_int (pe_len (xs := rows) (G.pe (fun b o e => hk0 b o (S.keep b o e)) (by decide) rfl rfl rfl rfl (by decide)) (pe_cell rfl (hcR.keeps hk0) rfl rfl) (hR.at fun o e => hk0 R o e) (by omega) (by rfl) (by rfl)) (by rfl) (by rfl) (by rfl))
      (small_one (by omega) (by omega) (by omega) (by omega)) (by rw [rangeSize_one]; split <;> omega) (by omega) ?_ ?_ ?_) (fun _ => by rfl)
  · intro C j t' h' m₃ hj hk hn hm
    have e : (1 : Int) + (j : Int) * 1 = ((j + 1 : Nat) : Int) := by omega
    rw [e] at hm ⊢
    have hjl : j + 1 < rows.length := by omega
    have hkr : h'.IsList R rows.toArray := hR.at fun o e => hk R o (hk0 R o e)
    have hkk : h'.IsList K ks.toArray := hK.at fun o e => hk K o (hk0 K o e)
    have hcR' := (hcR.keeps hk0).keeps hk
    have hcK' := (hcK.keeps hk0).keeps hk
    have hj1 : rows[j + 1]? = some (rows.getD (j + 1) .none) := by rw [List.getD_eq_getElem?_getD, List.getElem?_eq_getElem hjl]; rfl
    have hj0 : rows[0]? = some (rows.getD 0 .none) := by rw [List.getD_eq_getElem?_getD, List.getElem?_eq_getElem hpos]; rfl
    obtain ⟨kv1, hkv1, hs1⟩ := pd_get' hks hj1
    obtain ⟨kv0, hkv0, hs0⟩ := pd_get' hks hj0
    have hu := hit _ (List.mem_of_getElem? hj1)
    have hv := hit _ (List.mem_of_getElem? hj0)
    have e0 : rows[((0 : Nat) : Int).toNat]? = some (rows.getD 0 .none) := hj0
    have pkk : ∀ b, isB b = isB b := fun _ => rfl
    show PE prog w A _ h' (· = badK rows ((j + 1 : Nat) : Int).toNat)
    rw [Int.toNat_natCast]
    cases hc : c1 (rows.getD (j + 1) .none) (rows.getD 0 .none) with
    | none =>
      have hne := (c1_none hu hv).mp hc
      have hb : badK rows (j + 1) = ((kindV (rows.getD (j + 1) .none) != kindV (rows.getD 0 .none)) || false) := by
        unfold badK; rw [hc]; simpa using hne
      rw [hb]
      refine pe_tests_one (pe_or2 (pe_test ((pe_item (k := ((j + 1 : Nat) : Int)) (v := kv1) (pe_cell rfl hcK' rfl rfl) ((pe_local hn hm rfl rfl).mono fun _ e => ⟨t', e⟩) hkk (by omega) (by rw [Int.toNat_natCast]; exact hkv1) (by omega) (fun _ => by with_unfolding_all rfl)).mono fun y hy => by rw [show y = kv1 from hy]; exact hs1)
        ((pe_item (k := 0) (v := kv0) (pe_cell rfl hcK' rfl rfl) pe_int hkk (by omega) (by exact hkv0) (by omega) (fun _ => by with_unfolding_all rfl)).mono fun y hy => by rw [show y = kv0 from hy]; exact hs0) pc_nes (by with_unfolding_all rfl)) fun hx => ?_)
      exact absurd hx (by simpa using hne)
    | some b =>
      have heq : kindV (rows.getD (j + 1) .none) = kindV (rows.getD 0 .none) := Classical.byContradiction fun hne => by
        rw [(c1_none hu hv).mpr hne] at hc; cases hc
      have hb : badK rows (j + 1) = ((kindV (rows.getD (j + 1) .none) != kindV (rows.getD 0 .none)) || !b) := by
        unfold badK; rw [hc, heq]; cases b <;> simp
      rw [hb]
      refine pe_tests_one (pe_or2 (pe_test ((pe_item (k := ((j + 1 : Nat) : Int)) (v := kv1) (pe_cell rfl hcK' rfl rfl) ((pe_local hn hm rfl rfl).mono fun _ e => ⟨t', e⟩) hkk (by omega) (by rw [Int.toNat_natCast]; exact hkv1) (by omega) (fun _ => by with_unfolding_all rfl)).mono fun y hy => by rw [show y = kv1 from hy]; exact hs1)
        ((pe_item (k := 0) (v := kv0) (pe_cell rfl hcK' rfl rfl) pe_int hkk (by omega) (by exact hkv0) (by omega) (fun _ => by with_unfolding_all rfl)).mono fun y hy => by rw [show y = kv0 from hy]; exact hs0) pc_nes (by with_unfolding_all rfl)) fun hx => ?_)
      exact pe_not (pe_test (pe_item (k := ((j + 1 : Nat) : Int)) (pe_cell rfl hcR' rfl rfl) ((pe_local hn hm rfl rfl).mono fun _ e => ⟨t', e⟩) hkr (by omega) (by rw [Int.toNat_natCast]; exact hj1) (by omega) (fun _ => by with_unfolding_all rfl))
        (pe_item (k := 0) (pe_cell rfl hcR' rfl rfl) pe_int hkr (by omega) (by exact hj0) (by omega) (fun _ => by with_unfolding_all rfl)) (pc_item hu hv hc) (by with_unfolding_all rfl))
  · intro C j t' s₃ m₃ E' hj hp' hk hn hm
    exact ((pe_local hn hm rfl rfl).mono fun y hy => hy).keeps
  · intro Z zs vs hlv hvs hF hZ h' tk2 S2 hk2
    obtain ⟨nz, hzL⟩ := S2.plain (i := 0) rfl
    obtain ⟨nv, hvL⟩ := S2.plain (i := 1) rfl
    have hzs : NatsAre zs (((List.range (rows.length - 1)).filter fun j => badK rows (j + 1)).map fun j => j + 1) := by
      refine pd_range hlv hvs hF (fun j t hj => ?_) fun j t y hj hP hF => ?_
      · show badK rows ((1 : Int) + (j : Int) * 1).toNat = badK rows (j + 1)
        have e : (1 : Int) + (j : Int) * 1 = ((j + 1 : Nat) : Int) := by omega
        rw [e, Int.toNat_natCast]
      · refine ⟨t, ?_⟩
        have e : (1 : Int) + (j : Int) * 1 = ((j + 1 : Nat) : Int) := by omega
        rw [hF, e]
    have hlz : zs.length ≤ 7 := by
      have h1 := hzs.length
      have h2 := List.length_filter_le (fun j => badK rows (j + 1)) (List.range (rows.length - 1))
      rw [List.length_map] at h1
      rw [List.length_range] at h2
      omega
    refine add_plain (s := { s with heap := h', toks := tk2 }) S2 hvL hzL (by simp; omega) fun W h3 S3 hk3 => args_nil ?_
    have hall : NatsAre ([vl] ++ zs) ([rows.length] ++ ((List.range (rows.length - 1)).filter fun j => badK rows (j + 1)).map fun j => j + 1) := pd_append (.cons hvl .nil) hzs
    refine min_nats (s := { s with heap := h3, toks := tk2 }) hh (S3.plist (i := 0) rfl) hall (by simp) fun h4 tk4 mn tm hmem hmin hk4 => ?_
    have S4 : Sat h₀ h4 (llAt L m (some (.ref K)) (some (.ref R)) p t i ++ [(D, plP ws), (R, plP rows), (K, plP ks)]) := (S3.tail.tail.tail).keeps hk4
    refine st_local (i := 0) (S4 : Sat h₀ _ _) rfl rfl rfl fun h5 tk5 S5 => ?_
    dsimp only
    have hle : mn ≤ rows.length := hmin _ (by simp)
    have h1 : 1 ≤ mn := by
      rcases List.mem_append.mp hmem with hm | hm
      · rw [List.mem_singleton.mp hm]; exact hpos
      · obtain ⟨j, _, rfl⟩ := List.mem_map.mp hm; omega
    refine hQ mn tm h5 tk5 h1 hle (fun k hk1 hk2 => ?_) (fun hlt => ?_) S5
    · cases hb : badK rows k with
      | false => rfl
      | true =>
        have := hmin k (List.mem_append_right _ (List.mem_map.mpr ⟨k - 1, List.mem_filter.mpr ⟨List.mem_range.mpr (by omega), by rw [show k - 1 + 1 = k by omega]; exact hb⟩, by omega⟩))
        omega
    · rcases List.mem_append.mp hmem with hm | hm
      · have := List.mem_singleton.mp hm; omega
      · obtain ⟨j, hj, rfl⟩ := List.mem_map.mp hm
        exact (List.mem_filter.mp hj).2
end
end Mine

end L1C
section L1D
set_option maxRecDepth 100000
open PySem PySem.W PyProof.Rows
namespace Mine

section
variable {prog : Program} {w : World} {A : Around} {E : Value → Shared → Prop} {s : Shared} {env : Env} {h₀ h : Heap} {mg mb : Str → Option Value}

theorem ll_copy {L f D R K aI : Addr} {cd : Value} {m : Str → Option Value} {p t : Option Value} {ws rows ks items : List Value} {Q : Flow → Shared → Prop} (G : Glb h₀ mg mb) (hI : h₀.IsList aI items.toArray) (hz : items.length < 2 ^ 20)
    (S : Sat h₀ s.heap (llAt L m (some (.ref K)) (some (.ref R)) p t (some (.ref aI)) ++ [(D, plP ws), (R, plP rows), (K, plP ks)]))
    (hQ : ∀ W h' tk, Sat h₀ h' (llAt L (upd m (Str.ofString "wanted") (.ref W)) (some (.ref K)) (some (.ref R)) p t (some (.ref aI)) ++ [(D, plP ws), (R, plP rows), (K, plP ks), (W, plP items)]) → wpAny (model prog w) A (execs (llB.drop 6) (envOfC llN llSc L f cd)) Q E { s with heap := h', toks := tk }) :
    wpAny (model prog w) A (execs (llB.drop 5) (envOfC llN llSc L f cd)) Q E s := by
  with_unfolding_all refine wpAny_execs_cons ?_
  with_unfolding_all refine wpAny_Assign_Name ?_ (by rfl)
  have hz2 : sizeLine = 2 ^ 24 := by rw [sizeLine_eq]
  have hcI : s.heap.IsCell (L + 1) (some (.ref aI)) := S.cell (i := 5) rfl
  refine copy_list (G.pe S.keep (by decide) rfl rfl rfl rfl (by decide)) (pe_cell rfl hcI rfl rfl) (hI.at fun o e => S.keep aI o e) (by omega) S (fun W h' tk S1 hk hW => ?_) (by rfl) (by rfl)
  refine st_local (i := 0) (S1.snoc : Sat h₀ _ _) rfl rfl rfl fun h2 tk2 S2 => ?_
  dsimp only
  exact hQ W h2 tk2 S2

theorem zip_take {α β : Type} : ∀ (xs : List α) (ys : List β) (i : Nat) {x : α} {y : β}, xs[i]? = some x → ys[i]? = some y → (xs.zip ys).take (i + 1) = (xs.zip ys).take i ++ [(x, y)]
  | [], _, i, x, y, h, _ => by simp at h
  | _ :: _, [], i, x, y, _, h => by simp at h
  | a :: xs, b :: ys, 0, x, y, h, h' => by simp at h h'; subst h; subst h'; simp
  | a :: xs, b :: ys, i + 1, x, y, h, h' => by
    simp only [List.getElem?_cons_succ] at h h'
    simp only [List.zip_cons_cons, List.take_succ_cons, List.cons_append]
    rw [zip_take xs ys i h h']

theorem fillP_snoc (xs : List Value) (l : List (Nat × Value)) (c : Nat) (v : Value) : fillP xs (l ++ [(c, v)]) = (fillP xs l).set c v := by simp [fillP]

theorem ll_fill {L f D R K W : Addr} {cd : Value} {m : Str → Option Value} {p t i : Option Value} {ws rows ks items : List Value} {way : List Nat} {stop : Nat} {tst : Tok} {Q : Flow → Shared → Prop} (G : Glb h₀ mg mb) (hh : A.handled = none) (hE : PassesOwn (model prog w) A (envOfC llN llSc L f cd) E)
    (hw : NatsAre ws way) (hwl : way.length ≤ 7) (hrl : rows.length = way.length) (hlt : ∀ c ∈ way, c < items.length) (hz : items.length < 2 ^ 20) (h1 : 1 ≤ stop) (hst : stop ≤ rows.length)
    (m1 : m (Str.ofString "way") = some (.ref D)) (m2 : m (Str.ofString "stop") = some (.int stop tst)) (m3 : m (Str.ofString "wanted") = some (.ref W))
    (S : Sat h₀ s.heap (llAt L m (some (.ref K)) (some (.ref R)) p t i ++ [(D, plP ws), (R, plP rows), (K, plP ks), (W, plP items)]))
    (hQ : ∀ h₁ m' h' tk, (∀ b o, h₀.get? b = some o → h₁.get? b = some o) → h₁.IsList D ws.toArray → h₁.IsList R rows.toArray → h₁.IsList K ks.toArray → h₁.IsCell (L + 4) (some (.ref R)) → h₁.IsCell (L + 5) (some (.ref K)) →
      (∀ x, x ≠ Str.ofString "c" → x ≠ Str.ofString "item" → m' x = m x) → Sat h₁ h' [(L, nsP m'), (W, lstP (fillP items (way.zip ((rows.drop 1).take (stop - 1)))))] → wpAny (model prog w) A (execs (llB.drop 7) (envOfC llN llSc L f cd)) Q E { s with heap := h', toks := tk }) :
    wpAny (model prog w) A (execs (llB.drop 6) (envOfC llN llSc L f cd)) Q E s := by
  with_unfolding_all refine wpAny_execs_cons ?_
  have hz2 : sizeLine = 2 ^ 24 := by rw [sizeLine_eq]
  have n1 : s.heap.Ns L m := S.ns (i := 0) rfl
  have hD : s.heap.IsList D ws.toArray := S.plist (i := 6) rfl
  have hR : s.heap.IsList R rows.toArray := S.plist (i := 7) rfl
  have hK : s.heap.IsList K ks.toArray := S.plist (i := 8) rfl
  have hcR : s.heap.IsCell (L + 4) (some (.ref R)) := S.cell (i := 2) rfl
  have hcK : s.heap.IsCell (L + 5) (some (.ref K)) := S.cell (i := 1) rfl
  with_unfolding_all refine for_walksT hE ?_ (fun _ => by rfl)
  refine Call_ ((G.pe (v := .type "zip") S.keep (by decide) rfl rfl rfl rfl (by decide)).use fun fv tk hf => ?_) (by rfl)
  cases hf
  refine callWith_type1 (args_cons ((pe_local n1 m1 rfl rfl) _ _ _ rfl fun v tk1 hv => ?_) (by rfl)) (by rfl) (by rfl)
  cases hv
  refine args_cons ?_ (by rfl)
  refine ev_slice (s := { s with toks := tk1 }) (lo := some 1) (hi := some (stop : Int)) (pe_cell rfl hcR rfl rfl) hR (by omega) (part_int pe_int) (fun tk => kv_part (KV.of ((pe_local n1 m2 rfl rfl).mono fun _ e => ⟨tst, e⟩))) (fun X h2 tk2 hX hXo hk2 => args_nil ?_) (fun _ _ => by rfl)
  have e1 : slicePick rows.toArray (some 1) (some (stop : Int)) none = ((rows.drop 1).take (stop - 1)).toArray := by
    have := slicePick_run rows.toArray 1 stop (by simpa using hst) h1
    simpa using this
  rw [e1] at hXo
  have hXl : h2.IsList X ((rows.drop 1).take (stop - 1)).toArray := ⟨_, hXo, rfl, 0, rfl⟩
  refine call_zip_2 (s := { s with heap := h2, toks := tk2 }) (hD.at fun o e => hk2 D o e) hXl fun h3 z1 z2 z3 z4 z5 zsz hk3 => ?_
  dsimp only at z1 z2 z3 z4 z5 zsz hk3
  have hk : ∀ b o, s.heap.get? b = some o → h3.get? b = some o := fun b o e => hk3 b o (hk2 b o e)
  have hDlt : D < h2.objs.size := by obtain ⟨o, ho, _⟩ := hD; exact Heap.lt_size (hk2 _ _ ho)
  have hXlt : X < h2.objs.size := Heap.lt_size hXo
  have Z := ktu_apart h2.objs.size D X hDlt hXlt
  have Wk := WalksT.zip2 (prog := prog) (w := w) hh (h2.objs.size + 4) (h2.objs.size + 2) (h2.objs.size + 3) h2.objs.size (h2.objs.size + 1) D X Z ws.toArray ((rows.drop 1).take (stop - 1)).toArray
  have hst0 : IsZip h3 (h2.objs.size + 4) (h2.objs.size + 2) (h2.objs.size + 3) .none ∧ IsPair h3 (h2.objs.size + 2) (.ref h2.objs.size) (.ref (h2.objs.size + 1)) ∧ (∃ a b, IsPair h3 (h2.objs.size + 3) a b) ∧ h3.IsListIter h2.objs.size D 0 ∧ h3.IsListIter (h2.objs.size + 1) X 0 ∧
      h3.IsList D ws.toArray ∧ h3.IsList X ((rows.drop 1).take (stop - 1)).toArray := ⟨z1, z2, ⟨_, _, z3⟩, z4, z5, hD.at fun o e => hk D o e, hXl.at fun o e => hk3 X o e⟩
  refine Wk.self 0 _ _ _ hst0 ?_
  have hlive : ∀ (i : Nat) (h : Heap), (IsZip h (h2.objs.size + 4) (h2.objs.size + 2) (h2.objs.size + 3) .none ∧ IsPair h (h2.objs.size + 2) (.ref h2.objs.size) (.ref (h2.objs.size + 1)) ∧ (∃ a b, IsPair h (h2.objs.size + 3) a b) ∧ h.IsListIter h2.objs.size D i ∧ h.IsListIter (h2.objs.size + 1) X i ∧
      h.IsList D ws.toArray ∧ h.IsList X ((rows.drop 1).take (stop - 1)).toArray) → ∀ b ∈ [h2.objs.size + 4, h2.objs.size + 3, h2.objs.size, h2.objs.size + 1], ∃ o, h.get? b = some o := by
    rintro i h ⟨a1, a2, ⟨_, _, a3⟩, ⟨o1, a4, _⟩, ⟨o2, a5, _⟩, _⟩ b hb
    simp only [List.mem_cons, List.not_mem_nil, or_false] at hb
    rcases hb with rfl | rfl | rfl | rfl
    · exact ⟨_, a1⟩
    · exact ⟨_, a3⟩
    · exact ⟨_, a4⟩
    · exact ⟨_, a5⟩
  have hnd : ([h2.objs.size + 4, h2.objs.size + 3, h2.objs.size, h2.objs.size + 1] : List Addr).Nodup := by
    simp
  have hold : ∀ b, b ∈ [h2.objs.size + 4, h2.objs.size + 3, h2.objs.size, h2.objs.size + 1] → ∀ o, s.heap.get? b ≠ some o := by
    intro b hb o e
    have hlt' : b < h2.objs.size := Heap.lt_size (hk2 b o e)
    simp only [List.mem_cons, List.not_mem_nil, or_false] at hb
    omega
  have S2 : Sat h₀ h3 [(L, nsP m), (W, lstP items)] := by
    have S1 : Sat h₀ h3 [(L, nsP m), (W, plP items)] := (S.keeps hk).sub (.cons_cons _ (.cons _ (.cons _ (.cons _ (.cons _ (.cons _ (.cons _ (.cons _ (.cons _ (.cons_cons _ .slnil))))))))))
    exact S1.weaken (i := 1) rfl fun o ho => ho.lst
  have hoff : ∀ q ∈ [(L, nsP m), (W, lstP items)], q.1 ∉ [h2.objs.size + 4, h2.objs.size + 3, h2.objs.size, h2.objs.size + 1] := by
    intro q hq hm
    have : ∃ o, s.heap.get? q.1 = some o := by
      rcases List.mem_cons.mp hq with rfl | hq
      · obtain ⟨o, ho, _⟩ := S.at (i := 0) rfl; exact ⟨o, ho⟩
      · rw [List.mem_singleton.mp hq]; obtain ⟨o, ho, _⟩ := S.at (i := 9) rfl; exact ⟨o, ho⟩
    obtain ⟨o, ho⟩ := this
    exact hold _ hm o ho
  obtain ⟨hB, kB1, kB2, kB3, SB⟩ := S2.forBase hnd (fun b hb => by
    cases q : h₀.get? b with
    | none => rfl
    | some o => exact absurd (S.keep b o q) (hold b hb o)) (hlive 0 h3 hst0) hoff
  have hne : ∀ (j : Nat) {a : Addr} {P : Obj → Prop}, (llAt L m (some (.ref K)) (some (.ref R)) p t i ++ [(D, plP ws), (R, plP rows), (K, plP ks), (W, plP items)])[j]? = some (a, P) → 0 < j → j < 9 → a ∉ [(L, nsP m), (W, lstP items)].map (·.1) ∧ a ∉ [h2.objs.size + 4, h2.objs.size + 3, h2.objs.size, h2.objs.size + 1] := by
    intro j a P hj h0 h9
    refine ⟨fun hm => ?_, fun hm => ?_⟩
    · rcases List.mem_cons.mp hm with e | hm
      · exact S.ne_at hj (i := j) (j := 0) (q := (L, nsP m)) rfl (by omega) e
      · exact S.ne_at hj (i := j) (j := 9) (q := (W, plP items)) rfl (by omega) (List.mem_singleton.mp hm)
    · obtain ⟨o, ho, _⟩ := S.at hj
      exact hold _ hm o ho
  refine ⟨h2.objs.size + 4, _, _, _, _, _, _, hB, [(L, nsP m), (W, lstP items)], fun j l => ∃ m', l = [(L, nsP m'), (W, lstP (fillP items ((way.zip ((rows.drop 1).take (stop - 1))).take j)))] ∧ ∀ x, x ≠ Str.ofString "c" → x ≠ Str.ofString "item" → m' x = m x,
    rfl, Wk, hst0, hlive, hnd, ?_, kB3, SB, hoff, ⟨m, rfl, fun _ _ _ => rfl⟩, ?_, ?_⟩
  · intro b hb hbw
    have hnew : ∀ c, s.heap.get? c = none → c ∉ [(L, nsP m), (W, lstP items)].map (·.1) := by
      intro c hc hm
      rcases List.mem_cons.mp hm with e | hm
      · obtain ⟨o, ho, _⟩ := S.at (i := 0) rfl; rw [e] at hc; rw [show s.heap.get? L = some o from ho] at hc; cases hc
      · obtain ⟨o, ho, _⟩ := S.at (i := 9) rfl; rw [List.mem_singleton.mp hm] at hc; rw [show s.heap.get? W = some o from ho] at hc; cases hc
    simp only [List.mem_cons, List.not_mem_nil, or_false] at hb
    rcases hb with rfl | rfl | rfl | rfl | rfl | rfl | rfl
    · exact absurd (by simp) hbw
    · refine ⟨_, kB2 _ _ (hnew _ ?_) hbw z2⟩
      cases q : s.heap.get? (h2.objs.size + 2) with
      | none => rfl
      | some o => have hlt' : h2.objs.size + 2 < h2.objs.size := Heap.lt_size (hk2 _ o q); omega
    · exact absurd (by simp) hbw
    · exact absurd (by simp) hbw
    · exact absurd (by simp) hbw
    · obtain ⟨o, ho, _⟩ := hD
      exact ⟨o, kB2 _ _ (hne 6 (P := plP ws) rfl (by omega) (by omega)).1 hbw (hk _ _ ho)⟩
    · exact ⟨_, kB2 _ _ (hnew _ hX) hbw (hk3 _ _ hXo)⟩
  · rintro j vals T l r s' hj ⟨x, y, hx, hy, rfl⟩ ⟨m', rfl, hm'⟩ hsr hT Sj
    rw [List.getElem?_toArray] at hx hy
    obtain ⟨c, hc, tc, rfl⟩ := pd_get hw hx
    have hcl := hlt c (List.mem_of_getElem? hc)
    refine assign_two (i := 0) hh hT Sj rfl rfl rfl rfl fun h5 tk5 S5 => ?_
    have n5 : h5.Ns L _ := S5.ns (i := 0) rfl
    have e3 : (upd (upd m' (Str.ofString "c") (.int (c : Int) tc)) (Str.ofString "item") y) (Str.ofString "wanted") = some (.ref W) := (upd_ne (by decide)).trans ((upd_ne (by decide)).trans ((hm' _ (by decide) (by decide)).trans m3))
    with_unfolding_all refine wpAny_execs_cons (wpAny_Assign_Subscript ?_ (by rfl))
    refine PE.use (pe_local n5 (upd_self _ _ _) rfl rfl) fun v tk6 hv => ?_
    cases hv
    refine PE.use (pe_local n5 e3 rfl rfl) fun v tk7 hv => ?_
    cases hv
    refine PE.use (pe_local n5 ((upd_ne (by decide)).trans (upd_self _ _ _)) rfl rfl) fun v tk8 hv => ?_
    cases hv
    refine set_item (i := 1) (xs := fillP items ((way.zip ((rows.drop 1).take (stop - 1))).take j)) (S5 : Sat hB _ _) rfl (by omega) (by rw [fillP_len]; omega) (by rw [fillP_len]; omega) fun h6 S6 => ?_
    refine wpAny_execs_nil ?_
    refine ⟨[(L, nsP (upd (upd m' (Str.ofString "c") (.int (c : Int) tc)) (Str.ofString "item") y)), (W, lstP ((fillP items ((way.zip ((rows.drop 1).take (stop - 1))).take j)).set c y))], ⟨upd (upd m' (Str.ofString "c") (.int (c : Int) tc)) (Str.ofString "item") y, ?_, fun z h1 h2 => (upd_ne h2).trans ((upd_ne h1).trans (hm' z h1 h2))⟩, S6, hsr.trans ⟨h6, tk8, rfl⟩⟩
    rw [zip_take way _ j hc hy, fillP_snoc]
  · rintro l s' ⟨m', rfl, hm'⟩ Sd hsr
    have e2 : (way.zip ((rows.drop 1).take (stop - 1))).take (min ws.toArray.size ((rows.drop 1).take (stop - 1)).toArray.size) = way.zip ((rows.drop 1).take (stop - 1)) := by
      apply List.take_of_length_le
      rw [List.length_zip]
      simp only [List.size_toArray]
      rw [hw.length]
      exact Nat.le_refl _
    rw [e2] at Sd
    have lift : ∀ (j : Nat) {a : Addr} {P : Obj → Prop} (_ : (llAt L m (some (.ref K)) (some (.ref R)) p t i ++ [(D, plP ws), (R, plP rows), (K, plP ks), (W, plP items)])[j]? = some (a, P)) (_ : 0 < j) (_ : j < 9), ∃ o, hB.get? a = some o ∧ P o := by
      intro j a P hj h0 h9
      obtain ⟨o, ho, hP⟩ := S.at hj
      exact ⟨o, kB2 _ _ (hne j hj h0 h9).1 (hne j hj h0 h9).2 (hk _ _ ho), hP⟩
    obtain ⟨oD, gD, pD⟩ := lift 6 (P := plP ws) rfl (by omega) (by omega)
    obtain ⟨oR, gR, pR⟩ := lift 7 (P := plP rows) rfl (by omega) (by omega)
    obtain ⟨oK, gK, pK⟩ := lift 8 (P := plP ks) rfl (by omega) (by omega)
    obtain ⟨o4, g4, p4⟩ := lift 2 (P := cellP (some (.ref R))) rfl (by omega) (by omega)
    obtain ⟨o5, g5, p5⟩ := lift 1 (P := cellP (some (.ref K))) rfl (by omega) (by omega)
    obtain ⟨hd, tkd, ed⟩ := hsr
    subst ed
    exact hQ hB m' hd tkd kB1 ⟨oD, gD, pD.lst⟩ ⟨oR, gR, pR.lst⟩ ⟨oK, gK, pK.lst⟩ ⟨o4, g4, p4⟩ ⟨o5, g5, p5⟩ hm' Sd
end
end Mine

end L1D
section L1E
set_option maxRecDepth 100000
open PySem PySem.W PyProof.Rows
namespace Mine

theorem kind_cases (u : Value) : kindV u = Str.ofString "int" ∨ kindV u = Str.ofString "str" := by
  unfold kindV kindS; split <;> simp
theorem kind_len (u : Value) : (kindV u).length = 3 := by
  rcases kind_cases u with h | h <;> rw [h] <;> decide +kernel
theorem msg_eq (u v : Value) : Str.ofString "'<' not supported between instances of '" ++ kindV u ++ Str.ofString "' and '" ++ kindV v ++ Str.ofString "'" = msg1 u v := by
  have hu : kindS u = "int" ∨ kindS u = "str" := by unfold kindS; split <;> simp
  have hv : kindS v = "int" ∨ kindS v = "str" := by unfold kindS; split <;> simp
  unfold kindV msg1
  rcases hu with hu | hu <;> rcases hv with hv | hv <;> rw [hu, hv] <;> decide +kernel

section
variable {prog : Program} {w : World} {A : Around} {E : Value → Shared → Prop} {s : Shared} {env : Env} {h₀ h : Heap} {mg mb : Str → Option Value}

theorem pe_adds {l r : Expr} {pos : Pos} {a b : Str} (hz : a.length + b.length ≤ sizeLine) (p : PE prog w A (eval l env) h (isS a)) (q : PE prog w A (eval r env) h (isS b)) : PE prog w A (eval (.BinOp l .Add r pos) env) h (isS (a ++ b)) :=
  pe_bin p q fun _ _ ⟨_, e1⟩ ⟨_, e2⟩ s Q E _ hq => by subst e1; subst e2; exact PyProof.Rows.add_str (fun t' tk => hq _ _ ⟨_, rfl⟩) hz

theorem ll_end {L f D R K W : Addr} {cd : Value} {m : Str → Option Value} {ws rows ks xs : List Value} {way : List Nat} {stop : Nat} {tst : Tok} {Q : Flow → Shared → Prop} (G : Glb h₀ mg mb)
    (hw : NatsAre ws way) (hrl : rows.length = way.length) (hwl : way.length ≤ 7) (hit : ∀ v ∈ rows, IsItem v) (hks : Paired (fun y v => isS (kindV v) y) ks rows) (hlt : ∀ c ∈ way, c < xs.length) (hz : xs.length < 2 ^ 20) (h1 : 1 ≤ stop) (hst : stop ≤ rows.length)
    (m1 : m (Str.ofString "way") = some (.ref D)) (m2 : m (Str.ofString "stop") = some (.int stop tst)) (m3 : m (Str.ofString "wanted") = some (.ref W))
    (lD : h₀.IsList D ws.toArray) (lR : h₀.IsList R rows.toArray) (lK : h₀.IsList K ks.toArray) (cR : h₀.IsCell (L + 4) (some (.ref R))) (cK : h₀.IsCell (L + 5) (some (.ref K)))
    (S : Sat h₀ s.heap [(L, nsP m), (W, lstP xs)])
    (hQ1 : stop < rows.length → c1 (rows.getD stop .none) (rows.getD 0 .none) = none → ∀ h' tk T tt, (∀ b o, h₀.get? b = some o → h'.get? b = some o) → h'.IsTuple T #[.ref W, .str (msg1 (rows.getD stop .none) (rows.getD 0 .none)) tt] → h'.IsList W xs.toArray → Q (.ret (.ref T)) { s with heap := h', toks := tk })
    (hQ2 : ¬ (stop < rows.length ∧ c1 (rows.getD stop .none) (rows.getD 0 .none) = none) → ∀ h' tk T tt, (∀ b o, h₀.get? b = some o → h'.get? b = some o) → h'.IsTuple T #[.ref W, .str Str.empty tt] → h'.IsList W (xs.set (way.getD (stop - 1) 0) (rows.getD 0 .none)).toArray → Q (.ret (.ref T)) { s with heap := h', toks := tk }) :
    wpAny (model prog w) A (execs (llB.drop 7) (envOfC llN llSc L f cd)) Q E s := by
  have hz2 : sizeLine = 2 ^ 24 := by rw [sizeLine_eq]
  have n1 : s.heap.Ns L m := S.ns (i := 0) rfl
  have hk := S.keep
  have lD' := lD.at fun o e => hk D o e
  have lR' := lR.at fun o e => hk R o e
  have lK' := lK.at fun o e => hk K o e
  have cR' := cR.keeps hk
  have cK' := cK.keeps hk
  have hpos : 0 < rows.length := by omega
  have hj0 : rows[0]? = some (rows.getD 0 .none) := by rw [List.getD_eq_getElem?_getD, List.getElem?_eq_getElem hpos]; rfl
  obtain ⟨kv0, hkv0, hs0⟩ := pd_get' hks hj0
  have hv0 := hit _ (List.mem_of_getElem? hj0)
  have pstop : ∀ {pos : Pos}, PE prog w A (eval (.Name (Str.ofString "stop") pos) (envOfC llN llSc L f cd)) s.heap (isI (stop : Int)) := fun {pos} => (pe_local n1 m2 rfl rfl).mono fun _ e => ⟨tst, e⟩
  have pk0 : ∀ {p1 p2 p3 : Pos} {kk : Nat}, PE prog w A (eval (.Subscript (.Name (Str.ofString "kinds") p1) (.Constant (.int 0) kk p2) p3) (envOfC llN llSc L f cd)) s.heap (isS (kindV (rows.getD 0 .none))) := fun {p1 p2 p3 kk} =>
    (pe_item (k := 0) (v := kv0) (pe_cell rfl cK' rfl rfl) pe_int lK' (by omega) (by exact hkv0) (by omega) (fun _ => by with_unfolding_all rfl)).mono fun y hy => by rw [show y = kv0 from hy]; exact hs0
  have hdec : ∀ b : Bool, (stop < rows.length → ∃ u, rows[stop]? = some u) := fun b hlt => ⟨_, List.getElem?_eq_getElem hlt⟩
  with_unfolding_all refine wpAny_execs_cons (wpAny_If ?_)
  have pks : ∀ {p1 p2 p3 : Pos}, stop < rows.length → PE prog w A (eval (.Subscript (.Name (Str.ofString "kinds") p1) (.Name (Str.ofString "stop") p2) p3) (envOfC llN llSc L f cd)) s.heap (isS (kindV (rows.getD stop .none))) := fun {p1 p2 p3} hlt => by
    have hj1 : rows[stop]? = some (rows.getD stop .none) := by rw [List.getD_eq_getElem?_getD, List.getElem?_eq_getElem hlt]; rfl
    obtain ⟨kv1, hkv1, hs1⟩ := pd_get' hks hj1
    exact (pe_item (k := (stop : Int)) (v := kv1) (pe_cell rfl cK' rfl rfl) pstop lK' (by omega) (by rw [Int.toNat_natCast]; exact hkv1) (by omega) (fun _ => by with_unfolding_all rfl)).mono fun y hy => by rw [show y = kv1 from hy]; exact hs1
  refine PE.use (pe_and2 (x := decide ((stop : Int) < (rows.length : Int))) (y := kindV (rows.getD stop .none) != kindV (rows.getD 0 .none)) (pe_test pstop (pe_len (xs := rows) (G.pe hk (by decide) rfl rfl rfl rfl (by decide)) (pe_cell rfl cR' rfl rfl) lR' (by omega) (by rfl) (by rfl)) pc_lt (by with_unfolding_all rfl))
    (fun hx => pe_test (pks (by simpa using hx)) pk0 pc_nes (by with_unfolding_all rfl))) fun b tk hb => ?_
  subst hb
  by_cases hcase : stop < rows.length ∧ c1 (rows.getD stop .none) (rows.getD 0 .none) = none
  · obtain ⟨hlt', hc⟩ := hcase
    have hj1 : rows[stop]? = some (rows.getD stop .none) := by rw [List.getD_eq_getElem?_getD, List.getElem?_eq_getElem hlt']; rfl
    have hne := (c1_none (hit _ (List.mem_of_getElem? hj1)) hv0).mp hc
    rw [if_pos (Bool.and_eq_true_iff.mpr ⟨by simpa using hlt', by simpa using hne⟩)]
    with_unfolding_all refine wpAny_execs_cons (wpAny_Return_some (wpAny_Tuple (args_cons ((pe_local n1 m3 rfl rfl) _ _ _ rfl fun v tk1 hv => ?_) (by rfl))))
    cases hv
    have e1 := kind_len (rows.getD stop .none)
    have e2 := kind_len (rows.getD 0 .none)
    have l1 : (Str.ofString "'<' not supported between instances of '").length = 40 := by decide +kernel
    have l2 : (Str.ofString "' and '").length = 7 := by decide +kernel
    have l3 : (Str.ofString "'").length = 1 := by decide +kernel
    refine args_cons ((pe_adds (by simp only [Str.length_append, l1, l2, l3, e1, e2]; omega) (pe_adds (by simp only [Str.length_append, l1, l2, l3, e1, e2]; omega) (pe_adds (by simp only [Str.length_append, l1, l2, l3, e1, e2]; omega) (pe_adds (by simp only [Str.length_append, l1, l2, l3, e1, e2]; omega) pe_str (pks hlt')) pe_str) pk0) pe_str) _ _ _ rfl fun v tk2 hv => args_nil ⟨by simp; omega, ?_⟩) (by rfl)
    obtain ⟨tt, rfl⟩ := hv
    rw [msg_eq]
    refine hQ1 hlt' hc _ _ _ tt (fun b o e => Heap.get?_push_of_some _ (hk b o e)) ⟨_, Heap.get?_push_size _ rfl, rfl, _, rfl⟩ ((S.list (i := 1) rfl).push _)
  · have hfalse : (decide ((stop : Int) < (rows.length : Int)) && (kindV (rows.getD stop .none) != kindV (rows.getD 0 .none))) = false := by
      rw [Bool.and_eq_false_iff]
      by_cases hlt' : stop < rows.length
      · right
        have hj1 : rows[stop]? = some (rows.getD stop .none) := by rw [List.getD_eq_getElem?_getD, List.getElem?_eq_getElem hlt']; rfl
        have : kindV (rows.getD stop .none) = kindV (rows.getD 0 .none) := Classical.byContradiction fun hne => hcase ⟨hlt', (c1_none (hit _ (List.mem_of_getElem? hj1)) hv0).mpr hne⟩
        rw [this]; simp
      · left; simpa using hlt'
    rw [if_neg (by rw [hfalse]; simp)]
    refine wpAny_execs_nil ?_
    -- wanted[way[stop - 1]] = row[0]
    have hw1 : stop - 1 < way.length := by omega
    obtain ⟨wv, hwv, twv, ewv⟩ := pd_get' hw (i := stop - 1) (b := way.getD (stop - 1) 0) (by rw [List.getD_eq_getElem?_getD, List.getElem?_eq_getElem hw1]; rfl)
    have hwin : way.getD (stop - 1) 0 < xs.length := hlt _ (by rw [List.getD_eq_getElem?_getD, List.getElem?_eq_getElem hw1]; exact List.getElem_mem hw1)
    with_unfolding_all refine wpAny_execs_cons (wpAny_Assign_Subscript ?_ (by rfl))
    refine (pe_item (k := 0) (pe_cell rfl cR' rfl rfl) pe_int lR' (by omega) (by exact hj0) (by omega) (fun _ => by with_unfolding_all rfl)) _ _ _ rfl fun v tk1 hv => ?_
    cases hv
    refine (pe_local n1 m3 rfl rfl) _ _ _ rfl fun v tk2 hv => ?_
    cases hv
    have esub : (stop : Int) - 1 = ((stop - 1 : Nat) : Int) := by omega
    refine (pe_item (k := (stop : Int) - 1) (v := wv) (pe_local n1 m1 rfl rfl) (pe_sub pstop pe_int) lD' (by omega) (by rw [esub, Int.toNat_natCast]; exact hwv) (by omega) (fun _ => by with_unfolding_all rfl)) _ _ _ rfl fun v tk3 hv => ?_
    cases hv
    rw [ewv]
    refine set_item (i := 1) (S : Sat h₀ _ _) rfl (by omega) (by omega) (by omega) fun h5 S5 => ?_
    rw [Int.toNat_natCast] at S5
    dsimp only
    -- return (wanted, '')
    have n5 : h5.Ns L m := S5.ns (i := 0) rfl
    with_unfolding_all refine wpAny_execs_cons (wpAny_Return_some (wpAny_Tuple (args_cons ((pe_local n5 m3 rfl rfl) _ _ _ rfl fun v tk4 hv => ?_) (by rfl))))
    cases hv
    refine args_cons (pe_str _ _ _ rfl fun v tk5 hv => args_nil ⟨by simp; omega, ?_⟩) (by rfl)
    obtain ⟨tt, rfl⟩ := hv
    refine hQ2 hcase _ _ _ tt (fun b o e => Heap.get?_push_of_some _ (S5.keep b o e)) ⟨_, Heap.get?_push_size _ rfl, rfl, _, rfl⟩ ((S5.list (i := 1) rfl).push _)
end
end Mine

end L1E
section L1F
set_option maxRecDepth 100000
open PySem PySem.W PyProof.Rows
namespace Mine

def words1 (new : Value) : Option Value → Str
  | none => Str.empty
  | some u => msg1 u new

theorem cutN_len : ∀ place, place < 31 → ∀ st, st < 33 → 0 < (cutN st place).length ∧ (cutN st place).length ≤ 7 ∧ (cutN st place).getD 0 0 = place := by decide +kernel
theorem wayN_len : ∀ place, place < 31 → (wayN place).length ≤ 7 := by decide +kernel
theorem rowP_len (items : List Value) (way : List Nat) : (rowP items way).length = way.length := by simp [rowP]
theorem rowP_zero {items : List Value} {way : List Nat} (h : 0 < way.length) : (rowP items way).getD 0 .none = items.getD (way.getD 0 0) .none := by
  cases way with
  | nil => simp at h
  | cons c r => simp [rowP]

section
variable {prog : Program} {w : World} {A : Around} {E : Value → Shared → Prop} {s : Shared} {env : Env} {h₀ h : Heap} {mg mb : Str → Option Value}

theorem law_left {f fk aI : Addr} {items : List Value} {place st : Nat} {t1 t2 : Tok} {R : Result → Shared → Prop} (G : Glb h₀ mg mb) (hmk : mg lkN = some (.ref fk)) (fnk : FnAt h₀ lkN lkAr lkB lkSc fk) (fn : FnAt h₀ llN llAr llB llSc f)
    (room : A.depth + 1 < recursionLimit) (hh : A.handled = none) (hk : ∀ b o, h₀.get? b = some o → s.heap.get? b = some o) (hI : s.heap.IsList aI items.toArray) (hit : ∀ v ∈ items, IsItem v) (hp : place < items.length) (hp' : place < 31) (hst : st < 33) (hz : items.length < 2 ^ 20)
    (hQ : ∀ W T h' tk tt, (∀ b o, s.heap.get? b = some o → h'.get? b = some o) → h'.IsTuple T #[.ref W, .str (words1 (items.getD place .none) (sift c1 st (items.getD place .none) items place).2) tt] → h'.IsList W (sift c1 st (items.getD place .none) items place).1.toArray →
      R (.ok (.ret (.ref T))) { s with heap := h', toks := tk }) :
    codeAny (model prog w) A (.call (.ref f) ⟨[.ref aI, .int st t1, .int place t2], []⟩) R s := by
  obtain ⟨o, pm, cd, doc, ho, hd, hcd⟩ := fn.it
  refine call_cells_ret (binds := [(Str.ofString "items", .ref aI), (Str.ofString "start", .int st t1), (Str.ofString "place", .int place t2)]) (by omega) (hk _ _ ho) hd (G.lim.keeps hk) (hcd.keeps hk) (by rfl) ?_ (fun h₁ tk F X => ?_)
  · intro x hx
    simp only [List.mem_cons, List.not_mem_nil, or_false] at hx
    rcases hx with rfl | rfl | rfl <;> exact .inr ⟨by rfl, by rfl⟩
  have hnew : ∀ k, s.heap.get? (s.heap.objs.size + k) = none := fun k => Heap.get?_none_of_le (Nat.le_add_right _ _)
  have S1 : Sat s.heap h₁ (llAt s.heap.objs.size (fun _ => none) none none (some (.int place t2)) (some (.int st t1)) (some (.ref aI))) := by
    obtain ⟨o0, es, ep, g1, g2, g3, g4⟩ := F.ns
    obtain ⟨o1, i1, j1⟩ := X.cell (Str.ofString "items") (s.heap.objs.size + 1) (by rfl)
    obtain ⟨o2, i2, j2⟩ := X.cell (Str.ofString "start") (s.heap.objs.size + 2) (by rfl)
    obtain ⟨o3, i3, j3⟩ := X.cell (Str.ofString "place") (s.heap.objs.size + 3) (by rfl)
    obtain ⟨o4, i4, j4⟩ := X.cell (Str.ofString "row") (s.heap.objs.size + 4) (by rfl)
    obtain ⟨o5, i5, j5⟩ := X.cell (Str.ofString "kinds") (s.heap.objs.size + 5) (by rfl)
    refine ⟨F.keep, ?_, ?_⟩
    · simp [llAt]
    · intro p hp
      simp only [llAt, List.mem_cons, List.not_mem_nil, or_false] at hp
      rcases hp with rfl | rfl | rfl | rfl | rfl | rfl
      · exact ⟨hnew 0, o0, g1, es, ep, g2, g3, g4⟩
      · exact ⟨hnew 5, o5, i5, j5⟩
      · exact ⟨hnew 4, o4, i4, j4⟩
      · exact ⟨hnew 3, o3, i3, j3⟩
      · exact ⟨hnew 2, o2, i2, j2⟩
      · exact ⟨hnew 1, o1, i1, j1⟩
  have G1 : Glb s.heap mg mb := G.keeps hk
  have fnk1 : FnAt s.heap lkN lkAr lkB lkSc fk := by
    obtain ⟨o, pm, cd, doc, ho, hd, hcd⟩ := fnk.it
    exact ⟨o, pm, cd, doc, hk _ _ ho, hd, hcd.keeps hk⟩
  have hz2 : sizeLine = 2 ^ 24 := by rw [sizeLine_eq]
  obtain ⟨hc0, hc7, hcp⟩ := cutN_len place hp' st hst
  have hlt : ∀ c ∈ cutN st place, c < items.length := fun c hc => by
    have := wayN_lt place hp' c (List.mem_of_mem_take hc); omega
  have hrows : ∀ v ∈ rowP items (cutN st place), IsItem v := by
    intro v hv
    obtain ⟨c, hc, rfl⟩ := List.mem_map.mp hv
    have := hlt c hc
    rw [List.getD_eq_getElem?_getD, List.getElem?_eq_getElem this]
    exact hit _ (List.getElem_mem this)
  have hr0 : (rowP items (cutN st place)).getD 0 .none = items.getD place .none := by rw [rowP_zero hc0, hcp]
  refine ll_way (rest := []) (A := A.deeper _) G1 hh hp' S1 fun D ys h2 tk2 hys S2 => ?_
  refine ll_cut (A := A.deeper _) G1 hh hys (upd_self _ _ _) (by rw [hys.length]; exact wayN_len place hp') S2 fun D2 ws h3 tk3 hws S3 => ?_
  refine ll_row (A := A.deeper _) hh hws (upd_self _ _ _) (by rw [hws.length]; exact hc7) hI hlt (by omega) S3 fun Rr h4 tk4 S4 => ?_
  refine ll_kinds (A := A.deeper _) G1 hmk fnk1 room hh hrows (by rw [rowP_len]; exact hc7) S4 fun K ks h5 tk5 hks S5 => ?_
  refine ll_stop (A := A.deeper _) G1 hh hrows (by rw [rowP_len]; exact hc7) (by rw [rowP_len]; exact hc0) hks S5 fun stop ts h6 tk6 s1 s2 s3 s4 S6 => ?_
  refine ll_copy (A := A.deeper _) G1 hI hz S6 fun W h7 tk7 S7 => ?_
  refine ll_fill (A := A.deeper _) G1 hh PassesOwn.never hws hc7 (by rw [rowP_len]) hlt hz s1 s2 ((upd_ne (by decide)).trans ((upd_ne (by decide)).trans (upd_self _ _ _))) ((upd_ne (by decide)).trans (upd_self _ _ _)) (upd_self _ _ _) S7 fun hB m' h8 tk8 kB lD lR lK cR cK hm' S8 => ?_
  have s2' : stop ≤ (cutN st place).length := by rw [rowP_len] at s2; exact s2
  have key := left_eq (c := c1) (items := items) hp' hst s1 s2' (fun k k1 k2 => by
    have := s3 k k1 k2
    rw [← hr0]
    simpa [badK] using this) (fun hl => by
    have := s4 (by rw [rowP_len]; exact hl)
    rw [← hr0]
    simpa [badK] using this)
  refine ll_end (A := A.deeper _) (G1.keeps kB) hws (by rw [rowP_len]) hc7 hrows hks (fun c hc => by rw [fillP_len]; exact hlt c hc) (by rw [fillP_len]; exact hz) s1 s2
    ((hm' _ (by decide) (by decide)).trans ((upd_ne (by decide)).trans ((upd_ne (by decide)).trans (upd_self _ _ _)))) ((hm' _ (by decide) (by decide)).trans ((upd_ne (by decide)).trans (upd_self _ _ _))) ((hm' _ (by decide) (by decide)).trans (upd_self _ _ _)) lD lR lK cR cK S8 ?_ ?_
  · intro hl hn h9 tk9 T tt k9 hT hW
    rw [rowP_len] at hl
    rw [hr0] at hn hT
    rw [if_pos ⟨hl, hn⟩] at key
    dsimp only
    refine hQ W T h9 tk9 tt (fun b o e => k9 b o (kB b o e)) ?_ ?_
    · rw [key]; exact hT
    · rw [key]; exact hW
  · intro hl h9 tk9 T tt k9 hT hW
    rw [rowP_len, hr0] at hl
    rw [hr0] at hW
    rw [if_neg hl] at key
    dsimp only
    refine hQ W T h9 tk9 tt (fun b o e => k9 b o (kB b o e)) ?_ ?_
    · rw [key]; exact hT
    · rw [key]; exact hW
end
end Mine

end L1F
section L1G
set_option maxRecDepth 100000
open PySem PySem.W PyProof.Rows
namespace Mine

abbrev outWords : Str := Str.ofString "list index out of range"
section
variable {prog : Program} {w : World} {A : Around} {E : Value → Shared → Prop} {s : Shared}

theorem getItem_out {l : Addr} {items : Array Value} {k : Int} {t : Tok} {Q : Value → Shared → Prop} (hA : A.handled = none) (hl : s.heap.IsList l items)
    (hout : (items.size : Int) ≤ k) (hlo : -(2 ^ 63) ≤ k) (hhi : k < 2 ^ 63)
    (hE : ∀ h' tk e tt, Heap.MadeExcOf s.heap h' e (.type "IndexError") [.str outWords tt] → E (.ref e) { s with heap := h', toks := tk }) :
    wpAny (model prog w) A (getItem (.ref l) (.int k t)) Q E s := by
  obtain ⟨o, ho, hc, ne, hd⟩ := id hl
  unfold getItem
  try with_reducible refine wpAny_holding ?_
  first | refine wpAny_bind (wpAny_pure ?_) | skip
  refine wpAny_bind (wpAny_sequenceKey hl.typeIs (by decide) ?_)
  refine wpAny_bind (wpAny_callSpecial?_slot (name := Str.ofString "__getitem__") hl.typeIs slot_list_getitem
    (wpAny_call_entry slot_list_getitem hl.typeIs entry_list_getitem ?_ (args_list_getitem _ _)))
  show wpAny _ _ (Builtin.List.listSubscript? (.int k t) >>= _) _ _ s
  refine wpAny_bind (wpAny_listSubscript_int (fitsIndex_both hlo hhi) ?_)
  clear hlo hhi
  obtain ⟨j, rfl⟩ := Int.eq_ofNat_of_zero_le (show 0 ≤ k by omega)
  have hx : items[j]? = none := Array.getElem?_eq_none (by omega)
  show wpAny _ _ ((seqItemAt l j >>= fun r => pure (r.map (j, ·))) >>= _) _ _ s
  refine wpAny_bind (wpAny_bind (wpAny_seqItemAt ho hd (wpAny_pure ?_)))
  rw [hx]
  refine wpAny_bind (wpAny_rule (wpAny_bind ?_))
  exact raise_words plainExc_IndexError hA fun h' tk e tt hx => hE h' tk e tt hx

variable {h₀ : Heap} {l : List Atom} {L f aH : Addr} {R : Result → Shared → Prop}
theorem sift_out {st p : Nat} {t1 t2 : Tok} {xs : List Value} {m : Str → Option Value} {cenv : Env}
    (S : Sat h₀ s.heap ((L, nsP m) :: (aH, lstP xs) :: l)) (fn : FnAt h₀ sdN sdAr sdB sdSc f) (lim : h₀.NoLimit) (room : A.depth < recursionLimit) (hfr : A.frames = some [cenv]) (hL : cenv.frame = some L) (hke : cenv.scope.kind = .function)
    (hp : xs.length ≤ p) (hlen : p < 2 ^ 60) (hh : A.handled = none)
    (err : ∀ B h' tk e t tt, Sat h₀ B ((aH, lstP xs) :: l) → B.get? L = none → h'.Ns L m → Heap.FlyingW B [cenv] e (.type "IndexError") (.ref t) h' →
      h'.TupAt t [.str outWords tt] → B.get? t = none → R (.error (.ref e)) { s with heap := h', toks := tk }) :
    codeAny (model prog w) A (.call (.ref f) ⟨[.ref aH, .int st t1, .int p t2], []⟩) R s := by
  obtain ⟨o, pm, cd, doc, ho, hd, hcd⟩ := fn.it
  refine call_plain (binds := [(Str.ofString "heap", .ref aH), (Str.ofString "startpos", .int st t1), (Str.ofString "pos", .int p t2)]) room (S.keep _ _ ho) hd (lim.keeps S.keep) (hcd.keeps S.keep) (by rfl) (locs (by rfl)) (fun h₁ F => ?_)
  have S1 : Sat h₀ h₁ ((s.heap.objs.size, nsP fun x => List.lookup x [(Str.ofString "heap", Value.ref aH), (Str.ofString "startpos", .int st t1), (Str.ofString "pos", .int p t2)].reverse) :: (aH, lstP xs) :: (L, nsP m) :: l) := by
    obtain ⟨o1, es, ep, g1, g2, g3, g4⟩ := F.ns
    refine ((S.keeps F.keep).perm (List.Perm.swap _ _ _)).cons g1 ⟨es, ep, g2, g3, g4⟩ ?_ fun q hq e => ?_
    · cases q : h₀.get? s.heap.objs.size with
      | none => rfl
      | some o' => exact absurd (Heap.lt_size (S.keep _ _ q)) (Nat.lt_irrefl _)
    · obtain ⟨o', ho', _⟩ := (S.has q ((List.Perm.swap _ _ _).mem_iff.mp hq)).2
      rw [e] at ho'
      exact absurd (Heap.lt_size ho') (Nat.lt_irrefl _)
  with_unfolding_all refine wpAny_execs_cons ?_
  with_unfolding_all refine wpAny_Assign_Name ?_ (by rfl)
  have n1 : h₁.Ns s.heap.objs.size _ := S1.ns (i := 0) rfl
  have hl1 : h₁.IsList aH xs.toArray := S1.list (i := 1) rfl
  refine Subscript_ ((pe_local n1 (v := .ref aH) (by rfl) rfl rfl) _ _ _ rfl fun a tk1 ha => (pe_local n1 (v := .int p t2) (by rfl) rfl rfl) _ _ _ rfl fun b tk2 hb => ?_)
  cases ha; cases hb
  refine tail_any (s := { s with heap := h₁, toks := tk2 }) (Heap.IsList.typeIs hl1) slot_list_getitem.lookup (getItem_out hh hl1 (by simpa using hp) (by omega) (by omega) fun h' tk e tt hx => ?_) (by with_unfolding_all rfl)
  have S3 : Sat h₀ h₁ ((L, nsP m) :: (s.heap.objs.size, nsP _) :: (aH, lstP xs) :: l) := S1.perm (by
      refine (List.Perm.cons _ (List.Perm.swap _ _ _)).trans (List.Perm.swap _ _ _))
  obtain ⟨oL, esL, epL, hoL, hdL, _, _⟩ := S3.ns (i := 0) rfl
  obtain ⟨o1, es1, ep1, ho1, hd1, _, _⟩ := S3.ns (i := 1) rfl
  have hBL : (hideAll h₁ [s.heap.objs.size, L]).get? L = none := hideAll_none _ (by simp)
  refine wpAny_leaves_madeW (base := hideAll h₁ [s.heap.objs.size, L]) (h := h₁) (env := envOf sdN sdSc s.heap.objs.size f cd) (outer := [cenv]) (L := s.heap.objs.size) (Around.frames_deeper hfr) rfl (fun b o' q => of_hideAll _ q) ?_ hx fun h'' t' x1 x2 x3 x4 => ?_
  · refine ⟨(by show sdSc.kind ≠ _; decide), ⟨_, o1, rfl, hideAll_none _ (by simp), ho1, fun vs q => by rw [hd1] at q; cases q⟩, ⟨by rw [hke]; decide, ⟨L, oL, hL, hBL, hoL, fun vs q => by rw [hdL] at q; cases q⟩, trivial⟩⟩
  · have hne : ∀ q ∈ (aH, lstP xs) :: l, q.1 ∉ [s.heap.objs.size, L] := by
      intro q hq hm
      rcases List.mem_cons.mp hm with e1 | hm
      · exact S3.tail.mem_ne q hq e1
      · exact S3.mem_ne q (List.mem_cons_of_mem _ hq) (List.mem_singleton.mp hm)
    refine err _ h'' tk e t' tt ⟨fun b o' q => hideAll_get _ (S3.keep b o' q) fun hm => ?_, S3.tail.tail.nd, fun q hq => ⟨(S3.tail.tail.has q hq).1, ?_⟩⟩ hBL (x4.ns ((S3.ns (i := 0) rfl).keeps hx.keeps)) x1 x2 x3
    · rcases List.mem_cons.mp hm with e1 | hm
      · rw [e1, (S3.has _ (List.mem_cons_of_mem _ (List.mem_cons_self ..))).1] at q; cases q
      · rw [List.mem_singleton.mp hm, (S3.has (L, nsP m) (by simp)).1] at q; cases q
    · obtain ⟨o', ho', r⟩ := (S3.tail.tail.has q hq).2
      exact ⟨o', hideAll_get _ ho' (hne q hq), r⟩
end
end Mine

end L1G
section L1H
set_option maxRecDepth 100000
open PySem PySem.W PyProof.Rows
namespace Mine

abbrev lwB : List Stmt := bodyOf (stAt PP 5)
abbrev lwSc : Scope := scopeOf (stAt PP 5)
abbrev lwAr : Arguments := argsOf (stAt PP 5)
abbrev lwN : Str := Str.ofString "law"

section
variable {prog : Program} {w : World} {A : Around} {E : Value → Shared → Prop} {s : Shared} {h₀ : Heap} {mg mb : Str → Option Value}

theorem lw_drawn {L f aS : Addr} {cd : Value} {vals : List Value} {m : Str → Option Value} {Q : Flow → Shared → Prop} (G : Glb h₀ mg mb) (hh : A.handled = none) (cS : h₀.IsCell (L + 1) (some (.ref aS))) (lS : h₀.IsList aS vals.toArray) (hi : ∀ v ∈ vals, isInt v) (hlen : vals.length ≤ 63)
    (S : Sat h₀ s.heap [(L, nsP m)])
    (hQ : ∀ D ys h' tk, (∀ v ∈ ys, isInt v) → ys.length ≤ 31 → 7 ≤ ys.length → Sat h₀ h' [(L, nsP (upd m (Str.ofString "drawn") (.ref D))), (D, plP ys)] → wpAny (model prog w) A (execs (lwB.drop 1) (envOfC lwN lwSc L f cd)) Q E { s with heap := h', toks := tk }) :
    wpAny (model prog w) A (execs lwB (envOfC lwN lwSc L f cd)) Q E s := by
  with_unfolding_all refine wpAny_execs_cons ?_
  with_unfolding_all refine wpAny_Assign_Name ?_ (by rfl)
  have hz2 : sizeLine = 2 ^ 24 := by rw [sizeLine_eq]
  have cS' := cS.keeps S.keep
  have lS' := lS.at fun o e => S.keep aS o e
  obtain ⟨n, hn⟩ : ∃ n : Nat, n ≤ 24 ∧ (if ((vals.length : Nat) : Int) < 24 then ((vals.length : Nat) : Int) else 24) = (n : Int) := ⟨min 24 vals.length, by omega, by split <;> omega⟩
  refine wpAny_BinOp ?_
  refine comp_gen (fun v => true) (fun v y => isInt y) (S : Sat h₀ _ _) (cl := [(Str.ofString "script", L + 1)]) (by rfl) (by decide) rfl (by decide) (by rfl)
    (to_range (a₀ := 0) (b₀ := (n : Int)) (c₀ := 1) (n := n) hh (ev_range1 (G.pe S.keep (by decide) rfl rfl rfl rfl (by decide)) (fun tk => hn.2 ▸ kv_min2 hh (G.pe S.keep (by decide) rfl rfl rfl rfl (by decide)) pe_int (pe_len (xs := vals) (G.pe S.keep (by decide) rfl rfl rfl rfl (by decide)) (pe_cell rfl cS' rfl rfl) lS' (by omega) (by rfl) (by rfl)) (by rfl) (by rfl) (by rfl)) (by rfl) (by rfl))
      (small_one (by omega) (by omega) (by omega) (by omega)) (by rw [rangeSize_one]; split <;> omega) (by omega) ?_ ?_ ?_) (fun _ => by rfl)
  · intro C j t' h' m₃ hj hk hn hm
    exact pe_tests_nil
  · intro C j t' s₃ m₃ E' hj hp' hk hn' hm
    refine KV.keeps (kv_sum_slice hh (G.pe (fun b o e => hk b o (S.keep b o e)) (by decide) rfl rfl rfl rfl (by decide)) (pe_cell rfl (cS'.keeps hk) rfl rfl) (lS'.at fun o e => hk aS o e) (by omega) (by decide) hi (part_int ((pe_local hn' hm rfl rfl).mono fun _ e => ⟨t', e⟩)) pe_int (fun _ _ => by rfl) (by rfl) (by rfl))
  · intro D ys vs hlv hvs hF hD h' tk S1 hk1
    have hys : ∀ v ∈ ys, isInt v := by
      intro v hv
      obtain ⟨i, hi'⟩ := List.getElem?_of_mem hv
      obtain ⟨a, _, ha⟩ := pd_get' hF hi'
      exact ha
    have hyl : ys.length ≤ 24 := by
      have := hF.length
      have := List.length_filter_le (fun _ => true) vs
      omega
    refine wpAny_List (args_cons (pe_int _ _ _ rfl fun v1 tk1 ⟨t1, e1⟩ => args_cons (pe_int _ _ _ rfl fun v2 tk2 ⟨t2, e2⟩ => args_cons (pe_int _ _ _ rfl fun v3 tk3 ⟨t3, e3⟩ => args_cons (pe_int _ _ _ rfl fun v4 tk4 ⟨t4, e4⟩ => args_cons (pe_int _ _ _ rfl fun v5 tk5 ⟨t5, e5⟩ => args_cons (pe_int _ _ _ rfl fun v6 tk6 ⟨t6, e6⟩ =>
      args_cons (pe_int _ _ _ rfl fun v7 tk7 ⟨t7, e7⟩ => args_nil ⟨by simp; omega, ?_⟩) (by rfl)) (by rfl)) (by rfl)) (by rfl)) (by rfl)) (by rfl)) (by rfl))
    have S2 := S1.push (o := { cls := .type "list", data := .seq [v1, v2, v3, v4, v5, v6, v7].toArray }) (P := plP [v1, v2, v3, v4, v5, v6, v7]) ⟨0, rfl⟩
    obtain ⟨nz, hzL⟩ := S2.plain (i := 0) rfl
    obtain ⟨nv, hvL⟩ := S2.plain (i := 1) rfl
    refine add_plain (s := { s with heap := _, toks := tk7 }) S2 hvL hzL (by simp; omega) fun W h3 S3 hk3 => ?_
    refine st_local (i := 3) (S3 : Sat h₀ _ _) rfl rfl rfl fun h5 tk5 S5 => ?_
    dsimp only
    refine hQ W _ h5 tk5 ?_ (by simp; omega) (by simp) ((S5.sub (l' := [(W, plP (ys ++ [v1, v2, v3, v4, v5, v6, v7])), (L, nsP _)]) (.cons_cons _ (.cons _ (.cons _ (List.Sublist.refl _))))).perm (List.Perm.swap _ _ _))
    intro v hv
    rcases List.mem_append.mp hv with hv | hv
    · exact hys v hv
    · simp only [List.mem_cons, List.not_mem_nil, or_false] at hv
      rcases hv with rfl | rfl | rfl | rfl | rfl | rfl | rfl
      · exact ⟨_, _, e1⟩
      · exact ⟨_, _, e2⟩
      · exact ⟨_, _, e3⟩
      · exact ⟨_, _, e4⟩
      · exact ⟨_, _, e5⟩
      · exact ⟨_, _, e6⟩
      · exact ⟨_, _, e7⟩
end
end Mine

end L1H
section L1I
set_option maxRecDepth 100000
open PySem PySem.W PyProof.Rows
namespace Mine

section
variable {prog : Program} {w : World} {A : Around} {E : Value → Shared → Prop} {s : Shared} {env : Env} {h₀ h : Heap} {mg mb : Str → Option Value}

theorem pe_chr {value slice : Expr} {pos : Pos} {x : Str} {k : Int} {c : Nat} (p : PE prog w A (eval value env) h (isS x)) (q : PE prog w A (eval slice env) h (isI k))
    (hr : (decide (k < -(2 ^ 63 : Int)) || decide (k ≥ 2 ^ 63)) = false) (hc : (seqIndex? k x.length).bind (x.cps[·]?) = some c)
    (hs : ∀ t u, subscripted slice false (.str x t) (.int k u) = operate [.str x t, .int k u] (getItem (.str x t) (.int k u))) : PE prog w A (eval (.Subscript value slice pos) env) h (isS ⟨#[c]⟩) := fun s Q E e hq => by
  refine Subscript_ (p s _ _ e fun a tk ha => q _ _ _ e fun b tk' hb => ?_)
  obtain ⟨u, rfl⟩ := hb
  obtain ⟨t, rfl⟩ := ha
  exact tail_any (s := { s with toks := tk' }) (typeIs_str _ _ _) slot_str_getitem.lookup (PyProof.Rows.getItem_str hr hc (hq _ _ ⟨_, rfl⟩)) (hs t u)

theorem lw_items {L f D : Addr} {cd : Value} {ys : List Value} {m : Str → Option Value} {Q : Flow → Shared → Prop} (hh : A.handled = none) (hE : PassesOwn (model prog w) A (envOfC lwN lwSc L f cd) E)
    (hy : ∀ v ∈ ys, isInt v) (hlen : ys.length ≤ 31) (hm : m (Str.ofString "drawn") = some (.ref D))
    (S : Sat h₀ s.heap [(L, nsP m), (D, plP ys)])
    (hQ : ∀ h₁ I its m' h' tk, (∀ b o, h₀.get? b = some o → h₁.get? b = some o) → h₁.IsList D ys.toArray → its.length = ys.length → (∀ v ∈ its, IsItem v) → m' (Str.ofString "drawn") = some (.ref D) → m' (Str.ofString "items") = some (.ref I) →
      Sat h₁ h' [(L, nsP m'), (I, plP its)] → wpAny (model prog w) A (execs (lwB.drop 3) (envOfC lwN lwSc L f cd)) Q E { s with heap := h', toks := tk }) :
    wpAny (model prog w) A (execs (lwB.drop 1) (envOfC lwN lwSc L f cd)) Q E s := by
  have hz2 : sizeLine = 2 ^ 24 := by rw [sizeLine_eq]
  with_unfolding_all refine wpAny_execs_cons ?_
  with_unfolding_all refine wpAny_Assign_Name ?_ (by rfl)
  refine wpAny_List (args_nil ⟨by simp, ?_⟩)
  have S1 := S.push (o := { cls := .type "list", data := .seq ([] : List Value).toArray }) (P := plP []) ⟨0, rfl⟩
  refine st_local (i := 1) (S1 : Sat h₀ _ _) rfl rfl rfl fun h2 tk2 S2 => ?_
  dsimp only
  generalize s.heap.objs.size = I at S1 S2 ⊢
  -- the loop
  with_unfolding_all refine wpAny_execs_cons ?_
  have n2 : h2.Ns L _ := S2.ns (i := 1) rfl
  with_unfolding_all refine for_list (h₀ := h₀) hE hh ?_ (fun _ _ => by rfl) (fun _ => by rfl)
  refine PE.use (pe_local n2 ((upd_ne (by decide)).trans hm) rfl rfl) fun v tk3 hv => ?_
  refine ⟨D, ys, [(L, nsP (upd m (Str.ofString "items") (.ref I))), (I, plP [])], hv, S2.plist (i := 2) rfl, (S2.sub (l' := [(I, plP []), (L, nsP _)]) (.cons_cons _ (.cons_cons _ (.cons _ .slnil)))).perm (List.Perm.swap _ _ _), ?_, fun h₁ k1 k2 => ?_⟩
  · have e1 := S2.ne_at (i := 2) (j := 1) rfl rfl (by decide)
    have e2 := S2.ne_at (i := 2) (j := 0) rfl rfl (by decide)
    simp only [List.map_cons, List.map_nil, List.mem_cons, List.not_mem_nil, or_false, not_or]
    exact ⟨e1, e2⟩
  have hD1 : h₁.IsList D ys.toArray := (S2.plist (i := 2) rfl).at fun o e => k2 D o (by
    have e1 := S2.ne_at (i := 2) (j := 1) rfl rfl (by decide)
    have e2 := S2.ne_at (i := 2) (j := 0) rfl rfl (by decide)
    simp only [List.map_cons, List.map_nil, List.mem_cons, List.not_mem_nil, or_false, not_or]
    exact ⟨e1, e2⟩) e
  refine ⟨fun i l => ∃ m' its, l = [(L, nsP m'), (I, plP its)] ∧ its.length = i ∧ (∀ v ∈ its, IsItem v) ∧ m' (Str.ofString "drawn") = some (.ref D) ∧ m' (Str.ofString "items") = some (.ref I), ⟨_, [], rfl, rfl, by simp, (upd_ne (by decide)).trans hm, upd_self _ _ _⟩, ?_, ?_⟩
  · rintro s₂ i v l r s' hsr hv ⟨m', its, rfl, hl, hit, d1, d2⟩ hsr' Sr
    have hi31 : i < 31 := by
      have := (List.getElem?_eq_some_iff.mp hv).1; omega
    obtain ⟨x, t, rfl⟩ := hy v (List.mem_of_getElem? hv)
    refine wpAny_assign_Name (st_local (i := 0) Sr rfl rfl rfl fun h5 tk5 S5 => ?_)
    have n5 : h5.Ns L _ := S5.ns (i := 0) rfl
    have px : ∀ {pos : Pos}, PE prog w A (eval (.Name (Str.ofString "x") pos) (envOfC lwN lwSc L f cd)) h5 (isI x) := (pe_local n5 (upd_self _ _ _) rfl rfl).mono fun _ e => ⟨t, e⟩
    have pit : ∀ {pos : Pos}, PE prog w A (eval (.Name (Str.ofString "items") pos) (envOfC lwN lwSc L f cd)) h5 (isV (.ref I)) := pe_local n5 ((upd_ne (by decide)).trans d2) rfl rfl
    have fin : ∀ v h6 tk6, IsItem v → Sat h₁ h6 ((L, nsP (upd m' (Str.ofString "x") (.int x t))) :: (I, plP (its ++ [v])) :: r) →
        ∃ l', (∃ m' its, l' = [(L, nsP m'), (I, plP its)] ∧ its.length = i + 1 ∧ (∀ v ∈ its, IsItem v) ∧ m' (Str.ofString "drawn") = some (.ref D) ∧ m' (Str.ofString "items") = some (.ref I)) ∧ Sat h₁ h6 (l' ++ r) ∧ SR s₂ { s' with heap := h6, toks := tk6 } := by
      intro v h6 tk6 hv S6
      refine ⟨[(L, nsP (upd m' (Str.ofString "x") (.int x t))), (I, plP (its ++ [v]))], ⟨_, _, rfl, by simp [hl], ?_, (upd_ne (by decide)).trans d1, (upd_ne (by decide)).trans d2⟩, S6, hsr'.trans ⟨h6, tk6, rfl⟩⟩
      intro u hu
      rcases List.mem_append.mp hu with hu | hu
      · exact hit u hu
      · rw [List.mem_singleton.mp hu]; exact hv
    with_unfolding_all refine wpAny_execs_cons (wpAny_If ?_)
    refine (pe_test (pe_mod (by decide) px pe_int) pe_int pc_eq (by with_unfolding_all rfl)).use fun b tk6 hb => ?_
    subst hb
    by_cases hx : (x.fmod 6 == 5) = true
    · rw [if_pos hx]
      obtain ⟨c, hc, hr⟩ : ∃ c, (seqIndex? ((x.fdiv 6).fmod 3) (Str.ofString "abc").length).bind ((Str.ofString "abc").cps[·]?) = some c ∧ (decide ((x.fdiv 6).fmod 3 < -(2 ^ 63 : Int)) || decide ((x.fdiv 6).fmod 3 ≥ 2 ^ 63)) = false := by
        have h1 : 0 ≤ (x.fdiv 6).fmod 3 := Int.fmod_nonneg_of_pos _ (by decide)
        have h2 : (x.fdiv 6).fmod 3 < 3 := Int.fmod_lt_of_pos _ (by decide)
        have : (x.fdiv 6).fmod 3 = 0 ∨ (x.fdiv 6).fmod 3 = 1 ∨ (x.fdiv 6).fmod 3 = 2 := by omega
        rcases this with e | e | e <;> rw [e]
        · exact ⟨97, by decide +kernel⟩
        · exact ⟨98, by decide +kernel⟩
        · exact ⟨99, by decide +kernel⟩
      with_unfolding_all refine wpAny_execs_cons (st_append (i := 1) (S5 : Sat h₁ _ _) rfl (by omega) pit (pe_chr (x := Str.ofString "abc") pe_str (pe_mod (by decide) (pe_div (by decide) (by decide) px pe_int) pe_int) hr hc (fun _ _ => by with_unfolding_all rfl)) (fun v h6 tk7 hv S6 => ?_) (by rfl) (by rfl) (by rfl) (by rfl))
      refine wpAny_execs_nil (wpAny_execs_nil ?_)
      obtain ⟨u, rfl⟩ := hv
      exact fin _ h6 tk7 (.inr ⟨_, _, rfl⟩) S6
    · rw [if_neg hx]
      with_unfolding_all refine wpAny_execs_cons (st_append (i := 1) (S5 : Sat h₁ _ _) rfl (by omega) pit (pe_if (b := x.fmod 6 == 4) (R := isInt) (pe_test (pe_mod (by decide) px pe_int) pe_int pc_eq (by with_unfolding_all rfl)) (fun _ => (pe_mod (by decide) (pe_div (by decide) (by decide) px pe_int) pe_int).mono fun _ ⟨t, e⟩ => ⟨_, t, e⟩) (fun _ => (pe_div (by decide) (by decide) px pe_int).mono fun _ ⟨t, e⟩ => ⟨_, t, e⟩)) (fun v h6 tk7 hv S6 => ?_) (by rfl) (by rfl) (by rfl) (by rfl))
      refine wpAny_execs_nil (wpAny_execs_nil ?_)
      exact fin _ h6 tk7 (.inl hv) S6
  · rintro l s' ⟨m', its, rfl, hl, hit, d1, d2⟩ Sn hsr
    obtain ⟨h6, tk6, rfl⟩ := hsr
    exact hQ h₁ I its m' h6 tk6 k1 hD1 hl hit d1 d2 Sn
end
end Mine

end L1I
section L1J
set_option maxRecDepth 100000
open PySem PySem.W PyProof.Rows
namespace Mine

def forB : Stmt → List Stmt | .For _ _ b _ _ => b | _ => []
abbrev tnB : List Stmt := forB ((forB (lwB.getD 3 (.Pass default))).getD 0 (.Pass default))

theorem all_true (n : Nat) : ((List.range n).all fun _ => true) = true := by simp

section
variable {A : Around} {s : Shared}
/-- two lists of the very same values are equal, whether one or two -/
theorem eq_same_lists {a b : Addr} {xs : List Value} (h1 : s.heap.IsList a xs.toArray) (h2 : s.heap.IsList b xs.toArray) (hu : A.units < cLine) : SeqAt.EqAt A s (.ref a) (.ref b) true := by
  by_cases e : a = b
  · subst e; exact SeqAt.EqAt.same _
  · have := SeqAt.RcAt.lists (e := fun _ => true) h1 h2 rfl hu (fun j _ _ => SeqAt.EqAt.same _)
    rw [all_true] at this
    exact SeqAt.EqAt.of_refs e this
end

section
variable {prog : Program} {w : World} {A : Around} {E : Value → Shared → Prop} {s : Shared} {h₀ : Heap} {mg mb : Str → Option Value} {r : List Atom}

theorem lw_asks {L f fk fl H I : Addr} {cd : Value} {its : List Value} {m : Str → Option Value} {place st : Nat} {tp ts tw : Tok} {Q : Flow → Shared → Prop} (G : Glb h₀ mg mb) (hh : A.handled = none) (room : A.depth + 1 < recursionLimit) (hu : A.units + 2 < cLine)
    (hmk : mg lkN = some (.ref fk)) (fnk : FnAt h₀ lkN lkAr lkB lkSc fk) (hml : mg llN = some (.ref fl)) (fnl : FnAt h₀ llN llAr llB llSc fl)
    (lI : h₀.IsList I its.toArray) (hit : ∀ v ∈ its, IsItem v) (hlen : its.length ≤ 31) (hp : place < its.length) (hst : st < 33)
    (m1 : m (Str.ofString "items") = some (.ref I)) (m2 : m (Str.ofString "start") = some (.int st ts)) (m3 : m (Str.ofString "place") = some (.int place tp)) (m4 : m (Str.ofString "heap") = some (.ref H))
    (m5 : m (Str.ofString "words") = some (.str (words1 (its.getD place .none) (sift c1 st (its.getD place .none) its place).2) tw))
    (S : Sat h₀ s.heap ((L, nsP m) :: (H, lstP (sift c1 st (its.getD place .none) its place).1) :: r))
    (hQ : ∀ h' tk, Sat h₀ h' ((L, nsP m) :: r) → Q .next { s with heap := h', toks := tk }) :
    wpAny (model prog w) A (execs (tnB.drop 2) (envOfC lwN lwSc L f cd)) Q E s := by
  have hz2 : sizeLine = 2 ^ 24 := by rw [sizeLine_eq]
  have n1 : s.heap.Ns L m := S.ns (i := 0) rfl
  obtain ⟨o, pm, cdl, doc, ho, hd, hcd⟩ := fnl.it
  with_unfolding_all refine wpAny_execs_cons (wpAny_If (wpAny_isTrue_Compare1 ?_ (by with_unfolding_all rfl)))
  refine wpAny_Tuple (args_cons ((pe_local n1 m4 rfl rfl) _ _ _ rfl fun v tk hv => args_cons ((pe_local n1 m5 rfl rfl) _ _ _ rfl fun v2 tk2 hv2 => args_nil ⟨by simp; omega, ?_⟩) (by rfl)) (by rfl))
  cases hv; cases hv2
  have hk0 : ∀ b o, s.heap.get? b = some o → (s.heap.push { cls := .type "tuple", data := .seq [Value.ref H, .str (words1 (its.getD place .none) (sift c1 st (its.getD place .none) its place).2) tw].toArray }).get? b = some o := fun b o e => Heap.get?_push_of_some _ e
  have hT0 : (s.heap.push { cls := .type "tuple", data := .seq [Value.ref H, .str (words1 (its.getD place .none) (sift c1 st (its.getD place .none) its place).2) tw].toArray }).IsTuple s.heap.objs.size #[.ref H, .str (words1 (its.getD place .none) (sift c1 st (its.getD place .none) its place).2) tw] := ⟨_, Heap.get?_push_size _ rfl, rfl, _, rfl⟩
  have S1 := S.keeps hk0
  have n2 := n1.keeps hk0
  refine Call_ ((G.pf S1.keep hml rfl rfl rfl (by decide)).use fun fv tk hf => ?_) (by rfl)
  cases hf
  refine callWith_def hd (args_cons ((pe_local n2 m1 rfl rfl) _ _ _ rfl fun v tk hv => args_cons ((pe_local n2 m2 rfl rfl) _ _ _ rfl fun v2 tk2 hv2 => args_cons ((pe_local n2 m3 rfl rfl) _ _ _ rfl fun v3 tk3 hv3 => args_nil ⟨S1.keep _ _ ho, ?_⟩) (by rfl)) (by rfl)) (by rfl)) (by rfl)
  cases hv; cases hv2; cases hv3
  refine wpAny_call (law_left G hmk fnk fnl room hh S1.keep (lI.at fun o e => S1.keep I o e) hit hp (by omega) hst (by omega) fun W T h' tk4 tt hk4 hT hW => ?_)
  have S2 := S1.keeps hk4
  have hT1 := hT0.at fun o e => hk4 _ o e
  have hne := SeqAt.RcNeAt.tuples (A := A) (s := { s with heap := h', toks := tk4 }) (e := fun _ => true) hT1 hT (by omega) (fun j h1 h2 => by
    match j with
    | 0 => exact eq_same_lists (S2.list (i := 1) rfl) hW (by show A.units + 1 < cLine; omega)
    | 1 =>
      have := SeqAt.EqAt.str_str (A := A.in1) (s := { s with heap := h', toks := tk4 }) (words1 (its.getD place .none) (sift c1 st (its.getD place .none) its place).2) tw (words1 (its.getD place .none) (sift c1 st (its.getD place .none) its place).2) tt
      rw [beq_self_eq_true] at this
      exact this
    | j + 2 => exact absurd h1 (by simp))
  rw [all_true] at hne
  refine hne prog w E _ ?_
  refine wpAny_truthy_bool ?_
  rw [if_neg (by simp)]
  refine wpAny_execs_nil (wpAny_execs_nil ?_)
  exact hQ h' tk4 (S2.sub (.cons_cons _ (.cons _ (List.Sublist.refl _))))
end
end Mine

end L1J
section L1K
set_option maxRecDepth 100000
open PySem PySem.W PyProof.Rows
namespace Mine

theorem exc_TypeError : isSubtype (.type "TypeError") (.type "BaseException") = pure true := by rw [isSubtype_type]; kernel_rfl
theorem nt_TypeError : isSubtype (.type ((Manifest.find? "TypeError").elim "type" fun x => x.metatype)) (.type "tuple") = pure false := by
  rw [show ((Manifest.find? "TypeError").elim "type" fun x => x.metatype) = "type" from by kernel_rfl, isSubtype_type]; kernel_rfl
theorem sub_TypeError : isSubtype (.type "TypeError") (.type "TypeError") = pure true := by rw [isSubtype_type]; kernel_rfl
theorem exc_IndexError : isSubtype (.type "IndexError") (.type "BaseException") = pure true := by rw [isSubtype_type]; kernel_rfl
theorem nt_IndexError : isSubtype (.type ((Manifest.find? "IndexError").elim "type" fun x => x.metatype)) (.type "tuple") = pure false := by
  rw [show ((Manifest.find? "IndexError").elim "type" fun x => x.metatype) = "type" from by kernel_rfl, isSubtype_type]; kernel_rfl
theorem sub_IndexError : isSubtype (.type "IndexError") (.type "IndexError") = pure true := by rw [isSubtype_type]; kernel_rfl

section
variable {prog : Program} {w : World} {A : Around} {E : Value → Shared → Prop} {s : Shared} {h₀ : Heap} {mg mb : Str → Option Value} {r : List Atom}

theorem lw_turn {L f fs fk fl I : Addr} {cd : Value} {its : List Value} {m : Str → Option Value} {place st : Nat} {tp ts : Tok} {Q : Flow → Shared → Prop} (G : Glb h₀ mg mb) (hh : A.handled = none) (hfr : A.frames = some [envOfC lwN lwSc L f cd]) (room : A.depth + 1 < recursionLimit) (hu : A.units + 2 < cLine)
    (hms : mg sdN = some (.ref fs)) (fns : FnAt h₀ sdN sdAr sdB sdSc fs) (hmk : mg lkN = some (.ref fk)) (fnk : FnAt h₀ lkN lkAr lkB lkSc fk) (hml : mg llN = some (.ref fl)) (fnl : FnAt h₀ llN llAr llB llSc fl)
    (lI : h₀.IsList I its.toArray) (hit : ∀ v ∈ its, IsItem v) (hlen : its.length ≤ 31) (hp : place < its.length) (hst : st < 33)
    (m1 : m (Str.ofString "items") = some (.ref I)) (m2 : m (Str.ofString "start") = some (.int st ts)) (m3 : m (Str.ofString "place") = some (.int place tp))
    (S : Sat h₀ s.heap ((L, nsP m) :: r))
    (hQ : ∀ m' h' tk, (∀ x, x ≠ Str.ofString "heap" → x ≠ Str.ofString "words" → x ≠ Str.ofString "fault" → m' x = m x) → Sat h₀ h' ((L, nsP m') :: r) → Q .next { s with heap := h', toks := tk }) :
    wpAny (model prog w) A (execs tnB (envOfC lwN lwSc L f cd)) Q E s := by
  have hz2 : sizeLine = 2 ^ 24 := by rw [sizeLine_eq]
  have n1 : s.heap.Ns L m := S.ns (i := 0) rfl
  obtain ⟨o, pm, cds, doc, ho, hd, hcd⟩ := fns.it
  have hnew : its[place]? = some (its.getD place .none) := by rw [List.getD_eq_getElem?_getD, List.getElem?_eq_getElem hp]; rfl
  with_unfolding_all refine wpAny_execs_cons ?_
  with_unfolding_all refine wpAny_Assign_Name ?_ (by rfl)
  refine copy_list (G.pe S.keep (by decide) rfl rfl rfl rfl (by decide)) (pe_local n1 m1 rfl rfl) (lI.at fun o e => S.keep I o e) (by omega) S (fun H h1 tk1 S1 hk1 hH => ?_) (by rfl) (by rfl)
  refine st_local (i := 1) (S1 : Sat h₀ _ _) rfl rfl rfl fun h2 tk2 S2 => ?_
  have S3 : Sat h₀ h2 ((L, nsP (upd m (Str.ofString "heap") (.ref H))) :: (H, lstP its) :: r) := (S2.weaken (i := 0) (P' := lstP its) rfl fun o h => h.lst).perm (List.Perm.swap _ _ _)
  have n3 : h2.Ns L _ := S3.ns (i := 0) rfl
  dsimp only
  have ends : ∀ (m' : Str → Option Value) (tw : Tok) (h' : Heap) (tk : Nat), (∀ x, x ≠ Str.ofString "heap" → x ≠ Str.ofString "words" → x ≠ Str.ofString "fault" → m' x = m x) → m' (Str.ofString "heap") = some (.ref H) →
      m' (Str.ofString "words") = some (.str (words1 (its.getD place .none) (sift c1 st (its.getD place .none) its place).2) tw) → Sat h₀ h' ((L, nsP m') :: (H, lstP (sift c1 st (its.getD place .none) its place).1) :: r) →
      wpAny (model prog w) A (execs (tnB.drop 2) (envOfC lwN lwSc L f cd)) Q E { s with heap := h', toks := tk } := fun m' tw h' tk e1 e2 e3 S' =>
    lw_asks (s := { s with heap := h', toks := tk }) G hh room hu hmk fnk hml fnl lI hit hlen hp hst ((e1 _ (by decide) (by decide) (by decide)).trans m1) ((e1 _ (by decide) (by decide) (by decide)).trans m2) ((e1 _ (by decide) (by decide) (by decide)).trans m3) e2 e3 S'
      fun h'' tk'' S'' => hQ m' h'' tk'' e1 S''
  with_unfolding_all refine wpAny_execs_cons (wpAny_Try_except ?_)
  with_unfolding_all refine wpAny_execs_cons (wpAny_Assign_Name (wpAny_IfExp (wpAny_isTrue_Compare1 ?_ (by with_unfolding_all rfl))) (by rfl))
  refine Call_ ((G.pf S3.keep hms rfl rfl rfl (by decide)).use fun fv tk hf => ?_) (by rfl)
  cases hf
  refine callWith_def hd (args_cons ((pe_local n3 (upd_self _ _ _) rfl rfl) _ _ _ rfl fun v tk hv => args_cons ((pe_local n3 ((upd_ne (by decide)).trans m2) rfl rfl) _ _ _ rfl fun v2 tk2 hv2 => args_cons ((pe_local n3 ((upd_ne (by decide)).trans m3) rfl rfl) _ _ _ rfl fun v3 tk3 hv3 => args_nil ⟨S3.keep _ _ ho, ?_⟩) (by rfl)) (by rfl)) (by rfl)) (by rfl)
  cases hv; cases hv2; cases hv3
  refine wpAny_call (sift_call (c := c1) (msg := msg1) (new := its.getD place .none) S3 fns G.lim (by omega) hfr rfl rfl hnew (by omega) (fun A' hA' u hu' => cmp1 hA' (hit u hu') (hit _ (List.mem_of_getElem? hnew))) hh (fun h' tk4 hn S4 => ?_) (fun B h' tk4 e t u tt hn SB hBL hns hfl htup htB => ?_))
  · dsimp only
    refine PE.use pe_none fun v tk5 hv => ?_
    cases hv
    refine is_none_none (wpAny_truthy_bool ?_)
    rw [if_pos rfl]
    refine PE.use pe_str fun v tk6 hv => ?_
    obtain ⟨tw, rfl⟩ := hv
    refine st_local (i := 0) (S4 : Sat h₀ _ _) rfl rfl rfl fun h5 tk7 S5 => ?_
    refine wpAny_execs_nil (wpAny_execs_nil ?_)
    refine ends _ tw h5 tk7 (fun x h1 h2 h3 => (upd_ne h2).trans (upd_ne h1)) ((upd_ne (by decide)).trans (upd_self _ _ _)) ?_ S5
    rw [hn]; exact upd_self _ _ _
  · dsimp only
    refine caught_as (s := { s with heap := h', toks := tk4 }) (X := "TypeError") (T := "TypeError") hfr rfl rfl rfl rfl exc_TypeError nt_TypeError sub_TypeError SB hBL (S.new (i := 0) rfl) hns hfl htup (fun h hk => G.pe hk (by decide) rfl rfl rfl rfl (by decide)) fun h5 tk5 S5 hx5 ht5 => ?_
    have n5 : h5.Ns L _ := S5.ns (i := 0) rfl
    with_unfolding_all refine wpAny_execs_cons (wpAny_Assign_Name ?_ (by rfl))
    refine Call_ ((G.pe (v := .type "str") S5.keep (by decide) rfl rfl rfl rfl (by decide)).use fun fv tk hf => ?_) (by rfl)
    cases hf
    refine callWith_type1 (args_cons ((pe_local n5 (upd_self _ _ _) rfl rfl) _ _ _ rfl fun v tk6 hv => args_nil ?_) (by rfl)) (by rfl) (by rfl)
    cases hv
    refine P.str_of_exc_one (A := A.mark (some (.ref e))) (s := { s with heap := h5, toks := tk6 }) F.excStr_TypeError hu hx5 ht5 ?_
    refine st_local (i := 0) (S5 : Sat h₀ _ _) rfl rfl rfl fun h6 tk7 S6 => ?_
    refine wpAny_execs_nil ?_
    refine name_goes (i := 0) (S6 : Sat h₀ _ _) rfl rfl rfl fun h7 tk8 m7 hm7 S7 => ?_
    refine ends m7 tt h7 tk8 (fun x h1 h2 h3 => (hm7 x h3).trans ((upd_ne h2).trans ((upd_ne h3).trans (upd_ne h1)))) ((hm7 _ (by decide)).trans ((upd_ne (by decide)).trans ((upd_ne (by decide)).trans (upd_self _ _ _)))) ?_ S7
    rw [hn]
    exact (hm7 _ (by decide)).trans (upd_self _ _ _)
end
end Mine

end L1K
section L1L
set_option maxRecDepth 100000
open PySem PySem.W PyProof.Rows
namespace Mine

theorem FnAt.keeps {h₀ h₁ : Heap} {name : Str} {params : Arguments} {body : List Stmt} {scope : Scope} {f : Addr} (fn : FnAt h₀ name params body scope f) (hk : ∀ b o, h₀.get? b = some o → h₁.get? b = some o) : FnAt h₁ name params body scope f := by
  obtain ⟨o, pm, cd, doc, ho, hd, hcd⟩ := fn.it
  exact ⟨o, pm, cd, doc, hk _ _ ho, hd, hcd.keeps hk⟩

section
variable {prog : Program} {w : World} {A : Around} {E : Value → Shared → Prop} {s : Shared} {h₀ : Heap} {mg mb : Str → Option Value}

/-- behind the last place -/
theorem lw_end {L f fs I : Addr} {cd : Value} {its : List Value} {m : Str → Option Value} {Q : Flow → Shared → Prop} (G : Glb h₀ mg mb) (hh : A.handled = none) (hfr : A.frames = some [envOfC lwN lwSc L f cd]) (room : A.depth + 1 < recursionLimit) (hu : A.units + 2 < cLine)
    (hms : mg sdN = some (.ref fs)) (fns : FnAt h₀ sdN sdAr sdB sdSc fs) (lI : h₀.IsList I its.toArray) (hlen : its.length ≤ 31) (m1 : m (Str.ofString "items") = some (.ref I))
    (S : Sat h₀ s.heap [(L, nsP m)])
    (hQ : ∀ h' tk m', (∀ b o, h₀.get? b = some o → h'.get? b = some o) → h'.Ns L m' → Q (.ret (.bool true)) { s with heap := h', toks := tk }) :
    wpAny (model prog w) A (execs (lwB.drop 4) (envOfC lwN lwSc L f cd)) Q E s := by
  have hz2 : sizeLine = 2 ^ 24 := by rw [sizeLine_eq]
  have n1 : s.heap.Ns L m := S.ns (i := 0) rfl
  obtain ⟨o, pm, cds, doc, ho, hd, hcd⟩ := fns.it
  with_unfolding_all refine wpAny_execs_cons ?_
  with_unfolding_all refine wpAny_Assign_Name ?_ (by rfl)
  refine copy_list (G.pe S.keep (by decide) rfl rfl rfl rfl (by decide)) (pe_local n1 m1 rfl rfl) (lI.at fun o e => S.keep I o e) (by omega) S (fun H h1 tk1 S1 hk1 hH => ?_) (by rfl) (by rfl)
  refine st_local (i := 1) (S1 : Sat h₀ _ _) rfl rfl rfl fun h2 tk2 S2 => ?_
  have S3 : Sat h₀ h2 ((L, nsP (upd m (Str.ofString "heap") (.ref H))) :: (H, lstP its) :: []) := (S2.weaken (i := 0) (P' := lstP its) rfl fun o h => h.lst).perm (List.Perm.swap _ _ _)
  have n3 : h2.Ns L _ := S3.ns (i := 0) rfl
  dsimp only
  with_unfolding_all refine wpAny_execs_cons (wpAny_Try_except ?_)
  with_unfolding_all refine wpAny_execs_cons (wpAny_Expr_any ?_ (by rfl) (by rfl))
  refine Call_ ((G.pf S3.keep hms rfl rfl rfl (by decide)).use fun fv tk hf => ?_) (by rfl)
  cases hf
  refine callWith_def hd (args_cons ((pe_local n3 (upd_self _ _ _) rfl rfl) _ _ _ rfl fun v tk hv => args_cons ((pe_int (i := 0)) _ _ _ rfl fun v2 tk2 hv2 => args_cons ((pe_len (xs := its) (G.pe S3.keep (by decide) rfl rfl rfl rfl (by decide)) (pe_local n3 (upd_self _ _ _) rfl rfl) (S3.list (i := 1) rfl) (by omega) (by rfl) (by rfl)) _ _ _ rfl fun v3 tk3 hv3 => args_nil ⟨S3.keep _ _ ho, ?_⟩) (by rfl)) (by rfl)) (by rfl)) (by rfl)
  cases hv
  obtain ⟨t2, rfl⟩ := hv2
  obtain ⟨t3, rfl⟩ := hv3
  refine wpAny_call (sift_out (st := 0) S3 fns G.lim (by omega) hfr rfl rfl (Nat.le_refl _) (by omega) hh (fun B h' tk4 e t tt SB hBL hns hfl htup htB => ?_))
  refine caught_as (s := { s with heap := h', toks := tk4 }) (X := "IndexError") (T := "IndexError") hfr rfl rfl rfl rfl exc_IndexError nt_IndexError sub_IndexError SB hBL (S.new (i := 0) rfl) hns hfl htup (fun h hk => G.pe hk (by decide) rfl rfl rfl rfl (by decide)) fun h5 tk5 S5 hx5 ht5 => ?_
  have n5 : h5.Ns L _ := S5.ns (i := 0) rfl
  with_unfolding_all refine wpAny_execs_cons (wpAny_Return_some (BoolOp_and (wpAny_Compare1 ?_ (by with_unfolding_all rfl))))
  refine Call_ ((G.pe (v := .type "str") S5.keep (by decide) rfl rfl rfl rfl (by decide)).use fun fv tk hf => ?_) (by rfl)
  cases hf
  refine callWith_type1 (args_cons ((pe_local n5 (upd_self _ _ _) rfl rfl) _ _ _ rfl fun v tk6 hv => args_nil ?_) (by rfl)) (by rfl) (by rfl)
  cases hv
  refine P.str_of_exc_one (A := A.mark (some (.ref e))) (s := { s with heap := h5, toks := tk6 }) F.excStr_IndexError hu hx5 ht5 ?_
  refine PE.use pe_str fun v tk7 hv => ?_
  obtain ⟨t7, rfl⟩ := hv
  refine PyProof.Rows.eq_str (wpAny_truthy_bool ?_)
  rw [if_pos (by decide +kernel)]
  refine BoolOp_one (wpAny_Compare1 ?_ (by with_unfolding_all rfl))
  refine PE.use (pe_local n5 ((upd_ne (by decide)).trans (upd_self _ _ _)) rfl rfl) fun v tk8 hv => ?_
  cases hv
  refine PE.use (pe_local n5 ((upd_ne (by decide)).trans ((upd_ne (by decide)).trans m1)) rfl rfl) fun v tk9 hv => ?_
  cases hv
  have hu' : A.units < cLine := by omega
  refine SeqAt.eq_listAt (A := A.mark (some (.ref e))) (s := { s with heap := h5, toks := tk9 }) (e := fun _ => true) (S5.list (i := 1) rfl) (lI.at fun o e => S5.keep I o e) rfl hu' (fun j _ _ => SeqAt.EqAt.same _) ?_
  rw [all_true]
  refine name_goes (i := 0) (S5 : Sat h₀ _ _) rfl rfl rfl fun h7 tk8 m7 hm7 S7 => ?_
  exact hQ h7 tk8 m7 S7.keep (S7.ns (i := 0) rfl)
end
end Mine

end L1L
section L1M
set_option maxRecDepth 100000
open PySem PySem.W PyProof.Rows
namespace Mine

section
variable {prog : Program} {w : World} {A : Around} {E : Value → Shared → Prop} {s : Shared} {h₀ : Heap} {mg mb : Str → Option Value}

theorem lw_main {L f fs fk fl D I : Addr} {cd : Value} {ys its : List Value} {m : Str → Option Value} {Q : Flow → Shared → Prop} (G : Glb h₀ mg mb) (hh : A.handled = none) (hfr : A.frames = some [envOfC lwN lwSc L f cd]) (room : A.depth + 1 < recursionLimit) (hu : A.units + 2 < cLine)
    (hE : PassesOwn (model prog w) A (envOfC lwN lwSc L f cd) E)
    (hms : mg sdN = some (.ref fs)) (fns : FnAt h₀ sdN sdAr sdB sdSc fs) (hmk : mg lkN = some (.ref fk)) (fnk : FnAt h₀ lkN lkAr lkB lkSc fk) (hml : mg llN = some (.ref fl)) (fnl : FnAt h₀ llN llAr llB llSc fl)
    (lI : h₀.IsList I its.toArray) (lD : h₀.IsList D ys.toArray) (hy : ∀ v ∈ ys, isInt v) (hit : ∀ v ∈ its, IsItem v) (hlen : its.length ≤ 31) (hyl : its.length = ys.length)
    (m1 : m (Str.ofString "items") = some (.ref I)) (m2 : m (Str.ofString "drawn") = some (.ref D))
    (S : Sat h₀ s.heap [(L, nsP m)])
    (hQ : ∀ h' tk m', (∀ b o, h₀.get? b = some o → h'.get? b = some o) → h'.Ns L m' → Q (.ret (.bool true)) { s with heap := h', toks := tk }) :
    wpAny (model prog w) A (execs (lwB.drop 3) (envOfC lwN lwSc L f cd)) Q E s := by
  have hz2 : sizeLine = 2 ^ 24 := by rw [sizeLine_eq]
  have n1 : s.heap.Ns L m := S.ns (i := 0) rfl
  have hDL : D ∉ [(L, nsP m)].map (·.1) := fun hm => by
    obtain ⟨o, ho, _⟩ := lD
    have := S.new (i := 0) rfl
    rw [List.map_cons, List.map_nil, List.mem_singleton] at hm
    rw [hm] at ho
    rw [show h₀.get? L = none from this] at ho; cases ho
  with_unfolding_all refine wpAny_execs_cons ?_
  with_unfolding_all refine for_enum (h₀ := h₀) (a := D) (xs := ys) (l₀ := [(L, nsP m)]) hE hh (G.pe S.keep (by decide) rfl rfl rfl rfl (by decide)) (pe_local n1 m2 rfl rfl) (lD.at fun o e => S.keep D o e) S hDL (fun h₁ k1 k2 => ?_) (by rfl) (by rfl) (fun _ => by rfl)
  refine ⟨fun i l => ∃ m', l = [(L, nsP m')] ∧ m' (Str.ofString "items") = some (.ref I), ⟨m, rfl, m1⟩, ?_, ?_⟩
  · rintro s₂ i v t T l r s' hsr hv ⟨m', rfl, e1⟩ hsr' hT Sr
    have hi31 : i < ys.length := (List.getElem?_eq_some_iff.mp hv).1
    obtain ⟨x, tx, rfl⟩ := hy v (List.mem_of_getElem? hv)
    refine assign_two (i := 0) hh hT Sr rfl rfl rfl rfl fun h5 tk5 S5 => ?_
    have n5 : h5.Ns L _ := S5.ns (i := 0) rfl
    have hx0 : 0 ≤ x.fmod ((i : Int) + 2) := Int.fmod_nonneg_of_pos _ (by omega)
    have hx1 : x.fmod ((i : Int) + 2) < (i : Int) + 2 := Int.fmod_lt_of_pos _ (by omega)
    obtain ⟨sx, hsx⟩ := Int.eq_ofNat_of_zero_le hx0
    have hsx' : sx < 33 := by omega
    with_unfolding_all refine wpAny_execs_cons ?_
    with_unfolding_all refine for_list (h₀ := h₁) hE hh ?_ (fun _ _ => by rfl) (fun _ => by rfl)
    refine wpAny_List (args_cons ((pe_int (i := 0)) _ _ _ rfl fun v1 tk1 hv1 => args_cons ((pe_mod (by omega) ((pe_local n5 (upd_self _ _ _) rfl rfl).mono fun _ e => (⟨tx, e⟩ : isI x _)) (pe_add ((pe_local n5 ((upd_ne (by decide)).trans (upd_self _ _ _)) rfl rfl).mono fun _ e => (⟨t, e⟩ : isI (i : Int) _)) pe_int)) _ _ _ rfl fun v2 tk2 hv2 => args_nil ⟨by simp; omega, ?_⟩) (by rfl)) (by rfl))
    obtain ⟨t1, rfl⟩ := hv1
    obtain ⟨t2, rfl⟩ := hv2
    rw [hsx]
    have S6 := S5.push (o := { cls := .type "list", data := .seq [Value.int 0 t1, .int ((sx : Nat) : Int) t2].toArray }) (P := plP [Value.int 0 t1, .int ((sx : Nat) : Int) t2]) ⟨0, rfl⟩
    refine ⟨h5.objs.size, [Value.int 0 t1, .int ((sx : Nat) : Int) t2], _, rfl, S6.plist (i := 0) rfl, S6.tail, (List.nodup_cons.mp S6.nd).1, fun h₃ k3 k4 => ?_⟩
    have hvs : ∀ (j : Nat) v, [Value.int 0 t1, .int ((sx : Nat) : Int) t2][j]? = some v → ∃ st : Nat, ∃ ts, st < 33 ∧ v = .int (st : Int) ts := by
      intro j v hj
      match j with
      | 0 => exact ⟨0, t1, by omega, by simpa using hj.symm⟩
      | 1 => exact ⟨sx, t2, hsx', by simpa using hj.symm⟩
      | j + 2 => simp at hj
    refine ⟨fun j l => ∃ m'', l = (L, nsP m'') :: r ∧ m'' (Str.ofString "items") = some (.ref I) ∧ m'' (Str.ofString "place") = some (.int (i : Int) t), ⟨_, rfl, (upd_ne (by decide)).trans ((upd_ne (by decide)).trans e1), (upd_ne (by decide)).trans (upd_self _ _ _)⟩, ?_, ?_⟩
    · rintro s₅ j v l r' s₆ hsr5 hv ⟨m'', rfl, g1, g2⟩ hsr6 S7
      obtain ⟨st, ts, hst, rfl⟩ := hvs j v hv
      refine wpAny_assign_Name (st_local (i := 0) S7 rfl rfl rfl fun h8 tk8 S8 => ?_)
      have kb : ∀ b o, h₀.get? b = some o → h₃.get? b = some o := fun b o e => k3 b o (k1 b o e)
      with_unfolding_all refine lw_turn (r := r ++ r') (its := its) (place := i) (st := st) (G.keeps kb) hh hfr room hu hms (fns.keeps kb) hmk (fnk.keeps kb) hml (fnl.keeps kb) (lI.at fun o e => kb I o e) hit hlen (by omega) hst ((upd_ne (by decide)).trans g1) (upd_self _ _ _) ((upd_ne (by decide)).trans g2) S8 fun m8 h9 tk9 hm8 S9 => ?_
      exact ⟨(L, nsP m8) :: r, ⟨m8, rfl, (hm8 _ (by decide) (by decide) (by decide)).trans ((upd_ne (by decide)).trans g1), (hm8 _ (by decide) (by decide) (by decide)).trans ((upd_ne (by decide)).trans g2)⟩, S9, hsr6.trans ⟨h9, tk9, rfl⟩⟩
    · rintro l s₆ ⟨m'', rfl, g1, g2⟩ S7 hsr6
      refine wpAny_execs_nil ?_
      have hsr7 : SR s' s₆ := SR.trans ⟨_, _, rfl⟩ hsr6
      exact ⟨[(L, nsP m'')], ⟨m'', rfl, g1⟩, S7.base k3, hsr'.trans hsr7⟩
  · rintro l s' ⟨m', rfl, e1⟩ Sn hsr
    obtain ⟨h6, tk6, rfl⟩ := hsr
    exact lw_end (s := { s with heap := h6, toks := tk6 }) (G.keeps k1) hh hfr room hu hms (fns.keeps k1) (lI.at fun o e => k1 I o e) hlen e1 Sn fun h' tk m'' hk hn => hQ h' tk m'' (fun b o e => hk b o (k1 b o e)) hn

theorem lw_body {L f fs fk fl aS : Addr} {cd : Value} {vals : List Value} {m : Str → Option Value} {Q : Flow → Shared → Prop} (G : Glb h₀ mg mb) (hh : A.handled = none) (hfr : A.frames = some [envOfC lwN lwSc L f cd]) (room : A.depth + 1 < recursionLimit) (hu : A.units + 2 < cLine)
    (hms : mg sdN = some (.ref fs)) (fns : FnAt h₀ sdN sdAr sdB sdSc fs) (hmk : mg lkN = some (.ref fk)) (fnk : FnAt h₀ lkN lkAr lkB lkSc fk) (hml : mg llN = some (.ref fl)) (fnl : FnAt h₀ llN llAr llB llSc fl)
    (cS : h₀.IsCell (L + 1) (some (.ref aS))) (lS : h₀.IsList aS vals.toArray) (hi : ∀ v ∈ vals, isInt v) (hlen : vals.length ≤ 63)
    (S : Sat h₀ s.heap [(L, nsP m)])
    (hQ : ∀ h' tk m', (∀ b o, h₀.get? b = some o → h'.get? b = some o) → h'.Ns L m' → Q (.ret (.bool true)) { s with heap := h', toks := tk }) :
    wpAny (model prog w) A (execs lwB (envOfC lwN lwSc L f cd)) Q (fun _ _ => False) s := by
  refine lw_drawn G hh cS lS hi hlen S fun D ys h1 tk1 hys hyl hy7 S1 => ?_
  refine lw_items (s := { s with heap := h1, toks := tk1 }) hh PassesOwn.never hys hyl (upd_self _ _ _) S1 fun h₁ I its m' h2 tk2 k1 lD hl hit e1 e2 S2 => ?_
  obtain ⟨h₂, k3, k4, S3⟩ := (S2.left (l := [(L, nsP m')]) (l' := [(I, plP its)])).rebase
  have kb : ∀ b o, h₀.get? b = some o → h₂.get? b = some o := fun b o e => k3 b o (k1 b o e)
  have lI : h₂.IsList I its.toArray := (S2.plist (i := 1) rfl).at fun o e => k4 I o (by
    have := S2.ne_at (i := 1) (j := 0) rfl rfl (by decide)
    simp only [List.map_cons, List.map_nil, List.mem_singleton]
    exact this) e
  exact lw_main (s := { s with heap := h2, toks := tk2 }) (G.keeps kb) hh hfr room hu PassesOwn.never hms (fns.keeps kb) hmk (fnk.keeps kb) hml (fnl.keeps kb) lI (lD.at fun o e => k3 D o e) hys hit (by omega) hl e2 e1 S3 fun h' tk m'' hk hn => hQ h' tk m'' (fun b o e => hk b o (kb b o e)) hn
end
end Mine

end L1M
section L1N
set_option maxRecDepth 100000
open PySem PySem.W PyProof.Rows
namespace Mine

structure Defd (h : Heap) (mg : Str → Option Value) (name : Str) (params : Arguments) (body : List Stmt) (scope : Scope) : Prop where
  it : ∃ f, mg name = some (.ref f) ∧ FnAt h name params body scope f

theorem ints_isInt : ∀ {vs : List Value} {ns : List Int}, IntsAre vs ns → (∀ v ∈ vs, isInt v) ∧ vs.length = ns.length
  | _, _, .nil => ⟨(fun _ h => nomatch h), rfl⟩
  | _, _, .cons k t r => ⟨(fun v hv => by
      rcases List.mem_cons.mp hv with rfl | hv
      · exact ⟨_, _, rfl⟩
      · exact (ints_isInt r).1 v hv), by simp [(ints_isInt r).2]⟩

theorem law1_go {prog : Program} {w : World} {mg mb : Str → Option Value} {s₁ : Shared} {h₁ : Heap} {tk : Nat} {a aS : Addr} {cd : Value} {cell : Obj} {m : Str → Option Value} {vals : List Value} {ns : List Int} {Q : Flow → Shared → Prop} {E : Value → Shared → Prop}
    (G : Glb s₁.heap mg mb) (ds : Defd s₁.heap mg sdN sdAr sdB sdSc) (dk : Defd s₁.heap mg lkN lkAr lkB lkSc) (dl : Defd s₁.heap mg llN llAr llB llSc)
    (F : Fr s₁.heap s₁.heap.objs.size h₁ m) (N : News s₁.heap s₁.heap.objs.size h₁ [(s₁.heap.objs.size + 1, cell)]) (hc : cell.data = .cell (some (.ref aS))) (hL : s₁.heap.IsList aS vals.toArray) (hI : IntsAre vals ns) (hlen : ¬ 63 < ns.length)
    (hQ : ∀ h' tk m', Fr s₁.heap s₁.heap.objs.size h' m' → Q (.ret (.bool true)) { s₁ with heap := h', toks := tk }) :
    wpAny (model prog w) (callerA.deeper (envOfC lwN lwSc s₁.heap.objs.size a cd)) (execs lwB (envOfC lwN lwSc s₁.heap.objs.size a cd)) Q E { s₁ with heap := h₁, toks := tk } := by
  obtain ⟨fs, hms, fns⟩ := ds.it
  obtain ⟨fk, hmk, fnk⟩ := dk.it
  obtain ⟨fl, hml, fnl⟩ := dl.it
  obtain ⟨hv, hvl⟩ := ints_isInt hI
  have S0 : Sat s₁.heap h₁ [(s₁.heap.objs.size, nsP m)] := by
    obtain ⟨o0, es, ep, g1, g2, g3, g4⟩ := F.ns
    exact (Sat.nil F.keep).cons g1 ⟨es, ep, g2, g3, g4⟩ (Heap.get?_none_of_le (Nat.le_refl _)) fun _ h => nomatch h
  obtain ⟨h₂, k1, k2, S1⟩ := S0.rebase
  have cS : h₂.IsCell (s₁.heap.objs.size + 1) (some (.ref aS)) := ⟨cell, k2 _ _ (by simp) (N.get (.head _)), hc⟩
  refine wpAny_mono (lw_body (s := { s₁ with heap := h₁, toks := tk }) (G.keeps k1) rfl (Around.frames_deeper rfl) (by show callerA.depth + 1 + 1 < recursionLimit; decide) (by units_room) hms (fns.keeps k1) hmk (fnk.keeps k1) hml (fnl.keeps k1) cS (hL.at fun o e => k1 aS o e) hv (by omega) S1 fun h' tk' m' hk hn => ?_) (fun _ _ x => x) fun _ _ x => x.elim
  exact hQ h' tk' m' ⟨hn, fun b o e => hk b o (k1 b o e), Nat.le_refl _⟩
end Mine

end L1N
open PySem PySem.W PyProof.Rows
set_option maxRecDepth 100000 in
set_option maxHeartbeats 8000000 in
theorem PySem.Challenge.cw_dp0033_01_holds : PySem.Challenge.rw_dp0033_01.Holds := by
  w_on
  o_law
  k_head
  case hw => w_witness2
  w_strict (
    k_go0
    rename Top _ _ _ _ _ _ => lT
    rename Fr _ _ _ _ => lF
    rename News _ _ _ _ => lN
    rename Heap.IsList _ _ _ => lL
    rename IntsAre _ _ => lI
    rename _ = Data.cell _ => lC
    have lG := Mine.Glb.mk lT.g lT.b lT.nolimit (by
      intro x hx
      simp only [Mine.bis, List.mem_cons, List.not_mem_nil, or_false] at hx
      rcases hx with rfl | rfl | rfl | rfl | rfl | rfl | rfl | rfl | rfl | rfl | rfl | rfl | rfl <;>
        exact ⟨lT.free _ (by decide +kernel) (by decide +kernel) (by decide +kernel) (by decide +kernel) (by decide +kernel), (lT.builtins _ (by decide +kernel)).trans (by decide +kernel)⟩)
    have dS : Mine.Defd _ _ Mine.sdN Mine.sdAr Mine.sdB Mine.sdSc := ⟨by
      obtain ⟨f, o, pm, cd, doc, e1, e2, e3, e4⟩ := lT.fn _ (List.getElem_mem (n := 0) (by decide +kernel))
      with_unfolding_all exact ⟨f, e1, ⟨o, pm, cd, doc, e2, e3, e4⟩⟩⟩
    have dK : Mine.Defd _ _ Mine.lkN Mine.lkAr Mine.lkB Mine.lkSc := ⟨by
      obtain ⟨f, o, pm, cd, doc, e1, e2, e3, e4⟩ := lT.fn _ (List.getElem_mem (n := 1) (by decide +kernel))
      with_unfolding_all exact ⟨f, e1, ⟨o, pm, cd, doc, e2, e3, e4⟩⟩⟩
    have dL : Mine.Defd _ _ Mine.llN Mine.llAr Mine.llB Mine.llSc := ⟨by
      obtain ⟨f, o, pm, cd, doc, e1, e2, e3, e4⟩ := lT.fn _ (List.getElem_mem (n := 2) (by decide +kernel))
      with_unfolding_all exact ⟨f, e1, ⟨o, pm, cd, doc, e2, e3, e4⟩⟩⟩
    with_unfolding_all refine Mine.law1_go lG dS dK dL lF lN lC lL lI (by omega) fun h' tk' m' F' => ?_
    dsimp only
    rename _ = #[] => lg
    refine goodW_bool F' lg (raisesW_false ?_) ?_
    · wrow_none_raised
    · kc_post)

