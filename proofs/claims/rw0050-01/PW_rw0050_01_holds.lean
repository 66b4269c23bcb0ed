import PyProof.Rows.All
import Wide.All
import OpenK.AllK
import Wide.FinOn
import PySem.Challenge.RW_rw0050_01
open PySem PySem.W PySem.Calls PyProof.Rows
set_option Elab.async false
set_option linter.unusedVariables false
set_option maxRecDepth 100000
namespace Mine
/-! ## data -/
inductive D where
  | none | bool (b : Bool) | int (i : Int) | str (s : PySem.Str) | list (xs : List D) | tup (xs : List D)
mutual
inductive Rd (P : Addr → Prop) (h : Heap) : Value → D → Prop
  | none : Rd P h .none .none
  | bool (b) : Rd P h (.bool b) (.bool b)
  | int (i t) : Rd P h (.int i t) (.int i)
  | str (s t) : Rd P h (.str s t) (.str s)
  | list {a n vs xs} : P a → IsL h a vs n → RdL P h vs.toList xs → Rd P h (.ref a) (.list xs)
  | tup {a n vs xs} : IsT h a vs n → RdL P h vs.toList xs → Rd P h (.ref a) (.tup xs)
inductive RdL (P : Addr → Prop) (h : Heap) : List Value → List D → Prop
  | nil : RdL P h [] []
  | cons {v vs d ds} : Rd P h v d → RdL P h vs ds → RdL P h (v :: vs) (d :: ds)
end
noncomputable abbrev Ext (h h' : Heap) : Prop := ∀ b o, h.get? b = some o → h'.get? b = some o
noncomputable def LK (P : Addr → Prop) (h h' : Heap) : Prop := (∀ a vs n, IsL h a vs n → P a → IsL h' a vs n) ∧ ∀ a vs n, IsT h a vs n → IsT h' a vs n
theorem LK.of_ext {P : Addr → Prop} {h h' : Heap} (x : Ext h h') : LK P h h' := ⟨fun a vs n e _ => x _ _ e, fun a vs n e => x _ _ e⟩
theorem LK.trans {P : Addr → Prop} {h h' h'' : Heap} (x : LK P h h') (y : LK P h' h'') : LK P h h'' := ⟨fun a vs n e p => y.1 a vs n (x.1 a vs n e p) p, fun a vs n e => y.2 a vs n (x.2 a vs n e)⟩
/-- an object that is no list and no tuple -/
noncomputable def NoSeq (o : Obj) : Prop := (∃ es ep, o.data = .dict es ep) ∨ (∃ v, o.data = .cell v) ∨ ∃ fs, o.data = .fields fs
theorem LK.of_but {P : Addr → Prop} {h h' : Heap} {N : Addr → Prop} (k : ∀ b o, ¬ N b → h.get? b = some o → h'.get? b = some o) (hn : ∀ b o, N b → h.get? b = some o → NoSeq o) : LK P h h' := by
  have key : ∀ b o, h.get? b = some o → (∃ vs n, o.data = .seq vs n) → h'.get? b = some o := fun b o e ⟨vs, n, q⟩ => k b o (fun hb => by
    rcases hn b o hb e with ⟨_, _, z⟩ | ⟨_, z⟩ | ⟨_, z⟩ <;> rw [q] at z <;> cases z) e
  exact ⟨fun a vs n e _ => key _ _ e ⟨vs, n, rfl⟩, fun a vs n e => key _ _ e ⟨vs, n, rfl⟩⟩
theorem Rd.keep {P P' : Addr → Prop} {h h' : Heap} (hP : ∀ b, P b → P' b) (k : LK P h h') {v : Value} {d : D} (r : Rd P h v d) : Rd P' h' v d := by
  refine Rd.rec (motive_1 := fun v d _ => Rd P' h' v d) (motive_2 := fun vs ds _ => RdL P' h' vs ds) .none .bool .int .str ?_ ?_ .nil ?_ r
  · intro a n vs xs p e _ ih; exact .list (hP _ p) (k.1 _ _ _ e p) ih
  · intro a n vs xs e _ ih; exact .tup (k.2 _ _ _ e) ih
  · intro v vs d ds _ _ i1 i2; exact .cons i1 i2
theorem RdL.keep {P P' : Addr → Prop} {h h' : Heap} (hP : ∀ b, P b → P' b) (k : LK P h h') : ∀ {vs : List Value} {ds : List D}, RdL P h vs ds → RdL P' h' vs ds
  | _, _, .nil => .nil
  | _, _, .cons r1 r2 => .cons (r1.keep hP k) (RdL.keep hP k r2)
noncomputable abbrev TP : Addr → Prop := fun _ => True
theorem Rd.up {P : Addr → Prop} {h h' : Heap} {v : Value} {d : D} (x : Ext h h') (r : Rd P h v d) : Rd P h' v d := r.keep (fun _ h => h) (.of_ext x)
theorem RdL.up {P : Addr → Prop} {h h' : Heap} {vs : List Value} {ds : List D} (x : Ext h h') (r : RdL P h vs ds) : RdL P h' vs ds := r.keep (fun _ h => h) (.of_ext x)
theorem RdL.length {P : Addr → Prop} {h : Heap} : ∀ {vs : List Value} {ds : List D}, RdL P h vs ds → vs.length = ds.length
  | _, _, .nil => rfl
  | _, _, .cons _ r => by simp [RdL.length r]
theorem RdL.get {P : Addr → Prop} {h : Heap} : ∀ {vs : List Value} {ds : List D}, RdL P h vs ds → ∀ {i : Nat} {d : D}, ds[i]? = some d → ∃ v, vs[i]? = some v ∧ Rd P h v d
  | _, _, .nil, _, _, e => by simp at e
  | _, _, .cons r _, 0, _, e => by simp at e; subst e; exact ⟨_, rfl, r⟩
  | _, _, .cons _ r, i + 1, _, e => by simp at e; obtain ⟨v, hv, hr⟩ := RdL.get r e; exact ⟨v, by simpa using hv, hr⟩
theorem RdL.getV {P : Addr → Prop} {h : Heap} : ∀ {vs : List Value} {ds : List D}, RdL P h vs ds → ∀ {i : Nat} {v : Value}, vs[i]? = some v → ∃ d, ds[i]? = some d ∧ Rd P h v d
  | _, _, .nil, _, _, e => by simp at e
  | _, _, .cons r _, 0, _, e => by simp at e; subst e; exact ⟨_, rfl, r⟩
  | _, _, .cons _ r, i + 1, _, e => by simp at e; obtain ⟨v, hv, hr⟩ := RdL.getV r e; exact ⟨v, by simpa using hv, hr⟩
theorem RdL.append {P : Addr → Prop} {h : Heap} : ∀ {vs vs' : List Value} {ds ds' : List D}, RdL P h vs ds → RdL P h vs' ds' → RdL P h (vs ++ vs') (ds ++ ds')
  | _, _, _, _, .nil, y => y
  | _, _, _, _, .cons r x, y => .cons r (RdL.append x y)
theorem RdL.take {P : Addr → Prop} {h : Heap} : ∀ {vs : List Value} {ds : List D} (n : Nat), RdL P h vs ds → RdL P h (vs.take n) (ds.take n)
  | _, _, 0, _ => by simpa using .nil
  | _, _, _ + 1, .nil => by simpa using .nil
  | _, _, n + 1, .cons r x => by simpa using .cons r (RdL.take n x)
theorem RdL.drop {P : Addr → Prop} {h : Heap} : ∀ {vs : List Value} {ds : List D} (n : Nat), RdL P h vs ds → RdL P h (vs.drop n) (ds.drop n)
  | _, _, 0, x => by simpa using x
  | _, _, _ + 1, .nil => by simpa using .nil
  | _, _, n + 1, .cons _ x => by simpa using RdL.drop n x
theorem RdL.reverse {P : Addr → Prop} {h : Heap} : ∀ {vs : List Value} {ds : List D}, RdL P h vs ds → RdL P h vs.reverse ds.reverse
  | _, _, .nil => by simpa using .nil
  | _, _, .cons r x => by simpa using RdL.append (RdL.reverse x) (.cons r .nil)
theorem RdL.set {P : Addr → Prop} {h : Heap} {v : Value} {d : D} (r : Rd P h v d) : ∀ {vs : List Value} {ds : List D} (n : Nat), RdL P h vs ds → RdL P h (vs.set n v) (ds.set n d)
  | _, _, _, .nil => by simpa using .nil
  | _, _, 0, .cons _ x => by simpa using .cons r x
  | _, _, n + 1, .cons r' x => by simpa using .cons r' (RdL.set r n x)
theorem Rd.dom {P : Addr → Prop} {h : Heap} (hP : ∀ b vs n, IsL h b vs n → P b) {v : Value} {d : D} (r : Rd TP h v d) : Rd P h v d := by
  refine Rd.rec (motive_1 := fun v d _ => Rd P h v d) (motive_2 := fun vs ds _ => RdL P h vs ds) .none .bool .int .str ?_ ?_ .nil ?_ r
  · intro a n vs xs p e _ ih; exact .list (hP _ _ _ e) e ih
  · intro a n vs xs e _ ih; exact .tup e ih
  · intro v vs d ds _ _ i1 i2; exact .cons i1 i2
theorem Rd.here {P : Addr → Prop} {h : Heap} {v : Value} {d : D} (r : Rd P h v d) : Rd (fun b => P b ∧ ∃ vs n, IsL h b vs n) h v d := by
  refine Rd.rec (motive_1 := fun v d _ => Rd (fun b => P b ∧ ∃ vs n, IsL h b vs n) h v d) (motive_2 := fun vs ds _ => RdL (fun b => P b ∧ ∃ vs n, IsL h b vs n) h vs ds) .none .bool .int .str ?_ ?_ .nil ?_ r
  · intro a n vs xs p e _ ih; exact .list ⟨p, _, _, e⟩ e ih
  · intro a n vs xs e _ ih; exact .tup e ih
  · intro v vs d ds _ _ i1 i2; exact .cons i1 i2
theorem RdL.here {P : Addr → Prop} {h : Heap} : ∀ {vs : List Value} {ds : List D}, RdL P h vs ds → RdL (fun b => P b ∧ ∃ vs n, IsL h b vs n) h vs ds
  | _, _, .nil => .nil
  | _, _, .cons r1 r2 => .cons r1.here (RdL.here r2)
theorem Rd.int_inv {P : Addr → Prop} {h : Heap} {v : Value} {i : Int} (r : Rd P h v (.int i)) : ∃ t, v = .int i t := by cases r; exact ⟨_, rfl⟩
theorem Rd.str_inv {P : Addr → Prop} {h : Heap} {v : Value} {i : PySem.Str} (r : Rd P h v (.str i)) : ∃ t, v = .str i t := by cases r; exact ⟨_, rfl⟩
theorem Rd.bool_inv {P : Addr → Prop} {h : Heap} {v : Value} {b : Bool} (r : Rd P h v (.bool b)) : v = .bool b := by cases r; rfl
theorem Rd.none_inv {P : Addr → Prop} {h : Heap} {v : Value} (r : Rd P h v .none) : v = .none := by cases r; rfl
theorem Rd.list_inv {P : Addr → Prop} {h : Heap} {v : Value} {ds : List D} (r : Rd P h v (.list ds)) : ∃ a n vs, v = .ref a ∧ P a ∧ IsL h a vs n ∧ RdL P h vs.toList ds := by cases r; exact ⟨_, _, _, rfl, ‹_›, ‹_›, ‹_›⟩
theorem Rd.tup_inv {P : Addr → Prop} {h : Heap} {v : Value} {ds : List D} (r : Rd P h v (.tup ds)) : ∃ a n vs, v = .ref a ∧ IsT h a vs n ∧ RdL P h vs.toList ds := by cases r; exact ⟨_, _, _, rfl, ‹_›, ‹_›⟩
mutual
noncomputable def D.flat : D → Bool
  | .list _ => false
  | .tup xs => flats xs
  | _ => true
noncomputable def flats : List D → Bool
  | [] => true
  | d :: ds => d.flat && flats ds
end
theorem Rd.flat {P P' : Addr → Prop} {h : Heap} {v : Value} {d : D} (r : Rd P h v d) (f : d.flat = true) : Rd P' h v d := by
  revert f
  refine Rd.rec (motive_1 := fun v d _ => d.flat = true → Rd P' h v d) (motive_2 := fun vs ds _ => flats ds = true → RdL P' h vs ds) (fun _ => .none) (fun b _ => .bool b) (fun i t _ => .int i t) (fun s t _ => .str s t) ?_ ?_ (fun _ => .nil) ?_ r
  · intro a n vs xs p e _ ih f; simp [D.flat] at f
  · intro a n vs xs e _ ih f; exact .tup e (ih (by simpa [D.flat] using f))
  · intro v vs d ds _ _ i1 i2 f
    rw [flats, Bool.and_eq_true] at f
    exact .cons (i1 f.1) (i2 f.2)
/-! ## growing states -/
structure Gr (s s' : Shared) : Prop where
  heap : Ext s.heap s'.heap
  gens : ∀ (g : Nat) (x : GenState), s.gens[g]? = some x → s'.gens[g]? = some x
  bare : AllBare s.gens → AllBare s'.gens
  os : s'.os = s.os
theorem Gr.refl (s : Shared) : Gr s s := ⟨fun _ _ e => e, fun _ _ e => e, fun e => e, rfl⟩
theorem Gr.trans {a b c : Shared} (x : Gr a b) (y : Gr b c) : Gr a c := ⟨fun _ _ e => y.heap _ _ (x.heap _ _ e), fun _ _ e => y.gens _ _ (x.gens _ _ e), fun e => y.bare (x.bare e), y.os.trans x.os⟩
theorem Gr.mk' {s : Shared} {h' : Heap} {tk : Nat} (x : Ext s.heap h') : Gr s { s with heap := h', toks := tk } := ⟨x, fun _ _ e => e, fun e => e, rfl⟩
theorem Gr.hp {s : Shared} {h' : Heap} (x : Ext s.heap h') : Gr s { s with heap := h' } := ⟨x, fun _ _ e => e, fun e => e, rfl⟩
theorem Gr.tk {s : Shared} {tk : Nat} : Gr s { s with toks := tk } := ⟨fun _ _ e => e, fun _ _ e => e, fun e => e, rfl⟩
theorem Ext.push {h h' : Heap} (x : Ext h h') (o : Obj) : Ext h (h'.push o) := fun b o' e => Heap.get?_push_of_some _ (x b o' e)
theorem none_of_size {h : Heap} {a : Addr} (x : h.objs.size ≤ a) : h.get? a = none := by
  cases e : h.get? a with
  | none => rfl
  | some o => exact absurd (Heap.lt_size e) (Nat.not_lt.mpr x)
theorem none_down {h h' : Heap} {a : Addr} (x : Ext h h') (y : h'.get? a = none) : h.get? a = none := by
  cases e : h.get? a with
  | none => rfl
  | some o => rw [x _ _ e] at y; cases y
/-- P holds of what is not made yet -/
noncomputable def Nw (P : Addr → Prop) (s : Shared) : Prop := ∀ b, s.heap.get? b = none → P b
theorem Nw.up {P : Addr → Prop} {s s' : Shared} (x : Nw P s) (g : Gr s s') : Nw P s' := fun b e => x b (none_down g.heap e)
theorem Nw.next {P : Addr → Prop} {s : Shared} (x : Nw P s) : P s.heap.objs.size := x _ (none_of_size (Nat.le_refl _))
theorem Ext.rf {h : Heap} : Ext h h := fun _ _ e => e
section
variable {prog : Program} {w : World}
/-- the tree gives a value that reads as d, in a grown state -/
noncomputable def Yl (prog : Program) (w : World) (A : Around) (P : Addr → Prop) (t : Sem Value) (s : Shared) (d : D) : Prop :=
  ∀ (Q : Value → Shared → Prop) (E : Value → Shared → Prop), (∀ v s', Gr s s' → Rd P s'.heap v d → Q v s') → wpAny (model prog w) A t Q E s
noncomputable def YlB (prog : Program) (w : World) (A : Around) (t : Sem Bool) (s : Shared) (b : Bool) : Prop :=
  ∀ (Q : Bool → Shared → Prop) (E : Value → Shared → Prop), (∀ s', Gr s s' → Q b s') → wpAny (model prog w) A t Q E s
/-- from the facts of h: P holds of h's lists -/
noncomputable def HP (P : Addr → Prop) (h : Heap) : Prop := ∀ b vs n, IsL h b vs n → P b
noncomputable def Ev (prog : Program) (w : World) (A : Around) (env : Env) (h : Heap) (e : Expr) (d : D) : Prop := ∀ (P : Addr → Prop) (s : Shared), Ext h s.heap → HP P h → Nw P s → Yl prog w A P (eval e env) s d
noncomputable def EvB (prog : Program) (w : World) (A : Around) (env : Env) (h : Heap) (e : Expr) (b : Bool) : Prop := ∀ s : Shared, Ext h s.heap → YlB prog w A (isTrue e env (eval e env)) s b
noncomputable def Holds (env : Env) (h : Heap) (x : PySem.Str) (v : Value) : Prop :=
  env.scope.kind = .function ∧ ((env.kindOf x = some .local ∧ ∃ m, h.Ns env.locals m ∧ m x = some v) ∨
    ((env.kindOf x = some .cell ∨ env.kindOf x = some .free) ∧ ∃ c, env.cells.lookup x = some c ∧ h.IsCell c (some v)))
theorem Holds.up {env : Env} {h h' : Heap} {x : PySem.Str} {v : Value} (k : Ext h h') (y : Holds env h x v) : Holds env h' x v :=
  ⟨y.1, y.2.imp (fun ⟨a, m, b, c⟩ => ⟨a, m, b.keeps k, c⟩) fun ⟨a, c, b, d⟩ => ⟨a, c, b, d.keeps k⟩⟩
noncomputable def LV (env : Env) (h : Heap) (x : PySem.Str) (d : D) : Prop := ∃ v, Holds env h x v ∧ Rd TP h v d
theorem LV.up {env : Env} {h h' : Heap} {x : PySem.Str} {d : D} (k : Ext h h') (y : LV env h x d) : LV env h' x d := let ⟨v, a, b⟩ := y; ⟨v, a.up k, b.up k⟩
variable {A : Around} {env : Env} {h : Heap}
theorem wp_loadName {x : PySem.Str} {v : Value} {s : Shared} {Q : Value → Shared → Prop} {E : Value → Shared → Prop} (y : Holds env s.heap x v) (q : Q v s)
    (hc : (x == ("__classdict__" : PySem.Str)) = false := by decide) : wpAny (model prog w) A (loadName env x) Q E s := by
  obtain ⟨k, ⟨a, m, b, c⟩ | ⟨a | a, c, b, d⟩⟩ := y
  · exact wpAny_loadName_local k a b c q
  · exact wpAny_loadName_cell k a b d q
  · exact wpAny_loadName_free k a b d q hc
theorem Ev.name {x : PySem.Str} {p : Pos} {d : D} (lv : LV env h x d) (hd : (x == ("__debug__" : PySem.Str)) = false := by decide) (hc : (x == ("__classdict__" : PySem.Str)) = false := by decide) : Ev prog w A env h (.Name x p) d := fun P s k hp nw Q E q => by
  obtain ⟨v, y, r⟩ := lv
  exact wpAny_Name (wp_loadName (y.up k) (q v s (.refl s) ((r.dom hp).up k)) hc) hd
theorem Ev.cInt {i : Int} {k : Nat} {p : Pos} : Ev prog w A env h (.Constant (.int i) k p) (.int i) := fun _ _ _ _ _ _ _ q => wpAny_Constant_int (q _ _ .tk (.int i _))
theorem Ev.cStr {x : PySem.Str} {k : Nat} {p : Pos} : Ev prog w A env h (.Constant (.str x) k p) (.str x) := fun _ _ _ _ _ _ _ q => wpAny_Constant_str (q _ _ .tk (.str x _))
theorem Ev.cNone {k : Nat} {p : Pos} : Ev prog w A env h (.Constant .none k p) .none := fun _ _ _ _ _ _ _ q => wpAny_Constant_none (q _ _ (.refl _) .none)
theorem Ev.cBool {b : Bool} {k : Nat} {p : Pos} : Ev prog w A env h (.Constant (.bool b) k p) (.bool b) := fun _ _ _ _ _ _ _ q => wpAny_Constant_bool (q _ _ (.refl _) (.bool b))
noncomputable def OpY (prog : Program) (w : World) (A : Around) (f : Value → Value → Sem Value) (a b d : D) : Prop := ∀ (P : Addr → Prop) (s : Shared) (x y : Value), Nw P s → Rd P s.heap x a → Rd P s.heap y b → Yl prog w A P (f x y) s d
theorem Ext.tr {h h' h'' : Heap} (x : Ext h h') (y : Ext h' h'') : Ext h h'' := fun b o e => y b o (x b o e)
theorem Ev.bin {op : Operator} {l r : Expr} {p : Pos} {a b d : D} (o : OpY prog w A (binaryOp op) a b d) (hl : Ev prog w A env h l a) (hr : Ev prog w A env h r b) : Ev prog w A env h (.BinOp l op r p) d :=
  fun P s k hp nw Q E q => wpAny_BinOp (hl P s k hp nw _ _ fun x s₁ g₁ r₁ => hr P s₁ (k.tr g₁.heap) hp (nw.up g₁) _ _ fun y s₂ g₂ r₂ => o P s₂ x y ((nw.up g₁).up g₂) (r₁.up g₂.heap) r₂ _ _ fun v s₃ g₃ r₃ => q v s₃ ((g₁.trans g₂).trans g₃) r₃)
theorem Ev.cmp {op : CmpOp} {l r : Expr} {p : Pos} {a b d : D} (o : OpY prog w A (compareOp op) a b d) (hl : Ev prog w A env h l a) (hr : Ev prog w A env h r b) (hm : behindInMarks op r = false := by with_unfolding_all rfl) : Ev prog w A env h (.Compare l [op] [r] p) d :=
  fun P s k hp nw Q E q => wpAny_Compare1 (hm := hm) (hl P s k hp nw _ _ fun x s₁ g₁ r₁ => hr P s₁ (k.tr g₁.heap) hp (nw.up g₁) _ _ fun y s₂ g₂ r₂ => o P s₂ x y ((nw.up g₁).up g₂) (r₁.up g₂.heap) r₂ _ _ fun v s₃ g₃ r₃ => q v s₃ ((g₁.trans g₂).trans g₃) r₃)
theorem HP.tp {h : Heap} : HP TP h := fun _ _ _ _ => trivial
theorem Nw.tp {s : Shared} : Nw TP s := fun _ _ => trivial
theorem EvB.cmp {op : CmpOp} {l r : Expr} {p : Pos} {a b : D} {c : Bool} (o : OpY prog w A (compareOp op) a b (.bool c)) (hl : Ev prog w A env h l a) (hr : Ev prog w A env h r b) (hm : behindInMarks op r = false := by with_unfolding_all rfl) : EvB prog w A env h (.Compare l [op] [r] p) c :=
  fun s k Q E q => wpAny_isTrue_Compare1 (hm := hm) (hl TP s k .tp .tp _ _ fun x s₁ g₁ r₁ => hr TP s₁ (k.tr g₁.heap) .tp .tp _ _ fun y s₂ g₂ r₂ => o TP s₂ x y .tp (r₁.up g₂.heap) r₂ _ _ fun v s₃ g₃ r₃ => by
    cases r₃; exact wpAny_truthy_bool (q s₃ ((g₁.trans g₂).trans g₃)))
/-! ## operators on ints, strs, lists -/
theorem o_add_int {a b : Int} : OpY prog w A (binaryOp .Add) (.int a) (.int b) (.int (a + b)) := fun P s x y nw r1 r2 Q E q => by
  cases r1; cases r2; exact PyProof.Rows.add_int (q _ _ .tk (.int _ _))
theorem o_sub_int {a b : Int} : OpY prog w A (binaryOp .Sub) (.int a) (.int b) (.int (a - b)) := fun P s x y nw r1 r2 Q E q => by
  cases r1; cases r2; exact PyProof.Rows.sub_int (q _ _ .tk (.int _ _))
theorem o_mul_int {a b : Int} (hm : IntMulOk a b) : OpY prog w A (binaryOp .Mult) (.int a) (.int b) (.int (a * b)) := fun P s x y nw r1 r2 Q E q => by
  cases r1; cases r2; exact PyProof.Rows.mul_int (q _ _ .tk (.int _ _)) hm
theorem o_mod_int {a b : Int} (hb : b ≠ 0) : OpY prog w A (binaryOp .Mod) (.int a) (.int b) (.int (a.fmod b)) := fun P s x y nw r1 r2 Q E q => by
  cases r1; cases r2; exact PyProof.Rows.mod_int hb (q _ _ .tk (.int _ _))
theorem o_div_int {a b : Int} (hb : b ≠ 0) (hs : b.natAbs < 1073741824) : OpY prog w A (binaryOp .FloorDiv) (.int a) (.int b) (.int (a.fdiv b)) := fun P s x y nw r1 r2 Q E q => by
  cases r1; cases r2; exact PyProof.Rows.floordiv_int hb (q _ _ .tk (.int _ _)) (.inl (PyProof.noPylong_small hs))
theorem o_pow_int {a n : Int} (hn : 0 ≤ n) (hsz : (Builtin.Int.intBits a : Int) * n ≤ 2 ^ 27) : OpY prog w A (binaryOp .Pow) (.int a) (.int n) (.int (a ^ n.toNat)) := fun P s x y nw r1 r2 Q E q => by
  cases r1; cases r2; exact PyProof.Rows.pow_int hn hsz (q _ _ .tk (.int _ _))
theorem o_shl_int {a n : Int} (hn : 0 ≤ n) (hn2 : n ≤ 1000000) (ha : a.natAbs < 2 ^ 64) : OpY prog w A (binaryOp .LShift) (.int a) (.int n) (.int (a * 2 ^ n.toNat)) := fun P s x y nw r1 r2 Q E q => by
  cases r1; cases r2; exact PyProof.Rows.lshift_int_small hn hn2 ha (q _ _ .tk (.int _ _))
theorem o_and_int {a b : Int} : OpY prog w A (binaryOp .BitAnd) (.int a) (.int b) (.int (Builtin.bitAnd a b)) := fun P s x y nw r1 r2 Q E q => by
  cases r1; cases r2; exact PyProof.Rows.and_int (q _ _ .tk (.int _ _))
theorem o_or_int {a b : Int} : OpY prog w A (binaryOp .BitOr) (.int a) (.int b) (.int (Builtin.bitOr a b)) := fun P s x y nw r1 r2 Q E q => by
  cases r1; cases r2; exact PyProof.Rows.or_int (q _ _ .tk (.int _ _))
theorem o_xor_int {a b : Int} : OpY prog w A (binaryOp .BitXor) (.int a) (.int b) (.int (Builtin.bitXor a b)) := fun P s x y nw r1 r2 Q E q => by
  cases r1; cases r2; exact PyProof.Rows.xor_int (q _ _ .tk (.int _ _))
theorem o_add_str {a b : PySem.Str} (hsz : a.length + b.length ≤ sizeLine) : OpY prog w A (binaryOp .Add) (.str a) (.str b) (.str (a ++ b)) := fun P s x y nw r1 r2 Q E q => by
  cases r1; cases r2; exact PyProof.Rows.add_str (fun t tk => q _ _ .tk (.str _ _)) hsz
theorem o_eq_int {a b : Int} : OpY prog w A (compareOp .Eq) (.int a) (.int b) (.bool (a == b)) := fun P s x y nw r1 r2 Q E q => by
  cases r1; cases r2; exact PyProof.Rows.eq_int (q _ _ (.refl _) (.bool _))
theorem o_ne_int {a b : Int} : OpY prog w A (compareOp .NotEq) (.int a) (.int b) (.bool (a != b)) := fun P s x y nw r1 r2 Q E q => by
  cases r1; cases r2; exact PyProof.Rows.ne_int (q _ _ (.refl _) (.bool _))
theorem o_lt_int {a b : Int} : OpY prog w A (compareOp .Lt) (.int a) (.int b) (.bool (decide (a < b))) := fun P s x y nw r1 r2 Q E q => by
  cases r1; cases r2; exact PyProof.Rows.lt_int (q _ _ (.refl _) (.bool _))
theorem o_gt_int {a b : Int} : OpY prog w A (compareOp .Gt) (.int a) (.int b) (.bool (decide (b < a))) := fun P s x y nw r1 r2 Q E q => by
  cases r1; cases r2; exact PyProof.Rows.gt_int (q _ _ (.refl _) (.bool _))
theorem o_le_int {a b : Int} : OpY prog w A (compareOp .LtE) (.int a) (.int b) (.bool (decide (a ≤ b))) := fun P s x y nw r1 r2 Q E q => by
  cases r1; cases r2; exact PyProof.Rows.le_int (q _ _ (.refl _) (.bool _))
theorem o_eq_str {a b : PySem.Str} : OpY prog w A (compareOp .Eq) (.str a) (.str b) (.bool (a == b)) := fun P s x y nw r1 r2 Q E q => by
  cases r1; cases r2; exact PyProof.Rows.eq_str (q _ _ (.refl _) (.bool _))
theorem o_ne_str {a b : PySem.Str} : OpY prog w A (compareOp .NotEq) (.str a) (.str b) (.bool (a != b)) := fun P s x y nw r1 r2 Q E q => by
  cases r1; cases r2; exact PyProof.Rows.ne_str (q _ _ (.refl _) (.bool _))
theorem o_ne_bool {a b : Bool} : OpY prog w A (compareOp .NotEq) (.bool a) (.bool b) (.bool (a != b)) := fun P s x y nw r1 r2 Q E q => by
  cases r1; cases r2; exact PyProof.Rows.ne_bool (q _ _ (.refl _) (.bool _))
theorem o_is_none {a : D} {b : Bool} (hb : ∀ P h v, Rd P h v a → (v == Value.none) = b) : OpY prog w A (compareOp .Is) a .none (.bool b) := fun P s x y nw r1 r2 Q E q => by
  cases r2; rw [← hb _ _ _ r1] at q; exact PySem.is_none (q _ _ (.refl _) (.bool _))
theorem o_add_list {xs ys : List D} (hsz : xs.length + ys.length ≤ sizeLine) : OpY prog w A (binaryOp .Add) (.list xs) (.list ys) (.list (xs ++ ys)) := fun P s x y nw r1 r2 Q E q => by
  obtain ⟨a, n, vs, rfl, -, e1, l1⟩ := r1.list_inv
  obtain ⟨b, m, us, rfl, -, e2, l2⟩ := r2.list_inv
  have k : Ext s.heap (s.heap.push { cls := .type "list", data := .seq (vs ++ us) }) := Ext.rf.push _
  have hl1 := l1.length
  have hl2 := l2.length
  refine PySem.P.add_list e1 e2 (q _ _ (.hp k) (.list nw.next (IsL.new _ _) ?_)) (by simp at hl1 hl2; omega)
  rw [Array.toList_append]
  exact (l1.append l2).up k
end
end Mine
namespace Mine
section
variable {prog : Program} {w : World} {A : Around} {env : Env} {h : Heap}
/-! ## subscripts -/
noncomputable def SubY (prog : Program) (w : World) (A : Around) (value slice : Expr) (a b d : D) : Prop := ∀ (P : Addr → Prop) (s : Shared) (x y : Value), Nw P s → Rd P s.heap x a → Rd P s.heap y b → Yl prog w A P (subscriptTail value slice x y) s d
theorem Ev.sub {value slice : Expr} {p : Pos} {a b d : D} (o : SubY prog w A value slice a b d) (hl : Ev prog w A env h value a) (hr : Ev prog w A env h slice b) : Ev prog w A env h (.Subscript value slice p) d :=
  fun P s k hp nw Q E q => Subscript_ (hl P s k hp nw _ _ fun x s₁ g₁ r₁ => hr P s₁ (k.tr g₁.heap) hp (nw.up g₁) _ _ fun y s₂ g₂ r₂ => o P s₂ x y ((nw.up g₁).up g₂) (r₁.up g₂.heap) r₂ _ _ fun v s₃ g₃ r₃ => q v s₃ ((g₁.trans g₂).trans g₃) r₃)
theorem seqIx_pos {k : Int} {n j : Nat} (e : seqIndex? k n = some j) : (0 ≤ k ∧ k < n ∧ j = k.toNat) ∨ (k < 0 ∧ -(n : Int) ≤ k ∧ j = (k + n).toNat) := by
  unfold seqIndex? at e
  by_cases hk : k < 0
  · simp only [hk, if_true] at e
    split at e
    · rename_i h
      simp only [Bool.and_eq_true, decide_eq_true_eq] at h
      cases e
      exact .inr ⟨hk, by omega, rfl⟩
    · cases e
  · simp only [hk, if_false] at e
    split at e
    · rename_i h
      simp only [Bool.and_eq_true, decide_eq_true_eq] at h
      cases e
      exact .inl ⟨by omega, by omega, rfl⟩
    · cases e
/-- no slice: the plain road of a subscript -/
noncomputable def PlainIx (slice : Expr) : Prop := ∀ o i, ∃ ops, subscripted slice false o i = operate ops (getItem o i)
theorem ss_list {value slice : Expr} {ds : List D} {k : Int} {j : Nat} {d : D} (hj : seqIndex? k ds.length = some j) (hd : ds[j]? = some d) (hz : ds.length ≤ sizeLine)
    (hp : PlainIx slice := by intro _ _; exact ⟨_, rfl⟩) : SubY prog w A value slice (.list ds) (.int k) d := fun P s x y nw r1 r2 Q E q => by
  obtain ⟨a, n, vs, rfl, -, e1, l1⟩ := r1.list_inv
  obtain ⟨t, rfl⟩ := r2.int_inv
  obtain ⟨ops, ho⟩ := hp (.ref a) (.int k t)
  have hl := l1.length
  obtain ⟨v, hv, rv⟩ := l1.get hd
  have hz' : sizeLine = 16777216 := rfl
  rw [hz'] at hz
  have hv' : vs[j]? = some v := by simpa using hv
  have hn : vs.size = ds.length := by simpa using hl
  rcases seqIx_pos hj with ⟨h0, h1, rfl⟩ | ⟨h0, h1, rfl⟩
  · exact tail_any e1.isList.typeIs slot_list_getitem.lookup (wpAny_getItem_list e1.isList h0 (by omega) hv' (q _ _ (.refl _) rv)) ho
  · exact tail_any e1.isList.typeIs slot_list_getitem.lookup (wpAny_getItem_list_neg e1.isList h0 (by omega) (by omega) (by rw [hn]; exact hv') (q _ _ (.refl _) rv)) ho
theorem ss_str {value slice : Expr} {x : PySem.Str} {k : Int} {c : Nat} (hj : (seqIndex? k x.length).bind (x.cps[·]?) = some c) (hr : (decide (k < -(2 ^ 63 : Int)) || decide (k ≥ 2 ^ 63)) = false)
    (hp : PlainIx slice := by intro _ _; exact ⟨_, rfl⟩) : SubY prog w A value slice (.str x) (.int k) (.str ⟨#[c]⟩) := fun P s v y nw r1 r2 Q E q => by
  obtain ⟨t1, rfl⟩ := r1.str_inv
  obtain ⟨t, rfl⟩ := r2.int_inv
  obtain ⟨ops, ho⟩ := hp (.str x t1) (.int k t)
  exact tail_any (typeIs_str s x t1) slot_str_getitem.lookup (PyProof.Rows.getItem_str hr hj (q _ _ .tk (.str _ _))) ho
/-! ## slices -/
noncomputable def pySl {α : Type} (lo hi : Option Int) (xs : List α) : List α := (xs.drop (lo.elim 0 (clipAt xs.length))).take (hi.elim xs.length (clipAt xs.length) - lo.elim 0 (clipAt xs.length))
noncomputable def EvP (prog : Program) (w : World) (A : Around) (env : Env) (h : Heap) (e : Option Expr) (k : Option Int) : Prop :=
  ∀ s : Shared, Ext h s.heap → ∀ (Q : Value → Shared → Prop) (E : Value → Shared → Prop), (∀ v s', Gr s s' → IsPart v k → Q v s') → wpAny (model prog w) A (evalPart e env) Q E s
theorem EvP.no : EvP prog w A env h none none := fun s _ Q E q => by rw [evalPart_none]; exact wpAny_pure (q _ _ (.refl s) .none)
theorem EvP.int {e : Expr} {k : Int} (y : Ev prog w A env h e (.int k)) : EvP prog w A env h (some e) (some k) := fun s x Q E q => by
  rw [evalPart_some]; exact y TP s x .tp .tp Q E fun v s' g r => by obtain ⟨t, rfl⟩ := r.int_inv; exact q _ _ g (.int k t)
theorem EvP.ofNone {e : Expr} (y : Ev prog w A env h e .none) : EvP prog w A env h (some e) none := fun s x Q E q => by
  rw [evalPart_some]; exact y TP s x .tp .tp Q E fun v s' g r => by rw [r.none_inv]; exact q _ _ g .none
theorem EvP.orNone {e : Expr} {k : Int} {d : D} (hd : d = if k = 0 then .none else .int k) (y : Ev prog w A env h e d) : EvP prog w A env h (some e) (if k = 0 then none else some k) := by
  subst hd
  by_cases hk : k = 0
  · simp only [hk, if_true] at y ⊢; exact .ofNone y
  · simp only [hk, if_false] at y ⊢; exact .int y
theorem Ev.slList {value : Expr} {lo hi : Option Expr} {p pos : Pos} {ds : List D} {l u : Option Int} (hv : Ev prog w A env h value (.list ds)) (hl : EvP prog w A env h lo l) (hu : EvP prog w A env h hi u) (hz : ds.length ≤ sizeLine)
    (ht : ∀ o r, letTemporaryGo value o r = pure () := by intro _ _; rfl) : Ev prog w A env h (.Subscript value (.Slice lo hi none p) pos) (.list (pySl l u ds)) := fun P s k hp nw Q E q => by
  refine wpAny_Subscript_list_slice (ht := ht) (hv P s k hp nw _ _ fun x s₁ g₁ r₁ => hl s₁ (fun b o e => g₁.heap _ _ (k b o e)) _ _ fun vl s₂ g₂ p₂ => hu s₂ (fun b o e => g₂.heap _ _ (g₁.heap _ _ (k b o e))) _ _ fun vu s₃ g₃ p₃ => ?_)
  obtain ⟨a, n, vs, rfl, -, e1, l1⟩ := r₁.list_inv
  have hn := l1.length
  have l3 := (l1.up g₂.heap).up g₃.heap
  have k3 : Ext s₃.heap ((s₃.heap.push { cls := .type "slice", data := .fields #[vl, vu, .none] }).push { cls := .type "list", data := .seq (slicePick vs l u none) }) := (Ext.rf.push _).push _
  refine ⟨a, vs, l, u, rfl, (IsL.isList (g₃.heap _ _ (g₂.heap _ _ e1))), by simp at hn; omega, p₂, p₃, q _ _ (((g₁.trans g₂).trans g₃).trans (.hp k3)) ?_⟩
  have e := IsL.new (s₃.heap.push { cls := .type "slice", data := .fields #[vl, vu, .none] }) (slicePick vs l u none)
  rw [Heap.size_push] at e
  have hsz : vs.size = ds.length := by simpa using hn
  have key : ∀ h', RdL P h' vs.toList ds → RdL P h' (slicePick vs l u none).toList (pySl l u ds) := fun h' r => by
    rw [slicePick_plain]
    unfold pySl
    rw [hsz]
    exact (r.drop _).take _
  refine .list (nw _ (none_down ((g₁.heap.tr g₂.heap).tr g₃.heap) (none_of_size (Nat.le_succ _)))) e (key _ (l3.up k3))
theorem Ev.slRev {value st : Expr} {p pos : Pos} {ds : List D} (hv : Ev prog w A env h value (.list ds)) (hs : Ev prog w A env h st (.int (-1))) (hz : ds.length ≤ sizeLine)
    (ht : ∀ o r, letTemporaryGo value o r = pure () := by intro _ _; rfl) : Ev prog w A env h (.Subscript value (.Slice none none (some st) p) pos) (.list ds.reverse) := fun P s k hp nw Q E q => by
  refine wpAny_Subscript_Slice_step (T := "list") list_getitem_lookup (ht := ht) (hv P s k hp nw _ _ fun x s₁ g₁ r₁ => wpAny_Slice ?_)
  rw [evalPart_none]
  refine wpAny_pure ?_
  refine wpAny_pure ?_
  refine hs P s₁ (k.tr g₁.heap) hp (nw.up g₁) _ _ fun vs₂ s₂ g₂ r₂ => ?_
  obtain ⟨a, n, vs, rfl, -, e1, l1⟩ := r₁.list_inv
  obtain ⟨t, rfl⟩ := r₂.int_inv
  have hn := l1.length
  have e2 := g₂.heap _ _ e1
  have hsl : (s₂.heap.push { cls := .type "slice", data := .fields #[.none, .none, .int (-1) t] }).IsSliceOf s₂.heap.objs.size .none .none (.int (-1) t) := .new ..
  have e3 : IsL (s₂.heap.push { cls := .type "slice", data := .fields #[.none, .none, .int (-1) t] }) a vs n := IsL.push e2 _
  refine ⟨e3.isList.typeIs, ?_⟩
  refine wpAny_getItem_list_slice e3.isList hsl .none .none (.int _ _) (by simp) ?_ (by simp at hn; omega)
  have k3 : Ext s₂.heap ((s₂.heap.push { cls := .type "slice", data := .fields #[.none, .none, .int (-1) t] }).push { cls := .type "list", data := .seq (slicePick vs none none (some (-1))) }) := (Ext.rf.push _).push _
  refine q _ _ ((g₁.trans g₂).trans (.hp k3)) ?_
  have e := IsL.new (s₂.heap.push { cls := .type "slice", data := .fields #[.none, .none, .int (-1) t] }) (slicePick vs none none (some (-1)))
  refine .list (nw _ (none_down (g₁.heap.tr g₂.heap) (none_of_size (by rw [Heap.size_push]; exact Nat.le_succ _)))) e ?_
  have hrev : (slicePick vs none none (some (-1))).toList = vs.toList.reverse := by rw [krv_pick]
  rw [hrev]
  exact (((l1.up g₂.heap).up k3).reverse)
theorem Ev.slStr {value : Expr} {lo hi : Option Expr} {p pos : Pos} {x : PySem.Str} {l u : Option Int} (hv : Ev prog w A env h value (.str x)) (hl : EvP prog w A env h lo l) (hu : EvP prog w A env h hi u) (hz : x.length ≤ sizeLine)
    (ht : ∀ o r, letTemporaryGo value o r = pure () := by intro _ _; rfl) : Ev prog w A env h (.Subscript value (.Slice lo hi none p) pos) (.str ⟨(pySl l u x.cps.toList).toArray⟩) := fun P s k hp nw Q E q => by
  refine wpAny_Subscript_str_slice (ht := ht) (hv P s k hp nw _ _ fun v s₁ g₁ r₁ => hl s₁ (fun b o e => g₁.heap _ _ (k b o e)) _ _ fun vl s₂ g₂ p₂ => hu s₂ (fun b o e => g₂.heap _ _ (g₁.heap _ _ (k b o e))) _ _ fun vu s₃ g₃ p₃ => ?_)
  obtain ⟨t, rfl⟩ := r₁.str_inv
  obtain ⟨l', rfl, hl'⟩ : ∃ l', vl = partValue l' ∧ l'.map (·.1) = l := by cases p₂ with | none => exact ⟨none, rfl, rfl⟩ | int i t => exact ⟨some (i, t), rfl, rfl⟩
  obtain ⟨u', rfl, hu'⟩ : ∃ l', vu = partValue l' ∧ l'.map (·.1) = u := by cases p₃ with | none => exact ⟨none, rfl, rfl⟩ | int i t => exact ⟨some (i, t), rfl, rfl⟩
  refine ⟨x, t, l', u', rfl, rfl, rfl, ?_⟩
  have hpick : (slicePicked x l' u' none).filterMap (x.cps[·]?) = pySl l u x.cps.toList := by
    subst hl' hu'
    have hb := sliceBounds_plain (l'.map (·.1)) (u'.map (·.1)) x.length
    have e : slicePicked x l' u' none = sliceRange (sliceBounds (l'.map (·.1)) (u'.map (·.1)) none x.length).1 (sliceBounds (l'.map (·.1)) (u'.map (·.1)) none x.length).2.1 (sliceBounds (l'.map (·.1)) (u'.map (·.1)) none x.length).2.2 := rfl
    rw [e, hb]
    simp only [sliceRange_one, pick_run]
    unfold pySl
    simp [PySem.Str.length]
  have k3 : Gr s { s₃ with heap := s₃.heap.push { cls := .type "slice", data := .fields #[partValue l', partValue u', .none] } } := ((g₁.trans g₂).trans g₃).trans (.hp (Ext.rf.push _))
  unfold sliceMade
  split
  · rename_i hw
    simp only [Option.map_none, Option.getD_none, beq_self_eq_true, Bool.true_and, beq_iff_eq] at hw
    have hx : (⟨(pySl l u x.cps.toList).toArray⟩ : PySem.Str) = x := by
      have hb := sliceBounds_plain (l'.map (·.1)) (u'.map (·.1)) x.length
      have e : slicePicked x l' u' none = sliceRange (sliceBounds (l'.map (·.1)) (u'.map (·.1)) none x.length).1 (sliceBounds (l'.map (·.1)) (u'.map (·.1)) none x.length).2.1 (sliceBounds (l'.map (·.1)) (u'.map (·.1)) none x.length).2.2 := rfl
      rw [e, hb, hl', hu'] at hw
      simp only [sliceRange_one, List.length_map, List.length_range] at hw
      have hlen : x.cps.toList.length = x.length := by simp [PySem.Str.length]
      have hsame : pySl l u x.cps.toList = x.cps.toList := by
        unfold pySl
        rw [hlen, hw]
        by_cases h0 : x.length = 0
        · have : x.cps.toList = [] := List.eq_nil_of_length_eq_zero (by omega)
          rw [this]; simp
        · have hub : u.elim x.length (clipAt x.length) ≤ x.length := by
            cases u with
            | none => exact Nat.le_refl _
            | some j => show clipAt x.length j ≤ _; have := clipAt_cast x.length j; omega
          have hl0 : l.elim 0 (clipAt x.length) = 0 := by omega
          rw [hl0, List.drop_zero, List.take_of_length_le (by omega)]
      rw [hsame]
    refine q _ _ k3 ?_
    rw [hx]
    exact .str x t
  · rw [hpick]
    refine ⟨?_, q _ _ (k3.trans .tk) (.str _ _)⟩
    show (pySl l u x.cps.toList).toArray.size ≤ sizeLine
    simp only [List.size_toArray, pySl, List.length_take, List.length_drop]
    have : x.cps.toList.length ≤ sizeLine := by simpa [PySem.Str.length] using hz
    omega
end
end Mine
namespace Mine
section
variable {prog : Program} {w : World} {A : Around} {env : Env} {h : Heap}
/-! ## truth, tests -/
noncomputable def TruY (prog : Program) (w : World) (A : Around) (d : D) (b : Bool) : Prop := ∀ (s : Shared) (v : Value), Rd TP s.heap v d → YlB prog w A (truthy v) s b
theorem t_bool {b : Bool} : TruY prog w A (.bool b) b := fun s v r Q E q => by cases r; exact wpAny_truthy_bool (q _ (.refl s))
theorem t_int {i : Int} : TruY prog w A (.int i) (i != 0) := fun s v r Q E q => by cases r; exact PyProof.Rows.truthy_int (q _ (.refl s))
theorem t_none : TruY prog w A .none false := fun s v r Q E q => by cases r; exact PyProof.Rows.truthy_none (q _ (.refl s))
theorem t_str {x : PySem.Str} (hz : x.length ≤ sizeLine) : TruY prog w A (.str x) (x.length != 0) := fun s v r Q E q => by
  cases r
  have hz' : sizeLine = 16777216 := rfl
  refine PySem.P.truthy_str (by omega) ?_
  have e : ((x.length : Int) != 0) = (x.length != 0) := by
    by_cases h0 : x.length = 0
    · rw [h0]; rfl
    · rw [(by simpa using h0 : (x.length != 0) = true)]; simpa using h0
  rw [e]; exact q _ .tk
theorem EvB.val {e : Expr} {d : D} {b : Bool} (t : TruY prog w A d b) (y : Ev prog w A env h e d) (he : isTrue e env (eval e env) = (do let v ← eval e env; standAt e.pos; holding [v] (truthy v)) := by rfl) : EvB prog w A env h e b :=
  fun s k Q E q => wpAny_isTrue_value (he := he) (y TP s k .tp .tp _ _ fun v s₁ g r => t s₁ v r _ _ fun s₂ g₂ => q s₂ (g.trans g₂))
theorem EvB.not {x : Expr} {p : Pos} {b : Bool} (y : EvB prog w A env h x b) : EvB prog w A env h (.UnaryOp .Not x p) (!b) := fun s k Q E q => wpAny_isTrue_Not (y s k _ _ fun s₁ g => q s₁ g)
theorem EvB.andNil {p : Pos} : EvB prog w A env h (.BoolOp .And [] p) true := fun s k Q E q => wpAny_isTrue_BoolOp (wpAny_allTrue_And_nil (q _ (.refl s)))
theorem EvB.orNil {p : Pos} : EvB prog w A env h (.BoolOp .Or [] p) false := fun s k Q E q => wpAny_isTrue_BoolOp (wpAny_allTrue_Or_nil (q _ (.refl s)))
noncomputable def EvAll (prog : Program) (w : World) (A : Around) (env : Env) (h : Heap) (op : BoolOp) (es : List Expr) (b : Bool) : Prop := ∀ s : Shared, Ext h s.heap → YlB prog w A (allTrue op es env) s b
theorem EvAll.andNil : EvAll prog w A env h .And [] true := fun s k Q E q => wpAny_allTrue_And_nil (q _ (.refl s))
theorem EvAll.orNil : EvAll prog w A env h .Or [] false := fun s k Q E q => wpAny_allTrue_Or_nil (q _ (.refl s))
theorem EvAll.and {x : Expr} {rest : List Expr} {a b : Bool} (y : EvB prog w A env h x a) (z : a = true → EvAll prog w A env h .And rest b) : EvAll prog w A env h .And (x :: rest) (a && b) := fun s k Q E q =>
  wpAny_allTrue_And_cons (y s k _ _ fun s₁ g => by
    cases a
    · exact q _ g
    · exact z rfl s₁ (fun b o e => g.heap _ _ (k b o e)) _ _ fun s₂ g₂ => q _ (g.trans g₂))
theorem EvAll.or {x : Expr} {rest : List Expr} {a b : Bool} (y : EvB prog w A env h x a) (z : a = false → EvAll prog w A env h .Or rest b) : EvAll prog w A env h .Or (x :: rest) (a || b) := fun s k Q E q =>
  wpAny_allTrue_Or_cons (y s k _ _ fun s₁ g => by
    cases a
    · exact z rfl s₁ (fun b o e => g.heap _ _ (k b o e)) _ _ fun s₂ g₂ => q _ (g.trans g₂)
    · exact q _ g)
theorem EvB.boolOp {op : BoolOp} {es : List Expr} {p : Pos} {b : Bool} (y : EvAll prog w A env h op es b) : EvB prog w A env h (.BoolOp op es p) b := fun s k Q E q => wpAny_isTrue_BoolOp (y s k Q E q)
theorem EvB.chain {l r₁ r₂ : Expr} {op₁ op₂ : CmpOp} {p : Pos} {a b c : D} {x y : Bool} (o1 : OpY prog w A (compareOp op₁) a b (.bool x)) (o2 : OpY prog w A (compareOp op₂) b c (.bool y)) (hl : Ev prog w A env h l a) (h1 : Ev prog w A env h r₁ b) (h2 : Ev prog w A env h r₂ c)
    (hm : lastMarks [op₁, op₂] [r₁, r₂] = false := by with_unfolding_all rfl) : EvB prog w A env h (.Compare l [op₁, op₂] [r₁, r₂] p) (x && y) := fun s k Q E q =>
  isTrue_chain (hm := hm) (hl TP s k .tp .tp _ _ fun u s₁ g₁ ru => test_link (h1 TP s₁ (k.tr g₁.heap) .tp .tp _ _ fun v s₂ g₂ rv => o1 TP s₂ u v .tp (ru.up g₂.heap) rv _ _ fun t s₃ g₃ rt => by
    cases rt
    refine wpAny_truthy_bool ?_
    cases x
    · exact q _ ((g₁.trans g₂).trans g₃)
    · refine test_last (h2 TP s₃ (((k.tr g₁.heap).tr g₂.heap).tr g₃.heap) .tp .tp _ _ fun z s₄ g₄ rz => o2 TP s₄ v z .tp ((rv.up g₃.heap).up g₄.heap) rz _ _ fun t' s₅ g₅ rt' => ?_)
      cases rt'
      exact wpAny_truthy_bool (q _ ((((g₁.trans g₂).trans g₃).trans g₄).trans g₅))))
theorem Ev.ite {t b o : Expr} {p : Pos} {c : Bool} {d : D} (ht : EvB prog w A env h t c) (h1 : c = true → Ev prog w A env h b d) (h2 : c = false → Ev prog w A env h o d) : Ev prog w A env h (.IfExp t b o p) d := fun P s k hp nw Q E q =>
  wpAny_IfExp (ht s k _ _ fun s₁ g => by
    cases c
    · exact h2 rfl P s₁ (k.tr g.heap) hp (nw.up g) _ _ fun v s₂ g₂ r => q v s₂ (g.trans g₂) r
    · exact h1 rfl P s₁ (k.tr g.heap) hp (nw.up g) _ _ fun v s₂ g₂ r => q v s₂ (g.trans g₂) r)
theorem Ev.or2 {x y : Expr} {p : Pos} {c : Bool} {dx d : D} (hx : Ev prog w A env h x dx) (t : TruY prog w A dx c) (h1 : c = true → d = dx) (h2 : c = false → Ev prog w A env h y d) : Ev prog w A env h (.BoolOp .Or [x, y] p) d := fun P s k hp nw Q E q =>
  wpAny_Or2 (hx P s k hp nw _ _ fun v s₁ g r => t s₁ v (r.keep (fun _ _ => trivial) (.of_ext Ext.rf)) _ _ fun s₂ g₂ => by
    cases c
    · exact h2 rfl P s₂ ((k.tr g.heap).tr g₂.heap) hp ((nw.up g).up g₂) _ _ fun v s₃ g₃ r₃ => q v s₃ ((g.trans g₂).trans g₃) r₃
    · cases h1 rfl; exact q v s₂ (g.trans g₂) (r.up g₂.heap))
theorem Ev.neg {x : Expr} {p : Pos} {i : Int} (y : Ev prog w A env h x (.int i)) : Ev prog w A env h (.UnaryOp .USub x p) (.int (-i)) := fun P s k hp nw Q E q =>
  wpAny_UnaryOp (y P s k hp nw _ _ fun v s₁ g r => by obtain ⟨t, rfl⟩ := r.int_inv; exact PySem.P.neg_int (q _ _ (g.trans .tk) (.int _ _)))
/-! ## lists of expressions, displays -/
noncomputable def EvL (prog : Program) (w : World) (A : Around) (env : Env) (h : Heap) (es : List Expr) (ds : List D) : Prop :=
  ∀ (P : Addr → Prop) (pos : Pos) (s : Shared), Ext h s.heap → HP P h → Nw P s → ∀ (Q : List Value → Shared → Prop) (E : Value → Shared → Prop), (∀ vs s', Gr s s' → RdL P s'.heap vs ds → Q vs s') → wpAny (model prog w) A (spliced (backTo pos (starEach es env))) Q E s
theorem EvL.nil : EvL prog w A env h [] [] := fun P pos s k hp nw Q E q => wpAny_items_nil (q _ _ (.refl s) .nil)
theorem EvL.cons {e : Expr} {es : List Expr} {d : D} {ds : List D} (y : Ev prog w A env h e d) (z : EvL prog w A env h es ds) (he : starEach (e :: es) env = (false, eval e env) :: starEach es env := by rfl) : EvL prog w A env h (e :: es) (d :: ds) := fun P pos s k hp nw Q E q =>
  wpAny_items_cons (he := he) (y P s k hp nw _ _ fun v s₁ g r => z P pos s₁ (k.tr g.heap) hp (nw.up g) _ _ fun vs s₂ g₂ r₂ => q _ _ (g.trans g₂) (.cons (r.up g₂.heap) r₂))
theorem Ev.list {es : List Expr} {p : Pos} {ds : List D} (y : EvL prog w A env h es ds) (hz : ds.length ≤ sizeLine) : Ev prog w A env h (.List es p) (.list ds) := fun P s k hp nw Q E q =>
  wpAny_List (y P p s k hp nw _ _ fun vs s₁ g r => ⟨by rw [r.length]; exact hz, q _ _ (g.trans (.hp (Ext.rf.push _))) (.list (nw.up g).next (IsL.new _ _) (by rw [List.toList_toArray]; exact r.up (Ext.rf.push _)))⟩)
theorem Ev.tup {es : List Expr} {n : Nat} {p : Pos} {ds : List D} (y : EvL prog w A env h es ds) (hz : ds.length ≤ sizeLine) : Ev prog w A env h (.Tuple es n p) (.tup ds) := fun P s k hp nw Q E q =>
  wpAny_Tuple (y P p s k hp nw _ _ fun vs s₁ g r => ⟨by rw [r.length]; exact hz, q _ _ (g.trans (.hp (Ext.rf.push _))) (.tup (n := 0) (vs := vs.toArray) (Heap.get?_push_size _ rfl) (by rw [List.toList_toArray]; exact r.up (Ext.rf.push _)))⟩)
/-! ## the world's facts -/
structure FnAt (mg : PySem.Str → Option Value) (h : Heap) (d : DefRec) : Prop where
  at' : ∃ a o pm code doc, mg d.name = some (.ref a) ∧ h.get? a = some o ∧ o.data = .func (docDef d.name d.params d.body d.scope pm code doc) ∧ h.CodeRec code d.name
noncomputable def flagD : List (PyData × PyData) := [(.int 1, .str "OPTIMIZED"), (.int 2, .str "NEWLOCALS"), (.int 4, .str "VARARGS"), (.int 8, .str "VARKEYWORDS"), (.int 16, .str "NESTED"), (.int 32, .str "GENERATOR"), (.int 64, .str "NOFREE"), (.int 128, .str "COROUTINE"), (.int 256, .str "ITERABLE_COROUTINE"), (.int 512, .str "ASYNC_GENERATOR")]
noncomputable def FlagObj (d : Addr) (o : Obj) : Prop := (∃ es ep, o.data = .dict es ep) ∧ ∀ (prog : Program) (w : World) (h : Heap), h.get? d = some o → IntTab prog w h d flagD
structure Wd (mg mb : PySem.Str → Option Value) (ds : List DefRec) (h : Heap) : Prop where
  g : h.Ns mainGlobals mg
  b : h.Ns builtinsNs mb
  lim : h.NoLimit
  fns : ∀ d ∈ ds, FnAt mg h d
  tab : ∃ d o, mg "COMPILER_FLAG_NAMES" = some (.ref d) ∧ h.get? d = some o ∧ FlagObj d o
variable {mg mb : PySem.Str → Option Value} {ds : List DefRec}
theorem Wd.up {h h' : Heap} (x : Ext h h') (W : Wd mg mb ds h) : Wd mg mb ds h' :=
  ⟨W.g.keeps x, W.b.keeps x, W.lim.keeps x, fun d hd => let ⟨a, o, pm, code, doc, h1, h2, h3, h4⟩ := (W.fns d hd).at'; ⟨a, o, pm, code, doc, h1, x _ _ h2, h3, h4.keeps x⟩, let ⟨d, o, h1, h2, h3⟩ := W.tab; ⟨d, o, h1, x _ _ h2, h3⟩⟩
structure GE (env : Env) : Prop where
  kind : env.scope.kind = .function
  globals : env.globals = mainGlobals
  builtins : env.builtins = builtinsNs
structure GA (A : Around) (n : Nat) : Prop where
  hand : A.handled = none
  depth : A.depth + n < recursionLimit
  units : A.units + 8 * n < cLine
theorem GA.deeper {A : Around} {n : Nat} (x : GA A (n + 1)) (env : Env) : GA (A.deeper env) n := ⟨x.hand, by have := x.depth; show A.depth + 1 + n < _; omega, by have := x.units; show A.units + 3 + 8 * n < _; omega⟩
theorem GA.mono {A : Around} {n m : Nat} (x : GA A n) (h : m ≤ n) : GA A m := ⟨x.hand, by have := x.depth; omega, by have := x.units; omega⟩
theorem GA.in1 {A : Around} {n : Nat} (x : GA A (n + 1)) : GA A.in1 n := ⟨x.hand, by have := x.depth; show A.depth + n < _; omega, by have := x.units; show A.units + 1 + 8 * n < _; omega⟩
/-- the name is the global value v -/
structure GN (mg mb : PySem.Str → Option Value) (env : Env) (x : PySem.Str) (v : Value) : Prop where
  ge : GE env
  kind : env.kindOf x = some .globalImplicit
  val : mg x = some v ∨ (mg x = none ∧ mb x = some v)
theorem wp_global {x : PySem.Str} {p : Pos} {v : Value} {s : Shared} {Q : Value → Shared → Prop} {E : Value → Shared → Prop} (W : Wd mg mb ds s.heap) (G : GN mg mb env x v) (q : Q v s) (hd : (x == ("__debug__" : PySem.Str)) = false := by decide) :
    wpAny (model prog w) A (eval (.Name x p) env) Q E s := by
  obtain ⟨⟨k1, k2, k3⟩, k4, e | ⟨e, e'⟩⟩ := G
  · exact Name_function_global k1 k4 (loadGlobal_global (by rw [k2]; exact W.g) e q) hd
  · exact Name_function_global k1 k4 (loadGlobal_builtin (by rw [k2]; exact W.g) e (by rw [k3]; exact W.b) e' q) hd
theorem Ev.glob {x : PySem.Str} {p : Pos} {v : Value} {d : D} (W : Wd mg mb ds h) (G : GN mg mb env x v) (r : ∀ P h', Rd P h' v d) (hd : (x == ("__debug__" : PySem.Str)) = false := by decide) : Ev prog w A env h (.Name x p) d := fun P s k hp nw Q E q =>
  wp_global (W.up k) G (q v s (.refl s) (r _ _)) hd
/-! ## calls -/
/-- what a call of the value gives on data -/
noncomputable def CallY (prog : Program) (w : World) (A : Around) (f : Value) (h : Heap) (args : List D) (d : D) : Prop := ∀ (P : Addr → Prop) (s : Shared) (vs : List Value), Ext h s.heap → Nw P s → RdL P s.heap vs args → Yl prog w A P (call f vs) s d
theorem Ev.callB {x : PySem.Str} {p pos : Pos} {id : String} {e : Expr} {es : List Expr} {args : List D} {d : D} (W : Wd mg mb ds h) (G : GN mg mb env x (.builtin id)) (ya : EvL prog w A env h (e :: es) args) (c : CallY prog w A (.builtin id) h args d)
    (hd : (x == ("__debug__" : PySem.Str)) = false := by decide) (he : starEach (e :: es) env = (false, eval e env) :: starEach es env := by rfl) (hplain : (backTo pos (starEach es env)).any (·.1) = false := by rfl) :
    Ev prog w A env h (.Call (.Name x p) (e :: es) [] pos) d := fun P s k hp nw Q E q =>
  wpAny_Call_Name_kw (wp_global (W.up k) G (by
    show wpAny (model prog w) A (callWith pos (.builtin id) [] (backTo pos (starEach (e :: es) env)) []) Q E s
    refine callWith_method1 (he := he) (hplain := hplain) (ya P pos s k hp nw _ _ fun vs s₁ g r => ?_)
    exact c P s₁ vs (k.tr g.heap) (nw.up g) r _ _ fun v s₂ g₂ r₂ => q v s₂ (g.trans g₂) r₂) hd)
theorem Ev.callT {x : PySem.Str} {p pos : Pos} {T : String} {e : Expr} {es : List Expr} {args : List D} {d : D} (W : Wd mg mb ds h) (G : GN mg mb env x (.type T)) (ya : EvL prog w A env h (e :: es) args) (c : CallY prog w A (.type T) h args d)
    (hd : (x == ("__debug__" : PySem.Str)) = false := by decide) (he : starEach (e :: es) env = (false, eval e env) :: starEach es env := by rfl) (hplain : (backTo pos (starEach es env)).any (·.1) = false := by rfl) :
    Ev prog w A env h (.Call (.Name x p) (e :: es) [] pos) d := fun P s k hp nw Q E q =>
  wpAny_Call_Name_kw (wp_global (W.up k) G (by
    show wpAny (model prog w) A (callWith pos (.type T) [] (backTo pos (starEach (e :: es) env)) []) Q E s
    refine PyProof.Rows.callWith_type1 (he := he) (hplain := hplain) (ya P pos s k hp nw _ _ fun vs s₁ g r => ?_)
    exact c P s₁ vs (k.tr g.heap) (nw.up g) r _ _ fun v s₂ g₂ r₂ => q v s₂ (g.trans g₂) r₂) hd)
/-- a def's contract -/
noncomputable def Fn (prog : Program) (w : World) (mg mb : PySem.Str → Option Value) (ds : List DefRec) (n : Nat) (d : DefRec) (args : List D) (r : D) : Prop :=
  ∀ (A : Around) (P : Addr → Prop) (s : Shared) (a : Addr) (o : Obj) (pm code doc : Value) (vs : List Value), GA A n → Wd mg mb ds s.heap → s.heap.get? a = some o → o.data = .func (docDef d.name d.params d.body d.scope pm code doc) → s.heap.CodeRec code d.name →
    Nw P s → RdL P s.heap vs args → Yl prog w A P (call (.ref a) vs) s r
theorem Ev.callF {x : PySem.Str} {p pos : Pos} {n : Nat} {f : DefRec} {e : Expr} {es : List Expr} {args : List D} {d : D} (F : Fn prog w mg mb ds n f args d) (hA : GA A n) (W : Wd mg mb ds h) (hf : f ∈ ds) (ge : GE env) (hk : env.kindOf x = some .globalImplicit) (hx : f.name = x) (ya : EvL prog w A env h (e :: es) args)
    (hd : (x == ("__debug__" : PySem.Str)) = false := by decide) (he : starEach (e :: es) env = (false, eval e env) :: starEach es env := by rfl) : Ev prog w A env h (.Call (.Name x p) (e :: es) [] pos) d := fun P s k hp nw Q E q => by
  obtain ⟨a, o, pm, code, doc, h1, h2, h3, h4⟩ := ((W.up k).fns f hf).at'
  refine wpAny_Call_Name_kw (wp_global (W.up k) ⟨ge, hk, .inl (hx ▸ h1)⟩ ?_ hd)
  show wpAny (model prog w) A (callWith pos (.ref a) [] (backTo pos (starEach (e :: es) env)) []) Q E s
  exact callWith_def h3 (he := he) (ya P pos s k hp nw _ _ fun vs s₁ g r => ⟨g.heap _ _ h2, F A P s₁ a o pm code doc vs hA ((W.up k).up g.heap) (g.heap _ _ h2) h3 (h4.keeps g.heap) (nw.up g) r _ _ fun v s₂ g₂ r₂ => q v s₂ (g.trans g₂) r₂⟩)
theorem Ev.callF0 {x : PySem.Str} {p pos : Pos} {n : Nat} {f : DefRec} {d : D} (F : Fn prog w mg mb ds n f [] d) (hA : GA A n) (W : Wd mg mb ds h) (hf : f ∈ ds) (ge : GE env) (hk : env.kindOf x = some .globalImplicit) (hx : f.name = x)
    (hd : (x == ("__debug__" : PySem.Str)) = false := by decide) : Ev prog w A env h (.Call (.Name x p) [] [] pos) d := fun P s k hp nw Q E q => by
  obtain ⟨a, o, pm, code, doc, h1, h2, h3, h4⟩ := ((W.up k).fns f hf).at'
  refine wpAny_Call_Name_kw (wp_global (W.up k) ⟨ge, hk, .inl (hx ▸ h1)⟩ ?_ hd)
  show wpAny (model prog w) A (callWith pos (.ref a) [] [] []) Q E s
  refine callWith_function (o := o) (first := []) (args := []) (PyProof.Rows.evalArgs_none ⟨⟨h2, h3⟩, ?_⟩)
  exact F A P s a o pm code doc [] hA (W.up k) h2 h3 h4 nw .nil _ _ q
/-! ## methods -/
noncomputable def MethY (prog : Program) (w : World) (A : Around) (name : PySem.Str) (id : String) (a : D) (args : List D) (d : D) : Prop :=
  (∀ (s : Shared) (v : Value) (pl : Sem Bool) (Q : Value × List Value → Shared → Prop) (E : Value → Shared → Prop), (∃ P, Rd P s.heap v a) → Q (.builtin id, [v]) s → wpAny (model prog w) A (getMethod v name pl) Q E s) ∧
  (∀ (P : Addr → Prop) (s : Shared) (v : Value) (vs : List Value), Nw P s → Rd P s.heap v a → RdL P s.heap vs args → Yl prog w A P (call (.builtin id) (v :: vs)) s d)
theorem Ev.meth {o e : Expr} {es : List Expr} {name : PySem.Str} {apos pos : Pos} {id : String} {a d : D} {args : List D} {pl : Sem Bool} (m : MethY prog w A name id a args d) (yo : Ev prog w A env h o a) (ya : EvL prog w A env h (e :: es) args)
    (hc : eval (.Call (.Attribute o name apos) (e :: es) [] pos) env = (do
      let ov ← eval o env
      standAt apos.atName
      let (f, first) ← holding [ov] (getMethod ov name pl)
      callWith pos f first (backTo pos (starEach (e :: es) env)) []) := by rfl)
    (he : starEach (e :: es) env = (false, eval e env) :: starEach es env := by rfl) (hplain : (backTo pos (starEach es env)).any (·.1) = false := by rfl) :
    Ev prog w A env h (.Call (.Attribute o name apos) (e :: es) [] pos) d := fun P s k hp nw Q E q =>
  MethodCall_ (he := hc) (yo P s k hp nw _ _ fun v s₁ g₁ r₁ => m.1 s₁ v pl _ _ ⟨P, r₁⟩ (callWith_method1 (he := he) (hplain := hplain) (ya P pos s₁ (k.tr g₁.heap) hp (nw.up g₁) _ _ fun vs s₂ g₂ r₂ =>
    m.2 P s₂ v vs ((nw.up g₁).up g₂) (r₁.up g₂.heap) r₂ _ _ fun x s₃ g₃ r₃ => q x s₃ ((g₁.trans g₂).trans g₃) r₃)))
theorem Ev.meth0 {o : Expr} {name : PySem.Str} {apos pos : Pos} {id : String} {a d : D} {pl : Sem Bool} (m : MethY prog w A name id a [] d) (yo : Ev prog w A env h o a)
    (hc : eval (.Call (.Attribute o name apos) [] [] pos) env = (do
      let ov ← eval o env
      standAt apos.atName
      let (f, first) ← holding [ov] (getMethod ov name pl)
      callWith pos f first (backTo pos (starEach [] env)) []) := by rfl) :
    Ev prog w A env h (.Call (.Attribute o name apos) [] [] pos) d := fun P s k hp nw Q E q =>
  MethodCall_ (he := hc) (yo P s k hp nw _ _ fun v s₁ g₁ r₁ => m.1 s₁ v pl _ _ ⟨P, r₁⟩ (callWith_method0 (m.2 P s₁ v [] (nw.up g₁) r₁ .nil _ _ fun x s₃ g₃ r₃ => q x s₃ (g₁.trans g₃) r₃)))
theorem m_lower {x : PySem.Str} (hfit : Builtin.Str.tooLong (Txt.lower x).length = false) : MethY prog w A "lower" "str.lower" (.str x) [] (.str (Txt.lower x)) :=
  ⟨fun s v pl Q E ⟨_, r⟩ q => by obtain ⟨t, rfl⟩ := r.str_inv; exact GM.lower q, fun P s v vs nw r rs Q E q => by
    obtain ⟨t, rfl⟩ := r.str_inv
    cases rs
    exact SC.lower hfit (q _ _ .tk (.str _ _))⟩
theorem m_index {x y : PySem.Str} {i : Nat} {rest : List Nat} (ho : Builtin.Str.occurrences x y 0 x.length 1 = i :: rest) : MethY prog w A "index" "str.index" (.str x) [.str y] (.int i) :=
  ⟨fun s v pl Q E ⟨_, r⟩ q => by obtain ⟨t, rfl⟩ := r.str_inv; exact GM.index q, fun P s v vs nw r rs Q E q => by
    obtain ⟨t, rfl⟩ := r.str_inv
    cases rs with
    | cons r1 rs =>
      cases rs
      obtain ⟨u, rfl⟩ := r1.str_inv
      exact SC.index ho (q _ _ .tk (.int _ _))⟩
theorem strsAre_of {P : Addr → Prop} {h : Heap} : ∀ {vs : List Value} {ys : List PySem.Str}, RdL P h vs (ys.map D.str) → StrsAre vs ys
  | _, [], r => by cases r; exact .nil
  | _, y :: ys, r => by
    cases r with
    | cons r1 r2 => obtain ⟨t, rfl⟩ := r1.str_inv; exact .cons _ _ (strsAre_of r2)
theorem m_join {x : PySem.Str} {ys : List PySem.Str} (hok : (ys.map (·.length)).sum + ys.length * x.length ≤ 16777216) : MethY prog w A "join" "str.join" (.str x) [.list (ys.map D.str)] (.str (Txt.join x ys)) :=
  ⟨fun s v pl Q E ⟨_, r⟩ q => by obtain ⟨t, rfl⟩ := r.str_inv; exact GM.join q, fun P s v vs nw r rs Q E q => by
    obtain ⟨t, rfl⟩ := r.str_inv
    cases rs with
    | cons r1 rs =>
      cases rs
      obtain ⟨a, n, us, rfl, -, e1, l1⟩ := r1.list_inv
      exact join_list e1.isList (strsAre_of l1) hok fun t' k => q _ _ .tk (.str _ _)⟩
/-! ## built-ins -/
theorem c_len_list {h : Heap} {xs : List D} (hz : xs.length ≤ sizeLine) : CallY prog w A (.builtin "len") h [.list xs] (.int xs.length) := fun P s vs k nw rs Q E q => by
  cases rs with
  | cons r rs =>
    cases rs
    obtain ⟨a, n, us, rfl, -, e1, l1⟩ := r.list_inv
    have hl := l1.length
    have hu : us.size = xs.length := by simpa using hl
    have hz' : sizeLine = 16777216 := rfl
    refine PyProof.Rows.len_list e1.isList (by omega) ?_
    rw [hu]; exact q _ _ .tk (.int _ _)
theorem c_len_str {h : Heap} {x : PySem.Str} (hz : x.length ≤ sizeLine) : CallY prog w A (.builtin "len") h [.str x] (.int x.length) := fun P s vs k nw rs Q E q => by
  cases rs with
  | cons r rs =>
    cases rs
    obtain ⟨t, rfl⟩ := r.str_inv
    have hz' : sizeLine = 16777216 := rfl
    exact PySem.P.len_str (by omega) (q _ _ .tk (.int _ _))
theorem c_min2 {h : Heap} (hh : A.handled = none) {a b : Int} : CallY prog w A (.builtin "min") h [.int a, .int b] (.int (if b < a then b else a)) := fun P s vs k nw rs Q E q => by
  cases rs with
  | cons r rs => cases rs with
    | cons r2 rs =>
      cases rs
      obtain ⟨t, rfl⟩ := r.int_inv
      obtain ⟨u, rfl⟩ := r2.int_inv
      refine min_two_ints hh fun h' tk hk => ?_
      by_cases c : b < a
      · simp only [if_pos c] at q ⊢; exact q _ _ (.mk' hk) (.int _ _)
      · simp only [if_neg c] at q ⊢; exact q _ _ (.mk' hk) (.int _ _)
theorem c_hex {h : Heap} {i : Int} (hz : (baseText "0x" 16 i).length ≤ sizeLine) : CallY prog w A (.builtin "hex") h [.int i] (.str (baseText "0x" 16 i)) := fun P s vs k nw rs Q E q => by
  cases rs with
  | cons r rs =>
    cases rs
    obtain ⟨t, rfl⟩ := r.int_inv
    exact PySem.P.hex_of_int (q _ _ .tk (.str _ _)) hz
end
end Mine
namespace Mine
section
variable {prog : Program} {w : World} {A : Around} {env : Env} {h : Heap}
/-! ## iterators -/
structure ItW (prog : Program) (w : World) (A : Around) (N : Addr → Prop) (s s₂ : Shared) (I : Addr) (fp wr : List Addr) (P : Nat → Value → Prop) (St : Nat → Heap → Prop) (ds : List D) : Prop where
  W : Walks prog w A I fp wr ds.length P St
  st : St 0 s₂.heap
  rd : ∀ i v, P i v → ∃ d, ds[i]? = some d ∧ Rd N s₂.heap v d
  fld : ∀ i hh, St i hh → ∀ b ∈ wr, ∃ o fs, hh.get? b = some o ∧ o.data = .fields fs
  fresh : ∀ b ∈ wr, s.heap.get? b = none
  there : ∀ b ∈ fp, ∃ o, s₂.heap.get? b = some o
  src : ∀ b ∈ fp, b ∈ wr ∨ (N b ∧ ∃ vs n, IsL s₂.heap b vs n) ∨ ∃ vs n, IsT s₂.heap b vs n
  cls : ∀ i hh, St i hh → ∃ o nm fs, hh.get? I = some o ∧ o.cls = .type nm ∧ o.data = .fields fs ∧ (["enumerate", "zip", "dict_itemiterator", "dict_reverseitemiterator", "odict_iterator", "itertools.zip_longest", "itertools.pairwise"].contains nm) = false
noncomputable def EvI (prog : Program) (w : World) (A : Around) (env : Env) (h : Heap) (iter : Expr) (ds : List D) : Prop :=
  ∀ (N : Addr → Prop) (s : Shared), Ext h s.heap → HP N h → Nw N s → ∀ (Q : Value → Shared → Prop) (E : Value → Shared → Prop), (∀ I fp wr P St s₂, Gr s s₂ → ItW prog w A N s s₂ I fp wr P St ds → Q (.ref I) s₂) →
    wpAny (model prog w) A (eval iter env) (fun x s₁ => wpAny (model prog w) A (pyIter x) Q E s₁) E s
theorem EvI.list {iter : Expr} {ds : List D} (hh : A.handled = none) (y : Ev prog w A env h iter (.list ds)) : EvI prog w A env h iter ds := fun N s k hp nw Q E q =>
  y N s k hp nw _ _ fun v s₁ g r => by
    obtain ⟨a, n, vs, rfl, pa, e1, l1⟩ := r.list_inv
    have hl := l1.length
    have hu : vs.size = ds.length := by simpa using hl
    have hlt := Heap.lt_size e1
    have hne : a ≠ s₁.heap.objs.size := Nat.ne_of_lt hlt
    have e2 : IsL (s₁.heap.push { cls := .type "list_iterator", data := .fields #[.ref a, .int 0 0] }) a vs n := IsL.push e1 _
    have it2 : (s₁.heap.push { cls := .type "list_iterator", data := .fields #[.ref a, .int 0 0] }).IsListIter s₁.heap.objs.size a 0 := ⟨_, Heap.get?_push_size _ rfl, rfl, rfl⟩
    refine wpAny_pyIter_list e1.isList (q s₁.heap.objs.size [s₁.heap.objs.size, a] [s₁.heap.objs.size] (fun i v => vs[i]? = some v) (fun i h => h.IsListIter s₁.heap.objs.size a i ∧ h.IsList a vs) _ (g.trans (.hp (Ext.rf.push _))) ?_)
    refine ⟨hu ▸ Walks.list hh s₁.heap.objs.size a hne vs, ⟨it2, e2.isList⟩, fun i v hv => ?_, fun i hh' st b hb => ?_, fun b hb => ?_, fun b hb => ?_, fun b hb => ?_, fun i hh st => ?_⟩
    · obtain ⟨d, hd, hr⟩ := l1.getV (i := i) (v := v) (by simpa using hv)
      exact ⟨d, hd, hr.up (Ext.rf.push _)⟩
    · rw [List.mem_singleton] at hb; subst hb
      obtain ⟨⟨o, ho, _, hd⟩, _⟩ := st
      exact ⟨o, _, ho, hd⟩
    · rw [List.mem_singleton] at hb; subst hb
      exact none_down g.heap (none_of_size (Nat.le_refl _))
    · rcases List.mem_cons.mp hb with rfl | hb
      · exact ⟨_, Heap.get?_push_size _ rfl⟩
      · rw [List.mem_singleton] at hb; subst hb; exact ⟨_, e2⟩
    · rcases List.mem_cons.mp hb with rfl | hb
      · exact .inl (List.mem_singleton.mpr rfl)
      · rw [List.mem_singleton] at hb; subst hb; exact .inr (.inl ⟨pa, _, _, e2⟩)
    · obtain ⟨⟨o, ho, hc, hd⟩, _⟩ := st
      exact ⟨o, _, _, ho, hc, hd, by decide⟩
theorem EvI.tup {iter : Expr} {ds : List D} (hh : A.handled = none) (y : Ev prog w A env h iter (.tup ds)) : EvI prog w A env h iter ds := fun N s k hp nw Q E q =>
  y N s k hp nw _ _ fun v s₁ g r => by
    obtain ⟨a, n, vs, rfl, e1, l1⟩ := r.tup_inv
    have hl := l1.length
    have hu : vs.size = ds.length := by simpa using hl
    have hlt := Heap.lt_size e1
    have hne : a ≠ s₁.heap.objs.size := Nat.ne_of_lt hlt
    have t1 : s₁.heap.IsTuple a vs := ⟨_, e1, rfl, n, rfl⟩
    have e2 : IsT (s₁.heap.push { cls := .type "tuple_iterator", data := .fields #[.ref a, .int 0 0] }) a vs n := Heap.get?_push_of_some _ e1
    refine wpAny_pyIter_tuple t1 (q s₁.heap.objs.size [s₁.heap.objs.size, a] [s₁.heap.objs.size] (fun i v => vs[i]? = some v) (fun i h => h.IsTupleIter s₁.heap.objs.size a i ∧ h.IsTuple a vs) _ (g.trans (.hp (Ext.rf.push _))) ?_)
    refine ⟨hu ▸ Walks.tuple hh s₁.heap.objs.size a hne vs, ⟨⟨_, Heap.get?_push_size _ rfl, rfl, rfl⟩, ⟨_, e2, rfl, n, rfl⟩⟩, fun i v hv => ?_, fun i hh' st b hb => ?_, fun b hb => ?_, fun b hb => ?_, fun b hb => ?_, fun i hh st => ?_⟩
    · obtain ⟨d, hd, hr⟩ := l1.getV (i := i) (v := v) (by simpa using hv)
      exact ⟨d, hd, hr.up (Ext.rf.push _)⟩
    · rw [List.mem_singleton] at hb; subst hb
      obtain ⟨⟨o, ho, _, hd⟩, _⟩ := st
      exact ⟨o, _, ho, hd⟩
    · rw [List.mem_singleton] at hb; subst hb
      exact none_down g.heap (none_of_size (Nat.le_refl _))
    · rcases List.mem_cons.mp hb with rfl | hb
      · exact ⟨_, Heap.get?_push_size _ rfl⟩
      · rw [List.mem_singleton] at hb; subst hb; exact ⟨_, e2⟩
    · rcases List.mem_cons.mp hb with rfl | hb
      · exact .inl (List.mem_singleton.mpr rfl)
      · rw [List.mem_singleton] at hb; subst hb; exact .inr (.inr ⟨_, _, e2⟩)
    · obtain ⟨⟨o, ho, hc, hd⟩, _⟩ := st
      exact ⟨o, _, _, ho, hc, hd, by decide⟩
noncomputable def rangeD (a : Int) (n : Nat) : List D := (List.range n).map fun i : Nat => .int (a + i)
theorem rangeD_length {a : Int} {n : Nat} : (rangeD a n).length = n := by simp [rangeD]
theorem rangeD_get {a : Int} {n i : Nat} (hi : i < n) : (rangeD a n)[i]? = some (.int (a + i)) := by simp [rangeD, hi]
/-- the evaluation of an expression to a range object -/
noncomputable def EvR (prog : Program) (w : World) (A : Around) (env : Env) (h : Heap) (e : Expr) (a b : Int) : Prop :=
  ∀ s : Shared, Ext h s.heap → ∀ (Q : Value → Shared → Prop) (E : Value → Shared → Prop), (∀ r t u v s', Gr s s' → IsRange s'.heap r a b 1 t u v → s.heap.get? r = none → Q (.ref r) s') → wpAny (model prog w) A (eval e env) Q E s
variable {mg mb : PySem.Str → Option Value} {ds : List DefRec}
theorem EvR.one {x : PySem.Str} {p pos : Pos} {e : Expr} {n : Int} (W : Wd mg mb ds h) (G : GN mg mb env x (.type "range")) (y : Ev prog w A env h e (.int n))
    (hd : (x == ("__debug__" : PySem.Str)) = false := by decide) (he : starEach [e] env = (false, eval e env) :: starEach [] env := by rfl) : EvR prog w A env h (.Call (.Name x p) [e] [] pos) 0 n := fun s k Q E q =>
  wpAny_Call_Name_kw (wp_global (W.up k) G (by
    show wpAny (model prog w) A (callWith pos (.type "range") [] (backTo pos (starEach [e] env)) []) Q E s
    refine PyProof.Rows.callWith_type1 (he := he) ((EvL.cons (he := he) y .nil) TP pos s k .tp .tp _ _ fun vs s₁ g r => ?_)
    cases r with
    | cons r rs =>
      cases rs
      obtain ⟨t, rfl⟩ := r.int_inv
      refine call_range_1 (q _ _ _ _ _ (g.trans (.mk' (Ext.rf.push _))) (Heap.get?_push_size _ rfl) (none_down g.heap (none_of_size (Nat.le_refl _))))) hd)
theorem EvR.two {x : PySem.Str} {p pos : Pos} {e e' : Expr} {a b : Int} (W : Wd mg mb ds h) (G : GN mg mb env x (.type "range")) (y : Ev prog w A env h e (.int a)) (y' : Ev prog w A env h e' (.int b))
    (hd : (x == ("__debug__" : PySem.Str)) = false := by decide) (he : starEach [e, e'] env = (false, eval e env) :: starEach [e'] env := by rfl) (he' : starEach [e'] env = (false, eval e' env) :: starEach [] env := by rfl) (hplain : (backTo pos (starEach [e'] env)).any (·.1) = false := by rfl) : EvR prog w A env h (.Call (.Name x p) [e, e'] [] pos) a b := fun s k Q E q =>
  wpAny_Call_Name_kw (wp_global (W.up k) G (by
    show wpAny (model prog w) A (callWith pos (.type "range") [] (backTo pos (starEach [e, e'] env)) []) Q E s
    refine PyProof.Rows.callWith_type1 (he := he) (hplain := hplain) ((EvL.cons (he := he) y (EvL.cons (he := he') y' .nil)) TP pos s k .tp .tp _ _ fun vs s₁ g r => ?_)
    cases r with
    | cons r rs =>
      cases rs with
      | cons r' rs =>
        cases rs
        obtain ⟨t, rfl⟩ := r.int_inv
        obtain ⟨u, rfl⟩ := r'.int_inv
        refine call_range_2 (q _ _ _ _ _ (g.trans (.mk' (Ext.rf.push _))) (Heap.get?_push_size _ rfl) (none_down g.heap (none_of_size (Nat.le_refl _))))) hd)
theorem EvI.range {e : Expr} {a b : Int} {n : Nat} (hh : A.handled = none) (y : EvR prog w A env h e a b) (hn : (n : Int) = if a < b then b - a else 0) (ha : -(2 ^ 62) ≤ a ∧ a < 2 ^ 62) (hb : -(2 ^ 62) ≤ b ∧ b < 2 ^ 62) : EvI prog w A env h e (rangeD a n) := fun N s k hp nw Q E q =>
  y s k _ _ fun r t u v s₁ g hr hnew => by
    have hsz : Builtin.Range.rangeSize a b 1 = (n : Int) := by rw [rangeSize_one, hn]
    have it2 : IsRangeIter (s₁.heap.push { cls := .type "range_iterator", data := .fields #[rawInt a, rawInt (Builtin.Range.rangeSize a b 1), rawInt 1] }) s₁.heap.objs.size (a + ((0 : Nat) : Int) * 1) ((n : Int) - ((0 : Nat) : Int)) 1 := by
      rw [hsz]
      have : (a + ((0 : Nat) : Int) * 1) = a := by omega
      rw [this, show ((n : Int) - ((0 : Nat) : Int)) = n by omega]
      exact Heap.get?_push_size _ rfl
    refine wpAny_pyIter_range hr (small_one ha.1 ha.2 hb.1 hb.2) (q s₁.heap.objs.size [s₁.heap.objs.size] [s₁.heap.objs.size] (fun i v => i < n ∧ ∃ t, v = .int (a + i * 1) t) (fun i h => IsRangeIter h s₁.heap.objs.size (a + (i : Nat) * 1) ((n : Int) - (i : Nat)) 1) _ (g.trans (.hp (Ext.rf.push _))) ?_)
    have W := Walks.range (prog := prog) (w := w) (A := A) hh s₁.heap.objs.size a 1 n
    refine ⟨⟨W.sub, W.frame, fun i s Q E hi st hQ => ?_, fun s Q E st hQ => ?_, W.self⟩, it2, fun i v hv => ?_, fun i hh' st b hb => ?_, fun b hb => ?_, fun b hb => ?_, fun b hb => ?_, fun i hh st => ?_⟩
    · rw [rangeD_length] at hi
      exact W.item i s Q E hi st fun v h' tk hv => hQ v h' tk ⟨hi, hv⟩
    · rw [rangeD_length] at st
      exact W.done s Q E st hQ
    · obtain ⟨hi, t, rfl⟩ := hv
      refine ⟨.int (a + i * 1), ?_, .int _ _⟩
      rw [rangeD_get hi]; simp
    · rw [List.mem_singleton] at hb; subst hb
      exact ⟨_, _, st, rfl⟩
    · rw [List.mem_singleton] at hb; subst hb
      exact none_down g.heap (none_of_size (Nat.le_refl _))
    · rw [List.mem_singleton] at hb; subst hb
      exact ⟨_, Heap.get?_push_size _ rfl⟩
    · exact .inl hb
    · exact ⟨_, _, _, st, rfl, rfl, by decide⟩
/-! ## a comprehension's block -/
noncomputable def clOf (names : List (PySem.Str × NameKind)) (env : Env) (acc : List (PySem.Str × Addr)) : List (PySem.Str × Addr) :=
  names.foldl (fun cs x => if x.2 == .free then (x.1, (env.cells.lookup x.1).getD 0) :: cs else cs) acc
theorem closureFor_cl {scope : Scope} (hc : ∀ y ∈ scope.names, y.2 = .free → (env.cells.lookup y.1).isSome = true) : closureFor scope env = pure (clOf scope.names env []) := by
  unfold closureFor
  suffices key : ∀ (names : List (PySem.Str × NameKind)) (acc : List (PySem.Str × Addr)), (∀ y ∈ names, y.2 = .free → (env.cells.lookup y.1).isSome = true) →
      (forIn names acc fun x r => (match x with | (name, kind) => if (kind == NameKind.free) = true then (do let a ← cellOf env name; pure (ForInStep.yield ((name, a) :: r))) else pure (ForInStep.yield r) : Sem (ForInStep (List (PySem.Str × Addr))))) = pure (clOf names env acc) by
    have := key scope.names [] hc
    simp only [] at this ⊢
    rw [this]; rfl
  intro names
  induction names with
  | nil => intro acc _; rfl
  | cons y r ih =>
    intro acc hc
    obtain ⟨n, kd⟩ := y
    rw [List.forIn_cons]
    have hr := fun acc => ih acc fun y hy => hc y (List.mem_cons_of_mem _ hy)
    by_cases hk : kd = .free
    · subst hk
      obtain ⟨c, hcc⟩ := Option.isSome_iff_exists.mp (hc (n, .free) List.mem_cons_self rfl)
      have e : cellOf env n = pure c := by unfold cellOf; rw [hcc]
      simp only [beq_self_eq_true, if_true, e, pure_bind, clOf, List.foldl_cons, hcc, Option.getD_some]
      exact hr _
    · have hb : (kd == NameKind.free) = false := by simpa using hk
      simp only [hb, Bool.false_eq_true, if_false, pure_bind, clOf, List.foldl_cons]
      exact hr _
theorem clOf_lookup {names : List (PySem.Str × NameKind)} {y : PySem.Str} : ∀ {acc : List (PySem.Str × Addr)}, (y, NameKind.free) ∈ names ∨ acc.lookup y = env.cells.lookup y → (∀ z ∈ names, z.2 = .free → (env.cells.lookup z.1).isSome = true) → (clOf names env acc).lookup y = env.cells.lookup y := by
  induction names with
  | nil => intro acc h _; rcases h with h | h; cases h; exact h
  | cons z r ih =>
    intro acc h hc
    obtain ⟨n, kd⟩ := z
    have hr : ∀ z ∈ r, z.2 = .free → (env.cells.lookup z.1).isSome = true := fun z hz => hc z (List.mem_cons_of_mem _ hz)
    show (clOf r env (if (kd == .free) = true then (n, (env.cells.lookup n).getD 0) :: acc else acc)).lookup y = _
    by_cases hk : kd = .free
    · subst hk
      obtain ⟨c, hcc⟩ := Option.isSome_iff_exists.mp (hc (n, .free) List.mem_cons_self rfl)
      simp only [beq_self_eq_true, if_true, hcc, Option.getD_some]
      by_cases hy : y = n
      · subst hy
        refine ih (.inr ?_) hr
        rw [List.lookup_cons, beq_self_eq_true, hcc]
      · refine ih ?_ hr
        rcases h with h | h
        · rcases List.mem_cons.mp h with h | h
          · exact absurd (Prod.mk.inj h).1 hy
          · exact .inl h
        · refine .inr ?_
          rw [List.lookup_cons, beq_eq_false_iff_ne.mpr hy]
          exact h
    · have hb : (kd == NameKind.free) = false := by simpa using hk
      simp only [hb, Bool.false_eq_true, if_false]
      refine ih ?_ hr
      rcases h with h | h
      · rcases List.mem_cons.mp h with h | h
        · exact absurd (Prod.mk.inj h).2.symm hk
        · exact .inl h
      · exact .inr h
theorem cellsFrom_app : ∀ (names : List (PySem.Str × NameKind)) (n : Nat) (acc : List (PySem.Str × Addr)), cellsFrom n names acc = cellsFrom n names [] ++ acc
  | [], _, _ => rfl
  | (name, kind) :: r, n, acc => by
    unfold cellsFrom
    split
    · rw [cellsFrom_app r (n + 1) ((name, n) :: acc), cellsFrom_app r (n + 1) [(name, n)], List.append_assoc]; rfl
    · exact cellsFrom_app r n acc
theorem cellsFrom_mem : ∀ (names : List (PySem.Str × NameKind)) (n : Nat) (y : PySem.Str) (c : Addr), (y, c) ∈ cellsFrom n names [] → (y, NameKind.cell) ∈ names
  | [], _, _, _, h => by cases h
  | (name, kind) :: r, n, y, c, h => by
    unfold cellsFrom at h
    split at h
    · rename_i hk
      rw [cellsFrom_app] at h
      rcases List.mem_append.mp h with h | h
      · exact List.mem_cons_of_mem _ (cellsFrom_mem r _ y c h)
      · rw [List.mem_singleton] at h
        cases h
        rw [beq_iff_eq.mp hk]; exact List.mem_cons_self
    · exact List.mem_cons_of_mem _ (cellsFrom_mem r _ y c h)
theorem lookup_none_of_not_mem {α : Type} : ∀ {l : List (PySem.Str × α)} {y : PySem.Str}, (∀ c, (y, c) ∉ l) → l.lookup y = none
  | [], _, _ => rfl
  | (k, v) :: r, y, h => by
    rw [List.lookup_cons]
    have : (y == k) = false := beq_eq_false_iff_ne.mpr fun e => h v (e ▸ List.mem_cons_self)
    rw [this]
    exact lookup_none_of_not_mem fun c hc => h c (List.mem_cons_of_mem _ hc)
/-- the block's environment -/
structure CE (env : Env) (scope : Scope) (cenv : Env) : Prop where
  scp : cenv.scope = relabel scope env
  globals : cenv.globals = env.globals
  builtins : cenv.builtins = env.builtins
  cells : ∀ y, scope.names.lookup y = some .free → cenv.cells.lookup y = env.cells.lookup y
theorem relabel_keeps {names : List (PySem.Str × NameKind)} {x : PySem.Str} {k : NameKind} (hk : k ≠ .free) : names.lookup x = some k →
    (names.map fun (n, k) => if (k == NameKind.free && env.scope.kind == .function && env.kindOf n == some .cell) then (n, NameKind.cell) else (n, k)).lookup x = some k := by
  induction names with
  | nil => intro h; simp at h
  | cons y r ih =>
    obtain ⟨n, kd⟩ := y
    intro h
    show List.lookup x ((if (kd == NameKind.free && env.scope.kind == .function && env.kindOf n == some .cell) = true then (n, NameKind.cell) else (n, kd)) :: _) = _
    cases hx : x == n with
    | true =>
      rw [List.lookup_cons, hx] at h
      simp only [Option.some.injEq] at h
      subst h
      have : (kd == NameKind.free) = false := by simpa using hk
      simp [List.lookup_cons, hx, this]
    | false =>
      rw [List.lookup_cons, hx] at h
      by_cases hc : (kd == NameKind.free && env.scope.kind == .function && env.kindOf n == some .cell) = true
      · rw [if_pos hc]; simp only [List.lookup_cons, hx]; exact ih h
      · rw [if_neg hc]; simp only [List.lookup_cons, hx]; exact ih h
theorem relabel_free {names : List (PySem.Str × NameKind)} {x : PySem.Str} : names.lookup x = some .free →
    (names.map fun (n, k) => if (k == NameKind.free && env.scope.kind == .function && env.kindOf n == some .cell) then (n, NameKind.cell) else (n, k)).lookup x = some .cell ∨
    (names.map fun (n, k) => if (k == NameKind.free && env.scope.kind == .function && env.kindOf n == some .cell) then (n, NameKind.cell) else (n, k)).lookup x = some .free := by
  induction names with
  | nil => intro h; simp at h
  | cons y r ih =>
    obtain ⟨n, kd⟩ := y
    intro h
    show List.lookup x ((if (kd == NameKind.free && env.scope.kind == .function && env.kindOf n == some .cell) = true then (n, NameKind.cell) else (n, kd)) :: _) = _ ∨
      List.lookup x ((if (kd == NameKind.free && env.scope.kind == .function && env.kindOf n == some .cell) = true then (n, NameKind.cell) else (n, kd)) :: _) = _
    cases hx : x == n with
    | true =>
      rw [List.lookup_cons, hx] at h
      simp only [Option.some.injEq] at h
      subst h
      by_cases hc : (NameKind.free == NameKind.free && env.scope.kind == .function && env.kindOf n == some .cell) = true
      · rw [if_pos hc]; simp only [List.lookup_cons, hx]; exact .inl trivial
      · rw [if_neg hc]; simp only [List.lookup_cons, hx]; exact .inr trivial
    | false =>
      rw [List.lookup_cons, hx] at h
      by_cases hc : (kd == NameKind.free && env.scope.kind == .function && env.kindOf n == some .cell) = true
      · rw [if_pos hc]; simp only [List.lookup_cons, hx]; exact ih h
      · rw [if_neg hc]; simp only [List.lookup_cons, hx]; exact ih h
theorem CE.kind {scope : Scope} {cenv : Env} (c : CE env scope cenv) {x : PySem.Str} {k : NameKind} (hx : scope.names.lookup x = some k) (hk : k ≠ .free := by decide) : cenv.kindOf x = some k := by
  unfold Env.kindOf; rw [c.scp]; exact relabel_keeps hk hx
theorem CE.free {scope : Scope} {cenv : Env} (c : CE env scope cenv) {x : PySem.Str} (hx : scope.names.lookup x = some .free) : cenv.kindOf x = some .cell ∨ cenv.kindOf x = some .free := by
  unfold Env.kindOf; rw [c.scp]; exact relabel_free hx
theorem CE.ge {scope : Scope} {cenv : Env} (c : CE env scope cenv) (g : GE env) (hk : scope.kind = .function) : GE cenv :=
  ⟨by rw [c.scp]; exact hk, c.globals.trans g.globals, c.builtins.trans g.builtins⟩
/-- a variable that lies in a cell -/
noncomputable def CV (env : Env) (h : Heap) (x : PySem.Str) (d : D) : Prop := env.scope.kind = .function ∧ (env.kindOf x = some .cell ∨ env.kindOf x = some .free) ∧ ∃ c v, env.cells.lookup x = some c ∧ h.IsCell c (some v) ∧ Rd TP h v d
theorem CV.lv {x : PySem.Str} {d : D} (y : CV env h x d) : LV env h x d := let ⟨a, b, c, v, e, f, g⟩ := y; ⟨v, ⟨a, .inr ⟨b, c, e, f⟩⟩, g⟩
theorem CV.up {h h' : Heap} {x : PySem.Str} {d : D} (k : Ext h h') (y : CV env h x d) : CV env h' x d := let ⟨a, b, c, v, e, f, g⟩ := y; ⟨a, b, c, v, e, f.keeps k, g.up k⟩
theorem CV.of_lv {x : PySem.Str} {d : D} (y : LV env h x d) (hk : env.kindOf x = some .cell) : CV env h x d := by
  obtain ⟨v, ⟨a, ⟨b, _⟩ | ⟨b, c, e, f⟩⟩, g⟩ := y
  · rw [hk] at b; cases b
  · exact ⟨a, b, c, v, e, f, g⟩
theorem CV.inner {scope : Scope} {cenv : Env} {h' : Heap} {x : PySem.Str} {d : D} (y : CV env h x d) (c : CE env scope cenv) (k : Ext h h') (hk : scope.kind = .function) (hx : scope.names.lookup x = some .free) : CV cenv h' x d :=
  let ⟨_, _, a, v, e, f, g⟩ := y; ⟨by rw [c.scp]; exact hk, c.free hx, a, v, (c.cells x hx).trans e, f.keeps k, g.up k⟩
inductive AllC (env : Env) : List PySem.Str → Prop
  | nil : AllC env []
  | cons {h : Heap} {x : PySem.Str} {d : D} {r : List PySem.Str} : CV env h x d → AllC env r → AllC env (x :: r)
theorem AllC.some {l : List PySem.Str} (y : AllC env l) : ∀ x ∈ l, (env.cells.lookup x).isSome = true := by
  induction y with
  | nil => intro x hx; cases hx
  | cons c _ ih =>
    intro x hx
    rcases List.mem_cons.mp hx with rfl | hx
    · obtain ⟨_, _, a, v, e, _⟩ := c; rw [e]; rfl
    · exact ih x hx
noncomputable def EvIfs (prog : Program) (w : World) (A : Around) (env : Env) (h : Heap) (ifs : List Expr) (b : Bool) : Prop := ∀ s : Shared, Ext h s.heap → ∀ (Q : Bool → Shared → Prop) (E : Value → Shared → Prop), (∀ s', Gr s s' → Q b s') →
  wpAny (model prog w) A (forIn ifs true fun c r => if r = true then do let ok ← isTrue c env (eval c env); pure (ForInStep.yield ok) else pure (ForInStep.yield r)) Q E s
theorem EvIfs.nil : EvIfs prog w A env h [] true := fun s k Q E q => wpAny_tests_nil (q _ (.refl s))
theorem EvIfs.one {c : Expr} {b : Bool} (y : EvB prog w A env h c b) : EvIfs prog w A env h [c] b := fun s k Q E q => wpAny_tests_one (y s k _ _ fun s' g => q _ g)
/-- what a turn keeps -/
structure Off (wr : List Addr) (s s' : Shared) : Prop where
  heap : ∀ b o, b ∉ wr → s.heap.get? b = some o → s'.heap.get? b = some o
  gens : ∀ (g : Nat) (x : GenState), s.gens[g]? = some x → s'.gens[g]? = some x
  bare : AllBare s.gens → AllBare s'.gens
  os : s'.os = s.os
theorem Off.refl (wr : List Addr) (s : Shared) : Off wr s s := ⟨fun _ _ _ e => e, fun _ _ e => e, fun e => e, rfl⟩
theorem Off.trans {wr : List Addr} {a b c : Shared} (x : Off wr a b) (y : Off wr b c) : Off wr a c := ⟨fun q o hq e => y.heap q o hq (x.heap q o hq e), fun _ _ e => y.gens _ _ (x.gens _ _ e), fun e => y.bare (x.bare e), y.os.trans x.os⟩
theorem Off.of_gr {wr : List Addr} {a b : Shared} (x : Gr a b) : Off wr a b := ⟨fun q o _ e => x.heap q o e, x.gens, x.bare, x.os⟩
theorem Off.hp {wr : List Addr} {s : Shared} {h' : Heap} {tk : Nat} (k : ∀ b o, b ∉ wr → s.heap.get? b = some o → h'.get? b = some o) : Off wr s { s with heap := h', toks := tk } := ⟨k, fun _ _ e => e, fun e => e, rfl⟩
end
end Mine
namespace Mine
section
variable {prog : Program} {w : World} {A : Around} {env : Env} {h : Heap}
theorem Off.lk {P : Addr → Prop} {wr : List Addr} {s s' : Shared} (x : Off wr s s') (hn : ∀ b ∈ wr, ∃ o fs, s.heap.get? b = some o ∧ o.data = .fields fs) : LK P s.heap s'.heap :=
  .of_but (N := fun b => b ∈ wr) x.heap fun b o hb e => by
    obtain ⟨o', fs, e', q⟩ := hn b hb
    rw [e] at e'; cases e'
    exact .inr (.inr ⟨fs, q⟩)
theorem isL_isT {h : Heap} {a : Addr} {vs us : Array Value} {n m : Nat} (x : IsL h a vs n) (y : IsT h a us m) : False :=
  absurd (congrArg Obj.cls (Option.some.inj (x.symm.trans y))) (by show ¬ Value.type "list" = Value.type "tuple"; decide)
/-! ## hiding lists -/
open Classical in
/-- h without the lists of which P does not hold -/
noncomputable def hideL (P : Addr → Prop) (h : Heap) : Heap := ⟨h.objs.mapIdx fun i o => if (∃ vs n, o = { cls := .type "list", dict := none, data := .seq vs n, slots := #[] }) ∧ ¬ P i then { o with data := .freed } else o, h.life⟩
theorem hideL_some {P : Addr → Prop} {h : Heap} {b : Addr} {o : Obj} (e : h.get? b = some o) (k : ∀ vs n, o = { cls := .type "list", dict := none, data := .seq vs n, slots := #[] } → P b) : (hideL P h).get? b = some o := by
  obtain ⟨e1, e2⟩ := Heap.get?_some_iff.mp e
  refine Heap.get?_some_iff.mpr ⟨?_, e2⟩
  unfold hideL
  simp only [Array.getElem?_mapIdx, e1, Option.map_some]
  rw [if_neg]
  rintro ⟨⟨vs, n, rfl⟩, q⟩
  exact q (k vs n rfl)
theorem of_hideL {P : Addr → Prop} {h : Heap} {b : Addr} {o : Obj} (e : (hideL P h).get? b = some o) : h.get? b = some o ∧ ∀ vs n, o = { cls := .type "list", dict := none, data := .seq vs n, slots := #[] } → P b := by
  obtain ⟨e1, e2⟩ := Heap.get?_some_iff.mp e
  unfold hideL at e1
  simp only [Array.getElem?_mapIdx, Option.map_eq_some_iff] at e1
  obtain ⟨o', h1, h2⟩ := e1
  by_cases q : (∃ vs n, o' = { cls := .type "list", dict := none, data := .seq vs n, slots := #[] }) ∧ ¬ P b
  · rw [if_pos q] at h2
    subst h2
    cases e2
  · rw [if_neg q] at h2
    subst h2
    refine ⟨Heap.get?_some_iff.mpr ⟨h1, e2⟩, fun vs n z => ?_⟩
    by_cases p : P b
    · exact p
    · exact absurd ⟨⟨vs, n, z⟩, p⟩ q
theorem hideL_ext {P : Addr → Prop} {h : Heap} : Ext (hideL P h) h := fun b o e => (of_hideL e).1
theorem hideL_hp {P : Addr → Prop} {h : Heap} : HP P (hideL P h) := fun b vs n e => (of_hideL e).2 vs n rfl
theorem hideL_rd {P : Addr → Prop} {h : Heap} {v : Value} {d : D} (r : Rd P h v d) : Rd TP (hideL P h) v d := by
  refine Rd.rec (motive_1 := fun v d _ => Rd TP (hideL P h) v d) (motive_2 := fun vs ds _ => RdL TP (hideL P h) vs ds) .none .bool .int .str ?_ ?_ .nil ?_ r
  · intro a n vs xs p e _ ih; exact .list trivial (hideL_some e fun _ _ _ => p) ih
  · intro a n vs xs e _ ih; exact .tup (hideL_some e fun _ _ q => absurd (congrArg Obj.cls q) (by show ¬ Value.type "tuple" = Value.type "list"; decide)) ih
  · intro v vs d ds _ _ i1 i2; exact .cons i1 i2
theorem hideL_holds {P : Addr → Prop} {x : PySem.Str} {v : Value} (y : Holds env h x v) : Holds env (hideL P h) x v := by
  obtain ⟨a, ⟨b, m, c, d⟩ | ⟨b, c, d, e⟩⟩ := y
  · refine ⟨a, .inl ⟨b, m, ?_, d⟩⟩
    obtain ⟨o, es, ep, ho, hd, r⟩ := c
    exact ⟨o, es, ep, hideL_some ho (fun vs n q => by subst q; cases hd), hd, r⟩
  · refine ⟨a, .inr ⟨b, c, d, ?_⟩⟩
    obtain ⟨o, ho, hd⟩ := e
    exact ⟨o, hideL_some ho (fun vs n q => by subst q; cases hd), hd⟩
/-- a store of a name, to a local or to a cell -/
noncomputable def Tgt (env : Env) (h : Heap) (x : PySem.Str) (b : Addr) : Prop :=
  (env.kindOf x = some .local ∧ b = env.locals ∧ ∃ m, h.Ns env.locals m) ∨ (env.kindOf x = some .cell ∧ env.cells.lookup x = some b ∧ ∃ v, h.IsCell b v)
theorem Tgt.noseq {x : PySem.Str} {b : Addr} (t : Tgt env h x b) : ∃ o, h.get? b = some o ∧ NoSeq o := by
  rcases t with ⟨_, rfl, m, o, es, ep, ho, hd, _⟩ | ⟨_, _, v, o, ho, hd⟩
  · exact ⟨o, ho, .inl ⟨es, ep, hd⟩⟩
  · exact ⟨o, ho, .inr (.inl ⟨v, hd⟩)⟩
theorem Tgt.up {h h' : Heap} {x : PySem.Str} {b : Addr} (k : Ext h h') (t : Tgt env h x b) : Tgt env h' x b :=
  t.imp (fun ⟨a, b, m, c⟩ => ⟨a, b, m, c.keeps k⟩) fun ⟨a, b, v, c⟩ => ⟨a, b, v, c.keeps k⟩
theorem wp_store {x : PySem.Str} {v : Value} {s : Shared} {b : Addr} {Q : Unit → Shared → Prop} {E : Value → Shared → Prop} (hk : env.scope.kind = .function) (t : Tgt env s.heap x b)
    (q : ∀ h' tk, Heap.SameBut b s.heap h' → Holds env h' x v → Tgt env h' x b → (∀ m, s.heap.Ns env.locals m → b = env.locals → h'.Ns env.locals fun y => if y = x then some v else m y) → Q () { s with heap := h', toks := tk }) : wpAny (model prog w) A (storeName env x v) Q E s := by
  rcases t with ⟨k, rfl, m, hn⟩ | ⟨k, c, v₀, hc⟩
  · refine wpAny_storeName_local k hn (fun h' hn' hs' => q h' _ hs' ⟨hk, .inl ⟨k, _, hn', by simp⟩⟩ (.inl ⟨k, rfl, _, hn'⟩) fun m₂ hn₂ _ => ?_) (by rw [hk]; rfl)
    have : m₂ = m := by
      obtain ⟨o, es, ep, ho, hd, hkk, hm⟩ := hn
      obtain ⟨o', es', ep', ho', hd', hkk', hm'⟩ := hn₂
      rw [ho] at ho'; cases ho'
      rw [hd] at hd'; cases hd'
      funext y
      rw [← hm y, ← hm' y]
    rw [this]; exact hn'
  · refine wpAny_storeName_cell hk k c hc fun h' hc' hs' => q h' _ hs' ⟨hk, .inr ⟨.inl k, b, c, hc'⟩⟩ (.inr ⟨k, c, _, hc'⟩) fun m hn e => ?_
    subst e
    obtain ⟨o, es, ep, ho, hd, _⟩ := hn
    obtain ⟨o', ho', hd'⟩ := hc
    rw [ho] at ho'; cases ho'
    rw [hd] at hd'; cases hd'
theorem wp_newCompEnv {scope : Scope} {cl : List (PySem.Str × Addr)} {s : Shared} {Q : Env → Shared → Prop} {E : Value → Shared → Prop}
    (q : Q { scope := scope, locals := s.heap.objs.size, globals := env.globals, cells := cellsFrom (s.heap.objs.size + 1) scope.names cl, qual := env.qual, func := none, code := env.code, frame := env.frame, builtins := env.builtins }
      { s with heap := pushCells (s.heap.push { cls := .type "dict", data := .dict #[] }) scope.names }) :
    wpAny (model prog w) A (newFunctionEnv scope env.globals cl [] env.qual none .none (some env)) Q E s := by
  simp only [newFunctionEnv, Option.isSome_some, if_true]
  refine wpAny_bind (wpAny_alloc ?_)
  refine wpAny_bind (wpAny_layCells _ (fun name kind cells => by cases kind == NameKind.cell <;> simp) _ _ _ _ ?_)
  rw [show ({ s with heap := s.heap.push { cls := .type "dict", data := .dict #[] } } : Shared).heap.objs.size = s.heap.objs.size + 1 from Heap.size_push ..]
  exact wpAny_bind (wpAny_pure (wpAny_pure q))
theorem comp_core {elt iter : Expr} {x : PySem.Str} {px : Pos} {ifs : List Expr} {scope : Scope} {pos : Pos} {N : Addr → Prop} {s s₂ : Shared} {I : Addr} {fp wr : List Addr} {P : Nat → Value → Prop} {St : Nat → Heap → Prop} {ds : List D} {E : Value → Shared → Prop}
    (kh : Ext h s.heap) (hp : HP N h) (nw : Nw N s) (gr : Gr s s₂) (it : ItW prog w A N s s₂ I fp wr P St ds) (hkind : scope.kind = .function) (hx : scope.names.lookup x = some .local ∨ scope.names.lookup x = some .cell)
    (hnc : ∀ y ∈ scope.names, y.2 = .cell → scope.names.lookup y.1 = some .cell) (hfree : ∀ y ∈ scope.names, y.2 = .free → (env.cells.lookup y.1).isSome = true) (hz : ds.length ≤ sizeLine)
    (p : D → Bool) (g : D → D)
    (body : ∀ (cenv : Env) (h₃ : Heap) (i : Nat) (d : D), CE env scope cenv → Ext h h₃ → ds[i]? = some d → LV cenv h₃ x d → EvIfs prog w A cenv h₃ ifs (p d) ∧ (p d = true → Ev prog w A cenv h₃ elt (g d)))
    {RR : Value → Addr → Result → Shared → Prop}
    (hRR : ∀ (a C : Addr) (s' : Shared) (m : PySem.Str → Option Value) (n : Nat) (items : Array Value), Off wr s₂ s' → s'.heap.Ns C m → IsL s'.heap a items n → RdL (fun b => N b ∧ b ≠ a) s'.heap items.toList ((ds.filter p).map g) → s₂.heap.get? a = none → s₂.heap.get? C = none → a ≠ C →
      RR (.ref a) C (.ok .next) s') :
    wpAny (model prog w) A (newList []) (fun acc s₃ => wpAny (model prog w) A (newFunctionEnv scope env.globals (clOf scope.names env []) [] env.qual none .none (some env)) (fun cenv s₄ =>
      codeAny (model prog w) A (.compStart (.ListComp elt [⟨.Name x px, iter, ifs, 0⟩] scope pos) 0 (.ref I) acc { cenv with scope := relabel scope env }) (RR acc cenv.locals) s₄) E s₃) E s₂ := by
  refine wpAny_newObj_type (wp_newCompEnv ?_)
  dsimp only
  generalize hD : s₂.heap.objs.size = Da
  generalize hH2 : s₂.heap.push { cls := .type "list", dict := none, data := .seq ([] : List Value).toArray } = H2
  have hC : H2.objs.size = Da + 1 := by rw [← hH2, Heap.size_push, hD]
  rw [hC]
  have ok := cellsFrom_ok scope.names (H2.push { cls := .type "dict", data := .dict #[] }) (Da + 2) [] ⟨fun _ _ hm => (nomatch hm), List.Pairwise.nil⟩ (by rw [Heap.size_push, hC]; exact Nat.le_refl _)
  rw [Heap.size_push, hC] at ok
  generalize hH3 : pushCells (H2.push { cls := .type "dict", data := .dict #[] }) scope.names = H3 at ok ⊢
  have k2 : Ext s₂.heap H2 := hH2 ▸ Ext.rf.push _
  have k3 : Ext H2 H3 := fun b o e => hH3 ▸ pushCells_keeps _ _ b o (Heap.get?_push_of_some _ e)
  have hDl : IsL H3 Da #[] 0 := k3 _ _ (by rw [← hH2, ← hD]; exact Heap.get?_push_size _ rfl)
  have hCn : H3.Ns (Da + 1) (fun _ => none) := by
    rw [← hH3, ← hC]; exact (Heap.Ns.new H2 (.type "dict")).keeps (pushCells_keeps _ _)
  have nD : s₂.heap.get? Da = none := none_of_size (by omega)
  have nC : s₂.heap.get? (Da + 1) = none := none_of_size (by omega)
  have fpD : ∀ b ∈ fp, @LT.lt Nat _ b Da := fun b hb => by
    obtain ⟨o, ho⟩ := it.there b hb
    have h1 : @LT.lt Nat _ b s₂.heap.objs.size := Heap.lt_size ho
    rw [hD] at h1; exact h1
  have wrD : ∀ b ∈ wr, @LT.lt Nat _ b Da := fun b hb => fpD b (it.W.sub b hb)
  have lt₂ : ∀ b o, s₂.heap.get? b = some o → @LT.lt Nat _ b Da := fun b o e => by
    have h1 : @LT.lt Nat _ b s₂.heap.objs.size := Heap.lt_size e
    rw [hD] at h1; exact h1
  have fld₂ := it.fld 0 _ it.st
  -- the block's environment
  generalize hcenv : ({ scope := relabel scope env, locals := Da + 1, globals := env.globals, cells := cellsFrom (Da + 1 + 1) scope.names (clOf scope.names env []), qual := env.qual, func := none, code := env.code, frame := env.frame, builtins := env.builtins } : Env) = cenv
  have ce : CE env scope cenv := by
    subst hcenv
    refine ⟨rfl, rfl, rfl, fun y hy => ?_⟩
    show (cellsFrom (Da + 1 + 1) scope.names (clOf scope.names env [])).lookup y = _
    rw [cellsFrom_app, List.lookup_append, lookup_none_of_not_mem (fun c hc => by
      have := hnc _ (cellsFrom_mem _ _ _ _ hc) rfl
      rw [hy] at this; cases this)]
    exact clOf_lookup (.inl (mem_of_lookup hy)) hfree
  have hcl : cenv.locals = Da + 1 := by subst hcenv; rfl
  have hck : cenv.scope.kind = .function := by rw [ce.scp]; exact hkind
  -- the target
  obtain ⟨tb, htb, htD⟩ : ∃ tb, Tgt cenv H3 x tb ∧ @LT.lt Nat _ Da tb := by
    rcases hx with hx | hx
    · exact ⟨Da + 1, .inl ⟨ce.kind hx, hcl.symm, _, hcl ▸ hCn⟩, by omega⟩
    · have := cellsFrom_some (x := x) scope.names (Da + 1 + 1) [] (.inl hx)
      obtain ⟨c, hc⟩ := Option.isSome_iff_exists.mp this
      have hmem := mem_of_lookup hc
      refine ⟨c, .inr ⟨ce.kind hx, ?_, none, (ok.empty x c hmem).1⟩, Nat.lt_of_lt_of_le (Nat.lt_succ_of_lt (Nat.lt_succ_self _)) (ok.empty x c hmem).2⟩
      subst hcenv
      show (cellsFrom (Da + 1 + 1) scope.names (clOf scope.names env [])).lookup x = _
      rw [cellsFrom_app, List.lookup_append, hc]; rfl
  have off0 : ∀ tk, Off wr s₂ { s₂ with heap := H3, toks := tk } := fun tk => .hp fun b o _ e => k3 _ _ (k2 _ _ e)
  have loop : ∀ s₄ : Shared, s₄ = { s₂ with heap := H3 } → codeAny (model prog w) A (.compLoop (.ListComp elt [⟨.Name x px, iter, ifs, 0⟩] scope pos) 0 (.ref I) (.ref Da) cenv) (RR (.ref Da) (Da + 1)) s₄ := by
    rintro s₄ rfl
    refine codeAny_compLoop_tests (fun k s' => ∃ i m n items, Off wr s₂ s' ∧ St i s'.heap ∧ s'.heap.Ns (Da + 1) m ∧ IsL s'.heap Da items n ∧ RdL (fun b => N b ∧ b ≠ Da) s'.heap items.toList (((ds.take i).filter p).map g) ∧ Tgt cenv s'.heap x tb ∧ i ≤ ds.length ∧ k = ds.length + 1 - i) ?_ (ds.length + 1)
      ⟨0, _, _, _, off0 _, it.W.frame _ _ _ it.st fun b _ o e => k3 _ _ (k2 _ _ e), hCn, hDl, by simpa using .nil, htb, Nat.zero_le _, rfl⟩
    rintro k s' ⟨i, m, n, items, off, st, hns, hl, hrd, htg, hi, rfl⟩
    by_cases hlt : i < ds.length
    · refine it.W.item i s' _ _ hlt st fun v h₁ tk₁ hPv hst₁ hk₁ => ?_
      obtain ⟨d, hd, hrv⟩ := it.rd i v hPv
      have off₁ : Off wr s' { s' with heap := h₁, toks := tk₁ } := .hp hk₁
      have fld' := it.fld i _ st
      have lk₁ : ∀ P', LK P' s'.heap h₁ := fun _ => off₁.lk fld'
      have hwD : Da ∉ wr := fun hb => Nat.lt_irrefl _ (wrD _ hb)
      have hwC : Da + 1 ∉ wr := fun hb => Nat.lt_irrefl _ (Nat.lt_of_succ_lt (wrD _ hb))
      have hwt : tb ∉ wr := fun hb => Nat.lt_irrefl _ (Nat.lt_trans htD (wrD _ hb))
      have htg₁ : Tgt cenv h₁ x tb := by
        rcases htg with ⟨a, b, m', c⟩ | ⟨a, b, v', c⟩
        · exact .inl ⟨a, b, m', c.at' fun o e => hk₁ _ o (by rw [hcl]; exact hwC) e⟩
        · obtain ⟨o, ho, hd⟩ := c; exact .inr ⟨a, b, v', o, hk₁ _ _ hwt ho, hd⟩
      refine wpAny_assign_Name (wp_store (b := tb) hck htg₁ fun h₂ tk₂ hs₂ hold₂ htg₂ hnst => ?_)
      have hnt : ∃ o, h₁.get? tb = some o ∧ NoSeq o := htg₁.noseq
      have lk₂ : ∀ P', LK P' h₁ h₂ := fun _ => .of_but (N := fun b => b = tb) (fun b o hb e => hs₂.extBut b o hb e) fun b o hb e => by
        subst hb; obtain ⟨o', e', z⟩ := hnt; rw [e] at e'; cases e'; exact z
      have hrv₂ : Rd (fun b => N b ∧ b ≠ Da) h₂ v d := hrv.here.keep (fun b ⟨hb, vs, n, e⟩ => ⟨hb, fun q => by rw [q] at e; rw [show s₂.heap.get? Da = _ from e] at nD; cases nD⟩) (((off.lk fld₂).trans (lk₁ _)).trans (lk₂ _))
      have off₂ : Off wr s₂ { s' with heap := h₂, toks := tk₂ } := ⟨fun b o hb e => hs₂.extBut b o (fun q => by
          have := lt₂ b o e; rw [q] at this; exact Nat.lt_irrefl _ (Nat.lt_trans htD this)) (hk₁ b o hb (off.heap b o hb e)), off.gens, off.bare, off.os⟩
      have ext₂ : Ext s.heap h₂ := fun b o e => off₂.heap b o (fun hb => by rw [it.fresh b hb] at e; cases e) (gr.heap b o e)
      have ext₃ : Ext h (hideL (fun b => N b ∧ b ≠ Da) h₂) := fun b o e => hideL_some (ext₂ b o (kh b o e)) fun vs n q => ⟨hp b vs n (by subst q; exact e), fun q' => by
        have := gr.heap _ _ (kh _ _ e); rw [q', nD] at this; cases this⟩
      obtain ⟨bt, be⟩ := body cenv _ i d ce ext₃ hd ⟨v, hideL_holds hold₂, hideL_rd hrv₂⟩
      have hneD : Da ≠ tb := Nat.ne_of_lt htD
      have hl₂ : IsL h₂ Da items n := hs₂.extBut _ _ hneD (hk₁ _ _ hwD hl)
      have hns₂ : ∃ m', h₂.Ns (Da + 1) m' := by
        have hn₁ : h₁.Ns (Da + 1) m := hns.at' fun o e => hk₁ _ o hwC e
        by_cases hq : tb = cenv.locals
        · exact ⟨_, hcl ▸ hnst m (hcl.symm ▸ hn₁) hq⟩
        · exact ⟨m, hn₁.sameBut hs₂ (by rw [← hcl]; exact fun e => hq e.symm)⟩
      obtain ⟨m₂, hns₂⟩ := hns₂
      have hst₂ : St (i + 1) h₂ := it.W.frame _ _ _ hst₁ fun b hb o e => hs₂.extBut b o (fun q => by
        have := fpD b hb; rw [q] at this; exact Nat.lt_irrefl _ (Nat.lt_trans htD this)) e
      have hrd₂ : RdL (fun b => N b ∧ b ≠ Da) h₂ items.toList (((ds.take i).filter p).map g) := hrd.keep (fun _ h => h) ((lk₁ _).trans (lk₂ _))
      have htk : (ds.take (i + 1)).filter p = (ds.take i).filter p ++ (if p d then [d] else []) := by
        rw [List.take_add_one, hd, List.filter_append]
        cases hp : p d <;> simp [hp]
      refine bt _ hideL_ext _ _ fun s₃ g₃ => ?_
      cases hpd : p d with
      | false =>
        simp only [Bool.false_eq_true, if_false]
        refine ⟨ds.length + 1 - (i + 1), by omega, i + 1, m₂, n, items, off₂.trans (.of_gr g₃), it.W.frame _ _ _ hst₂ fun b _ o e => g₃.heap b o e, hns₂.keeps g₃.heap, g₃.heap _ _ hl₂, ?_, ?_, hlt, rfl⟩
        · rw [htk, hpd]; simpa using hrd₂.up g₃.heap
        · exact htg₂.up g₃.heap
      | true =>
        simp only [if_true]
        refine be hpd (fun b => N b ∧ b ≠ Da) s₃ (hideL_ext.tr g₃.heap) hideL_hp (fun b e => ?_) _ _ fun y s₄ g₄ r₄ => ?_
        · have e2 : h₂.get? b = none := none_down g₃.heap e
          refine ⟨?_, fun q => by rw [q, show h₂.get? Da = _ from hl₂] at e2; cases e2⟩
          refine nw b ?_
          cases e3 : s.heap.get? b with
          | none => rfl
          | some o => rw [ext₂ b o e3] at e2; cases e2
        have hl₄ : IsL s₄.heap Da items n := g₄.heap _ _ (g₃.heap _ _ hl₂)
        have hsz : items.size ≤ sizeLine := by
          have e1 := hrd.length
          have e2 : ((ds.take i).filter p).length ≤ (ds.take i).length := List.length_filter_le _ _
          simp at e1 e2
          omega
        refine wpAny_list_append_plain ⟨n, hl₄⟩ (fun h₅ hl₅ hs₅ => ?_) hsz
        obtain ⟨n₅, hl₅⟩ := hl₅
        have k₄ : Ext h₂ s₄.heap := fun b o e => g₄.heap _ _ (g₃.heap _ _ e)
        refine ⟨ds.length + 1 - (i + 1), by omega, i + 1, m₂, n₅, items.push y, ?_, ?_, ?_, hl₅, ?_, ?_, hlt, rfl⟩
        · have o₄ := (off₂.trans (.of_gr g₃)).trans (.of_gr g₄)
          exact ⟨fun b o hb e => hs₅.extBut b o (fun q => by have := lt₂ b o e; rw [q] at this; exact Nat.lt_irrefl _ this) (o₄.heap b o hb e), o₄.gens, o₄.bare, o₄.os⟩
        · exact it.W.frame _ _ _ hst₂ fun b hb o e => hs₅.extBut b o (fun q => by have := fpD b hb; rw [q] at this; exact Nat.lt_irrefl _ this) (k₄ b o e)
        · exact (hns₂.keeps k₄).sameBut hs₅ (Nat.ne_of_gt (Nat.lt_succ_self _))
        · rw [htk, hpd, Array.toList_push]
          simp only [if_true, List.map_append, List.map_cons, List.map_nil]
          have lk₅ : LK (fun b => N b ∧ b ≠ Da) s₄.heap h₅ := ⟨fun a vs n e q => hs₅.extBut _ _ q.2 e, fun a vs n e => hs₅.extBut _ _ (fun q => isL_isT hl₄ (q ▸ e)) e⟩
          exact (((hrd₂.up k₄).keep (fun _ h => h) lk₅).append (.cons (r₄.keep (fun _ h => h) lk₅) .nil))
        · have t₄ := htg₂.up k₄
          rcases t₄ with ⟨a, b, m', c⟩ | ⟨a, b, v', c⟩
          · exact .inl ⟨a, b, m', c.sameBut hs₅ (by rw [hcl]; exact Nat.ne_of_gt (Nat.lt_succ_self _))⟩
          · exact .inr ⟨a, b, v', c.sameBut hs₅ (Nat.ne_of_gt htD)⟩
    · have hi' : i = ds.length := by omega
      subst hi'
      refine it.W.done s' _ _ st fun h₁ tk₁ hk₁ => ?_
      have hwD : Da ∉ wr := fun hb => Nat.lt_irrefl _ (wrD _ hb)
      have hwC : Da + 1 ∉ wr := fun hb => Nat.lt_irrefl _ (Nat.lt_of_succ_lt (wrD _ hb))
      have off₁ : Off wr s' { s' with heap := h₁, toks := tk₁ } := .hp hk₁
      have lk₁ : LK (fun b => N b ∧ b ≠ Da) s'.heap h₁ := off₁.lk (it.fld _ _ st)
      rw [List.take_length] at hrd
      exact hRR Da (Da + 1) _ m n items (off.trans off₁) (hns.at' fun o e => hk₁ _ o hwC e) (hk₁ _ _ hwD hl) (hrd.keep (fun _ h => h) lk₁) nD nC (Nat.ne_of_lt (Nat.lt_succ_self _))
  exact codeAny_compStart_list (loop _ rfl) (it.W.self 0 _ _ _ (it.W.frame _ _ _ it.st fun b _ o e => k3 _ _ (k2 _ _ e)) (loop _ rfl))
end
end Mine
namespace Mine
section
variable {prog : Program} {w : World} {A : Around} {env : Env} {h : Heap}
/-- the evaluation gives a new list -/
noncomputable def EvN (prog : Program) (w : World) (A : Around) (env : Env) (h : Heap) (e : Expr) (ds : List D) : Prop := ∀ (P : Addr → Prop) (s : Shared), Ext h s.heap → HP P h → Nw P s → ∀ (Q : Value → Shared → Prop) (E : Value → Shared → Prop),
  (∀ a n items s', Gr s s' → s.heap.get? a = none → IsL s'.heap a items n → RdL (fun b => P b ∧ b ≠ a) s'.heap items.toList ds → Q (.ref a) s') → wpAny (model prog w) A (eval e env) Q E s
theorem EvN.ev {e : Expr} {ds : List D} (y : EvN prog w A env h e ds) : Ev prog w A env h e (.list ds) := fun P s k hp nw Q E q =>
  y P s k hp nw _ _ fun a n items s' g f l r => q _ _ g (.list (nw _ f) l (r.keep (fun _ h => h.1) (.of_ext Ext.rf)))
theorem RdL.ne {P : Addr → Prop} {h : Heap} {a : Addr} {vs : List Value} {ds : List D} (r : RdL P h vs ds) (f : h.get? a = none) : RdL (fun b => P b ∧ b ≠ a) h vs ds :=
  r.here.keep (fun b ⟨p, us, n, e⟩ => ⟨p, fun q => by subst q; rw [show h.get? b = _ from e] at f; cases f⟩) (.of_ext Ext.rf)
theorem EvN.list {es : List Expr} {p : Pos} {ds : List D} (y : EvL prog w A env h es ds) (hz : ds.length ≤ sizeLine) : EvN prog w A env h (.List es p) ds := fun P s k hp nw Q E q =>
  wpAny_List (y P p s k hp nw _ _ fun vs s₁ g r => ⟨by rw [r.length]; exact hz, q _ 0 _ _ (g.trans (.hp (Ext.rf.push _))) (none_down g.heap (none_of_size (Nat.le_refl _))) (IsL.new _ _) (by rw [List.toList_toArray]; exact (r.ne (none_of_size (Nat.le_refl _))).up (Ext.rf.push _))⟩)
theorem flatten_rep {P : Addr → Prop} {h : Heap} {vs : List Value} {ds : List D} (r : RdL P h vs ds) : ∀ k : Nat, RdL P h (List.replicate k vs).flatten (List.replicate k ds).flatten
  | 0 => .nil
  | k + 1 => by rw [List.replicate_succ, List.replicate_succ, List.flatten_cons, List.flatten_cons]; exact r.append (flatten_rep r k)
theorem wp_mul_list {P : Addr → Prop} {s : Shared} {l : Addr} {items : Array Value} {n : Nat} {ds : List D} {x : Int} {u : Tok} {Q : Value → Shared → Prop} {E : Value → Shared → Prop} (hl : IsL s.heap l items n) (r : RdL P s.heap items.toList ds) (h0 : 0 ≤ x) (hz : ds.length * x.toNat ≤ sizeLine) (hx : x < 2 ^ 24)
    (q : ∀ a n items s', Gr s s' → s.heap.get? a = none → IsL s'.heap a items n → RdL (fun b => P b ∧ b ≠ a) s'.heap items.toList (List.replicate x.toNat ds).flatten → Q (.ref a) s') : wpAny (model prog w) A (binaryOp .Mult (.ref l) (.int x u)) Q E s := by
  have hs : items.size = ds.length := by simpa using r.length
  have hz' : sizeLine = 16777216 := rfl
  rw [hz'] at hz
  refine wpAny_binaryOp_repeat_ref (T := "list") (U := "int") (by decide) ⟨_, hl, rfl⟩ (fun s' => typeIs_int s' x u) noFill_list_mul F.fills_int_mul F.slot_int_rmul repeat_list F.slot_int_index.lookup
    (call_meets F.slot_int_rmul (typeIs_int s x u) F.entry_int_rmul (F.args_int_rmul_2 _ _) (int___rmul___int_list x u l items n)
      ⟨hl, rfl, ⟨_, hl, rfl⟩, call_meets F.slot_list_mul ⟨_, hl, rfl⟩ F.entry_list_mul (F.args_list_mul_2 _ _)
        (AutoListH.list___mul___list_int_3 l items n x u (by simp [Builtin.List.listFitsIndex]; omega) (by rw [hs]; omega) (by rw [hs]; simp [Builtin.List.listTooLong, sizeLine]; omega))
        ⟨hl, ?_⟩⟩)
  have e : (List.foldl (fun x1 x2 => x1 ++ x2) #[] (List.replicate (if items.isEmpty = true then 0 else x.toNat) items)) = (List.replicate x.toNat items.toList).flatten.toArray := listMul_foldl_if items x.toNat
  rw [e]
  exact q _ 0 _ _ (.mk' (Ext.rf.push _)) (none_of_size (Nat.le_refl _)) (IsL.new _ _) (by rw [List.toList_toArray]; exact ((flatten_rep r _).ne (none_of_size (Nat.le_refl _))).up (Ext.rf.push _))
theorem EvN.mul {l r : Expr} {p : Pos} {ds : List D} {x : Int} (y : Ev prog w A env h l (.list ds)) (z : Ev prog w A env h r (.int x)) (h0 : 0 ≤ x) (hz : ds.length * x.toNat ≤ sizeLine) (hx : x < 2 ^ 24) : EvN prog w A env h (.BinOp l .Mult r p) (List.replicate x.toNat ds).flatten := fun P s k hp nw Q E q =>
  wpAny_BinOp (y P s k hp nw _ _ fun v s₁ g₁ r₁ => z P s₁ (k.tr g₁.heap) hp (nw.up g₁) _ _ fun u s₂ g₂ r₂ => by
    obtain ⟨a, n, vs, rfl, -, e1, l1⟩ := r₁.list_inv
    obtain ⟨t, rfl⟩ := r₂.int_inv
    exact wp_mul_list (P := P) (show IsL s₂.heap a vs n from g₂.heap _ _ e1) (l1.up g₂.heap) h0 hz hx fun a n items s' g f l r => q a n items s' ((g₁.trans g₂).trans g) (none_down (g₁.heap.tr g₂.heap) f) l r)
theorem allC_free {scope : Scope} {fr : List PySem.Str} (hfr : (scope.names.filter fun y => y.2 == NameKind.free).map (·.1) = fr) (hc : AllC env fr) : ∀ y ∈ scope.names, y.2 = .free → (env.cells.lookup y.1).isSome = true := fun y hy hf =>
  hc.some y.1 (hfr ▸ List.mem_map.mpr ⟨y, List.mem_filter.mpr ⟨hy, by simpa using hf⟩, rfl⟩)
noncomputable def compOk (scope : Scope) (x : PySem.Str) : Bool :=
  (scope.kind == .function) && (scope.names.lookup x == some .local || scope.names.lookup x == some .cell) && (scope.names.all fun y => y.2 != .cell || scope.names.lookup y.1 == some .cell) && (scope.names.all fun y => y.2 != .local || scope.names.lookup y.1 == some .local)
theorem compOk_parts {scope : Scope} {x : PySem.Str} (h : compOk scope x = true) : scope.kind = .function ∧ (scope.names.lookup x = some .local ∨ scope.names.lookup x = some .cell) ∧ (∀ y ∈ scope.names, y.2 = .cell → scope.names.lookup y.1 = some .cell) ∧ ∀ y ∈ scope.names, y.2 = .local → scope.names.lookup y.1 = some .local := by
  simp only [compOk, Bool.and_eq_true, Bool.or_eq_true, beq_iff_eq, List.all_eq_true, bne_iff_ne, ne_eq] at h
  obtain ⟨⟨⟨a, b⟩, c⟩, d⟩ := h
  exact ⟨a, b, fun y hy e => (c y hy).resolve_left fun q => q e, fun y hy e => (d y hy).resolve_left fun q => q e⟩
theorem EvN.comp {elt iter : Expr} {x : PySem.Str} {px : Pos} {ifs : List Expr} {scope : Scope} {pos : Pos} {ds : List D} {fr : List PySem.Str} (p : D → Bool) (g : D → D)
    (hi : EvI prog w A env h iter ds) (hok : compOk scope x = true) (hfr : (scope.names.filter fun y => y.2 == NameKind.free).map (·.1) = fr) (hc : AllC env fr) (hz : ds.length ≤ sizeLine)
    (body : ∀ (cenv : Env) (h₃ : Heap) (i : Nat) (d : D), CE env scope cenv → Ext h h₃ → ds[i]? = some d → LV cenv h₃ x d → EvIfs prog w A cenv h₃ ifs (p d) ∧ (p d = true → Ev prog w A cenv h₃ elt (g d)))
    (hs : ∀ x, foldedSetIterable iter env x = pure x := by intro _; rfl) : EvN prog w A env h (.ListComp elt [⟨.Name x px, iter, ifs, 0⟩] scope pos) ((ds.filter p).map g) := fun P s k hp nw Q E q => by
  obtain ⟨hkind, hx, hnc, hnames⟩ := compOk_parts hok
  have hfree := allC_free hfr hc
  rw [eval_ListComp]
  refine wpAny_comprehension_free (use := none) rfl hs (closureFor_cl hfree) hkind hnames (hi P s k hp nw _ _ fun I fp wr Pi St s₂ gr it => ?_)
  refine comp_core (RR := fun acc C => compPost (model prog w) A E none Q acc C) k hp nw gr it hkind hx hnc hfree hz p g body fun a C s' m n items off hC hl hr na nC hne => ?_
  refine ⟨m, hC, fun h' hs' => ?_⟩
  have nC' : s.heap.get? C = none := none_down gr.heap nC
  refine q a n items _ ⟨fun b o e => hs'.extBut b o (fun q => by rw [q, nC'] at e; cases e) (off.heap b o (fun hb => by rw [it.fresh b hb] at e; cases e) (gr.heap b o e)), fun g x e => off.gens g x (gr.gens g x e), fun e => off.bare (gr.bare e), off.os.trans gr.os⟩ (none_down gr.heap na) (hs'.extBut _ _ hne hl) (hr.keep (fun _ h => h) ?_)
  obtain ⟨o, es, ep, ho, hd, _⟩ := hC
  exact .of_but (N := fun b => b = C) (fun b o hb e => hs'.extBut b o hb e) fun b o' hb e => by
    subst hb; rw [ho] at e; cases e; exact .inl ⟨es, ep, hd⟩
/-! ## a store done -/
structure Stored (env : Env) (x : PySem.Str) (v : Value) (tb : Addr) (s s' : Shared) : Prop where
  off : Off [tb] s s'
  holds : Holds env s'.heap x v
  tgt : Tgt env s'.heap x tb
  ns : ∀ m, s.heap.Ns env.locals m → ∃ m', s'.heap.Ns env.locals m' ∧ ∀ y, y ≠ x → m' y = m y
theorem Stored.pre {x : PySem.Str} {v : Value} {s₀ s s' : Shared} {b : Addr} (g : Gr s₀ s) (y : Stored env x v b s s') : Stored env x v b s₀ s' :=
  ⟨(Off.of_gr g).trans y.off, y.holds, y.tgt, fun m hm => y.ns m (hm.keeps g.heap)⟩
theorem wp_stored {x : PySem.Str} {v : Value} {s : Shared} {b : Addr} {Q : Unit → Shared → Prop} {E : Value → Shared → Prop} (hk : env.scope.kind = .function) (t : Tgt env s.heap x b)
    (q : ∀ s', Stored env x v b s s' → (∀ P, LK P s.heap s'.heap) → Q () s') : wpAny (model prog w) A (storeName env x v) Q E s := by
  have nsq := t.noseq
  refine wp_store hk t fun h' tk hs ho ht hn => q _ ⟨⟨fun q o hq e => hs.extBut q o (by simpa using hq) e, fun _ _ e => e, fun e => e, rfl⟩, ho, ht, fun m hm => ?_⟩ (fun P => .of_but (N := fun q => q = b) (fun q o hq e => hs.extBut q o hq e) fun q o hq e => by
    subst hq; obtain ⟨o', e', z⟩ := nsq; rw [e] at e'; cases e'; exact z)
  by_cases hb : b = env.locals
  · exact ⟨_, hn m hm hb, fun y hy => by simp [hy]⟩
  · exact ⟨m, hm.sameBut hs (Ne.symm hb), fun _ _ => rfl⟩
theorem wp_assign {x : PySem.Str} {p pos : Pos} {e : Expr} {d : D} {P : Addr → Prop} {s : Shared} {tb : Addr} {Q : Flow → Shared → Prop} {E : Value → Shared → Prop} (hk : env.scope.kind = .function) (t : Tgt env s.heap x tb) (k : Ext h s.heap) (hp : HP P h) (nw : Nw P s) (y : Ev prog w A env h e d)
    (q : ∀ v s', Stored env x v tb s s' → Rd P s'.heap v d → Q .next s') (hs : swapsWith e (some (.Name x p)) pos.line env = pure false := by rfl) : wpAny (model prog w) A (exec (.Assign [.Name x p] e pos) env) Q E s :=
  wpAny_Assign_Name (hs := hs) (y P s k hp nw _ _ fun v s₁ g r => wp_stored hk (t.up g.heap) fun s' st lk => q v s' (st.pre g) (r.keep (fun _ h => h) (lk P)))
/-- the value is a new list -/
theorem wp_assignN {x : PySem.Str} {p pos : Pos} {e : Expr} {ds : List D} {P : Addr → Prop} {s : Shared} {tb : Addr} {Q : Flow → Shared → Prop} {E : Value → Shared → Prop} (hk : env.scope.kind = .function) (t : Tgt env s.heap x tb) (k : Ext h s.heap) (hp : HP P h) (nw : Nw P s) (y : EvN prog w A env h e ds)
    (q : ∀ a n items s', Stored env x (.ref a) tb s s' → s.heap.get? a = none → IsL s'.heap a items n → RdL (fun b => P b ∧ b ≠ a) s'.heap items.toList ds → Q .next s') (hs : swapsWith e (some (.Name x p)) pos.line env = pure false := by rfl) : wpAny (model prog w) A (exec (.Assign [.Name x p] e pos) env) Q E s :=
  wpAny_Assign_Name (hs := hs) (y P s k hp nw _ _ fun a n items s₁ g f l r => wp_stored hk (t.up g.heap) fun s' st lk => q a n items s' (st.pre g) f ((lk TP).1 _ _ _ l trivial) (r.keep (fun _ h => h) (lk _)))
theorem wp_assignU {x y : PySem.Str} {px py pos spos : Pos} {elt iter : Expr} {ifs : List Expr} {scope : Scope} {ds : List D} {fr : List PySem.Str} {P : Addr → Prop} {s : Shared} {tb : Addr} {Q : Flow → Shared → Prop} {E : Value → Shared → Prop} (p : D → Bool) (g : D → D)
    (hk : env.scope.kind = .function) (t : Tgt env s.heap y tb) (k : Ext h s.heap) (hp : HP P h) (nw : Nw P s)
    (hi : EvI prog w A env h iter ds) (hok : compOk scope x = true) (hfr : (scope.names.filter fun y => y.2 == NameKind.free).map (·.1) = fr) (hc : AllC env fr) (hz : ds.length ≤ sizeLine)
    (body : ∀ (cenv : Env) (h₃ : Heap) (i : Nat) (d : D), CE env scope cenv → Ext h h₃ → ds[i]? = some d → LV cenv h₃ x d → EvIfs prog w A cenv h₃ ifs (p d) ∧ (p d = true → Ev prog w A cenv h₃ elt (g d)))
    (q : ∀ a n items s', Stored env y (.ref a) tb s s' → s.heap.get? a = none → IsL s'.heap a items n → RdL (fun b => P b ∧ b ≠ a) s'.heap items.toList ((ds.filter p).map g) → Q .next s')
    (hsw : swapsWith (.ListComp elt [⟨.Name x px, iter, ifs, 0⟩] scope pos) (some (.Name y py)) spos.line env = pure true := by with_unfolding_all rfl)
    (hs : ∀ x, foldedSetIterable iter env x = pure x := by intro _; rfl) : wpAny (model prog w) A (exec (.Assign [.Name y py] (.ListComp elt [⟨.Name x px, iter, ifs, 0⟩] scope pos) spos) env) Q E s := by
  obtain ⟨hkind, hx, hnc, hnames⟩ := compOk_parts hok
  have hfree := allC_free hfr hc
  rw [exec_Assign_Name_used _ _ _ _ hsw]
  refine wpAny_bind (wpAny_standAt (wpAny_bind ?_))
  show wpAny _ A (do let _ ← comprehension (.ListComp elt [⟨.Name x px, iter, ifs, 0⟩] scope pos) scope env _ (newList []) false (eval iter env) (some (assign (.Name y py) env))) _ _ s
  refine wpAny_bind (wpAny_mono (wpAny_comprehension_free (use := some (assign (.Name y py) env)) (Q := fun _ s' => Q .next s') rfl hs (closureFor_cl hfree) hkind hnames
    (hi P s k hp nw _ _ fun I fp wr Pi St s₂ gr it => ?_)) (fun _ s' hq => wpAny_pure (wpAny_pure hq)) fun _ _ e => e)
  refine comp_core (RR := fun acc C => compPost (model prog w) A E (some (assign (.Name y py) env)) (fun _ s' => Q .next s') acc C) k hp nw gr it hkind hx hnc hfree hz p g body fun a C s' m n items off hC hl hr na nC hne => ?_
  show wpAny _ A (assign (.Name y py) env (.ref a)) _ _ _
  have nC' : s.heap.get? C = none := none_down gr.heap nC
  have gr' : Gr s s' := ⟨fun b o e => off.heap b o (fun hb => by rw [it.fresh b hb] at e; cases e) (gr.heap b o e), fun g x e => off.gens g x (gr.gens g x e), fun e => off.bare (gr.bare e), off.os.trans gr.os⟩
  have htC : tb ≠ C := fun q => by obtain ⟨o, ho, _⟩ := t.noseq; rw [q, nC'] at ho; cases ho
  refine wpAny_assign_Name (wp_stored hk (t.up gr'.heap) fun s₃ st lk => ?_)
  have hC₃ : ∃ m, s₃.heap.Ns C m := ⟨m, hC.at' fun o e => st.off.heap C o (by simpa using Ne.symm htC) e⟩
  obtain ⟨m₃, hC₃⟩ := hC₃
  refine ⟨m₃, hC₃, fun h' hs' => ?_⟩
  have lk' : ∀ P, LK P s₃.heap h' := fun P => by
    obtain ⟨o, es, ep, ho, hd, _⟩ := hC₃
    exact .of_but (N := fun b => b = C) (fun b o hb e => hs'.extBut b o hb e) fun b o' hb e => by
      subst hb; rw [ho] at e; cases e; exact .inl ⟨es, ep, hd⟩
  refine q a n items _ ?_ (none_down gr.heap na) ((lk' TP).1 _ _ _ ((lk TP).1 _ _ _ hl trivial) trivial) ((hr.keep (fun _ h => h) (lk _)).keep (fun _ h => h) (lk' _))
  have st' := st.pre gr'
  have nsC : ∀ {a m}, a ≠ C → s₃.heap.Ns a m → h'.Ns a m := fun ha x => x.sameBut hs' ha
  have hLC : ∀ {m}, s.heap.Ns env.locals m → env.locals ≠ C := fun hm q => by obtain ⟨o, _, _, ho, _⟩ := hm; rw [q, nC'] at ho; cases ho
  refine ⟨⟨fun b o hb e => hs'.extBut b o (fun q => by rw [q, nC'] at e; cases e) (st'.off.heap b o hb e), st'.off.gens, st'.off.bare, st'.off.os⟩, ?_, ?_, fun m hm => ?_⟩
  · obtain ⟨x1, x2⟩ := st.holds
    refine ⟨x1, ?_⟩
    rcases t with ⟨t1, rfl, _⟩ | ⟨t1, t2, _⟩
    · rcases x2 with ⟨y1, m', y2, y3⟩ | ⟨y1, _⟩
      · exact .inl ⟨y1, m', nsC htC y2, y3⟩
      · rw [t1] at y1; rcases y1 with y1 | y1 <;> cases y1
    · rcases x2 with ⟨y1, _⟩ | ⟨y1, c, y2, y3⟩
      · rw [t1] at y1; cases y1
      · rw [t2] at y2; cases y2
        exact .inr ⟨y1, tb, t2, y3.sameBut hs' htC⟩
  · rcases st.tgt with ⟨t1, t2, m', t3⟩ | ⟨t1, t2, v, t3⟩
    · exact .inl ⟨t1, t2, m', nsC (by rw [← t2]; exact htC) t3⟩
    · exact .inr ⟨t1, t2, v, t3.sameBut hs' htC⟩
  · obtain ⟨m', a1, a2⟩ := st'.ns m hm
    exact ⟨m', nsC (hLC hm) a1, a2⟩
end
end Mine
namespace Mine
/-! ## the state of a frame -/
inductive VV where
  | dat (d : D) | loc (k : Nat)
noncomputable abbrev Sg := List (PySem.Str × VV)
noncomputable abbrev Hp := List (Option (List VV))
noncomputable def Own (φ : Nat → Option (Option Addr)) (b : Addr) : Prop := ∃ k, φ k = some (some b)
noncomputable def PP (P : Addr → Prop) (φ : Nat → Option (Option Addr)) (b : Addr) : Prop := P b ∧ ¬ Own φ b
noncomputable def RdV (P : Addr → Prop) (φ : Nat → Option (Option Addr)) (h : Heap) (v : Value) : VV → Prop
  | .dat d => Rd (PP P φ) h v d
  | .loc k => ∃ x, φ k = some x ∧ ∀ a, x = some a → v = .ref a
inductive RdVL (P : Addr → Prop) (φ : Nat → Option (Option Addr)) (h : Heap) : List Value → List VV → Prop
  | nil : RdVL P φ h [] []
  | cons {v vs x xs} : RdV P φ h v x → RdVL P φ h vs xs → RdVL P φ h (v :: vs) (x :: xs)
noncomputable def FA (env : Env) (b : Addr) : Prop := b = env.locals ∨ ∃ x, env.cells.lookup x = some b
structure FE (env : Env) (sc : Scope) : Prop where
  scope : env.scope = sc
  kind : sc.kind = .function
  globals : env.globals = mainGlobals
  builtins : env.builtins = builtinsNs
  cell : ∀ x, sc.names.lookup x = some .cell → (env.cells.lookup x).isSome = true
  apart : ∀ x y c, env.cells.lookup x = some c → env.cells.lookup y = some c → x = y
theorem FE.ge {env : Env} {sc : Scope} (f : FE env sc) : GE env := ⟨by rw [f.scope]; exact f.kind, f.globals, f.builtins⟩
theorem FE.kindOf {env : Env} {sc : Scope} (f : FE env sc) {x : PySem.Str} {k : NameKind} (e : sc.names.lookup x = some k) : env.kindOf x = some k := by unfold Env.kindOf; rw [f.scope]; exact e
structure St (mg mb : PySem.Str → Option Value) (ds : List DefRec) (env : Env) (B : Shared) (P : Addr → Prop) (φ : Nat → Option (Option Addr)) (σ : Sg) (H : Hp) (s : Shared) : Prop where
  gr : Gr B s
  wd : Wd mg mb ds B.heap
  nw : Nw P B
  frf : ∀ b, FA env b → B.heap.get? b = none
  ns : ∃ m, s.heap.Ns env.locals m
  cl : ∀ x c, env.cells.lookup x = some c → ∃ v, s.heap.IsCell c v
  vars : ∀ x vv, σ.lookup x = some vv → ∃ v, Holds env s.heap x v ∧ RdV P φ s.heap v vv
  inj : ∀ j k a, φ j = some (some a) → φ k = some (some a) → j = k
  ofr : ∀ k a, φ k = some (some a) → B.heap.get? a = none
  isl : ∀ k a, φ k = some (some a) → ∃ vs n, IsL s.heap a vs n
  cont : ∀ k l, H[k]? = some (some l) → ∃ a n vs, φ k = some (some a) ∧ IsL s.heap a vs n ∧ RdVL P φ s.heap vs.toList l
  out : ∀ k, H.length ≤ k → φ k = none
section
variable {P P' : Addr → Prop} {φ φ' : Nat → Option (Option Addr)} {h h' : Heap}
theorem RdV.keep {v : Value} {vv : VV} (hP : ∀ b, PP P φ b → PP P' φ' b) (hφ : ∀ k x, φ k = some x → φ' k = some x ∨ φ' k = some none) (k : LK (PP P φ) h h') (r : RdV P φ h v vv) : RdV P' φ' h' v vv := by
  cases vv with
  | dat d => exact Rd.keep hP k r
  | loc j =>
    obtain ⟨x, hx, hr⟩ := r
    rcases hφ j x hx with e | e
    · exact ⟨x, e, hr⟩
    · exact ⟨none, e, fun a q => by cases q⟩
theorem RdVL.keep (hP : ∀ b, PP P φ b → PP P' φ' b) (hφ : ∀ k x, φ k = some x → φ' k = some x ∨ φ' k = some none) (k : LK (PP P φ) h h') : ∀ {vs : List Value} {xs : List VV}, RdVL P φ h vs xs → RdVL P' φ' h' vs xs
  | _, _, .nil => .nil
  | _, _, .cons r rs => .cons (r.keep hP hφ k) (RdVL.keep hP hφ k rs)
theorem RdVL.length : ∀ {vs : List Value} {xs : List VV}, RdVL P φ h vs xs → vs.length = xs.length
  | _, _, .nil => rfl
  | _, _, .cons _ r => by simp [RdVL.length r]
theorem RdVL.append : ∀ {vs us : List Value} {xs ys : List VV}, RdVL P φ h vs xs → RdVL P φ h us ys → RdVL P φ h (vs ++ us) (xs ++ ys)
  | _, _, _, _, .nil, y => y
  | _, _, _, _, .cons r x, y => .cons r (RdVL.append x y)
theorem RdVL.set {v : Value} {x : VV} (r : RdV P φ h v x) : ∀ {vs : List Value} {xs : List VV} (n : Nat), RdVL P φ h vs xs → RdVL P φ h (vs.set n v) (xs.set n x)
  | _, _, _, .nil => by simpa using .nil
  | _, _, 0, .cons _ y => by simpa using .cons r y
  | _, _, n + 1, .cons r' y => by simpa using .cons r' (RdVL.set r n y)
theorem RdVL.get : ∀ {vs : List Value} {xs : List VV}, RdVL P φ h vs xs → ∀ {i : Nat} {x : VV}, xs[i]? = some x → ∃ v, vs[i]? = some v ∧ RdV P φ h v x
  | _, _, .nil, _, _, e => by simp at e
  | _, _, .cons r _, 0, _, e => by simp at e; subst e; exact ⟨_, rfl, r⟩
  | _, _, .cons _ r, i + 1, _, e => by simp at e; obtain ⟨v, hv, hr⟩ := RdVL.get r e; exact ⟨v, by simpa using hv, hr⟩
theorem RdVL.ofL : ∀ {vs : List Value} {ds : List D}, RdL (PP P φ) h vs ds → RdVL P φ h vs (ds.map .dat)
  | _, _, .nil => .nil
  | _, _, .cons r rs => .cons r (RdVL.ofL rs)
theorem RdVL.toL : ∀ {vs : List Value} {ds : List D}, RdVL P φ h vs (ds.map .dat) → RdL (PP P φ) h vs ds
  | _, [], r => by cases r; exact .nil
  | _, d :: ds, r => by
    cases r with
    | cons r1 r2 => exact .cons r1 (RdVL.toL r2)
theorem LK.of_gr {s s' : Shared} (g : Gr s s') : LK P s.heap s'.heap := .of_ext g.heap
end
section
variable {prog : Program} {w : World} {mg mb : PySem.Str → Option Value} {ds : List DefRec} {env : Env} {sc : Scope} {B B' : Shared} {P : Addr → Prop} {φ : Nat → Option (Option Addr)} {σ σ' : Sg} {H H' : Hp} {s s' : Shared}
theorem ns_noseq {h : Heap} {a : Addr} {m : PySem.Str → Option Value} (y : h.Ns a m) : ∃ o, h.get? a = some o ∧ NoSeq o := let ⟨o, es, ep, ho, hd, _⟩ := y; ⟨o, ho, .inl ⟨es, ep, hd⟩⟩
theorem cell_noseq {h : Heap} {a : Addr} {v : Option Value} (y : h.IsCell a v) : ∃ o, h.get? a = some o ∧ NoSeq o := let ⟨o, ho, hd⟩ := y; ⟨o, ho, .inr (.inl ⟨v, hd⟩)⟩
theorem isL_ne {h : Heap} {a b : Addr} {vs : Array Value} {n : Nat} (x : IsL h a vs n) (y : ∃ o, h.get? b = some o ∧ NoSeq o) : b ≠ a := fun q => by
  obtain ⟨o, e, z⟩ := y
  rw [q, show h.get? a = _ from x] at e; cases e
  rcases z with ⟨_, _, z⟩ | ⟨_, z⟩ | ⟨_, z⟩ <;> cases z
theorem St.fa (S : St mg mb ds env B P φ σ H s) {b : Addr} (f : FA env b) : ∃ o, s.heap.get? b = some o ∧ NoSeq o := by
  rcases f with rfl | ⟨x, hx⟩
  · exact ns_noseq S.ns.choose_spec
  · exact cell_noseq (S.cl x b hx).choose_spec
theorem St.fa_own (S : St mg mb ds env B P φ σ H s) {b : Addr} (f : FA env b) : ¬ Own φ b := fun ⟨k, e⟩ => by
  obtain ⟨vs, n, hl⟩ := S.isl k b e
  exact isL_ne hl (S.fa f) rfl
theorem St.nws (S : St mg mb ds env B P φ σ H s) : Nw P s := S.nw.up S.gr
/-- growing -/
theorem St.up (S : St mg mb ds env B P φ σ H s) (g : Gr s s') : St mg mb ds env B P φ σ H s' where
  gr := S.gr.trans g
  wd := S.wd
  nw := S.nw
  frf := S.frf
  ns := let ⟨m, e⟩ := S.ns; ⟨m, e.keeps g.heap⟩
  cl := fun x c e => let ⟨v, i⟩ := S.cl x c e; ⟨v, i.keeps g.heap⟩
  vars := fun x vv e => let ⟨v, a, b⟩ := S.vars x vv e; ⟨v, a.up g.heap, b.keep (fun _ h => h) (fun _ _ h => .inl h) (.of_ext g.heap)⟩
  inj := S.inj
  ofr := S.ofr
  isl := fun k a e => let ⟨vs, n, i⟩ := S.isl k a e; ⟨vs, n, g.heap _ _ i⟩
  cont := fun k l e => let ⟨a, n, vs, x, y, z⟩ := S.cont k l e; ⟨a, n, vs, x, g.heap _ _ y, z.keep (fun _ h => h) (fun _ _ h => .inl h) (.of_ext g.heap)⟩
  out := S.out
theorem St.rebase (S : St mg mb ds env B P φ σ H s) (g : Gr B' s) (k : Gr B B') (f : ∀ b, FA env b → B'.heap.get? b = none) (o : ∀ k a, φ k = some (some a) → B'.heap.get? a = none) : St mg mb ds env B' P φ σ H s :=
  { S with gr := g, wd := S.wd.up k.heap, nw := S.nw.up k, frf := f, ofr := o }
theorem St.unbase (S : St mg mb ds env B' P φ σ H s) (k : Gr B B') (wd : Wd mg mb ds B.heap) (nw : Nw P B) : St mg mb ds env B P φ σ H s :=
  { S with gr := k.trans S.gr, wd := wd, nw := nw, frf := fun b f => none_down k.heap (S.frf b f), ofr := fun j a e => none_down k.heap (S.ofr j a e) }
noncomputable def Sub (σ' σ : Sg) : Prop := ∀ x vv, σ'.lookup x = some vv → σ.lookup x = some vv
theorem Sub.nil : Sub [] σ := fun x vv e => by cases e
theorem Sub.cons {x : PySem.Str} {vv : VV} (e : σ.lookup x = some vv) (y : Sub σ' σ) : Sub ((x, vv) :: σ') σ := fun z u q => by
  rw [List.lookup_cons] at q
  split at q
  · rename_i hz
    rw [beq_iff_eq] at hz
    subst hz
    rw [e]; exact q
  · exact y z u q
theorem Sub.refl : Sub σ σ := fun _ _ e => e
noncomputable def SubH (H' H : Hp) : Prop := H'.length = H.length ∧ ∀ (k : Nat) (l : List VV), H'[k]? = some (some l) → H[k]? = some (some l)
theorem SubH.refl : SubH H H := ⟨rfl, fun _ _ e => e⟩
theorem St.weak (S : St mg mb ds env B P φ σ H s) (a : Sub σ' σ) (b : SubH H' H) : St mg mb ds env B P φ σ' H' s :=
  { S with vars := fun x vv e => S.vars x vv (a x vv e), cont := fun k l e => S.cont k l (b.2 k l e), out := fun k hk => S.out k (b.1 ▸ hk) }
/-- a store done -/
theorem St.stored' (S : St mg mb ds env B P φ σ H s) (F : FE env sc) {x : PySem.Str} {v : Value} {vv : VV} {tb : Addr} (hx : env.kindOf x = some .local ∨ env.kindOf x = some .cell) (t : Tgt env s.heap x tb) (y : Stored env x v tb s s') (lk : ∀ P, LK P s.heap s'.heap) (r : RdV P φ s'.heap v vv) :
    St mg mb ds env B P φ ((x, vv) :: σ) H s' := by
  have fat : FA env tb := by
    rcases t with ⟨_, q, _⟩ | ⟨_, q, _⟩
    · exact .inl q
    · exact .inr ⟨x, q⟩
  have hb : ∀ b o, b ≠ tb → s.heap.get? b = some o → s'.heap.get? b = some o := fun b o hb e => y.off.heap b o (by simpa using hb) e
  have cellNe : ∀ z c, env.cells.lookup z = some c → c ≠ env.locals := fun z c hz q => by
    obtain ⟨m, o, es, ep, ho, hd, _⟩ := S.ns
    obtain ⟨u, o', ho', hd'⟩ := S.cl z c hz
    rw [q, ho] at ho'; cases ho'
    rw [hd] at hd'; cases hd'
  refine { S with gr := ⟨fun b o e => hb b o (fun q => by rw [q, S.frf tb fat] at e; cases e) (S.gr.heap b o e), fun g z e => y.off.gens g z (S.gr.gens g z e), fun e => y.off.bare (S.gr.bare e), y.off.os.trans S.gr.os⟩, ns := ?_, cl := fun z c hz => ?_, vars := fun z u e => ?_, isl := fun k a e => ?_, cont := fun k l e => ?_ }
  · obtain ⟨m, hm⟩ := S.ns
    obtain ⟨m', h1, _⟩ := y.ns m hm
    exact ⟨m', h1⟩
  · obtain ⟨u, hu⟩ := S.cl z c hz
    by_cases q : c = tb
    · rcases y.tgt with ⟨_, q', _⟩ | ⟨_, _, u', hu'⟩
      · exact absurd (q.trans q') (cellNe z c hz)
      · exact ⟨u', q ▸ hu'⟩
    · exact ⟨u, let ⟨o, ho, hd⟩ := hu; ⟨o, hb _ _ q ho, hd⟩⟩
  · rw [List.lookup_cons] at e
    split at e
    · rename_i hz
      rw [beq_iff_eq] at hz
      subst hz
      cases e
      exact ⟨v, y.holds, r⟩
    · rename_i hz
      rw [beq_eq_false_iff_ne] at hz
      obtain ⟨u', ⟨p, q⟩, r'⟩ := S.vars z u e
      refine ⟨u', ⟨p, ?_⟩, r'.keep (fun _ h => h) (fun _ _ h => .inl h) (lk _)⟩
      rcases q with ⟨q1, m, q2, q3⟩ | ⟨q1, c, q2, q3⟩
      · obtain ⟨m', h1, h2⟩ := y.ns m q2
        exact .inl ⟨q1, m', h1, by rw [h2 z hz]; exact q3⟩
      · obtain ⟨o, ho, hd⟩ := q3
        refine .inr ⟨q1, c, q2, o, hb _ _ (fun q => ?_) ho, hd⟩
        rcases t with ⟨_, q', _⟩ | ⟨_, q', _⟩
        · exact cellNe z c q2 (q.trans q')
        · exact hz (F.apart z x c q2 (q ▸ q'))
  · obtain ⟨vs, n, hl⟩ := S.isl k a e
    exact ⟨vs, n, (lk TP).1 _ _ _ hl trivial⟩
  · obtain ⟨a, n, vs, h1, h2, h3⟩ := S.cont k l e
    exact ⟨a, n, vs, h1, (lk TP).1 _ _ _ h2 trivial, h3.keep (fun _ h => h) (fun _ _ h => .inl h) (lk _)⟩
theorem St.stored (S : St mg mb ds env B P φ σ H s) (F : FE env sc) {x : PySem.Str} {v : Value} {vv : VV} {tb : Addr} (hx : env.kindOf x = some .local ∨ env.kindOf x = some .cell) (t : Tgt env s.heap x tb) (y : Stored env x v tb s s') (lk : ∀ P, LK P s.heap s'.heap) (r : RdV P φ s.heap v vv) :
    St mg mb ds env B P φ ((x, vv) :: σ) H s' := S.stored' F hx t y lk (r.keep (fun _ h => h) (fun _ _ h => .inl h) (lk _))
theorem St.tgt (S : St mg mb ds env B P φ σ H s) (F : FE env sc) {x : PySem.Str} (hx : sc.names.lookup x = some .local ∨ sc.names.lookup x = some .cell) : ∃ tb, Tgt env s.heap x tb := by
  rcases hx with hx | hx
  · obtain ⟨m, hm⟩ := S.ns
    exact ⟨_, .inl ⟨F.kindOf hx, rfl, m, hm⟩⟩
  · obtain ⟨c, hc⟩ := Option.isSome_iff_exists.mp (F.cell x hx)
    exact ⟨c, .inr ⟨F.kindOf hx, hc, S.cl x c hc⟩⟩
theorem St.store (S : St mg mb ds env B P φ σ H s) (F : FE env sc) {A : Around} {x : PySem.Str} {v : Value} {vv : VV} {Q : Unit → Shared → Prop} {E : Value → Shared → Prop} (hx : sc.names.lookup x = some .local ∨ sc.names.lookup x = some .cell) (r : RdV P φ s.heap v vv)
    (q : ∀ s', St mg mb ds env B P φ ((x, vv) :: σ) H s' → Q () s') : wpAny (model prog w) A (storeName env x v) Q E s := by
  obtain ⟨tb, t⟩ := S.tgt F hx
  exact wp_stored (by rw [F.scope]; exact F.kind) t fun s' y lk => q s' (S.stored F (hx.imp F.kindOf F.kindOf) t y lk r)
/-! ## views -/
noncomputable def dv (σ : Sg) (x : PySem.Str) : Option D := match σ.lookup x with | some (.dat d) => some d | _ => none
noncomputable def deepL (f : VV → Option D) : List VV → Option (List D)
  | [] => some []
  | x :: xs => match f x, deepL f xs with
    | some d, some ds => some (d :: ds)
    | _, _ => none
noncomputable def deepV (H : Hp) : Nat → VV → Option D
  | 0, .dat d => some d
  | 0, .loc _ => none
  | _ + 1, .dat d => some d
  | n + 1, .loc k => match H[k]? with
    | some (some l) => (deepL (deepV H n) l).map .list
    | _ => none
noncomputable def fv (σ : Sg) (H : Hp) (x : PySem.Str) : Option D := match σ.lookup x with | some vv => deepV H 3 vv | _ => none
theorem deepL_rd {P : Addr → Prop} {φ : Nat → Option (Option Addr)} {h : Heap} {f : VV → Option D} (hv : ∀ (vv : VV) (v : Value) (d : D), RdV P φ h v vv → f vv = some d → Rd TP h v d) : ∀ (l : List VV) (vs : List Value) (dl : List D), RdVL P φ h vs l → deepL f l = some dl → RdL TP h vs dl
  | [], vs, dl, r, e => by rw [deepL] at e; cases e; cases r; exact .nil
  | x :: xs, vs, dl, r, e => by
    rw [deepL] at e
    split at e
    · rename_i d ds' h1 h2
      cases e
      cases r with
      | cons r1 r2 => exact .cons (hv _ _ _ r1 h1) (deepL_rd hv xs _ _ r2 h2)
    · cases e
theorem St.deep (S : St mg mb ds env B P φ σ H s) : ∀ (n : Nat) (vv : VV) (v : Value) (d : D), RdV P φ s.heap v vv → deepV H n vv = some d → Rd TP s.heap v d
  | 0, .dat d', v, d, r, e => by rw [deepV] at e; cases e; exact Rd.keep (fun _ _ => trivial) (.of_ext Ext.rf) r
  | 0, .loc k, v, d, r, e => by rw [deepV] at e; cases e
  | n + 1, .dat d', v, d, r, e => by rw [deepV] at e; cases e; exact Rd.keep (fun _ _ => trivial) (.of_ext Ext.rf) r
  | n + 1, .loc k, v, d, r, e => by
    rw [deepV] at e
    split at e
    · rename_i l hl
      obtain ⟨a, m, vs, h1, h2, h3⟩ := S.cont k l hl
      cases hd : deepL (deepV H n) l with
      | none => rw [hd] at e; cases e
      | some dl =>
        rw [hd] at e
        cases e
        obtain ⟨x, hx, hr⟩ := r
        rw [h1] at hx; cases hx
        rw [hr a rfl]
        exact .list trivial h2 (deepL_rd (S.deep n) _ _ _ h3 hd)
    · cases e
theorem St.flv (S : St mg mb ds env B P φ σ H s) : ∀ x d, fv σ H x = some d → LV env s.heap x d := fun x d e => by
  unfold fv at e
  split at e
  · rename_i vv hv
    obtain ⟨v, a, b⟩ := S.vars x vv hv
    exact ⟨v, a, S.deep 3 _ _ _ b e⟩
  · cases e
theorem St.dlv (S : St mg mb ds env B P φ σ H s) : ∀ x d, dv σ x = some d → LV env (hideL (PP P φ) s.heap) x d := fun x d e => by
  unfold dv at e
  split at e
  · rename_i d' hv
    cases e
    obtain ⟨v, a, b⟩ := S.vars x _ hv
    exact ⟨v, hideL_holds a, hideL_rd b⟩
  · cases e
theorem hideL_ns {P : Addr → Prop} {h : Heap} {a : Addr} {m : PySem.Str → Option Value} (y : h.Ns a m) : (hideL P h).Ns a m := by
  obtain ⟨o, es, ep, ho, hd, r⟩ := y
  exact ⟨o, es, ep, hideL_some ho (fun vs n q => by subst q; cases hd), hd, r⟩
theorem hideL_wd {P : Addr → Prop} {h : Heap} (W : Wd mg mb ds h) : Wd mg mb ds (hideL P h) where
  g := hideL_ns W.g
  b := hideL_ns W.b
  lim := let ⟨mc, hn, r⟩ := W.lim; ⟨mc, hideL_ns hn, r⟩
  fns := fun d hd => by
    obtain ⟨a, o, pm, code, doc, h1, h2, h3, h4⟩ := (W.fns d hd).at'
    refine ⟨a, o, pm, code, doc, h1, hideL_some h2 (fun vs n q => by subst q; cases h3), h3, ?_⟩
    obtain ⟨c, oc, vs, tq, hc, hoc, hdc, hq⟩ := h4
    exact ⟨c, oc, vs, tq, hc, hideL_some hoc (fun vs n q => by subst q; cases hdc), hdc, hq⟩
  tab := by
    obtain ⟨d, o, h1, h2, h3⟩ := W.tab
    refine ⟨d, o, h1, hideL_some h2 (fun vs n q => ?_), h3⟩
    obtain ⟨⟨es, ep, e⟩, _⟩ := h3
    subst q
    cases e
theorem St.wds (S : St mg mb ds env B P φ σ H s) : Wd mg mb ds s.heap := S.wd.up S.gr.heap
theorem St.nwp (S : St mg mb ds env B P φ σ H s) : Nw (PP P φ) s := fun b e => ⟨S.nws b e, fun ⟨k, q⟩ => by
  obtain ⟨vs, n, hl⟩ := S.isl k b q
  rw [show s.heap.get? b = _ from hl] at e; cases e⟩
end
end Mine
namespace Mine
section
variable {P P' : Addr → Prop} {h h' : Heap}
theorem RdL.flat {vs : List Value} {ds : List D} (r : RdL P h vs ds) (f : flats ds = true) : RdL P' h vs ds := by
  induction ds generalizing vs with
  | nil => cases r; exact .nil
  | cons d ds ih =>
    cases r with
    | cons r1 r2 =>
      rw [flats, Bool.and_eq_true] at f
      exact .cons (r1.flat f.1) (ih r2 f.2)
open Classical in
noncomputable def hideA (X : Addr → Prop) (h : Heap) : Heap := ⟨h.objs.mapIdx fun i o => if X i then { o with data := .freed } else o, h.life⟩
theorem hideA_some {X : Addr → Prop} {b : Addr} {o : Obj} (e : h.get? b = some o) (k : ¬ X b) : (hideA X h).get? b = some o := by
  obtain ⟨e1, e2⟩ := Heap.get?_some_iff.mp e
  refine Heap.get?_some_iff.mpr ⟨?_, e2⟩
  unfold hideA
  simp only [Array.getElem?_mapIdx, e1, Option.map_some]
  rw [if_neg k]
theorem of_hideA {X : Addr → Prop} {b : Addr} {o : Obj} (e : (hideA X h).get? b = some o) : h.get? b = some o ∧ ¬ X b := by
  obtain ⟨e1, e2⟩ := Heap.get?_some_iff.mp e
  unfold hideA at e1
  simp only [Array.getElem?_mapIdx, Option.map_eq_some_iff] at e1
  obtain ⟨o', h1, h2⟩ := e1
  by_cases q : X b
  · rw [if_pos q] at h2
    subst h2
    cases e2
  · rw [if_neg q] at h2
    subst h2
    exact ⟨Heap.get?_some_iff.mpr ⟨h1, e2⟩, q⟩
theorem hideA_none {X : Addr → Prop} {b : Addr} (k : X b) : (hideA X h).get? b = none := by
  cases e : (hideA X h).get? b with
  | none => rfl
  | some o => exact absurd k (of_hideA e).2
theorem hideA_ext {X : Addr → Prop} : Ext (hideA X h) h := fun _ _ e => (of_hideA e).1
end
section
variable {mg mb : PySem.Str → Option Value} {ds : List DefRec} {env : Env} {sc : Scope} {B : Shared} {P : Addr → Prop} {φ : Nat → Option (Option Addr)} {σ : Sg} {H : Hp} {s s' : Shared}
/-- a new list gets an owner -/
theorem St.alloc (S : St mg mb ds env B P φ σ H s) (g : Gr s s') {a : Addr} {n : Nat} {vs : Array Value} {l : List VV} (f : s.heap.get? a = none) (hl : IsL s'.heap a vs n)
    (r : ∀ φ' : Nat → Option (Option Addr), (∀ b, PP P φ b → b ≠ a → PP P φ' b) → RdVL P φ' s'.heap vs.toList l) :
    ∃ φ', St mg mb ds env B P φ' σ (H ++ [some l]) s' ∧ φ' H.length = some (some a) := by
  refine ⟨fun k => if k = H.length then some (some a) else φ k, ?_, if_pos rfl⟩
  generalize hφ : (fun k => if k = H.length then some (some a) else φ k) = φ'
  have e0 : φ' H.length = some (some a) := by rw [← hφ]; exact if_pos rfl
  have e1 : ∀ k c, φ' k = some (some c) → φ k = some (some c) ∨ (k = H.length ∧ c = a) := fun k c e => by
    rw [← hφ] at e
    simp only at e
    split at e
    · rename_i q; cases e; exact .inr ⟨q, rfl⟩
    · exact .inl e
  have lt : ∀ k x, φ k = some x → k < H.length := fun k c e => by
    by_cases q : k < H.length
    · exact q
    · rw [S.out k (Nat.not_lt.mp q)] at e; cases e
  have e2 : ∀ k x, φ k = some x → φ' k = some x := fun k x q => by rw [← hφ]; exact (if_neg (Nat.ne_of_lt (lt k x q))).trans q
  have noA : ∀ {us m}, ¬ IsL s.heap a us m := fun i => by
    rw [show s.heap.get? a = some _ from i] at f; cases f
  have own : ∀ k c, φ k = some (some c) → c ≠ a := fun k c e q => by
    obtain ⟨us, m, i⟩ := S.isl k c e
    exact noA (q ▸ i)
  have pp : ∀ b, PP P φ b → b ≠ a → PP P φ' b := fun b ⟨p, q⟩ hb => ⟨p, fun ⟨k, e⟩ => by
    rcases e1 k b e with e | ⟨_, e⟩
    · exact q ⟨k, e⟩
    · exact hb e⟩
  have loc : ∀ {v : Value} {vv : VV}, RdV P φ s.heap v vv → RdV P φ' s'.heap v vv := fun {v vv} r => by
    cases vv with
    | dat d => exact Rd.keep (fun b ⟨p, us, m, i⟩ => pp b p fun q => noA (q ▸ i)) (.of_ext g.heap) (Rd.here r)
    | loc k => obtain ⟨x, hx, hr⟩ := r; exact ⟨x, e2 k x hx, hr⟩
  have locs : ∀ {us : List Value} {l : List VV}, RdVL P φ s.heap us l → RdVL P φ' s'.heap us l := fun {us l} r => by
    induction r with
    | nil => exact .nil
    | cons r1 _ ih => exact .cons (loc r1) ih
  have S' := S.up g
  refine { S' with vars := fun x vv e => ?_, inj := fun j k c h1 h2 => ?_, ofr := fun k c e => ?_, isl := fun k c e => ?_, cont := fun k l' e => ?_, out := fun k hk => ?_ }
  · obtain ⟨v, h1, h2⟩ := S.vars x vv e
    exact ⟨v, h1.up g.heap, loc h2⟩
  · rcases e1 j c h1 with h1 | ⟨h1, h1'⟩ <;> rcases e1 k c h2 with h2 | ⟨h2, h2'⟩
    · exact S.inj j k c h1 h2
    · exact absurd h2' (own j c h1)
    · exact absurd h1' (own k c h2)
    · rw [h1, h2]
  · rcases e1 k c e with e | ⟨_, rfl⟩
    · exact S.ofr k c e
    · exact none_down S.gr.heap f
  · rcases e1 k c e with e | ⟨_, rfl⟩
    · exact S'.isl k c e
    · exact ⟨vs, n, hl⟩
  · rw [List.getElem?_append] at e
    split at e
    · obtain ⟨c, m, us, h1, h2, h3⟩ := S.cont k l' e
      exact ⟨c, m, us, e2 _ _ h1, g.heap _ _ h2, locs h3⟩
    · rename_i hk
      have hk' : k = H.length := by
        by_cases q : k - H.length = 0
        · omega
        · rw [List.getElem?_eq_none (by simp; omega)] at e; cases e
      subst hk'
      simp at e
      subst e
      exact ⟨a, n, vs, e0, hl, r φ' pp⟩
  · rw [List.length_append, List.length_singleton] at hk
    rw [← hφ]
    exact (if_neg (by omega)).trans (S.out k (by omega))
/-- an owned list gets new items -/
theorem St.mut (S : St mg mb ds env B P φ σ H s) {k : Nat} {a : Addr} {h' : Heap} {vs : Array Value} {n : Nat} {l : List VV} (hk : φ k = some (some a)) (hs : Heap.SameBut a s.heap h') (hl : IsL h' a vs n)
    (r : LK (PP P φ) s.heap h' → RdVL P φ h' vs.toList l) : St mg mb ds env B P φ σ (H.set k (some l)) { s with heap := h' } := by
  obtain ⟨vs₀, n₀, hl₀⟩ := S.isl k a hk
  have lk : LK (PP P φ) s.heap h' := ⟨fun b us m e p => hs.extBut _ _ (fun q => p.2 ⟨k, q ▸ hk⟩) e, fun b us m e => hs.extBut _ _ (fun q => isL_isT hl₀ (q ▸ e)) e⟩
  have nsq : ∀ {b : Addr}, (∃ o, s.heap.get? b = some o ∧ NoSeq o) → b ≠ a := fun y => isL_ne hl₀ y
  refine { S with gr := ⟨fun b o e => hs.extBut b o (fun q => by rw [q, S.ofr k a hk] at e; cases e) (S.gr.heap b o e), S.gr.gens, S.gr.bare, S.gr.os⟩, ns := ?_, cl := fun x c e => ?_, vars := fun x vv e => ?_, isl := fun j c e => ?_, cont := fun j l' e => ?_, out := fun j hj => S.out j (by rw [List.length_set] at hj; exact hj) }
  · obtain ⟨m, hm⟩ := S.ns
    exact ⟨m, hm.sameBut hs (nsq (ns_noseq hm))⟩
  · obtain ⟨v, hv⟩ := S.cl x c e
    exact ⟨v, hv.sameBut hs (nsq (cell_noseq hv))⟩
  · obtain ⟨v, ⟨h1, h2⟩, h3⟩ := S.vars x vv e
    refine ⟨v, ⟨h1, ?_⟩, h3.keep (fun _ h => h) (fun _ _ h => .inl h) lk⟩
    rcases h2 with ⟨h1, m, h2, h3⟩ | ⟨h1, c, h2, h3⟩
    · exact .inl ⟨h1, m, h2.sameBut hs (nsq (ns_noseq h2)), h3⟩
    · exact .inr ⟨h1, c, h2, h3.sameBut hs (nsq (cell_noseq h3))⟩
  · by_cases q : c = a
    · subst q; exact ⟨vs, n, hl⟩
    · obtain ⟨us, m, i⟩ := S.isl j c e
      exact ⟨us, m, hs.extBut _ _ q i⟩
  · rw [List.getElem?_set] at e
    split at e
    · rename_i q
      subst q
      split at e
      · cases e; exact ⟨a, n, vs, hk, hl, r lk⟩
      · cases e
    · rename_i q
      obtain ⟨c, m, us, h1, h2, h3⟩ := S.cont j l' e
      exact ⟨c, m, us, h1, hs.extBut _ _ (fun z => q (S.inj k j c (z ▸ hk) h1)) h2, h3.keep (fun _ h => h) (fun _ _ h => .inl h) lk⟩
/-- an owner lets go -/
theorem St.free (S : St mg mb ds env B P φ σ H s) {k : Nat} {dl : List D} (hk : H[k]? = some (some (dl.map .dat))) :
    ∃ φ' a, St mg mb ds env B P φ' σ (H.set k none) s ∧ φ k = some (some a) ∧ Rd (PP P φ') s.heap (.ref a) (.list dl) ∧ ∀ v, RdV P φ s.heap v (.loc k) → v = .ref a := by
  obtain ⟨a, n, vs, h1, h2, h3⟩ := S.cont k _ hk
  have hlt : k < H.length := (List.getElem?_eq_some_iff.mp hk).1
  refine ⟨fun j => if j = k then some none else φ j, a, ?_, h1, ?_, fun v ⟨x, hx, hr⟩ => by rw [h1] at hx; cases hx; exact hr a rfl⟩
  · generalize hφ : (fun j => if j = k then some none else φ j) = φ'
    have e1 : ∀ j c, φ' j = some (some c) → φ j = some (some c) := fun j c e => by
      rw [← hφ] at e
      simp only at e
      split at e
      · cases e
      · exact e
    have e2 : ∀ j x, φ j = some x → φ' j = some x ∨ φ' j = some none := fun j x e => by
      rw [← hφ]
      by_cases q : j = k
      · exact .inr (if_pos q)
      · exact .inl ((if_neg q).trans e)
    have pp : ∀ b, PP P φ b → PP P φ' b := fun b ⟨p, q⟩ => ⟨p, fun ⟨j, e⟩ => q ⟨j, e1 _ _ e⟩⟩
    refine { S with vars := fun x vv e => ?_, inj := fun j i c h1 h2 => S.inj j i c (e1 _ _ h1) (e1 _ _ h2), ofr := fun j c e => S.ofr j c (e1 _ _ e), isl := fun j c e => S.isl j c (e1 _ _ e), cont := fun j l e => ?_, out := fun j hj => ?_ }
    · obtain ⟨v, x1, x2⟩ := S.vars x vv e
      exact ⟨v, x1, x2.keep pp e2 (.of_ext Ext.rf)⟩
    · rw [List.getElem?_set] at e
      split at e
      · first | cases e | (split at e <;> cases e)
      · rename_i q
        obtain ⟨c, m, us, x1, x2, x3⟩ := S.cont j l e
        exact ⟨c, m, us, by rw [← hφ]; exact (if_neg (Ne.symm q)).trans x1, x2, x3.keep pp e2 (.of_ext Ext.rf)⟩
    · rw [List.length_set] at hj
      rw [← hφ]
      exact (if_neg (by omega)).trans (S.out j hj)
  · have e1 : ∀ j c, (if j = k then some none else φ j) = some (some c) → j ≠ k ∧ φ j = some (some c) := fun j c e => by
      split at e
      · cases e
      · rename_i q; exact ⟨q, e⟩
    refine .list ⟨?_, fun ⟨j, e⟩ => (e1 j a e).1 (S.inj j k a (e1 j a e).2 h1)⟩ h2 ((RdVL.toL h3).keep (fun b ⟨p, q⟩ => ⟨p, fun ⟨j, e⟩ => q ⟨j, (e1 j b e).2⟩⟩) (.of_ext Ext.rf))
    exact S.nw a (S.ofr k a h1)
theorem St.setVar (S : St mg mb ds env B P φ σ H s) {x : PySem.Str} {vv vv' : VV} (hx : σ.lookup x = some vv) (k : ∀ v, RdV P φ s.heap v vv → RdV P φ s.heap v vv') : St mg mb ds env B P φ ((x, vv') :: σ) H s := by
  refine { S with vars := fun y u e => ?_ }
  rw [List.lookup_cons] at e
  split at e
  · rename_i hz
    rw [beq_iff_eq] at hz
    subst hz
    cases e
    obtain ⟨v, h1, h2⟩ := S.vars _ _ hx
    exact ⟨v, h1, k v h2⟩
  · exact S.vars y u e
end
end Mine
namespace Mine
/-! ## blocks -/
structure Cx where
  prog : Program
  w : World
  mg : PySem.Str → Option Value
  mb : PySem.Str → Option Value
  ds : List DefRec
  env : Env
  sc : Scope
  F : FE env sc
noncomputable abbrev Cx.St (K : Cx) := Mine.St K.mg K.mb K.ds K.env
inductive Oc where
  | next (σ : Sg) (H : Hp) | cont (σ : Sg) (H : Hp) | brk (σ : Sg) (H : Hp) | ret (d : D)
noncomputable def OutF (K : Cx) (B : Shared) (P : Addr → Prop) (O : Oc → Prop) : Flow → Shared → Prop
  | .next, s => ∃ φ σ H, O (.next σ H) ∧ K.St B P φ σ H s
  | .cont, s => ∃ φ σ H, O (.cont σ H) ∧ K.St B P φ σ H s
  | .brk, s => ∃ φ σ H, O (.brk σ H) ∧ K.St B P φ σ H s
  | .ret v, s => ∃ d, O (.ret d) ∧ Gr B s ∧ Rd P s.heap v d
noncomputable def Stm (K : Cx) (n : Nat) (st : Stmt) (σ : Sg) (H : Hp) (O : Oc → Prop) : Prop :=
  ∀ A B P φ s E, GA A n → K.St B P φ σ H s → wpAny (model K.prog K.w) A (exec st K.env) (OutF K B P O) E s
noncomputable def Blk (K : Cx) (n : Nat) (ss : List Stmt) (σ : Sg) (H : Hp) (O : Oc → Prop) : Prop :=
  ∀ A B P φ s E, GA A n → K.St B P φ σ H s → wpAny (model K.prog K.w) A (execs ss K.env) (OutF K B P O) E s
noncomputable def thenO (O : Oc → Prop) (N : Sg → Hp → Prop) : Oc → Prop
  | .next σ H => N σ H
  | o => O o
/-- an expression over a view -/
noncomputable def EvS (K : Cx) (n : Nat) (V : PySem.Str → Option D) (e : Expr) (d : D) : Prop := ∀ A h, GA A n → Wd K.mg K.mb K.ds h → (∀ x d, V x = some d → LV K.env h x d) → Ev K.prog K.w A K.env h e d
noncomputable def EvBS (K : Cx) (n : Nat) (V : PySem.Str → Option D) (e : Expr) (b : Bool) : Prop := ∀ A h, GA A n → Wd K.mg K.mb K.ds h → (∀ x d, V x = some d → LV K.env h x d) → EvB K.prog K.w A K.env h e b
noncomputable def EvNS (K : Cx) (n : Nat) (V : PySem.Str → Option D) (e : Expr) (ds : List D) : Prop := ∀ A h, GA A n → Wd K.mg K.mb K.ds h → (∀ x d, V x = some d → LV K.env h x d) → EvN K.prog K.w A K.env h e ds
noncomputable def EvIS (K : Cx) (n : Nat) (V : PySem.Str → Option D) (e : Expr) (ds : List D) : Prop := ∀ A h, GA A n → Wd K.mg K.mb K.ds h → (∀ x d, V x = some d → LV K.env h x d) → EvI K.prog K.w A K.env h e ds
/-- an expression in a state -/
noncomputable def EvA (K : Cx) (n : Nat) (σ : Sg) (H : Hp) (e : Expr) (d : D) : Prop := ∀ A B P φ s, GA A n → K.St B P φ σ H s → Yl K.prog K.w A (PP P φ) (eval e K.env) s d
noncomputable def EvC (K : Cx) (n : Nat) (σ : Sg) (H : Hp) (e : Expr) (b : Bool) : Prop := ∀ A B P φ s, GA A n → K.St B P φ σ H s → YlB K.prog K.w A (isTrue e K.env (eval e K.env)) s b
section
variable {prog : Program} {w : World} {A : Around} {E : Value → Shared → Prop} {s : Shared}
/-- a store into an exact list leaves an exact list -/
theorem wp_setL' {a : Addr} {vs : Array Value} {n : Nat} {i : Int} {t : Tok} {v : Value} {Q : Unit → Shared → Prop} (hl : IsL s.heap a vs n) (h0 : 0 ≤ i) (hfit : i < 2 ^ 63) (hn : i < vs.size)
    (q : ∀ h', IsL h' a (vs.setIfInBounds i.toNat v) n → Heap.SameBut a s.heap h' → Q () { s with heap := h' }) : wpAny (model prog w) A (setItem (.ref a) (.int i t) v) Q E s := by
  have ho : s.heap.get? a = some { cls := .type "list", dict := none, data := .seq vs n, slots := #[] } := hl
  have fit := fitsIndex_of h0 hfit
  clear hfit
  unfold setItem
  try with_reducible refine wpAny_holding ?_
  first | refine wpAny_bind (wpAny_pure ?_) | skip
  refine wpAny_bind (wpAny_sequenceKey hl.isList.typeIs (by decide) ?_)
  refine wpAny_bind (wpAny_callSpecial?_slot (name := Str.ofString "__setitem__") hl.isList.typeIs slot_list_setitem (wpAny_call_entry slot_list_setitem hl.isList.typeIs entry_list_setitem ?_ (args_list_setitem _ _ _)))
  show wpAny _ _ (Builtin.List.listSubscript? (.int i t) >>= _) _ _ s
  refine wpAny_bind (wpAny_listSubscript_int fit ?_)
  clear fit
  obtain ⟨k, rfl⟩ := Int.eq_ofNat_of_zero_le h0
  have hk : k < vs.size := by omega
  have hu : (s.heap.update a (Obj.mapSeq (·.setIfInBounds k v))).get? a = some { cls := .type "list", dict := none, data := .seq (vs.setIfInBounds k v) n, slots := #[] } := by
    have e : Obj.mapSeq (·.setIfInBounds k v) { cls := .type "list", dict := none, data := .seq vs n, slots := #[] } = ({ cls := .type "list", dict := none, data := .seq (vs.setIfInBounds k v) n, slots := #[] } : Obj) := by simp [Obj.mapSeq]
    rw [Heap.get?_update_self _ ho (by rw [e]; rfl), e]
  have hb : Heap.SameBut a s.heap (s.heap.update a (Obj.mapSeq (·.setIfInBounds k v))) := Heap.SameBut.update ..
  have fin := q _ hu hb
  have hx : vs[k]? = some vs[k] := Array.getElem?_eq_getElem hk
  show wpAny _ _ ((seqItemAt a k >>= fun r => pure (r.map (k, ·))) >>= _) _ _ s
  refine wpAny_bind (wpAny_bind (wpAny_seqItemAt ho rfl (wpAny_pure ?_)))
  rw [hx]
  show wpAny _ _ (setSeqItemAt a k v >>= _) _ _ s
  refine wpAny_bind (wpAny_setSeqItemAt ho rfl ?_)
  first
    | exact wpAny_bind (wpAny_pure (wpAny_pure ⟨.none, rfl, wpAny_pure fin⟩))
    | exact wpAny_pure ⟨.none, rfl, wpAny_pure fin⟩
theorem wp_setL {a : Addr} {vs : Array Value} {n k : Nat} {t : Tok} {v : Value} {Q : Unit → Shared → Prop} (hl : IsL s.heap a vs n) (hk : k < vs.size) (hz : (k : Int) < 2 ^ 63)
    (q : ∀ h', IsL h' a (vs.setIfInBounds k v) n → Heap.SameBut a s.heap h' → Q () { s with heap := h' }) : wpAny (model prog w) A (setItem (.ref a) (.int k t) v) Q E s :=
  wp_setL' hl (by omega) hz (by omega) fun h' x y => q h' x y
end
section
variable {K : Cx} {n : Nat} {σ σ' : Sg} {H H' : Hp} {O O' : Oc → Prop}
theorem EvA.dat {e : Expr} {d : D} (y : EvS K n (dv σ) e d) : EvA K n σ H e d := fun A B P φ s G S => y A _ G (hideL_wd S.wds) S.dlv (PP P φ) s hideL_ext hideL_hp S.nwp
theorem EvA.flat {e : Expr} {d : D} (y : EvS K n (fv σ H) e d) (f : d.flat = true := by rfl) : EvA K n σ H e d := fun A B P φ s G S Q E q =>
  y A _ G S.wds S.flv TP s Ext.rf .tp .tp Q E fun v s' g r => q v s' g (r.flat f)
theorem EvC.of {e : Expr} {b : Bool} (y : EvBS K n (fv σ H) e b) : EvC K n σ H e b := fun A B P φ s G S => y A _ G S.wds S.flv s Ext.rf
theorem OutF.mono {B : Shared} {P : Addr → Prop} (k : ∀ o, O o → O' o) : ∀ {f : Flow} {s : Shared}, OutF K B P O f s → OutF K B P O' f s
  | .next, _, ⟨φ, σ, H, a, b⟩ => ⟨φ, σ, H, k _ a, b⟩
  | .cont, _, ⟨φ, σ, H, a, b⟩ => ⟨φ, σ, H, k _ a, b⟩
  | .brk, _, ⟨φ, σ, H, a, b⟩ => ⟨φ, σ, H, k _ a, b⟩
  | .ret v, _, ⟨d, a, b⟩ => ⟨d, k _ a, b⟩
theorem Blk.mono {ss : List Stmt} (y : Blk K n ss σ H O) (k : ∀ o, O o → O' o) : Blk K n ss σ H O' := fun A B P φ s E G S => wpAny_mono (y A B P φ s E G S) (fun _ _ h => h.mono k) fun _ _ e => e
theorem Stm.mono {st : Stmt} (y : Stm K n st σ H O) (k : ∀ o, O o → O' o) : Stm K n st σ H O' := fun A B P φ s E G S => wpAny_mono (y A B P φ s E G S) (fun _ _ h => h.mono k) fun _ _ e => e
theorem Blk.weak {ss : List Stmt} (y : Blk K n ss σ' H' O) (a : Sub σ' σ) (b : SubH H' H := by exact SubH.refl) : Blk K n ss σ H O := fun A B P φ s E G S => y A B P φ s E G (S.weak a b)
theorem Blk.nil (q : O (.next σ' H)) (a : Sub σ' σ) : Blk K n [] σ H O := fun A B P φ s E G S => wpAny_execs_nil ⟨φ, σ', H, q, S.weak a .refl⟩
theorem Blk.cons {st : Stmt} {rest : List Stmt} (y : Stm K n st σ H (thenO O fun σ' H' => Blk K n rest σ' H' O)) : Blk K n (st :: rest) σ H O := fun A B P φ s E G S =>
  wpAny_execs_cons (wpAny_mono (y A B P φ s E G S) (fun f s' h => by
    cases f with
    | next => obtain ⟨φ', σ', H', a, b⟩ := h; exact a A B P φ' s' E G b
    | cont => exact h
    | brk => exact h
    | ret v => exact h) fun _ _ e => e)
/-- a statement that only goes on -/
theorem Blk.seq {st : Stmt} {rest : List Stmt} (y : ∀ O' : Oc → Prop, O' (.next σ' H') → Stm K n st σ H O') (z : Blk K n rest σ' H' O) : Blk K n (st :: rest) σ H O := .cons (y _ z)
noncomputable abbrev KO (K : Cx) (x : PySem.Str) : Prop := K.sc.names.lookup x = some .local ∨ K.sc.names.lookup x = some .cell
theorem Blk.assign {x : PySem.Str} {p pos : Pos} {e : Expr} {d : D} {rest : List Stmt} (y : EvA K n σ H e d) (hx : KO K x) (z : Blk K n rest ((x, .dat d) :: σ) H O)
    (hs : swapsWith e (some (.Name x p)) pos.line K.env = pure false := by rfl) : Blk K n (.Assign [.Name x p] e pos :: rest) σ H O := .seq (fun O' q A B P φ s E G S =>
  wpAny_Assign_Name (hs := hs) (y A B P φ s G S _ _ fun v s₁ g r => (S.up g).store K.F hx (vv := .dat d) r fun s' S' => ⟨φ, _, _, q, S'⟩)) z
theorem st_new {A : Around} {B : Shared} {P : Addr → Prop} {φ : Nat → Option (Option Addr)} {s s₁ : Shared} {x : PySem.Str} {a : Addr} {m : Nat} {items : Array Value} {dl : List D} {Q : Unit → Shared → Prop} {E : Value → Shared → Prop}
    (S : K.St B P φ σ H s) (hx : KO K x) (g : Gr s s₁) (f : s.heap.get? a = none) (l : IsL s₁.heap a items m) (r : RdL (fun b => PP P φ b ∧ b ≠ a) s₁.heap items.toList dl)
    (q : ∀ φ' s', K.St B P φ' ((x, .loc H.length) :: σ) (H ++ [some (dl.map .dat)]) s' → Q () s') : wpAny (model K.prog K.w) A (storeName K.env x (.ref a)) Q E s₁ := by
  obtain ⟨φ', S', e⟩ := S.alloc g f l fun φ' pp => RdVL.ofL (r.keep (fun b ⟨p, q⟩ => pp b p q) (.of_ext Ext.rf))
  exact S'.store K.F hx (vv := .loc H.length) ⟨_, e, fun b q => by cases q; rfl⟩ fun s' S'' => q φ' s' S''
/-- a new list that the variable owns -/
theorem Blk.assignN {x : PySem.Str} {p pos : Pos} {e : Expr} {dl : List D} {rest : List Stmt} (y : EvNS K n (dv σ) e dl) (hx : KO K x) (z : Blk K n rest ((x, .loc H.length) :: σ) (H ++ [some (dl.map .dat)]) O)
    (hs : swapsWith e (some (.Name x p)) pos.line K.env = pure false := by rfl) : Blk K n (.Assign [.Name x p] e pos :: rest) σ H O := .seq (fun O' q A B P φ s E G S =>
  wpAny_Assign_Name (hs := hs) (y A _ G (hideL_wd S.wds) S.dlv (PP P φ) s hideL_ext hideL_hp S.nwp _ _ fun a m items s₁ g f l r => st_new S hx g f l r fun φ' s' S' => ⟨φ', _, _, q, S'⟩)) z
theorem Blk.ret {e : Expr} {pos : Pos} {d : D} {rest : List Stmt} (y : EvA K n σ H e d) (q : O (.ret d)) : Blk K n (.Return (some e) pos :: rest) σ H O := .cons fun A B P φ s E G S =>
  wpAny_Return_some (y A B P φ s G S _ _ fun v s₁ g r => ⟨d, q, S.gr.trans g, r.keep (fun _ h => h.1) (.of_ext Ext.rf)⟩)
theorem Blk.brk {pos : Pos} {rest : List Stmt} (q : O (.brk σ' H)) (a : Sub σ' σ) : Blk K n (.Break pos :: rest) σ H O := .cons fun A B P φ s E G S => wpAny_Break ⟨φ, σ', H, q, S.weak a .refl⟩
theorem Blk.cont {pos : Pos} {rest : List Stmt} (q : O (.cont σ' H)) (a : Sub σ' σ) : Blk K n (.Continue pos :: rest) σ H O := .cons fun A B P φ s E G S => wpAny_Continue ⟨φ, σ', H, q, S.weak a .refl⟩
theorem Blk.if_ {t : Expr} {body orelse : List Stmt} {pos : Pos} {rest : List Stmt} {b : Bool} (c : EvC K n σ H t b) (h1 : b = true → Blk K n body σ H (thenO O fun σ' H' => Blk K n rest σ' H' O)) (h2 : b = false → Blk K n orelse σ H (thenO O fun σ' H' => Blk K n rest σ' H' O)) :
    Blk K n (.If t body orelse pos :: rest) σ H O := .cons fun A B P φ s E G S => wpAny_If (c A B P φ s G S _ _ fun s₁ g => by
  cases b
  · exact h2 rfl A B P φ s₁ E G (S.up g)
  · exact h1 rfl A B P φ s₁ E G (S.up g))
noncomputable def IopY (K : Cx) (n : Nat) (op : Operator) (a b d : D) : Prop := ∀ A, GA A n → OpY K.prog K.w A (inplaceOp op) a b d
theorem St.hold {B : Shared} {P : Addr → Prop} {φ : Nat → Option (Option Addr)} {s : Shared} (S : K.St B P φ σ H s) {x : PySem.Str} {vv : VV} (e : σ.lookup x = some vv) : ∃ v, Holds K.env s.heap x v ∧ RdV P φ s.heap v vv := S.vars x vv e
theorem Blk.aug {x : PySem.Str} {p pos : Pos} {op : Operator} {e : Expr} {d₀ d₁ d : D} {rest : List Stmt} (hv : σ.lookup x = some (.dat d₀)) (y : EvA K n σ H e d₁) (o : IopY K n op d₀ d₁ d) (hx : KO K x) (z : Blk K n rest ((x, .dat d) :: σ) H O)
    (hc : (x == ("__classdict__" : PySem.Str)) = false := by decide) : Blk K n (.AugAssign (.Name x p) op e pos :: rest) σ H O := .seq (fun O' q A B P φ s E G S => by
  obtain ⟨v, hh, rv⟩ := St.hold S hv
  refine wpAny_AugAssign_Name (wp_loadName hh ?_ hc)
  refine y A B P φ s G S _ _ fun u s₁ g r => ?_
  refine o A G (PP P φ) s₁ v u (S.up g).nwp (Rd.up g.heap rv) r _ _ fun v' s₂ g₂ r₂ => ?_
  exact ((S.up g).up g₂).store K.F hx (vv := .dat d) r₂ fun s' S' => ⟨φ, _, _, q, S'⟩) z
/-- a container: an owned list -/
noncomputable def EvLoc (K : Cx) (n : Nat) (σ : Sg) (H : Hp) (e : Expr) (k : Nat) : Prop := ∀ A B P φ s, GA A n → K.St B P φ σ H s → ∀ (Q : Value → Shared → Prop) (E : Value → Shared → Prop), (∀ s' a, Gr s s' → φ k = some (some a) → Q (.ref a) s') → wpAny (model K.prog K.w) A (eval e K.env) Q E s
theorem EvLoc.name {x : PySem.Str} {p : Pos} {k : Nat} {l : List VV} (hv : σ.lookup x = some (.loc k)) (hk : H[k]? = some (some l)) (hd : (x == ("__debug__" : PySem.Str)) = false := by decide) (hc : (x == ("__classdict__" : PySem.Str)) = false := by decide) : EvLoc K n σ H (.Name x p) k := fun A B P φ s G S Q E q => by
  obtain ⟨v, hh, x, hx, hr⟩ := St.hold S hv
  obtain ⟨a, m, vs, h1, _⟩ := S.cont k l hk
  rw [h1] at hx; cases hx
  rw [hr a rfl] at hh
  exact wpAny_Name (wp_loadName hh (q s a (.refl s) h1) hc) hd
theorem Blk.append {x : PySem.Str} {p apos cpos pos : Pos} {e : Expr} {k : Nat} {l : List VV} {d : D} {rest : List Stmt} (hv : σ.lookup x = some (.loc k)) (hk : H[k]? = some (some l)) (hz : l.length < sizeLine) (y : EvA K n σ H e d)
    (z : Blk K n rest σ (H.set k (some (l ++ [.dat d]))) O) (hd : (x == ("__debug__" : PySem.Str)) = false := by decide) (hc : (x == ("__classdict__" : PySem.Str)) = false := by decide)
    {pl : Sem Bool} (hcl : eval (.Call (.Attribute (.Name x p) "append" apos) [e] [] cpos) K.env = (do
      let ov ← eval (.Name x p) K.env
      standAt apos.atName
      let (f, first) ← holding [ov] (getMethod ov "append" pl)
      callWith cpos f first (backTo cpos (starEach [e] K.env)) []) := by rfl)
    (he : starEach [e] K.env = [(false, eval e K.env)] := by rfl) : Blk K n (.Expr (.Call (.Attribute (.Name x p) "append" apos) [e] [] cpos) pos :: rest) σ H O := .seq (fun O' q A B P φ s E G S => by
  have hi : interactive K.env = false := by unfold interactive; rw [K.F.scope, K.F.kind]; rfl
  refine wpAny_Expr (hi := hi) ?_
  refine MethodCall_ (he := hcl) ?_
  refine EvLoc.name (p := p) hv hk hd hc A B P φ s G S _ _ fun s₁ a g₁ ha => ?_
  have S₁ := S.up g₁
  obtain ⟨vs, m, hl⟩ := S₁.isl k a ha
  refine getMethod_list_append (o := _) hl rfl rfl ?_
  refine callWith_method1 (he := he) ?_
  refine wpAny_items_cons (he := he) (y A B P φ s₁ G S₁ _ _ fun v s₂ g₂ r => wpAny_items_nil ?_)
  have S₂ := S₁.up g₂
  obtain ⟨c, m, vs, h1, h2, h3⟩ := S₂.cont k l hk
  rw [ha] at h1; cases h1
  have hn := h3.length
  refine wpAny_list_append_plain ⟨m, h2⟩ (fun h' hl' hs' => ?_) (by simp at hn; omega)
  obtain ⟨m', hl'⟩ := hl'
  exact ⟨φ, _, _, q, S₂.mut ha hs' hl' fun lk => by
    rw [Array.toList_push]
    exact (h3.keep (fun _ h => h) (fun _ _ h => .inl h) lk).append (.cons (Rd.keep (fun _ h => h) lk r) .nil)⟩) z
theorem Blk.setItem {o i e : Expr} {p pos : Pos} {k : Nat} {j : Nat} {l : List VV} {d : D} {rest : List Stmt} (y : EvA K n σ H e d) (c : EvLoc K n σ H o k) (yi : EvA K n σ H i (.int j)) (hk : H[k]? = some (some l)) (hj : j < l.length) (hz : l.length ≤ sizeLine)
    (z : Blk K n rest σ (H.set k (some (l.set j (.dat d)))) O) (hs : swapsWith e (some (.Subscript o i p)) pos.line K.env = pure false := by rfl) : Blk K n (.Assign [.Subscript o i p] e pos :: rest) σ H O := .seq (fun O' q A B P φ s E G S => by
  refine wpAny_Assign_Subscript (hs := hs) (y A B P φ s G S _ _ fun v s₁ g₁ r => ?_)
  have S₁ := S.up g₁
  refine c A B P φ s₁ G S₁ _ _ fun s₂ a g₂ ha => ?_
  have S₂ := S₁.up g₂
  refine yi A B P φ s₂ G S₂ _ _ fun u s₃ g₃ ru => ?_
  have S₃ := S₂.up g₃
  obtain ⟨t, rfl⟩ := ru.int_inv
  obtain ⟨b, m, vs, h1, h2, h3⟩ := S₃.cont k l hk
  rw [ha] at h1; cases h1
  have hn := h3.length
  have hz' : sizeLine = 16777216 := rfl
  simp at hn
  refine wp_setL h2 (by omega) (by omega) fun h' hl' hs' => ?_
  refine ⟨φ, _, _, q, S₃.mut ha hs' hl' fun lk => ?_⟩
  rw [Array.toList_setIfInBounds]
  exact RdVL.set (x := .dat d) (Rd.keep (fun _ h => h) ((LK.of_ext (g₂.heap.tr g₃.heap)).trans lk) r) j (h3.keep (fun _ h => h) (fun _ _ h => .inl h) lk)) z
/-- an owned list is given away -/
theorem Blk.free {ss : List Stmt} {x : PySem.Str} {k : Nat} {dl : List D} (hv : σ.lookup x = some (.loc k)) (hk : H[k]? = some (some (dl.map .dat))) (z : Blk K n ss ((x, .dat (.list dl)) :: σ) (H.set k none) O) : Blk K n ss σ H O := fun A B P φ s E G S => by
  obtain ⟨v, hh, rv⟩ := St.hold S hv
  obtain ⟨φ', a, S', h1, h2, h3⟩ := S.free hk
  refine z A B P φ' s E G ?_
  refine { S' with vars := fun y u e => ?_ }
  rw [List.lookup_cons] at e
  split at e
  · rename_i hq
    rw [beq_iff_eq] at hq
    subst hq
    cases e
    exact ⟨v, hh, by rw [h3 v rv]; exact h2⟩
  · exact S'.vars y u e
end
end Mine
namespace Mine
/-! ## loops -/
structure Mv (B : Shared) (wr : List Addr) (s s' : Shared) : Prop where
  heap : ∀ b o, b ∉ wr → s.heap.get? b = some o → s'.heap.get? b = some o
  gens : ∀ (g : Nat) (x : GenState), B.gens[g]? = some x → s.gens[g]? = some x → s'.gens[g]? = some x
  bare : AllBare s.gens → AllBare s'.gens
  os : s'.os = s.os
structure ItG (prog : Program) (w : World) (A : Around) (B : Shared) (N X : Addr → Prop) (s s₂ : Shared) (I : Addr) (fp₀ wr₀ : List Addr) (Sti : List Addr → List Addr → Nat → Shared → Prop) (dl : List D) : Prop where
  frame : ∀ fp wr i s s', Sti fp wr i s → (∀ b ∈ fp, ∀ o, s.heap.get? b = some o → s'.heap.get? b = some o) → (∀ (g : Nat) (x : GenState), s.gens[g]? = some x → s'.gens[g]? = some x) → (AllBare s.gens → AllBare s'.gens) → s'.os = s.os → Sti fp wr i s'
  item : ∀ fp wr i d (s : Shared) (Q : Option Value → Shared → Prop) (E : Value → Shared → Prop), dl[i]? = some d → Sti fp wr i s →
    (∀ v s' fp' wr', (Rd N s₂.heap v d ∨ (d.flat = true ∧ Rd TP s'.heap v d)) → Sti fp' wr' (i + 1) s' → Mv B wr s s' → (∀ b ∈ wr, b ∈ wr') → (∀ b ∈ wr', b ∈ wr ∨ s.heap.get? b = none) → (∀ b ∈ fp', b ∈ fp ∨ b ∈ wr') → Q (some v) s') → wpAny (model prog w) A (pyNext (.ref I)) Q E s
  done : ∀ fp wr (s : Shared) (Q : Option Value → Shared → Prop) (E : Value → Shared → Prop), Sti fp wr dl.length s → (∀ s', Mv B wr s s' → Q none s') → wpAny (model prog w) A (pyNext (.ref I)) Q E s
  go : ∀ fp wr i (s : Shared) v target (Q : Unit → Shared → Prop) (E : Value → Shared → Prop), Sti fp wr i s → Q () s → wpAny (model prog w) A (letOwnedTupleGo target (.ref I) v) Q E s
  st : Sti fp₀ wr₀ 0 s₂
  fld : ∀ fp wr i s, Sti fp wr i s → ∀ b ∈ wr, ∃ o, s.heap.get? b = some o ∧ NoSeq o
  fresh : ∀ b ∈ wr₀, s.heap.get? b = none
  there : ∀ b ∈ fp₀, ∃ o, s₂.heap.get? b = some o
  src : ∀ b ∈ fp₀, ¬ X b
  sub : ∀ b ∈ wr₀, b ∈ fp₀
theorem wp_goFields {prog : Program} {w : World} {A : Around} {target : Expr} {I : Addr} {v : Value} {s : Shared} {Q : Unit → Shared → Prop} {E : Value → Shared → Prop}
    (y : ∃ o nm fs, s.heap.get? I = some o ∧ o.cls = .type nm ∧ o.data = .fields fs ∧ (["enumerate", "zip", "dict_itemiterator", "dict_reverseitemiterator", "odict_iterator", "itertools.zip_longest", "itertools.pairwise"].contains nm) = false) (q : Q () s) : wpAny (model prog w) A (letOwnedTupleGo target (.ref I) v) Q E s := by
  obtain ⟨o, nm, fs, ho, hc, hd, hn⟩ := y
  have key : ∀ a, v = .ref a → ∀ (r : Sem Unit), r = (do
      let o ← load I
      match o.cls, o.data with
      | .type n, .fields vs =>
        if ["enumerate", "zip", "dict_itemiterator", "dict_reverseitemiterator", "odict_iterator", "itertools.zip_longest", "itertools.pairwise"].contains n && vs[0]? == some (rawInt a) then
          rule "for.unpacks-the-owned-tuple"
          updateField I 0 .none
      | _, _ => pure ()) → wpAny (model prog w) A r Q E s := fun a _ r hr => by
    subst hr
    refine wpAny_bind (wpAny_load ho ?_)
    rw [hc, hd]
    dsimp only
    rw [hn, Bool.false_and, if_neg (by decide)]
    exact wpAny_pure q
  unfold letOwnedTupleGo
  split
  · cases v <;> first | exact wpAny_pure q | exact key _ rfl _ rfl
  · cases v <;> first | exact wpAny_pure q | exact key _ rfl _ rfl
  · exact wpAny_pure q
theorem ItG.ofW {prog : Program} {w : World} {A : Around} {B s s₂ : Shared} {N X : Addr → Prop} {I : Addr} {fp wr : List Addr} {Pi : Nat → Value → Prop} {Sti : Nat → Heap → Prop} {dl : List D} (y : ItW prog w A N s s₂ I fp wr Pi Sti dl)
    (hX : ∀ b, X b → (∃ o, s.heap.get? b = some o) ∧ ¬ N b ∨ ∃ o, s₂.heap.get? b = some o ∧ NoSeq o ∧ ∃ o, s.heap.get? b = some o) (hT : ∀ b vs n, IsT s₂.heap b vs n → ¬ X b) :
    ItG prog w A B N X s s₂ I fp wr (fun fp' wr' i s => fp' = fp ∧ wr' = wr ∧ Sti i s.heap) dl where
  frame := fun _ _ i s s' ⟨e1, e2, st⟩ k _ _ _ => ⟨e1, e2, y.W.frame i _ _ st (e1 ▸ k)⟩
  item := fun _ _ i d s Q E hd ⟨e1, e2, st⟩ hQ => y.W.item i s Q E (List.getElem?_eq_some_iff.mp hd).1 st fun v h' tk hv st' k => by
    subst e1 e2
    obtain ⟨d', hd', r⟩ := y.rd i v hv
    rw [hd] at hd'; cases hd'
    exact hQ v _ _ _ (.inl r) ⟨rfl, rfl, st'⟩ ⟨k, fun _ _ _ e => e, fun e => e, rfl⟩ (fun _ h => h) (fun _ h => .inl h) fun _ h => .inl h
  done := fun _ _ s Q E ⟨e1, e2, st⟩ hQ => by
    subst e1 e2
    exact y.W.done s Q E st fun h' tk k => hQ _ ⟨k, fun _ _ _ e => e, fun e => e, rfl⟩
  go := fun _ _ i s v target Q E ⟨_, _, st⟩ q => wp_goFields (y.cls i _ st) q
  st := ⟨rfl, rfl, y.st⟩
  fld := fun _ _ i s ⟨_, e2, st⟩ b hb => let ⟨o, fs, h1, h2⟩ := y.fld i _ st b (e2 ▸ hb); ⟨o, h1, .inr (.inr ⟨fs, h2⟩)⟩
  fresh := y.fresh
  there := y.there
  sub := y.W.sub
  src := fun b hb hx => by
    rcases y.src b hb with h | ⟨h1, us, m, h2⟩ | ⟨us, m, h⟩
    · rcases hX b hx with ⟨⟨o, e⟩, _⟩ | ⟨_, _, _, o, e⟩ <;> (rw [y.fresh b h] at e; cases e)
    · rcases hX b hx with ⟨_, e⟩ | ⟨o, e, z, _⟩
      · exact e h1
      · exact isL_ne h2 ⟨o, e, z⟩ rfl
    · exact hT b us m h hx
/-- the iterator of a loop -/
noncomputable def ForI (K : Cx) (n : Nat) (σ : Sg) (H : Hp) (iter : Expr) (dl : List D) : Prop :=
  ∀ A B P φ s, GA A n → K.St B P φ σ H s → ∀ (Q : Value → Shared → Prop) (E : Value → Shared → Prop), (∀ I fp wr Sti s₂, Gr s s₂ → ItG K.prog K.w A B (PP P φ) (fun b => FA K.env b ∨ Own φ b) s s₂ I fp wr Sti dl → Q (.ref I) s₂) →
    wpAny (model K.prog K.w) A (eval iter K.env) (fun x s₁ => wpAny (model K.prog K.w) A (pyIter x) Q E s₁) E s
section
variable {K : Cx} {n : Nat} {σ σ' : Sg} {H H' : Hp} {O O' : Oc → Prop} {B B' : Shared} {P : Addr → Prop} {φ : Nat → Option (Option Addr)} {s s' s₂ : Shared}
theorem isT_noseq {h : Heap} {a b : Addr} {vs : Array Value} {n : Nat} (x : IsT h a vs n) (y : ∃ o, h.get? b = some o ∧ NoSeq o) : b ≠ a := fun q => by
  obtain ⟨o, e, z⟩ := y
  rw [q, show h.get? a = _ from x] at e; cases e
  rcases z with ⟨_, _, z⟩ | ⟨_, z⟩ | ⟨_, z⟩ <;> cases z
theorem St.notT (S : K.St B P φ σ H s) {b : Addr} {vs : Array Value} {m : Nat} (t : IsT s.heap b vs m) : ¬ (FA K.env b ∨ Own φ b) := fun h => by
  rcases h with h | ⟨k, h⟩
  · exact isT_noseq t (S.fa h) rfl
  · obtain ⟨us, m', hl⟩ := S.isl k b h
    exact isL_isT hl t
theorem ForI.dat {iter : Expr} {dl : List D} (y : EvIS K n (dv σ) iter dl) : ForI K n σ H iter dl := fun A B P φ s G S Q E q =>
  y A _ G (hideL_wd S.wds) S.dlv (PP P φ) s hideL_ext hideL_hp S.nwp Q E fun I fp wr Pi Sti s₂ g it => q I fp wr _ s₂ g (ItG.ofW it (fun b hx => by
    rcases hx with hx | hx
    · obtain ⟨o, e, z⟩ := S.fa hx
      exact .inr ⟨o, g.heap _ _ e, z, o, e⟩
    · obtain ⟨k, e⟩ := id hx
      obtain ⟨us, m, hl⟩ := S.isl k b e
      exact .inl ⟨⟨_, hl⟩, fun p => p.2 hx⟩) fun b us m t => (S.up g).notT t)
theorem St.storeK (S : K.St B P φ σ H s) {A : Around} {x : PySem.Str} {v : Value} {vv : VV} {Q : Unit → Shared → Prop} {E : Value → Shared → Prop} (hx : KO K x) (r : RdV P φ s.heap v vv)
    (q : ∀ s', (∀ P, LK P s.heap s'.heap) → K.St B P φ ((x, vv) :: σ) H s' → Q () s') : wpAny (model K.prog K.w) A (storeName K.env x v) Q E s := by
  obtain ⟨tb, t⟩ := S.tgt K.F hx
  exact wp_stored (by rw [K.F.scope]; exact K.F.kind) t fun s' y lk => q s' lk (S.stored K.F (hx.imp K.F.kindOf K.F.kindOf) t y lk r)
/-- a target of a loop or of an assignment -/
inductive AsT (sc : Scope) : Expr → D → Sg → Prop
  | name {x : PySem.Str} {p : Pos} {d : D} : sc.names.lookup x = some .local ∨ sc.names.lookup x = some .cell → AsT sc (.Name x p) d [(x, .dat d)]
  | pair {x y : PySem.Str} {p q pos : Pos} {k : Nat} {d e : D} : sc.names.lookup x = some .local ∨ sc.names.lookup x = some .cell → sc.names.lookup y = some .local ∨ sc.names.lookup y = some .cell →
      AsT sc (.Tuple [.Name x p, .Name y q] k pos) (.tup [d, e]) [(y, .dat e), (x, .dat d)]
theorem wp_assignT {A : Around} {target : Expr} {d : D} {bs : Sg} {v : Value} {Q : Unit → Shared → Prop} {E : Value → Shared → Prop} (S : K.St B P φ σ H s) (hh : A.handled = none) (t : AsT K.sc target d bs) (r : Rd (PP P φ) s.heap v d)
    (q : ∀ s', K.St B P φ (bs ++ σ) H s' → Q () s') : wpAny (model K.prog K.w) A (assign target K.env v) Q E s := by
  cases t with
  | name hx => exact wpAny_assign_Name (St.store S K.F hx (vv := .dat d) r fun s' S' => q s' S')
  | pair hx hy =>
    obtain ⟨a, m, vs, rfl, e1, l1⟩ := r.tup_inv
    obtain ⟨u, u', rfl⟩ : ∃ u u', vs = #[u, u'] := by
      have := l1.length
      rcases vs with ⟨l⟩
      match l, this with
      | [u, u'], _ => exact ⟨u, u', rfl⟩
    refine wpAny_assign_Tuple hh ⟨_, e1, rfl, m, rfl⟩ rfl rfl fun h' he => ?_
    have g : Gr s { s with heap := h' } := .hp fun b o e => he b o (Nat.ne_of_lt (Heap.lt_size e)) e
    cases l1 with
    | cons r1 l1 =>
      cases l1 with
      | cons r2 l2 =>
        cases l2
        refine wpAny_assignInOrder_more (wpAny_assign_Name (St.storeK (S.up g) hx (vv := .dat _) (Rd.up g.heap r1) fun s₃ lk S₃ => ?_))
        refine wpAny_assignInOrder_more (wpAny_assign_Name (St.store S₃ K.F hy (vv := .dat _) (Rd.keep (fun _ h => h) ((LK.of_ext g.heap).trans (lk _)) r2) fun s₄ S₄ => wpAny_assignInOrder_none (q s₄ S₄)))
theorem St.moved {wr : List Addr} (S : K.St B P φ σ H s) (mv : Mv B wr s s') (hF : ∀ b ∈ wr, ¬ FA K.env b) (hN : ∀ b ∈ wr, ∃ o, s.heap.get? b = some o ∧ NoSeq o) (hB : ∀ b ∈ wr, B.heap.get? b = none) : K.St B P φ σ H s' := by
  have lk : ∀ P, LK P s.heap s'.heap := fun P => .of_but (N := fun b => b ∈ wr) mv.heap fun b o hb e => by
    obtain ⟨o', e', z⟩ := hN b hb
    rw [e] at e'; cases e'; exact z
  refine { S with gr := ⟨fun b o e => mv.heap b o (fun hb => by rw [hB b hb] at e; cases e) (S.gr.heap b o e), fun g x e => mv.gens g x e (S.gr.gens g x e), fun e => mv.bare (S.gr.bare e), mv.os.trans S.gr.os⟩, ns := ?_, cl := fun x c e => ?_, vars := fun x vv e => ?_, isl := fun k a e => ?_, cont := fun k l e => ?_ }
  · obtain ⟨m, o, es, ep, ho, r⟩ := S.ns
    exact ⟨m, o, es, ep, mv.heap _ _ (fun hb => hF _ hb (.inl rfl)) ho, r⟩
  · obtain ⟨v, o, ho, hd⟩ := S.cl x c e
    exact ⟨v, o, mv.heap _ _ (fun hb => hF _ hb (.inr ⟨x, e⟩)) ho, hd⟩
  · obtain ⟨v, ⟨h1, h2⟩, h3⟩ := S.vars x vv e
    refine ⟨v, ⟨h1, ?_⟩, h3.keep (fun _ h => h) (fun _ _ h => .inl h) (lk _)⟩
    rcases h2 with ⟨h1, m, ⟨o, es, ep, ho, r⟩, h3⟩ | ⟨h1, c, h2, o, ho, hd⟩
    · exact .inl ⟨h1, m, ⟨o, es, ep, mv.heap _ _ (fun hb => hF _ hb (.inl rfl)) ho, r⟩, h3⟩
    · exact .inr ⟨h1, c, h2, o, mv.heap _ _ (fun hb => hF _ hb (.inr ⟨x, h2⟩)) ho, hd⟩
  · obtain ⟨us, m, hl⟩ := S.isl k a e
    exact ⟨us, m, (lk TP).1 _ _ _ hl trivial⟩
  · obtain ⟨a, m, us, h1, h2, h3⟩ := S.cont k l e
    exact ⟨a, m, us, h1, (lk TP).1 _ _ _ h2 trivial, h3.keep (fun _ h => h) (fun _ _ h => .inl h) (lk _)⟩
/-- what a loop's body answers to the loop -/
noncomputable def loopO (O : Oc → Prop) (N : Sg → Hp → Prop) : Oc → Prop
  | .next σ H => N σ H
  | .cont σ H => N σ H
  | .brk σ H => O (.next σ H)
  | .ret d => O (.ret d)
theorem Stm.for_ {target iter : Expr} {body orelse : List Stmt} {pos : Pos} {dl : List D} (hI : ForI K n σ H iter dl) (J : List D → Sg → Hp → Prop) (h0 : J dl σ H)
    (step : ∀ d r σ H, J (d :: r) σ H → ∃ bs, AsT K.sc target d bs ∧ Blk K n body (bs ++ σ) H (loopO O (J r)))
    (stop : ∀ σ H, J [] σ H → Blk K n orelse σ H O) (hs : ∀ x, foldedSetIterable iter K.env x = pure x := by intro _; rfl) : Stm K n (.For target iter body orelse pos) σ H O := fun A B P φ s E G S => by
  refine wpAny_For (hs := hs) (hI A B P φ s G S _ _ fun I fp wr Sti s₂ g it => ?_)
  have S₂ := S.up g
  generalize hX : (fun b => (FA K.env b ∨ Own φ b) ∨ b ∈ wr) = X
  have X1 : ∀ b, FA K.env b → X b := fun b h => by rw [← hX]; exact .inl (.inl h)
  have X2 : ∀ b, Own φ b → X b := fun b h => by rw [← hX]; exact .inl (.inr h)
  have X3 : ∀ b, b ∈ wr → X b := fun b h => by rw [← hX]; exact .inr h
  have X4 : ∀ b, X b → (FA K.env b ∨ Own φ b) ∨ b ∈ wr := fun b h => by rw [← hX] at h; exact h
  generalize hB₂ : ({ B with heap := hideA X s₂.heap } : Shared) = B₂
  have hB₂h : B₂.heap = hideA X s₂.heap := by rw [← hB₂]
  have gB : Gr B B₂ := by
    rw [← hB₂]
    refine .hp fun b o e => hideA_some (S₂.gr.heap b o e) fun h => ?_
    rcases X4 b h with (h | ⟨k, h⟩) | h
    · rw [S.frf b h] at e; cases e
    · rw [S.ofr k b h] at e; cases e
    · have := S.gr.heap b o e; rw [it.fresh b h] at this; cases this
  have S₃ : K.St B₂ P φ σ H s₂ := S₂.rebase ⟨by rw [hB₂h]; exact hideA_ext, by rw [← hB₂]; exact S₂.gr.gens, by rw [← hB₂]; exact S₂.gr.bare, by rw [← hB₂]; exact S₂.gr.os⟩ gB (fun b f => by rw [hB₂h]; exact hideA_none (X1 b f)) fun k a e => by rw [hB₂h]; exact hideA_none (X2 a ⟨k, e⟩)
  refine codeAny_forLoop_any (fun k s' => ∃ i φ' σ' H' fp' wr', J (dl.drop i) σ' H' ∧ K.St B₂ P φ' σ' H' s' ∧ Sti fp' wr' i s' ∧ ((∀ b ∈ wr', B₂.heap.get? b = none) ∧ (∀ b ∈ wr', ¬ FA K.env b) ∧ ∀ b ∈ fp', b ∈ wr' ∨ ∃ o, B₂.heap.get? b = some o) ∧ i ≤ dl.length ∧ k = dl.length + 1 - i) ?_ (dl.length + 1)
    ⟨0, φ, σ, H, fp, wr, by simpa using h0, S₃, it.st, ⟨fun b hb => by rw [hB₂h]; exact hideA_none (X3 b hb), fun b hb h => it.src b (it.sub b hb) (.inl h), fun b hb => by
      by_cases hw : b ∈ wr
      · exact .inl hw
      · obtain ⟨o, ho⟩ := it.there b hb
        refine .inr ⟨o, ?_⟩
        rw [hB₂h]
        exact hideA_some ho fun h => (X4 b h).elim (it.src b hb) hw⟩, Nat.zero_le _, rfl⟩
  rintro k s' ⟨i, φ', σ', H', fp', wr', hJ, S', st, ⟨w1, w2, w3⟩, hi, rfl⟩
  have fF : ∀ {fp₁ wr₁ : List Addr}, (∀ b ∈ wr₁, ¬ FA K.env b) → (∀ b ∈ fp₁, b ∈ wr₁ ∨ ∃ o, B₂.heap.get? b = some o) → ∀ b ∈ fp₁, ¬ FA K.env b := fun {fp₁ wr₁} h2 h3 b hb h => by
    rcases h3 b hb with hw | ⟨o, ho⟩
    · exact h2 b hw h
    · rw [S₃.frf b h] at ho; cases ho
  have fO : ∀ {fp₁ wr₁ : List Addr} {φ₁ σ₁ H₁ s₁}, K.St B₂ P φ₁ σ₁ H₁ s₁ → (∀ b ∈ wr₁, ∃ o, s₁.heap.get? b = some o ∧ NoSeq o) → (∀ b ∈ fp₁, b ∈ wr₁ ∨ ∃ o, B₂.heap.get? b = some o) → ∀ b ∈ fp₁, ¬ Own φ₁ b := fun {fp₁ wr₁ φ₁ σ₁ H₁ s₁} S₁ hN h3 b hb ⟨k, e⟩ => by
    rcases h3 b hb with hw | ⟨o, ho⟩
    · obtain ⟨us, m, hl⟩ := S₁.isl k b e
      exact isL_ne hl (hN b hw) rfl
    · rw [S₁.ofr k b e] at ho; cases ho
  by_cases hlt : i < dl.length
  · have hd : dl[i]? = some dl[i] := List.getElem?_eq_getElem hlt
    refine it.item fp' wr' i dl[i] s' _ _ hd st fun v s₃ fp₃ wr₃ hv st₃ mv k1 k2 k3 => ?_
    have mv' : Mv B₂ wr' s' s₃ := ⟨mv.heap, by rw [← hB₂]; exact mv.gens, mv.bare, mv.os⟩
    have T : K.St B₂ P φ' σ' H' s₃ := S'.moved mv' w2 (it.fld fp' wr' i s' st) w1
    have w1' : ∀ b ∈ wr₃, B₂.heap.get? b = none := fun b hb => (k2 b hb).elim (w1 b) fun h => none_down S'.gr.heap h
    have w2' : ∀ b ∈ wr₃, ¬ FA K.env b := fun b hb => (k2 b hb).elim (w2 b) fun h f => by
      obtain ⟨o, ho, _⟩ := S'.fa f
      rw [h] at ho; cases ho
    have w3' : ∀ b ∈ fp₃, b ∈ wr₃ ∨ ∃ o, B₂.heap.get? b = some o := fun b hb => (k3 b hb).elim (fun h => (w3 b h).imp (k1 b) id) .inl
    refine it.go fp₃ wr₃ (i + 1) s₃ v target _ _ st₃ ?_
    have rv : Rd (PP P φ') s₃.heap v dl[i] := by
      rcases hv with hv | ⟨hf, hv⟩
      · have r1 : Rd (PP P φ) B₂.heap v dl[i] := by
          rw [hB₂h]
          refine Rd.rec (motive_1 := fun v d _ => Rd (PP P φ) (hideA X s₂.heap) v d) (motive_2 := fun vs ds _ => RdL (PP P φ) (hideA X s₂.heap) vs ds) .none .bool .int .str ?_ ?_ .nil ?_ hv
          · intro a n vs xs p e _ ih
            refine .list p (hideA_some e fun h => ?_) ih
            rcases X4 a h with (h | h) | h
            · exact isL_ne e (S₂.fa h) rfl
            · exact p.2 h
            · exact isL_ne e (it.fld fp wr 0 s₂ it.st a h) rfl
          · intro a n vs xs e _ ih
            refine .tup (hideA_some e fun h => ?_) ih
            rcases X4 a h with h | h
            · exact S₂.notT e h
            · exact isT_noseq e (it.fld fp wr 0 s₂ it.st a h) rfl
          · intro v vs d ds _ _ i1 i2; exact .cons i1 i2
        exact Rd.keep (fun b ⟨p, us, m, e⟩ => ⟨p.1, fun ⟨k, z⟩ => by have := T.ofr k b z; rw [show B₂.heap.get? b = some _ from e] at this; cases this⟩) (.of_ext T.gr.heap) r1.here
      · exact hv.flat hf
    generalize hB₃ : ({ s₃ with heap := hideA (fun b => FA K.env b ∨ Own φ' b) s₃.heap } : Shared) = B₃
    have hB₃h : B₃.heap = hideA (fun b => FA K.env b ∨ Own φ' b) s₃.heap := by rw [← hB₃]
    have gB₃ : Gr B₂ B₃ := by
      have := T.gr
      rw [← hB₃]
      refine ⟨fun b o e => hideA_some (this.heap b o e) fun h => ?_, this.gens, this.bare, this.os⟩
      rcases h with h | ⟨k, h⟩
      · rw [T.frf b h] at e; cases e
      · rw [T.ofr k b h] at e; cases e
    have T' : K.St B₃ P φ' σ' H' s₃ := T.rebase ⟨by rw [hB₃h]; exact hideA_ext, by rw [← hB₃]; exact fun _ _ e => e, by rw [← hB₃]; exact fun e => e, by rw [← hB₃]⟩ gB₃ (fun b f => by rw [hB₃h]; exact hideA_none (.inl f)) fun k a e => by rw [hB₃h]; exact hideA_none (.inr ⟨k, e⟩)
    have hdr : dl.drop i = dl[i] :: dl.drop (i + 1) := List.drop_eq_getElem_cons hlt
    obtain ⟨bs, hT, hb⟩ := step dl[i] (dl.drop (i + 1)) σ' H' (hdr ▸ hJ)
    refine wp_assignT T' G.hand hT rv fun s₄ S₄ => ?_
    refine wpAny_mono (hb A B₃ P φ' s₄ _ G S₄) (fun f s₅ hf => ?_) fun _ _ e => e
    have on : ∀ {φ₅ σ₅ H₅}, J (dl.drop (i + 1)) σ₅ H₅ → K.St B₃ P φ₅ σ₅ H₅ s₅ → ∃ m, m < dl.length + 1 - i ∧ ∃ i φ' σ' H' fp' wr', J (dl.drop i) σ' H' ∧ K.St B₂ P φ' σ' H' s₅ ∧ Sti fp' wr' i s₅ ∧ ((∀ b ∈ wr', B₂.heap.get? b = none) ∧ (∀ b ∈ wr', ¬ FA K.env b) ∧ ∀ b ∈ fp', b ∈ wr' ∨ ∃ o, B₂.heap.get? b = some o) ∧ i ≤ dl.length ∧ m = dl.length + 1 - i := fun {φ₅ σ₅ H₅} h1 h2 => by
      refine ⟨dl.length + 1 - (i + 1), by omega, i + 1, φ₅, σ₅, H₅, fp₃, wr₃, h1, h2.unbase gB₃ S₃.wd S₃.nw, it.frame fp₃ wr₃ (i + 1) s₃ s₅ st₃ (fun b hb o e => h2.gr.heap b o ?_) (fun g x e => h2.gr.gens g x (by rw [← hB₃]; exact e)) (fun e => h2.gr.bare (by rw [← hB₃]; exact e)) (h2.gr.os.trans (by rw [← hB₃])), ⟨w1', w2', w3'⟩, hlt, rfl⟩
      rw [hB₃h]
      exact hideA_some e fun h => h.elim (fF w2' w3' b hb) (fO T (it.fld fp₃ wr₃ (i + 1) s₃ st₃) w3' b hb)
    cases f with
    | next => obtain ⟨φ₅, σ₅, H₅, h1, h2⟩ := hf; exact on h1 h2
    | cont => obtain ⟨φ₅, σ₅, H₅, h1, h2⟩ := hf; exact on h1 h2
    | brk => obtain ⟨φ₅, σ₅, H₅, h1, h2⟩ := hf; exact ⟨φ₅, σ₅, H₅, h1, (h2.unbase gB₃ S₃.wd S₃.nw).unbase gB S.wd S.nw⟩
    | ret v => obtain ⟨d, h1, h2, h3⟩ := hf; exact ⟨d, h1, (gB.trans gB₃).trans h2, h3⟩
  · have hi' : i = dl.length := by omega
    subst hi'
    refine it.done fp' wr' s' _ _ st fun s₃ mv => ?_
    have mv' : Mv B₂ wr' s' s₃ := ⟨mv.heap, by rw [← hB₂]; exact mv.gens, mv.bare, mv.os⟩
    have T : K.St B₂ P φ' σ' H' s₃ := S'.moved mv' w2 (it.fld fp' wr' _ s' st) w1
    rw [List.drop_length] at hJ
    exact stop σ' H' hJ A B P φ' s₃ _ G (T.unbase gB S.wd S.nw)
theorem Stm.while_ {test : Expr} {body orelse : List Stmt} {pos : Pos} (J : Nat → Sg → Hp → Prop) {k : Nat} (h0 : J k σ H)
    (step : ∀ k σ H, J k σ H → ∃ b, EvC K n σ H test b ∧ (b = true → Blk K n body σ H (loopO O fun σ' H' => ∃ m, m < k ∧ J m σ' H')) ∧ (b = false → Blk K n orelse σ H O)) : Stm K n (.While test body orelse pos) σ H O := fun A B P φ s E G S => by
  refine wpAny_While (codeAny_whileLoop (fun k s' => ∃ φ' σ' H', J k σ' H' ∧ K.St B P φ' σ' H' s') ?_ k ⟨φ, σ, H, h0, S⟩)
  rintro k s' ⟨φ', σ', H', hJ, S'⟩
  obtain ⟨b, hc, h1, h2⟩ := step k σ' H' hJ
  refine hc A B P φ' s' G S' _ _ fun s₁ g => ?_
  cases b with
  | true =>
    rw [if_pos rfl]
    refine wpAny_mono (h1 rfl A B P φ' s₁ _ G (S'.up g)) (fun f s₂ hf => ?_) fun _ _ e => e
    cases f with
    | next => obtain ⟨φ₅, σ₅, H₅, ⟨m, hm, h1⟩, h2⟩ := hf; exact ⟨m, hm, φ₅, σ₅, H₅, h1, h2⟩
    | cont => obtain ⟨φ₅, σ₅, H₅, ⟨m, hm, h1⟩, h2⟩ := hf; exact ⟨m, hm, φ₅, σ₅, H₅, h1, h2⟩
    | brk => obtain ⟨φ₅, σ₅, H₅, h1, h2⟩ := hf; exact ⟨φ₅, σ₅, H₅, h1, h2⟩
    | ret v => exact hf
  | false =>
    rw [if_neg (by decide)]
    exact h2 rfl A B P φ' s₁ _ G (S'.up g)
end
end Mine
namespace Mine
/-! ## calls of defs -/
theorem bindL_not {kindOf : PySem.Str → Option NameKind} {x : PySem.Str} : ∀ {bs : List (PySem.Str × Value)} {m : PySem.Str → Option Value}, (∀ b ∈ bs, b.1 ≠ x) → bindL kindOf bs m x = m x
  | [], _, _ => rfl
  | (n, v) :: r, m, h => by
    unfold bindL
    rw [bindL_not fun b hb => h b (List.mem_cons_of_mem _ hb)]
    have : x ≠ n := fun e => h (n, v) List.mem_cons_self e.symm
    split
    · simp [this]
    · rfl
theorem bindC_not {kindOf : PySem.Str → Option NameKind} {x : PySem.Str} : ∀ {bs : List (PySem.Str × Value)} {m : PySem.Str → Option Value}, (∀ b ∈ bs, b.1 ≠ x) → bindC kindOf bs m x = m x
  | [], _, _ => rfl
  | (n, v) :: r, m, h => by
    unfold bindC
    rw [bindC_not fun b hb => h b (List.mem_cons_of_mem _ hb)]
    have : x ≠ n := fun e => h (n, v) List.mem_cons_self e.symm
    split
    · rfl
    · simp [this]
theorem bindL_at {kindOf : PySem.Str → Option NameKind} {x : PySem.Str} {v : Value} (hk : kindOf x = some .local) : ∀ {bs : List (PySem.Str × Value)} {m : PySem.Str → Option Value}, (bs.map (·.1)).Nodup → bs.lookup x = some v → bindL kindOf bs m x = some v
  | (n, u) :: r, m, hn, h => by
    rw [List.map_cons, List.nodup_cons] at hn
    unfold bindL
    rw [List.lookup_cons] at h
    split at h
    · rename_i hz
      rw [beq_iff_eq] at hz
      subst hz
      cases h
      rw [bindL_not (fun b hb (e : b.1 = x) => hn.1 (List.mem_map.mpr ⟨b, hb, e⟩)), if_pos hk]
      simp
    · exact bindL_at hk hn.2 h
theorem bindC_at {kindOf : PySem.Str → Option NameKind} {x : PySem.Str} {v : Value} (hk : kindOf x = some .cell) : ∀ {bs : List (PySem.Str × Value)} {m : PySem.Str → Option Value}, (bs.map (·.1)).Nodup → bs.lookup x = some v → bindC kindOf bs m x = some v
  | (n, u) :: r, m, hn, h => by
    rw [List.map_cons, List.nodup_cons] at hn
    unfold bindC
    rw [List.lookup_cons] at h
    split at h
    · rename_i hz
      rw [beq_iff_eq] at hz
      subst hz
      cases h
      rw [bindC_not (fun b hb (e : b.1 = x) => hn.1 (List.mem_map.mpr ⟨b, hb, e⟩)), if_neg (by rw [hk]; decide)]
      simp
    · exact bindC_at hk hn.2 h
noncomputable def argS (names : List PySem.Str) (args : List D) : Sg := names.zip (args.map .dat)
theorem argS_get {P : Addr → Prop} {h : Heap} : ∀ {names : List PySem.Str} {args : List D} {vs : List Value}, RdL P h vs args → ∀ {x : PySem.Str} {vv : VV}, (argS names args).lookup x = some vv → ∃ v d, vv = .dat d ∧ (names.zip vs).lookup x = some v ∧ Rd P h v d ∧ x ∈ names
  | [], _, _, _, x, vv, e => by simp [argS] at e
  | n :: ns, [], _, _, x, vv, e => by simp [argS] at e
  | n :: ns, a :: as, _, .cons r rs, x, vv, e => by
    simp only [argS, List.map_cons, List.zip_cons_cons, List.lookup_cons] at e ⊢
    split at e
    · rename_i hz
      cases e
      exact ⟨_, _, rfl, rfl, r, by rw [beq_iff_eq] at hz; subst hz; exact List.mem_cons_self⟩
    · obtain ⟨v, d, h1, h2, h3, h4⟩ := argS_get rs e
      exact ⟨v, d, h1, h2, h3, List.mem_cons_of_mem _ h4⟩
section
variable {prog : Program} {w : World} {mg mb : PySem.Str → Option Value} {ds : List DefRec}
theorem len_0 {α : Type} {l : List α} (h : l.length = 0) : l = [] := List.eq_nil_of_length_eq_zero h
theorem len_1 {α : Type} {l : List α} (h : l.length = 1) : ∃ a, l = [a] := List.length_eq_one_iff.mp h
theorem len_2 {α : Type} {l : List α} (h : l.length = 2) : ∃ a b, l = [a, b] := by
  cases l with
  | nil => cases h
  | cons a l => obtain ⟨b, rfl⟩ := len_1 (Nat.succ.inj h); exact ⟨a, b, rfl⟩
theorem len_3 {α : Type} {l : List α} (h : l.length = 3) : ∃ a b c, l = [a, b, c] := by
  cases l with
  | nil => cases h
  | cons a l => obtain ⟨b, c, rfl⟩ := len_2 (Nat.succ.inj h); exact ⟨a, b, c, rfl⟩
structure DOk (d : DefRec) (names : List PySem.Str) : Prop where
  kind : d.scope.kind = .function
  co : d.scope.isCoroutine = false
  nodup : names.Nodup
  kinds : ∀ x ∈ names, d.scope.names.lookup x = some .local ∨ d.scope.names.lookup x = some .cell
  bind : ∀ (pm code doc : Value) (vals : List Value), vals.length = names.length → bindArgs (docDef d.name d.params d.body d.scope pm code doc) ⟨vals, []⟩ = pure (names.zip vals)
theorem inCall_st {env : Env} {sc : Scope} {s s₁ : Shared} {P : Addr → Prop} {names : List PySem.Str} {vs : List Value} {args : List D} (F : FE env sc) (W : Wd mg mb ds s.heap) (nw : Nw P s) (rd : RdL P s.heap vs args) (nd : names.Nodup)
    (hn : ∀ x ∈ names, sc.names.lookup x = some .local ∨ sc.names.lookup x = some .cell) (hlen : vs.length = names.length) (ic : InCallC s env.locals (bindL env.kindOf (names.zip vs) fun _ => none) env.cells (bindC env.kindOf (names.zip vs) fun _ => none) s₁) :
    St mg mb ds env s P (fun _ => none) (argS names args) [] s₁ := by
  have hk := ic.toInCall.keep
  obtain ⟨h₁, tk, e⟩ := ic.toInCall.same
  have hnd : ((names.zip vs).map (·.1)).Nodup := by rw [List.map_fst_zip (by omega)]; exact nd
  have above : ∀ x c, env.cells.lookup x = some c → s.heap.get? c = none := fun x c hc => none_of_size (Nat.le_of_lt (Nat.lt_of_le_of_lt ic.toInCall.fresh (ic.above x c (mem_of_lookup hc))))
  refine { gr := ⟨hk, by rw [e]; exact fun _ _ e => e, by rw [e]; exact fun e => e, by rw [e]⟩, wd := W, nw := nw, frf := fun b f => ?_, ns := ⟨_, ic.toInCall.ns⟩, cl := fun x c hc => ⟨_, ic.cell x c hc⟩, vars := fun x vv hx => ?_, inj := fun j k a h => (nomatch h), ofr := fun k a h => (nomatch h), isl := fun k a h => (nomatch h), cont := fun k l h => absurd h (by simp), out := fun _ _ => rfl }
  · rcases f with rfl | ⟨x, hc⟩
    · exact none_of_size ic.toInCall.fresh
    · exact above x b hc
  · obtain ⟨v, d, rfl, h2, h3, h4⟩ := argS_get rd hx
    refine ⟨v, ⟨by rw [F.scope]; exact F.kind, ?_⟩, Rd.keep (fun b p => ⟨p, fun ⟨k, z⟩ => by cases z⟩) (.of_ext hk) h3⟩
    rcases hn x h4 with q | q
    · exact .inl ⟨F.kindOf q, _, ic.toInCall.ns, bindL_at (F.kindOf q) hnd h2⟩
    · obtain ⟨c, hc⟩ := Option.isSome_iff_exists.mp (F.cell x q)
      refine .inr ⟨.inl (F.kindOf q), c, hc, ?_⟩
      have := ic.cell x c hc
      rw [bindC_at (F.kindOf q) hnd h2] at this
      exact this
theorem Fn.of {d : DefRec} {names : List PySem.Str} {n : Nat} {args : List D} {r : D} (ok : DOk d names) (hgen : d.scope.isGenerator = false) (hl : args.length = names.length)
    (hb : ∀ env (F : FE env d.scope), Blk ⟨prog, w, mg, mb, ds, env, d.scope, F⟩ n d.body (argS names args) [] fun o => match o with | .ret r' => r' = r | .next _ _ => r = .none | _ => False) : Fn prog w mg mb ds (n + 1) d args r := fun A P s a o pm code doc vs G W ho hd hcd nw rd Q E q => by
  have hlen : vs.length = names.length := rd.length.trans hl
  refine wpAny_call (codeAny_call_cells (by have := G.depth; omega) ho hd W.lim hcd rfl (ok.bind pm code doc vs hlen) rfl (fun x hx => ?_) (fun s₁ ic => ?_) ok.co hgen ok.kind)
  · have hx' : x.1 ∈ names := (List.of_mem_zip hx).1
    rcases ok.kinds x.1 hx' with h | h
    · exact .inl h
    · exact .inr ⟨h, cellsFrom_some _ _ _ (.inl h)⟩
  · have F : FE (callEnvC (docDef d.name d.params d.body d.scope pm code doc) s.heap.objs.size a) d.scope :=
      ⟨rfl, ok.kind, rfl, rfl, fun x hx => cellsFrom_some _ _ _ (.inl hx), fun x y c h1 h2 => name_of_addr ic.apart (mem_of_lookup h1) (mem_of_lookup h2)⟩
    have S := inCall_st F W nw rd ok.nodup ok.kinds hlen ic
    refine wpAny_mono (hb _ F _ s P _ s₁ _ (G.deeper _) S) (fun f s' hf => ?_) fun _ _ e => e
    cases f with
    | next =>
      obtain ⟨φ, σ, H, h1, h2⟩ := hf
      dsimp only at h1
      rw [h1] at q
      exact q _ s' h2.gr .none
    | cont => obtain ⟨φ, σ, H, h1, h2⟩ := hf; exact h1.elim
    | brk => obtain ⟨φ, σ, H, h1, h2⟩ := hf; exact h1.elim
    | ret v =>
      obtain ⟨d, h1, h2, h3⟩ := hf
      dsimp only at h1
      subst h1
      exact q v s' h2 h3
end
end Mine
namespace Mine
/-! ## more built-ins -/
mutual
noncomputable def D.py : D → PyData
  | .none => .none
  | .bool b => .bool b
  | .int i => .int i
  | .str s => .str s
  | .list xs => .list (pys xs)
  | .tup xs => .tuple (pys xs)
noncomputable def pys : List D → List PyData
  | [] => []
  | x :: xs => x.py :: pys xs
end
theorem Rd.reads {P : Addr → Prop} {h : Heap} {v : Value} {d : D} (r : Rd P h v d) : ∃ as, Reads h v d.py as := by
  refine Rd.rec (motive_1 := fun v d _ => ∃ as, Reads h v d.py as) (motive_2 := fun vs ds _ => ∃ as, ReadsAll h vs (pys ds) as) ?_ ?_ ?_ ?_ ?_ ?_ ?_ ?_ r
  · exact ⟨_, .none⟩
  · exact fun b => ⟨_, .bool b⟩
  · exact fun i t => ⟨_, .int i t⟩
  · exact fun s t => ⟨_, .str s t⟩
  · rintro a n vs xs - e - ⟨as, ih⟩; exact ⟨_, .list e rfl rfl ih⟩
  · rintro a n vs xs e - ⟨as, ih⟩; exact ⟨_, .tuple e rfl rfl ih⟩
  · exact ⟨_, .nil⟩
  · rintro v vs d ds - - ⟨as, i1⟩ ⟨bs, i2⟩; exact ⟨_, .cons i1 i2⟩
theorem pys_eq : ∀ xs : List D, pys xs = xs.map D.py
  | [] => rfl
  | x :: xs => by rw [pys, List.map_cons, pys_eq xs]
section
variable {prog : Program} {w : World} {A : Around} {env : Env} {h : Heap}
theorem o_eq_any {a b : D} (ha : a.py.canLay0 = true) (hb : b.py.canLay0 = true) (hu : A.units + min a.py.depth b.py.depth < cLine) : OpY prog w A (compareOp .Eq) a b (.bool (PyData.eqv a.py b.py)) := fun P s x y nw r1 r2 Q E q => by
  obtain ⟨as, ra⟩ := r1.reads
  obtain ⟨bs, rb⟩ := r2.reads
  exact SeqAt.compareEq_reads ra rb ha hb hu (q _ _ (.refl _) (.bool _))
theorem o_ne_any {a b : D} (ha : a.py.canLay0 = true) (hb : b.py.canLay0 = true) (hu : A.units + min a.py.depth b.py.depth < cLine) : OpY prog w A (compareOp .NotEq) a b (.bool (!PyData.eqv a.py b.py)) := fun P s x y nw r1 r2 Q E q => by
  obtain ⟨as, ra⟩ := r1.reads
  obtain ⟨bs, rb⟩ := r2.reads
  exact cmp_ofNotEq (SeqAt.neOverData _ _ _ _ _ _ _ _ _ _ _ _ ra rb ha hb hu (q _ _ (.refl _) (.bool _)))
theorem o_in_any {x : D} {xs : List D} (hxs : PyData.canLayAll0 (pys xs) = true) (hd : x.py.canLay0 = true) (hu : A.units + 1 + min (PyData.depthAll (pys xs)) x.py.depth < cLine) :
    OpY prog w A (compareOp .In) x (.list xs) (.bool (xs.any fun y => PyData.eqv y.py x.py)) := fun P s u v nw r1 r2 Q E q => by
  obtain ⟨as, ra⟩ := r1.reads
  obtain ⟨bs, rb⟩ := r2.reads
  have e : (pys xs).any (fun y => PyData.eqv y x.py) = xs.any fun y => PyData.eqv y.py x.py := by rw [pys_eq, List.any_map]; rfl
  exact SeqAt.in_list_reads (d := x.py) (xs := pys xs) rb ra hxs hd hu (by rw [e]; exact q _ _ (.refl _) (.bool _))
theorem o_notIn_any {x : D} {xs : List D} (hxs : PyData.canLayAll0 (pys xs) = true) (hd : x.py.canLay0 = true) (hu : A.units + 1 + min (PyData.depthAll (pys xs)) x.py.depth < cLine) :
    OpY prog w A (compareOp .NotIn) x (.list xs) (.bool (!xs.any fun y => PyData.eqv y.py x.py)) := fun P s u v nw r1 r2 Q E q => by
  obtain ⟨as, ra⟩ := r1.reads
  obtain ⟨bs, rb⟩ := r2.reads
  have e : (pys xs).any (fun y => PyData.eqv y x.py) = xs.any fun y => PyData.eqv y.py x.py := by rw [pys_eq, List.any_map]; rfl
  exact SeqAt.notIn_list_reads (d := x.py) (xs := pys xs) rb ra hxs hd hu (by rw [e]; exact q _ _ (.refl _) (.bool _))
theorem o_notIn_str {x y : PySem.Str} : OpY prog w A (compareOp .NotIn) (.str y) (.str x) (.bool (!(!(Builtin.Str.occurrences x y 0 x.length 1).isEmpty))) := fun P s u v nw r1 r2 Q E q => by
  cases r1; cases r2; exact PySem.P.notIn_str (q _ _ (.refl _) (.bool _))
theorem RdL.ints {P : Addr → Prop} : ∀ {vs : List Value} {ns : List Int}, RdL P h vs (ns.map D.int) → ∃ xs : List (Int × Tok), vs = xs.map (fun p => .int p.1 p.2) ∧ xs.map (·.1) = ns
  | _, [], r => by cases r; exact ⟨[], rfl, rfl⟩
  | _, n :: ns, r => by
    cases r with
    | cons r1 r2 =>
      obtain ⟨t, rfl⟩ := r1.int_inv
      obtain ⟨xs, rfl, rfl⟩ := RdL.ints r2
      exact ⟨(n, t) :: xs, rfl, rfl⟩
theorem c_sum {h : Heap} (hh : A.handled = none) {ns : List Int} : CallY prog w A (.builtin "sum") h [.list (ns.map .int)] (.int ns.sum) := fun P s vs k nw rs Q E q => by
  cases rs with
  | cons r rs =>
    cases rs
    obtain ⟨a, n, us, rfl, -, e1, l1⟩ := r.list_inv
    obtain ⟨xs, hxs, rfl⟩ := RdL.ints l1
    have he : us = intItems xs.toArray := by
      apply Array.ext'
      rw [hxs]; simp [intItems]
    subst he
    refine sum_intListG hh e1.isList fun h' tk t' hk => ?_
    have hp : preSum (numAt xs.toArray) xs.toArray.size = (xs.map (·.1)).sum := by
      rw [preSum_eq, List.take_of_length_le (by simp)]
    rw [hp]
    exact q _ _ (.mk' hk) (.int _ _)
theorem c_min {h : Heap} (hh : A.handled = none) {ns : List Int} {M : Int} (hM : M ∈ ns) (hle : ∀ a ∈ ns, M ≤ a) : CallY prog w A (.builtin "min") h [.list (ns.map .int)] (.int M) := fun P s vs k nw rs Q E q => by
  cases rs with
  | cons r rs =>
    cases rs
    obtain ⟨a, n, us, rfl, -, e1, l1⟩ := r.list_inv
    obtain ⟨xs, hxs, rfl⟩ := RdL.ints l1
    have he : us = intItems xs.toArray := by
      apply Array.ext'
      rw [hxs]; simp [intItems]
    subst he
    have hpos : 0 < xs.toArray.size := by
      cases xs with
      | nil => cases hM
      | cons => simp
    refine min_intList hh e1.isList hpos fun v h' tk hv hk => ?_
    obtain ⟨b1, b2⟩ := argBest_lt (numAt xs.toArray) (xs.toArray.size - 1)
    generalize argBest (fun i j => decide (numAt xs.toArray i < numAt xs.toArray j)) (xs.toArray.size - 1) = j at *
    obtain ⟨t, rfl⟩ : ∃ t, v = .int (numAt xs.toArray j) t := intItems_at hv
    have hj : j < xs.length := by simp at b1 hpos; omega
    have e : numAt xs.toArray j = M := by
      refine Int.le_antisymm ?_ (hle _ ?_)
      · obtain ⟨i, hi, hMi⟩ := List.getElem_of_mem hM
        have := b2 i (by simp at hi ⊢; omega)
        have e2 : numAt xs.toArray i = M := by
          simp at hi
          simp [numAt, hi] at hMi ⊢
          exact hMi
        rw [← e2]; exact this
      · simp [numAt, hj]
        exact ⟨_, List.getElem_mem hj⟩
    rw [e]
    exact q _ _ (.mk' hk) (.int _ _)
end
end Mine
namespace Mine
theorem FE.block {env : Env} {sc : Scope} (F : FE env sc) : env.blockKind = .function := by
  unfold Env.blockKind; rw [F.scope, F.kind]; rfl
theorem swaps_comp {env : Env} {sc : Scope} (F : FE env sc) {elt : Expr} {gs : List Comprehension} {s : Scope} {pos tp : Pos} {t : PySem.Str} {line : Nat} {b : Bool}
   (h : ((sc.names.lookup t == some .local) && tp.line == pos.line && !(s.names.any fun y => y.1 == t && (y.2 == .local || y.2 == .cell))) = b) : swapsWith (.ListComp elt gs s pos) (some (.Name t tp)) line env = pure b := by
  unfold swapsWith
  show pure (env.blockKind == .function && env.scope.names.lookup t == some .local && tp.line == pos.line && !(s.names.any fun (n, k) => n == t && (k == .local || k == .cell))) = _
  rw [F.block, F.scope, ← h]
  simp
section
variable {prog : Program} {w : World} {A : Around} {env : Env} {h : Heap}
open Classical in
theorem unmap {α : Type} (f : α → D) (xs : List α) (hinj : ∀ x ∈ xs, ∀ y ∈ xs, f x = f y → x = y) {β : Type} (g : α → β) (z : β) : ∃ g' : D → β, ∀ x ∈ xs, g' (f x) = g x := by
  refine ⟨fun d => if h : ∃ x ∈ xs, f x = d then g h.choose else z, fun x hx => ?_⟩
  have h : ∃ y ∈ xs, f y = f x := ⟨x, hx, rfl⟩
  dsimp only
  rw [dif_pos h]
  rw [hinj _ h.choose_spec.1 x hx h.choose_spec.2]
theorem filter_map_un {α : Type} (f : α → D) (xs : List α) {p' : D → Bool} {p : α → Bool} {g' : D → D} {g : α → D} (hp : ∀ x ∈ xs, p' (f x) = p x) (hg : ∀ x ∈ xs, g' (f x) = g x) : ((xs.map f).filter p').map g' = (xs.filter p).map g := by
  rw [List.filter_map, List.map_map]
  have e1 : xs.filter (p' ∘ f) = xs.filter p := List.filter_congr fun x hx => hp x hx
  rw [e1]
  exact List.map_congr_left fun x hx => hg x (List.mem_filter.mp hx).1
theorem EvN.compM {α : Type} {elt iter : Expr} {x : PySem.Str} {px : Pos} {ifs : List Expr} {scope : Scope} {pos : Pos} {fr : List PySem.Str} (f : α → D) (xs : List α) (p : α → Bool) (g : α → D)
    (hi : EvI prog w A env h iter (xs.map f)) (hinj : ∀ x ∈ xs, ∀ y ∈ xs, f x = f y → x = y) (hok : compOk scope x = true) (hfr : (scope.names.filter fun y => y.2 == NameKind.free).map (·.1) = fr) (hc : AllC env fr) (hz : xs.length ≤ sizeLine)
    (body : ∀ (cenv : Env) (h₃ : Heap) (y : α), CE env scope cenv → Ext h h₃ → y ∈ xs → LV cenv h₃ x (f y) → EvIfs prog w A cenv h₃ ifs (p y) ∧ (p y = true → Ev prog w A cenv h₃ elt (g y)))
    (hs : ∀ x, foldedSetIterable iter env x = pure x := by intro _; rfl) : EvN prog w A env h (.ListComp elt [⟨.Name x px, iter, ifs, 0⟩] scope pos) ((xs.filter p).map g) := by
  obtain ⟨p', hp⟩ := unmap f xs hinj p false
  obtain ⟨g', hg⟩ := unmap f xs hinj g .none
  rw [← filter_map_un f xs hp hg]
  refine EvN.comp p' g' hi hok hfr hc (by simpa using hz) (fun cenv h₃ i d ce k hd lv => ?_) hs
  rw [List.getElem?_map, Option.map_eq_some_iff] at hd
  obtain ⟨y, hy, rfl⟩ := hd
  have hm : y ∈ xs := List.mem_of_getElem? hy
  rw [hp y hm, hg y hm]
  exact body cenv h₃ y ce k hm lv
theorem EvN.compA {α : Type} {elt iter : Expr} {x : PySem.Str} {px : Pos} {scope : Scope} {pos : Pos} {fr : List PySem.Str} (f : α → D) (xs : List α) (g : α → D)
    (hi : EvI prog w A env h iter (xs.map f)) (hinj : ∀ x ∈ xs, ∀ y ∈ xs, f x = f y → x = y) (hok : compOk scope x = true) (hfr : (scope.names.filter fun y => y.2 == NameKind.free).map (·.1) = fr) (hc : AllC env fr) (hz : xs.length ≤ sizeLine)
    (body : ∀ (cenv : Env) (h₃ : Heap) (y : α), CE env scope cenv → Ext h h₃ → y ∈ xs → LV cenv h₃ x (f y) → Ev prog w A cenv h₃ elt (g y))
    (hs : ∀ x, foldedSetIterable iter env x = pure x := by intro _; rfl) : EvN prog w A env h (.ListComp elt [⟨.Name x px, iter, [], 0⟩] scope pos) (xs.map g) := by
  have := EvN.compM (pos := pos) (px := px) f xs (fun _ => true) g hi hinj hok hfr hc hz (fun cenv h₃ y ce k m lv => ⟨EvIfs.nil, fun _ => body cenv h₃ y ce k m lv⟩) hs
  rwa [List.filter_eq_self.mpr (fun _ _ => rfl)] at this
theorem wp_assignUM {α : Type} {x y : PySem.Str} {px py pos spos : Pos} {elt iter : Expr} {ifs : List Expr} {scope : Scope} {fr : List PySem.Str} {P : Addr → Prop} {s : Shared} {tb : Addr} {Q : Flow → Shared → Prop} {E : Value → Shared → Prop} (f : α → D) (xs : List α) (p : α → Bool) (g : α → D)
    (hk : env.scope.kind = .function) (t : Tgt env s.heap y tb) (k : Ext h s.heap) (hp : HP P h) (nw : Nw P s)
    (hi : EvI prog w A env h iter (xs.map f)) (hinj : ∀ x ∈ xs, ∀ y ∈ xs, f x = f y → x = y) (hok : compOk scope x = true) (hfr : (scope.names.filter fun y => y.2 == NameKind.free).map (·.1) = fr) (hc : AllC env fr) (hz : xs.length ≤ sizeLine)
    (body : ∀ (cenv : Env) (h₃ : Heap) (y : α), CE env scope cenv → Ext h h₃ → y ∈ xs → LV cenv h₃ x (f y) → EvIfs prog w A cenv h₃ ifs (p y) ∧ (p y = true → Ev prog w A cenv h₃ elt (g y)))
    (q : ∀ a n items s', Stored env y (.ref a) tb s s' → s.heap.get? a = none → IsL s'.heap a items n → RdL (fun b => P b ∧ b ≠ a) s'.heap items.toList ((xs.filter p).map g) → Q .next s')
    (hsw : swapsWith (.ListComp elt [⟨.Name x px, iter, ifs, 0⟩] scope pos) (some (.Name y py)) spos.line env = pure true)
    (hs : ∀ x, foldedSetIterable iter env x = pure x) : wpAny (model prog w) A (exec (.Assign [.Name y py] (.ListComp elt [⟨.Name x px, iter, ifs, 0⟩] scope pos) spos) env) Q E s := by
  obtain ⟨p', hp'⟩ := unmap f xs hinj p false
  obtain ⟨g', hg⟩ := unmap f xs hinj g .none
  rw [← filter_map_un f xs hp' hg] at q
  refine wp_assignU p' g' hk t k hp nw hi hok hfr hc (by simpa using hz) (fun cenv h₃ i d ce k hd lv => ?_) q hsw hs
  rw [List.getElem?_map, Option.map_eq_some_iff] at hd
  obtain ⟨y, hy, rfl⟩ := hd
  have hm : y ∈ xs := List.mem_of_getElem? hy
  rw [hp' y hm, hg y hm]
  exact body cenv h₃ y ce k hm lv
end
section
variable {K : Cx} {n : Nat} {σ σ' : Sg} {H H' : Hp} {O O' : Oc → Prop}
/-- a comprehension assigned on its own line to a plain local -/
theorem Blk.assignU {α : Type} {x y : PySem.Str} {px py pos spos : Pos} {elt iter : Expr} {ifs : List Expr} {scope : Scope} {fr : List PySem.Str} {rest : List Stmt} (f : α → D) (xs : List α) (p : α → Bool) (g : α → D)
    (hi : EvIS K n (dv σ) iter (xs.map f)) (hinj : ∀ x ∈ xs, ∀ y ∈ xs, f x = f y → x = y) (hok : compOk scope x = true) (hfr : (scope.names.filter fun y => y.2 == NameKind.free).map (·.1) = fr) (hc : ∀ h, (∀ x d, dv σ x = some d → LV K.env h x d) → AllC K.env fr) (hz : xs.length ≤ sizeLine)
    (body : ∀ (A : Around) (h : Heap), GA A n → Wd K.mg K.mb K.ds h → (∀ x d, dv σ x = some d → LV K.env h x d) → ∀ (cenv : Env) (h₃ : Heap) (y : α), CE K.env scope cenv → Ext h h₃ → y ∈ xs → LV cenv h₃ x (f y) → EvIfs K.prog K.w A cenv h₃ ifs (p y) ∧ (p y = true → Ev K.prog K.w A cenv h₃ elt (g y)))
    (hx : KO K y) (z : Blk K n rest ((y, .dat (.list ((xs.filter p).map g))) :: σ) H O)
    (hsw : swapsWith (.ListComp elt [⟨.Name x px, iter, ifs, 0⟩] scope pos) (some (.Name y py)) spos.line K.env = pure true)
    (hs : ∀ x, foldedSetIterable iter K.env x = pure x := by intro _; rfl) : Blk K n (.Assign [.Name y py] (.ListComp elt [⟨.Name x px, iter, ifs, 0⟩] scope pos) spos :: rest) σ H O := .seq (fun O' q A B P φ s E G S => by
  obtain ⟨tb, t⟩ := S.tgt K.F hx
  refine wp_assignUM (h := hideL (PP P φ) s.heap) (P := PP P φ) f xs p g (by rw [K.F.scope]; exact K.F.kind) t hideL_ext hideL_hp S.nwp (hi A _ G (hideL_wd S.wds) S.dlv) hinj hok hfr (hc _ S.dlv) hz (body A _ G (hideL_wd S.wds) S.dlv) (fun a m items s' st fr l r => ?_) hsw hs
  have hlk : ∀ {b o}, b ≠ tb → s.heap.get? b = some o → s'.heap.get? b = some o := fun hb e => st.off.heap _ _ (by simpa using hb) e
  refine ⟨φ, _, _, q, ?_⟩
  have nsq := t.noseq
  have lk : ∀ P, LK P s.heap s'.heap := fun P => .of_but (N := fun b => b = tb) (fun b o hb e => hlk hb e) fun b o hb e => by
    subst hb; obtain ⟨o', e', z⟩ := nsq; rw [e] at e'; cases e'; exact z
  exact S.stored' K.F (hx.imp K.F.kindOf K.F.kindOf) t st lk (vv := .dat _) (.list (S.nwp a fr) l (r.keep (fun _ h => h.1) (.of_ext Ext.rf)))) z
theorem deepL_dat {f : VV → Option D} (h : ∀ d, f (.dat d) = some d) : ∀ dl : List D, deepL f (dl.map .dat) = some dl
  | [] => rfl
  | d :: dl => by rw [List.map_cons, deepL, h, deepL_dat h dl]
theorem fv_loc {x : PySem.Str} {k : Nat} {dl : List D} (h1 : σ.lookup x = some (.loc k)) (h2 : H[k]? = some (some (dl.map .dat))) : fv σ H x = some (.list dl) := by
  unfold fv
  rw [h1]
  show deepV H 3 (.loc k) = _
  rw [deepV, h2]
  show (deepL (deepV H 2) (dl.map .dat)).map D.list = _
  rw [deepL_dat fun d => rfl]
  rfl
end
end Mine
namespace Mine
/-! ## the program's defs -/
noncomputable def nth {α : Type} : List α → Nat → Option α
  | [], _ => none
  | x :: _, 0 => some x
  | _ :: xs, n + 1 => nth xs n
noncomputable def recOf : Option Stmt → DefRec
  | some (.FunctionDef name a b _ _ _ sc _ _ pos) => ⟨name, a, b, sc, pos⟩
  | _ => ⟨"", { posonlyargs := [], args := [], vararg := none, kwonlyargs := [], kw_defaults := [], kwarg := none, defaults := [] }, [], { kind := .function, names := [], isGenerator := false, isCoroutine := false, more := [] }, ⟨0, 0, 0, 0⟩⟩
noncomputable def dAt (k : Nat) : DefRec := recOf (nth PySem.Challenge.pw_rw0050_01.main.body k)
structure Bi (mg mb : PySem.Str → Option Value) : Prop where
  len : mg "len" = none ∧ mb "len" = some (.builtin "len")
  range : mg "range" = none ∧ mb "range" = some (.type "range")
  min : mg "min" = none ∧ mb "min" = some (.builtin "min")
  sum : mg "sum" = none ∧ mb "sum" = some (.builtin "sum")
  list : mg "list" = none ∧ mb "list" = some (.type "list")
  hex : mg "hex" = none ∧ mb "hex" = some (.builtin "hex")
  enumerate : mg "enumerate" = none ∧ mb "enumerate" = some (.type "enumerate")
noncomputable def dI (xs : List Int) : D := .list (xs.map .int)
noncomputable def dLL (xs : List (List Int)) : D := .list (xs.map dI)
section
variable {prog : Program} {w : World} {A : Around} {env : Env} {h : Heap} {mg mb : PySem.Str → Option Value} {ds : List DefRec}
theorem GN.bi {env : Env} {x : PySem.Str} {v : Value} (ge : GE env) (k : env.kindOf x = some .globalImplicit) (h : mg x = none ∧ mb x = some v) : GN mg mb env x v := ⟨ge, k, .inr h⟩
noncomputable def nD (i : Nat) : D := .int i
theorem nD_inj {xs : List Nat} : ∀ x ∈ xs, ∀ y ∈ xs, nD x = nD y → x = y := fun _ _ _ _ e => by have := D.int.inj e; omega
theorem int_inj {xs : List Int} : ∀ x ∈ xs, ∀ y ∈ xs, D.int x = D.int y → x = y := fun _ _ _ _ e => D.int.inj e
theorem ints_inj {xs ys : List Int} (e : xs.map D.int = ys.map D.int) : xs = ys := by
  induction xs generalizing ys with
  | nil => cases ys with
    | nil => rfl
    | cons => cases e
  | cons x xs ih => cases ys with
    | nil => cases e
    | cons y ys =>
      rw [List.map_cons, List.map_cons] at e
      injection e with e1 e2
      rw [D.int.inj e1, ih e2]
theorem dI_inj {xs : List (List Int)} : ∀ x ∈ xs, ∀ y ∈ xs, dI x = dI y → x = y := fun _ _ _ _ e => ints_inj (D.list.inj e)
theorem rangeD_zero (n : Nat) : rangeD 0 n = (List.range n).map nD := by
  unfold rangeD nD
  exact List.map_congr_left fun i _ => by rw [Int.zero_add]
theorem EvI.range0 {x : PySem.Str} {p pos : Pos} {e : Expr} {n : Nat} (bi : Bi mg mb) (W : Wd mg mb ds h) (hh : A.handled = none) (ge : GE env) (hk : env.kindOf "range" = some .globalImplicit) (hx : x = "range") (y : Ev prog w A env h e (.int n)) (hn : n < 2 ^ 40)
    (he : starEach [e] env = (false, eval e env) :: starEach [] env := by rfl) : EvI prog w A env h (.Call (.Name x p) [e] [] pos) ((List.range n).map nD) := by
  subst hx
  rw [← rangeD_zero]
  exact EvI.range hh (EvR.one W (GN.bi ge hk bi.range) y (he := he)) (by split <;> omega) (by omega) (by omega)
theorem rangeD_from (a n : Nat) : rangeD a n = (List.range' a n).map nD := by
  unfold rangeD nD
  rw [List.range'_eq_map_range, List.map_map]
  exact List.map_congr_left fun i _ => by simp
theorem EvI.range2 {x : PySem.Str} {p pos : Pos} {e e' : Expr} {a b : Nat} (bi : Bi mg mb) (W : Wd mg mb ds h) (hh : A.handled = none) (ge : GE env) (hk : env.kindOf "range" = some .globalImplicit) (hx : x = "range") (y : Ev prog w A env h e (.int a)) (y' : Ev prog w A env h e' (.int b)) (hn : a < 2 ^ 40 ∧ b < 2 ^ 40)
    (he : starEach [e, e'] env = (false, eval e env) :: starEach [e'] env := by rfl) (he' : starEach [e'] env = (false, eval e' env) :: starEach [] env := by rfl) (hplain : (backTo pos (starEach [e'] env)).any (·.1) = false := by rfl) : EvI prog w A env h (.Call (.Name x p) [e, e'] [] pos) ((List.range' a (b - a)).map nD) := by
  subst hx
  rw [← rangeD_from]
  exact EvI.range hh (EvR.two W (GN.bi ge hk bi.range) y y' (he := he) (he' := he') (hplain := hplain)) (by split <;> omega) (by omega) (by omega)
theorem Ev.len {x : PySem.Str} {p pos : Pos} {e : Expr} {xs : List D} {n : Nat} (bi : Bi mg mb) (W : Wd mg mb ds h) (ge : GE env) (hk : env.kindOf "len" = some .globalImplicit) (hx : x = "len") (y : Ev prog w A env h e (.list xs)) (hn : xs.length = n) (hz : n ≤ sizeLine)
    (he : starEach [e] env = (false, eval e env) :: starEach [] env := by rfl) : Ev prog w A env h (.Call (.Name x p) [e] [] pos) (.int n) := by
  subst hx hn
  exact Ev.callB W (GN.bi ge hk bi.len) (EvL.cons (he := he) y .nil) (c_len_list hz) (he := he)
theorem Ev.lenS {x : PySem.Str} {p pos : Pos} {e : Expr} {xs : PySem.Str} {n : Nat} (bi : Bi mg mb) (W : Wd mg mb ds h) (ge : GE env) (hk : env.kindOf "len" = some .globalImplicit) (hx : x = "len") (y : Ev prog w A env h e (.str xs)) (hn : xs.length = n) (hz : n ≤ sizeLine)
    (he : starEach [e] env = (false, eval e env) :: starEach [] env := by rfl) : Ev prog w A env h (.Call (.Name x p) [e] [] pos) (.int n) := by
  subst hx hn
  exact Ev.callB W (GN.bi ge hk bi.len) (EvL.cons (he := he) y .nil) (c_len_str hz) (he := he)
end
end Mine
namespace Mine
/-! ## generators -/
section
variable {prog : Program} {w : World} {A : Around} {E : Value → Shared → Prop} {s : Shared}
theorem wp_nextGen {a : Addr} {g n : Nat} {gs : GenState} {P : Nat → Shared → Shared → Prop} {Y : Protocol} {Q : Option Value → Shared → Prop} (hh : A.handled = none)
    (hl : s.heap.NoLimit) (hroom : A.depth < recursionLimit) (hg : s.heap.IsGen a g) (hgs : s.gens[g]? = some gs)
    (hgo : gs.Goes (model prog w) A.in1 (fun n s₀ r s₁ => r = .ok (.ret .none) ∧ P n s₀ s₁) Y n (.send .none) (s.setGen g .running))
    (hY : ∀ v s₁ gs', gs'.bare = true → Y (n - 1) (s.setGen g .running) v s₁ (fun r' s'' => match n with
        | 0 => False
        | m + 1 => gs'.Goes (model prog w) A.in1 (fun n s₀ r s₁ => r = .ok (.ret .none) ∧ P n s₀ s₁) Y m r' s'') → Q (some v) (s₁.setGen g gs'))
    (hP : ∀ s₁, P n (s.setGen g .running) s₁ → ∀ h', (∀ b o, s₁.heap.get? b = some o → h'.get? b = some o) → Q none { s₁.setGen g .finished with heap := h' }) :
    wpAny (model prog w) A (pyNext (.ref a)) Q E s := by
  unfold pyNext
  refine wpAny_bind (wpAny_attempt (wpAny_callSpecial?_slot (name := Str.ofString "__next__") hg.typeIs slot_gen_next (wpAny_call_entry slot_gen_next hg.typeIs entry_gen_next ?_ (args_gen_next _))))
  show wpAny _ _ (Builtin.Generator.genWake (.ref a) (.send .none)) _ _ s
  unfold Builtin.Generator.genWake
  refine wpAny_bind (wpAny_holding (wpAny_genNumber hg (wpAny_bind (wpAny_genState hgs ?_))))
  cases gs with
  | running => exact hgo.elim
  | finished => exact hgo.elim
  | _ =>
    refine wpAny_bind (wpAny_roomToWake hl hroom ?_)
    show wpAny _ _ (.resume g (.send .none) [] _) _ _ s
    refine wpAny_resumeQ hgs hgo (fun x s₁ hx => ?_) (fun v s₁ gs' hb hv => ?_)
    · obtain ⟨rfl, hp⟩ := hx
      show wpAny _ _ (newExc (.type "StopIteration") [] >>= _) _ _ _
      refine wpAny_bind ?_
      simp only [newExc, newTuple]
      refine wpAny_bind (wpAny_newObj_type ?_ (by size_fits))
      refine wpAny_bind (m := firstArgMember _ _) (wpAny_of_eq (a := Value.none) (by first | rfl | (simp only [firstArgMember]; rfl)) ?_)
      refine wpAny_newObj_type ?_ (by size_fits)
      simp only [raiseNew]
      refine wpAny_bind (wpAny_bind (wpAny_handled ?_))
      rw [show A.in1.handled = none from hh]
      refine wpAny_throw ?_
      refine wpAny_bind (wpAny_isInstance (T := "StopIteration") (b := true) ⟨_, Heap.get?_push_size _ rfl, rfl⟩ isSubtype_stop ?_)
      exact wpAny_pure (hP s₁ hp _ fun b o hb => Heap.get?_push_of_some _ (Heap.get?_push_of_some _ hb))
    · exact wpAny_pure ⟨v, rfl, wpAny_pure (hY v s₁ gs' hb hv)⟩
end
section
variable {M : Model} {A : Around} {R : GenEnd} {Y : Protocol} {n : Nat} {s₀ : Shared} {c : Code} {fs : List Frame} {s : Shared} {env : Env}
  {K : Flow → Sem Fin} {H : Value → Sem Fin} {gd : Bool → Bool} {lv : List Value → List Value}
theorem seg_stm {st : Stmt} (h : wpAny M (A.over c fs) (exec st env) (fun f s' => Seg M A R Y n s₀ c (K f) fs s') (fun x s' => Seg M A R Y n s₀ c (H x) fs s') s) : Seg M A R Y n s₀ c ((exec st env).wrap K H gd lv) fs s := seg_wrap h
theorem seg_If {test : Expr} {body orelse : List Stmt} {pos : Pos} (h : wpAny M (A.over c fs) (isTrue test env (eval test env)) (fun b s' => if b = true then Seg M A R Y n s₀ c ((execs body env).wrap K H gd lv) fs s' else Seg M A R Y n s₀ c ((execs orelse env).wrap K H gd lv) fs s')
    (fun x s' => Seg M A R Y n s₀ c (H x) fs s') s) : Seg M A R Y n s₀ c ((exec (.If test body orelse pos) env).wrap K H gd lv) fs s := by
  rw [exec_If]
  refine seg_at ?_
  show Seg M A R Y n s₀ c ((isTrue test env (eval test env) >>= fun b => if b = true then execs body env else execs orelse env).wrap K H gd lv) fs s
  rw [Sem.bind_eq_wrap', Sem.wrap_wrap]
  refine seg_wrap (wpAny_mono h (fun b s' hb => ?_) fun x s' hx => hx)
  cases b with
  | true => rw [if_pos rfl] at hb; exact hb
  | false => rw [if_neg (by decide)] at hb; exact hb
theorem seg_For {target iter : Expr} {body orelse : List Stmt} {pos : Pos}
    (h : wpAny M (A.over c fs) (eval iter env) (fun x s₁ => wpAny M (A.over c fs) (pyIter x) (fun it s₂ =>
      ∀ p, Seg M A R Y n s₀ (.forLoop target it body orelse env) (M.den (.forLoop target it body orelse env))
      (.ret (fun r => ((match r with | .ok f => (.pure f : Sem Flow) | .error e => .raise e).onRaise fun (x : Value) => do
        if (← field x 1) == Value.none then unsupported "frame.own-activation:exception-without-traceback"
        setFlight x env.frame).wrap K H gd lv) none (gd false) (lv []) c p [] :: fs) s₂) (fun x s' => Seg M A R Y n s₀ c (H x) fs s') s₁) (fun x s' => Seg M A R Y n s₀ c (H x) fs s') s)
    (hs : ∀ x, foldedSetIterable iter env x = pure x := by intro _; rfl) : Seg M A R Y n s₀ c ((exec (.For target iter body orelse pos) env).wrap K H gd lv) fs s := by
  rw [exec_For]
  refine seg_at ?_
  show Seg M A R Y n s₀ c ((eval iter env >>= fun x => foldedSetIterable iter env x >>= fun x => standAt iter.pos >>= fun _ => holding [x] (pyIter x) >>= fun it => runOwn (.forLoop target it body orelse env) env).wrap K H gd lv) fs s
  rw [Sem.bind_eq_wrap', Sem.wrap_wrap]
  refine seg_wrap (wpAny_mono h (fun x s₁ h₁ => ?_) fun x s' hx => hx)
  rw [hs]
  refine seg_at ?_
  show Seg M A R Y n s₀ c (((holding [x] (pyIter x)).bind fun it => runOwn (.forLoop target it body orelse env) env).wrap K H gd lv) fs s₁
  have fin : wpAny M (A.over c fs) (pyIter x) (fun it s' => Seg M A R Y n s₀ c ((runOwn (.forLoop target it body orelse env) env).wrap K H gd lv) fs s') (fun x s' => Seg M A R Y n s₀ c (H x) fs s') s₁ :=
    wpAny_mono h₁ (fun it s₂ h₂ => seg_call h₂) fun x s' hx => hx
  rw [Sem.bind_eq_wrap, Sem.wrap_wrap]
  unfold holding
  split
  · exact seg_wrap fin
  · rw [Sem.keep_eq_wrap, Sem.wrap_wrap]
    exact seg_wrap fin
end
section
variable {prog : Program} {w : World} {A : Around} {R : GenEnd} {Y : Protocol} {n : Nat} {s₀ : Shared} {fs : List Frame} {s : Shared} {env : Env}
noncomputable def loopK (target : Expr) (it : Value) (body orelse : List Stmt) (env : Env) : Flow → Sem Fin := fun f => match f with
  | .next | .cont => .pure (.again (.forLoop target it body orelse env))
  | .brk => .pure (.done .next)
  | .ret v => .pure (.done (.ret v))
noncomputable def loopH (env : Env) : Value → Sem Fin := fun e => (do noteFrame e env; theTreesLotGoes e : Sem Unit).wrap (fun _ => .raise e) .raise id id
theorem seg_forLoop {target : Expr} {it : Value} {body orelse : List Stmt}
    (h : ∀ E, wpAny (model prog w) (A.over (.forLoop target it body orelse env) fs) (pyNext it) (fun r s' => match r with
      | none => Seg (model prog w) A R Y n s₀ (.block orelse env) ((model prog w).den (.block orelse env)) fs s'
      | some v => ∀ E, wpAny (model prog w) (A.over (.forLoop target it body orelse env) fs) (letOwnedTupleGo target it v) (fun _ s₁ => ∀ E, wpAny (model prog w) (A.over (.forLoop target it body orelse env) fs) (assign target env v) (fun _ s₂ =>
          Seg (model prog w) A R Y n s₀ (.forLoop target it body orelse env) ((execs body env).wrap (loopK target it body orelse env) (loopH env) id id) fs s₂) E s₁) E s') E s) :
    Seg (model prog w) A R Y n s₀ (.forLoop target it body orelse env) ((model prog w).den (.forLoop target it body orelse env)) fs s := by
  show Seg _ A R Y n s₀ _ ((forTurn target it body orelse env).onRaise (fun x => do noteFrame x env; theTreesLotGoes x)) fs s
  unfold forTurn
  rw [Sem.onRaise_eq_wrap]
  refine seg_at ?_
  show Seg _ A R Y n s₀ _ (Sem.wrap _ _ _ _ (((pyNext it).onRaise (fun _ => standAt { target.pos with line := 0 })) >>= _)) fs s
  rw [Sem.bind_eq_wrap', Sem.wrap_wrap, Sem.onRaise_eq_wrap, Sem.wrap_wrap]
  refine seg_wrap (wpAny_mono (h _) (fun r s' hr => ?_) fun x s' hx => hx)
  cases r with
  | none => exact seg_again rfl hr
  | some v =>
    show Seg _ A R Y n s₀ _ (Sem.wrap _ _ _ _ (letOwnedTupleGo target it v >>= _)) fs s'
    rw [Sem.bind_eq_wrap', Sem.wrap_wrap]
    refine seg_wrap (wpAny_mono (hr _) (fun _ s₁ h₁ => ?_) fun x s' hx => hx)
    show Seg _ A R Y n s₀ _ (Sem.wrap _ _ _ _ (assign target env v >>= _)) fs s₁
    rw [Sem.bind_eq_wrap', Sem.wrap_wrap]
    refine seg_wrap (wpAny_mono (h₁ _) (fun _ s₂ h₂ => ?_) fun x s' hx => hx)
    show Seg _ A R Y n s₀ _ (Sem.wrap _ _ _ _ (execs body env >>= _)) fs s₂
    rw [Sem.bind_eq_wrap', Sem.wrap_wrap]
    rw [Sem.wrap_congr (execs body env) _ _ (K' := loopK target it body orelse env) (H' := loopH env) (fun f => by cases f <;> rfl) (fun e => by unfold loopH; first | exact Sem.bind_eq_wrap _ _ | (show (do noteFrame e env; theTreesLotGoes e : Sem Unit).bind (fun _ => .raise e) = _; rw [Sem.bind_eq_wrap]))]
    exact h₂
end
end Mine
namespace Mine
/-! ## _iter_escaped_chars -/
noncomputable def d_iter : DefRec := dAt 1
noncomputable def escF : List Nat → Nat → Nat → Bool → List (Nat × List Nat)
  | [], _, pos, esc => if esc then [(pos, [92])] else []
  | c :: cs, i, pos, esc => if esc then (i, [92, c]) :: escF cs (i + 1) i false else if c = 92 then escF cs (i + 1) i true else (i, [c]) :: escF cs (i + 1) i false
noncomputable def escE : List Nat → Bool → Bool
  | [], esc => esc
  | c :: cs, esc => if esc then escE cs false else escE cs (decide (c = 92))
noncomputable def eD (p : Nat × List Nat) : D := .tup [.int p.1, .str ⟨p.2.toArray⟩]
structure Kp (fp : List Addr) (g : Nat) (s s' : Shared) : Prop where
  heap : ∀ b ∈ fp, ∀ o, s.heap.get? b = some o → s'.heap.get? b = some o
  gens : ∀ (j : Nat) (x : GenState), j ≠ g → s.gens[j]? = some x → s'.gens[j]? = some x
  bare : AllBare s.gens → AllBare s'.gens
  os : s'.os = s.os
noncomputable def genY (items : List (Nat × List Nat)) (fp wr : List Addr) (g : Nat) : Protocol := fun m s₀ v s₁ kap =>
  (∃ d, items[items.length - 1 - m]? = some d ∧ Rd TP s₁.heap v (eD d)) ∧ Off wr s₀ s₁ ∧ (∀ b ∈ wr, ∃ o, s₁.heap.get? b = some o ∧ NoSeq o) ∧ ∀ s'', Kp fp g s₁ s'' → kap (.send .none) s''
noncomputable def genP (wr : List Addr) : Nat → Shared → Shared → Prop := fun n s₀ s₁ => n = 0 ∧ Off wr s₀ s₁
noncomputable abbrev genR (wr : List Addr) : GenEnd := fun n s₀ r s₁ => r = .ok (.ret .none) ∧ genP wr n s₀ s₁
noncomputable def D.atom : D → Bool
  | .none => true
  | .bool _ => true
  | .int _ => true
  | .str _ => true
  | _ => false
theorem Rd.atom {P P' : Addr → Prop} {h h' : Heap} {v : Value} {d : D} (r : Rd P h v d) (a : d.atom = true) : Rd P' h' v d := by
  cases r with
  | none => exact .none
  | bool b => exact .bool b
  | int i t => exact .int i t
  | str s t => exact .str s t
  | list => cases a
  | tup => cases a
noncomputable def hb (L : Addr) (s : Shared) : Shared := { s with heap := hideA (fun b => b = L) s.heap }
noncomputable abbrev φ0 : Nat → Option (Option Addr) := fun _ => none
noncomputable def Atoms (σ : Sg) : Prop := ∀ x vv, σ.lookup x = some vv → ∃ d, vv = .dat d ∧ d.atom = true
theorem Atoms.cons {σ : Sg} {x : PySem.Str} {d : D} (a : Atoms σ) (h : d.atom = true) : Atoms ((x, .dat d) :: σ) := fun y vv e => by
  rw [List.lookup_cons] at e
  split at e
  · cases e; exact ⟨d, rfl, h⟩
  · exact a y vv e
theorem Atoms.nil : Atoms [] := fun x vv e => by cases e
section
variable {K : Cx} {B Bh : Shared} {σ : Sg} {s s' : Shared}
theorem hb_ext {L : Addr} {b : Addr} {o : Obj} (e : s.heap.get? b = some o) (h : b ≠ L) : (hb L s).heap.get? b = some o := hideA_some e h
theorem st_again (S : K.St B TP φ0 σ [] s) (hat : Atoms σ) (hc : K.env.cells = []) (hL : ∀ o, s.heap.get? K.env.locals = some o → s'.heap.get? K.env.locals = some o) (W : Wd K.mg K.mb K.ds Bh.heap) (hB : Bh.heap.get? K.env.locals = none) (g : Gr Bh s') :
    K.St (hb K.env.locals s') TP φ0 σ [] s' where
  gr := ⟨hideA_ext, fun _ _ e => e, fun e => e, rfl⟩
  wd := W.up fun b o e => hb_ext (g.heap b o e) fun q => by rw [q, hB] at e; cases e
  nw := .tp
  frf := fun b f => by
    rcases f with rfl | ⟨x, hx⟩
    · exact hideA_none rfl
    · rw [hc] at hx; cases hx
  ns := let ⟨m, o, es, ep, ho, r⟩ := S.ns; ⟨m, o, es, ep, hL o ho, r⟩
  cl := fun x c e => by rw [hc] at e; cases e
  vars := fun x vv e => by
    obtain ⟨d, rfl, ha⟩ := hat x vv e
    obtain ⟨v, ⟨h1, h2⟩, h3⟩ := S.vars x _ e
    refine ⟨v, ⟨h1, ?_⟩, Rd.atom h3 ha⟩
    rcases h2 with ⟨h1, m, ⟨o, es, ep, ho, r⟩, h3⟩ | ⟨_, c, h2, _⟩
    · exact .inl ⟨h1, m, ⟨o, es, ep, hL o ho, r⟩, h3⟩
    · rw [hc] at h2; cases h2
  inj := fun j k a h => (nomatch h)
  ofr := fun k a h => (nomatch h)
  isl := fun k a h => (nomatch h)
  cont := fun k l h => absurd h (by simp)
  out := fun _ _ => rfl
theorem ga_func {A : Around} {n : Nat} (G : GA A (n + 1)) (body : List Stmt) (env : Env) : GA (A.over (.func body env) []) n := by
  refine ⟨?_, ?_, ?_⟩
  · exact G.hand
  · have := G.depth
    show A.depth + 0 + 1 + n < _
    omega
  · have := G.units
    show A.units + 0 + 3 + 8 * n < _
    omega
theorem ga_loop {A : Around} {n : Nat} (G : GA A (n + 1)) (t : Expr) (it : Value) (body orelse b2 : List Stmt) (env env2 : Env) {k : Result → Sem Fin} {g : Bool} {l : List Value} {p : Pos} : GA (A.over (.forLoop t it body orelse env) [.ret k none g l (.func b2 env2) p []]) n := by
  refine ⟨?_, ?_, ?_⟩
  · exact G.hand
  · have := G.depth
    show A.depth + (1 + 0) + 0 + n < _
    omega
  · have := G.units
    show A.units + (3 + 0) + 0 + 8 * n < _
    omega
end
noncomputable def forT : Option Stmt → Expr
  | some (.For t _ _ _ _) => t
  | _ => .Constant .none 0 ⟨0, 0, 0, 0⟩
noncomputable def forB : Option Stmt → List Stmt
  | some (.For _ _ b _ _) => b
  | _ => []
noncomputable def fiT : Expr := forT (nth d_iter.body 2)
noncomputable def fiB : List Stmt := forB (nth d_iter.body 2)
noncomputable def σG (pos : Nat) (esc : Bool) : Sg := [("pos", .dat (.int pos)), ("escape", .dat (.bool esc))]
theorem σG_atoms (pos : Nat) (esc : Bool) : Atoms (σG pos esc) := (Atoms.nil.cons rfl).cons rfl
structure GI (K : Cx) (Bh : Shared) (wr : List Addr) (s₀ : Shared) (pos : Nat) (esc : Bool) (s : Shared) : Prop where
  off : Off wr s₀ s
  st : K.St (hb K.env.locals s) TP φ0 (σG pos esc) [] s
  gr : Gr Bh s
noncomputable abbrev mkCx (prog : Program) (w : World) (mg mb : PySem.Str → Option Value) (ds : List DefRec) (d : DefRec) (env : Env) (F : FE env d.scope) : Cx := ⟨prog, w, mg, mb, ds, env, d.scope, F⟩
theorem gr_off {Bh s s' : Shared} {wr : List Addr} (g : Gr Bh s) (o : Off wr s s') (h : ∀ b ∈ wr, Bh.heap.get? b = none) : Gr Bh s' :=
  ⟨fun b z e => o.heap b z (fun q => by rw [h b q] at e; cases e) (g.heap b z e), fun j z e => o.gens j z (g.gens j z e), fun e => o.bare (g.bare e), o.os.trans g.os⟩
theorem gr_kp {Bh s s' : Shared} {fp : List Addr} {g : Nat} (r : Gr Bh s) (k : Kp fp g s s') (h : ∀ b o, Bh.heap.get? b = some o → b ∈ fp) (hg : Bh.gens.size ≤ g) : Gr Bh s' :=
  ⟨fun b z e => k.heap b (h b z e) z (r.heap b z e), fun j z e => k.gens j z (fun q => by
    have := (Array.getElem?_eq_some_iff.mp e).1
    omega) (r.gens j z e), fun e => k.bare (r.bare e), k.os.trans r.os⟩
theorem off_hb {L : Addr} {s s' : Shared} (g : Gr (hb L s) s') : Off [L] s s' := ⟨fun b o h e => g.heap b o (hb_ext e (by simpa using h)), g.gens, g.bare, g.os⟩
theorem Off.mono {wr wr' : List Addr} {s s' : Shared} (o : Off wr s s') (h : ∀ b ∈ wr, b ∈ wr') : Off wr' s s' := ⟨fun b z k e => o.heap b z (fun q => k (h b q)) e, o.gens, o.bare, o.os⟩
theorem st_phi {K : Cx} {B : Shared} {P : Addr → Prop} {φ : Nat → Option (Option Addr)} {σ : Sg} {s : Shared} (S : K.St B P φ σ [] s) : φ = φ0 := funext fun k => S.out k (Nat.zero_le _)
theorem seg_blk {K : Cx} {A : Around} {m n : Nat} {ss : List Stmt} {σ : Sg} {B s₀ s : Shared} {P : Addr → Prop} {φ : Nat → Option (Option Addr)} {N : Sg → Hp → Prop} {R : GenEnd} {Y : Protocol} {c : Code} {fs : List Frame} {Kc : Flow → Sem Fin} {H : Value → Sem Fin} {gd lv}
    (y : Blk K n ss σ [] fun o => match o with | .next σ' H' => N σ' H' | _ => False) (G : GA (A.over c fs) n) (S : K.St B P φ σ [] s)
    (next : ∀ φ σ' H' s', N σ' H' → K.St B P φ σ' H' s' → Seg (model K.prog K.w) A R Y m s₀ c (Kc .next) fs s') : Seg (model K.prog K.w) A R Y m s₀ c ((execs ss K.env).wrap Kc H gd lv) fs s :=
  seg_wrap (wpAny_mono (y _ B P φ s _ G S) (fun f s' hf => by
    cases f with
    | next => obtain ⟨φ, σ', H', h1, h2⟩ := hf; exact next φ σ' H' s' h1 h2
    | cont => obtain ⟨φ, σ', H', h1, h2⟩ := hf; exact h1.elim
    | brk => obtain ⟨φ, σ', H', h1, h2⟩ := hf; exact h1.elim
    | ret v => obtain ⟨d, h1, h2⟩ := hf; exact h1.elim) fun _ _ e => e)
theorem bs_add (c : Nat) : ("\\" : PySem.Str) ++ (⟨#[c]⟩ : PySem.Str) = ⟨[92, c].toArray⟩ := rfl
section
variable {prog : Program} {w : World} {mg mb : PySem.Str → Option Value} {ds : List DefRec} {A : Around} {n : Nat} {env : Env} {Bh : Shared} {e it : Addr} {g : Nat} {x : PySem.Str} {items : List (Nat × List Nat)} {fp : List Addr} {Sti : Nat → Heap → Prop} {Mid : Nat → Addr → Heap → Prop}
theorem wr_ns {K : Cx} {B : Shared} {P : Addr → Prop} {φ : Nat → Option (Option Addr)} {σ : Sg} {H : Hp} {s : Shared} {j : Nat} (S : K.St B P φ σ H s) (st : Sti j s.heap) (hthere : ∀ i h, Sti i h → ∀ b ∈ [e, it], ∃ o, h.get? b = some o ∧ NoSeq o) : ∀ b ∈ [K.env.locals, e, it], ∃ o, s.heap.get? b = some o ∧ NoSeq o := fun b hb => by
  rcases List.mem_cons.mp hb with rfl | hb
  · exact ns_noseq S.ns.choose_spec
  · exact hthere _ _ st b hb
theorem gi_next (F : FE env d_iter.scope) (hc : env.cells = []) (W : Wd mg mb ds Bh.heap) (hB : Bh.heap.get? env.locals = none) (hLe : e ≠ env.locals) (hLi : it ≠ env.locals) {j : Nat}
    (fr : ∀ h h', Sti j h → (∀ b ∈ [e, it], ∀ o, h.get? b = some o → h'.get? b = some o) → Sti j h') {s₀ s₈ s₉ : Shared} {σ : Sg} {H : Hp} {φ : Nat → Option (Option Addr)} {pos : Nat} {esc : Bool}
    (o : Off [env.locals, e, it] s₀ s₈) (gr : Gr Bh s₈) (st : Sti j s₈.heap) (S : (mkCx prog w mg mb ds d_iter env F).St (hb env.locals s₈) TP φ σ H s₉) (hH : H = []) (sub : Sub (σG pos esc) σ) :
    GI (mkCx prog w mg mb ds d_iter env F) Bh [env.locals, e, it] s₀ pos esc s₉ ∧ Sti j s₉.heap := by
  subst hH
  have := st_phi S
  subst this
  have gr₉ : Gr Bh s₉ := gr_off gr (off_hb S.gr) (by simpa using hB)
  refine ⟨⟨o.trans ((off_hb S.gr).mono (by simp)), st_again (S.weak sub .refl) (σG_atoms _ _) hc (fun _ e => e) W hB gr₉, gr₉⟩, fr _ _ st fun b hb o z => S.gr.heap b o (hb_ext z ?_)⟩
  rcases List.mem_cons.mp hb with rfl | hb
  · exact hLe
  · rw [List.mem_singleton] at hb; subst hb; exact hLi
theorem iter_loop (F : FE env d_iter.scope) (G : GA A (n + 1)) (hc : env.cells = []) (W : Wd mg mb ds Bh.heap) (hB : Bh.heap.get? env.locals = none) (hBe : Bh.heap.get? e = none) (hBi : Bh.heap.get? it = none) (hBf : ∀ b o, Bh.heap.get? b = some o → b ∈ fp) (hBg : Bh.gens.size ≤ g)
    (hLe : e ≠ env.locals) (hLi : it ≠ env.locals) (hfe : e ∈ fp) (hfi : it ∈ fp) (hfL : env.locals ∈ fp) (hsz : x.cps.size < 2 ^ 24)
    (WT : ∀ A' : Around, A'.handled = none → WalksT prog w A' e [e, it] [e, it] x.cps.size (fun i vals => ∃ t y, (∃ c u, x.cps[i]? = some c ∧ y = .str ⟨#[c]⟩ u) ∧ vals = #[.int i t, y]) Sti Mid)
    (hthere : ∀ i h, Sti i h → ∀ b ∈ [e, it], ∃ o, h.get? b = some o ∧ NoSeq o)
    (kk : Result → Sem Fin) (p : Pos)
    (hkk : ∀ s₀ s pos, GI (mkCx prog w mg mb ds d_iter env F) Bh [env.locals, e, it] s₀ pos false s →
      Seg (model prog w) A (genR [env.locals, e, it]) (genY items fp [env.locals, e, it] g) 0 s₀ (.func d_iter.body env) (kk (.ok .next)) [] s) :
    ∀ (cs : List Nat) (i pos : Nat) (esc : Bool) (pre : List (Nat × List Nat)) (s₀ s : Shared), x.cps.toList.drop i = cs → i + cs.length = x.cps.size → items = pre ++ escF cs i pos esc → escE cs esc = false → GI (mkCx prog w mg mb ds d_iter env F) Bh [env.locals, e, it] s₀ pos esc s → Sti i s.heap →
      Seg (model prog w) A (genR [env.locals, e, it]) (genY items fp [env.locals, e, it] g) (escF cs i pos esc).length s₀ (.forLoop fiT (.ref e) fiB [] env) ((model prog w).den (.forLoop fiT (.ref e) fiB [] env)) [.ret kk none false [] (.func d_iter.body env) p []] s
  | [], i, pos, esc, pre, s₀, s, hd, hl, hit, hee, gi, hst => by
    have hee' : esc = false := hee
    subst hee'
    have hi : i = x.cps.size := by simpa using hl
    subst hi
    have G₁ := ga_loop (k := kk) (g := false) (l := []) (p := p) G fiT (.ref e) fiB [] d_iter.body env env
    refine seg_forLoop fun E => ?_
    refine (WT _ G₁.hand).done s _ _ hst fun h' tk hk => ?_
    have o₁ : Off [e, it] s { s with heap := h', toks := tk } := .hp hk
    show Seg _ _ _ _ _ _ _ (leafOf (.ok .next)) (_ :: _) _
    refine seg_leaf _ ?_
    have hlen : (escF [] x.cps.size pos false).length = 0 := rfl
    rw [hlen]
    have gr₁ : Gr Bh { s with heap := h', toks := tk } := gr_off gi.gr o₁ (by simp [hBe, hBi])
    refine hkk s₀ _ pos ⟨gi.off.trans (o₁.mono (by simp)), ?_, gr₁⟩
    exact st_again gi.st (σG_atoms _ _) hc (fun o h => o₁.heap _ o (by simp [Ne.symm hLe, Ne.symm hLi]) h) W hB gr₁
  | c :: cs, i, pos, esc, pre, s₀, s, hd, hl, hit, hee, gi, hst => by
    have ih := iter_loop F G hc W hB hBe hBi hBf hBg hLe hLi hfe hfi hfL hsz WT hthere kk p hkk cs (i + 1)
    have G₁ := ga_loop (k := kk) (g := false) (l := []) (p := p) G fiT (.ref e) fiB [] d_iter.body env env
    have hi : i < x.cps.size := by simp at hl; omega
    have hci : x.cps[i]? = some c := by
      have := congrArg List.head? hd
      simpa [List.head?_drop] using this
    have hd' : x.cps.toList.drop (i + 1) = cs := by
      have := congrArg List.tail hd
      simpa [List.tail_drop] using this
    have hl' : i + 1 + cs.length = x.cps.size := by simp at hl; omega
    refine seg_forLoop fun E => ?_
    refine (WT _ G₁.hand).item i s _ _ hi hst fun T vals h' tk hv hle hT hmid hk => ?_
    obtain ⟨t, y, ⟨c', u, hc', rfl⟩, rfl⟩ := hv
    rw [hci] at hc'; cases hc'
    intro E
    have hap := (WT _ G₁.hand).apart i T h' hmid
    refine (WT _ G₁.hand).go _ _ _ i T _ _ _ hmid fun h₂ hst₂ hk₂ => ?_
    intro E
    have hT₂ : h₂.IsTuple T #[.int i t, .str ⟨#[c]⟩ u] := by
      obtain ⟨o, ho, r⟩ := hT
      exact ⟨o, hk₂ _ o hap ho, r⟩
    refine wpAny_assign_Tuple G₁.hand hT₂ rfl rfl fun h₃ he₃ => ?_
    have e₃ : Ext h₂ h₃ := fun b o z => he₃ b o (Nat.ne_of_lt (Heap.lt_size z)) z
    have o₁ : Off [e, it] s { s with heap := h₃, toks := tk } := .hp fun b o hb z => e₃ _ _ (hk₂ b o hb (hk b o hb z))
    have gr₁ : Gr Bh { s with heap := h₃, toks := tk } := gr_off gi.gr o₁ (by simp [hBe, hBi])
    have S₂ := st_again gi.st (σG_atoms _ _) hc (fun o h => o₁.heap _ o (by simp [Ne.symm hLe, Ne.symm hLi]) h) W hB gr₁
    refine wpAny_assignInOrder_more (wpAny_assign_Name (St.storeK S₂ (x := "pos") (vv := .dat (.int i)) (.inl (by rfl)) (.int _ _) fun s₄ lk₄ S₄ => ?_))
    refine wpAny_assignInOrder_more (wpAny_assign_Name (St.storeK S₄ (x := "ch") (vv := .dat (.str ⟨#[c]⟩)) (.inl (by rfl)) (.str _ _) fun s₅ lk₅ S₅ => wpAny_assignInOrder_none ?_))
    refine seg_execs_cons ?_
    refine seg_If ?_
    refine (EvC.of (b := esc) fun A h G W V => .val t_bool (.name (V "escape" _ rfl))) _ _ _ _ s₅ G₁ S₅ _ _ fun s₆ g₆ => ?_
    have S₆ := S₅.up g₆
    have o₆ : Off [env.locals, e, it] s₀ s₆ := (gi.off.trans (o₁.mono (by simp))).trans ((off_hb S₆.gr).mono (by simp))
    have gr₆ : Gr Bh s₆ := gr_off gr₁ (off_hb S₆.gr) (by simpa using hB)
    have st₆ : Sti (i + 1) s₆.heap := (WT _ G₁.hand).frame _ _ _ hst₂ fun b hb o z => S₆.gr.heap b o (hb_ext (e₃ _ _ z) (by
      rcases List.mem_cons.mp hb with rfl | hb
      · exact hLe
      · rw [List.mem_singleton] at hb; subst hb; exact hLi))
    have at₆ : Atoms (("ch", .dat (.str ⟨#[c]⟩)) :: ("pos", .dat (.int i)) :: σG pos esc) := ((σG_atoms _ _).cons rfl).cons rfl
    have fr := (WT _ G₁.hand).frame (i + 1)
    cases esc with
    | true =>
      rw [if_pos rfl]
      have hs : escF (c :: cs) i pos true = (i, [92, c]) :: escF cs (i + 1) i false := by simp [escF]
      rw [hs, List.length_cons]
      refine seg_execs_cons ?_
      refine seg_Expr_Yield rfl rfl rfl ?_ (by rw [F.scope]; rfl) (by unfold interactive; rw [F.scope]; rfl)
      refine (EvA.dat (d := eD (i, [92, c])) fun A h G W V => .tup (ds := [.int i, .str ("\\" ++ ⟨#[c]⟩)]) (.cons (.name (V "pos" _ rfl)) (.cons (.bin (o_add_str (by show 1 + 1 ≤ 16777216; omega)) .cStr (.name (V "ch" _ rfl))) .nil)) (by show 2 ≤ 16777216; omega)) _ _ _ _ s₆ G₁ S₆ _ _ fun v s₇ g₇ r₇ => ?_
      intro kap hkap
      refine ⟨⟨(i, [92, c]), ?_, r₇.keep (fun _ _ => trivial) (.of_ext Ext.rf)⟩, o₆.trans (.of_gr g₇), wr_ns (S₆.up g₇) (fr _ _ st₆ fun b hb o z => g₇.heap _ _ z) hthere, fun s₈ kp => hkap .none s₈ ?_⟩
      · rw [hit, hs, List.length_append, List.length_cons]
        rw [show pre.length + ((escF cs (i + 1) i false).length + 1) - 1 - (escF cs (i + 1) i false).length = pre.length by omega]
        simp
      · have gr₈ : Gr Bh s₈ := gr_kp (gr₆.trans g₇) kp hBf hBg
        have S₈ := st_again (S₆.up g₇) at₆ hc (fun o z => kp.heap _ hfL o z) W hB gr₈
        have st₈ : Sti (i + 1) s₈.heap := fr _ _ st₆ fun b hb o z => kp.heap b (by
          rcases List.mem_cons.mp hb with rfl | hb
          · exact hfe
          · rw [List.mem_singleton] at hb; subst hb; exact hfi) o (g₇.heap _ _ z)
        refine seg_blk (N := fun σ' H' => H' = [] ∧ Sub (σG i false) σ') (Blk.assign (.dat fun A h G W V => .cBool) (.inl (by rfl)) (Blk.nil ⟨rfl, .cons rfl (.cons rfl .nil)⟩ .refl)) G₁ S₈ fun φ σ' H' s₉ hN S₉ => ?_
        obtain ⟨gi₉, st₉⟩ := gi_next F hc W hB hLe hLi fr (.refl _ _) gr₈ st₈ S₉ hN.1 hN.2
        exact seg_again rfl (ih i false (pre ++ [(i, [92, c])]) s₈ s₉ hd' hl' (by rw [hit, hs]; simp) (by simpa [escE] using hee) gi₉ st₉)
    | false =>
      rw [if_neg (by decide)]
      refine seg_execs_cons ?_
      refine seg_If ?_
      refine (EvC.of (b := (⟨#[c]⟩ : PySem.Str) == "\\") fun A h G W V => .cmp o_eq_str (.name (V "ch" _ rfl)) .cStr) _ _ _ _ s₆ G₁ S₆ _ _ fun s₇ g₇ => ?_
      have S₇ := S₆.up g₇
      have o₇ := o₆.trans (.of_gr g₇)
      have gr₇ := gr₆.trans g₇
      have st₇ : Sti (i + 1) s₇.heap := fr _ _ st₆ fun b hb o z => g₇.heap _ _ z
      have hcc : ((⟨#[c]⟩ : PySem.Str) == "\\") = decide (c = 92) := by
        by_cases q : c = 92
        · subst q; decide
        · rw [decide_eq_false q, beq_eq_false_iff_ne]
          intro z
          have := congrArg (fun s : PySem.Str => s.cps.toList) z
          simp at this
          exact q (List.cons.inj this).1
      rw [hcc]
      by_cases q : c = 92
      · rw [decide_eq_true q, if_pos rfl]
        have hs : escF (c :: cs) i pos false = escF cs (i + 1) i true := by simp [escF, q]
        rw [hs]
        have S₈ := st_again S₇ at₆ hc (fun _ z => z) W hB gr₇
        refine seg_blk (N := fun σ' H' => H' = [] ∧ Sub (σG i true) σ') (Blk.assign (.dat fun A h G W V => .cBool) (.inl (by rfl)) (Blk.nil ⟨rfl, .cons rfl (.cons rfl .nil)⟩ .refl)) G₁ S₈ fun φ σ' H' s₉ hN S₉ => ?_
        obtain ⟨gi₉, st₉⟩ := gi_next F hc W hB hLe hLi fr o₇ gr₇ st₇ S₉ hN.1 hN.2
        exact seg_again rfl (ih i true pre s₀ s₉ hd' hl' (by rw [hit, hs]) (by simpa [escE, q] using hee) gi₉ st₉)
      · rw [decide_eq_false q, if_neg (by decide)]
        have hs : escF (c :: cs) i pos false = (i, [c]) :: escF cs (i + 1) i false := by simp [escF, q]
        rw [hs, List.length_cons]
        refine seg_execs_cons ?_
        refine seg_Expr_Yield rfl rfl rfl ?_ (by rw [F.scope]; rfl) (by unfold interactive; rw [F.scope]; rfl)
        refine (EvA.dat (d := eD (i, [c])) fun A h G W V => .tup (ds := [.int i, .str ⟨#[c]⟩]) (.cons (.name (V "pos" _ rfl)) (.cons (.name (V "ch" _ rfl)) .nil)) (by show 2 ≤ 16777216; omega)) _ _ _ _ s₇ G₁ S₇ _ _ fun v s₈ g₈ r₈ => ?_
        intro kap hkap
        refine ⟨⟨(i, [c]), ?_, r₈.keep (fun _ _ => trivial) (.of_ext Ext.rf)⟩, o₇.trans (.of_gr g₈), wr_ns (S₇.up g₈) (fr _ _ st₇ fun b hb o z => g₈.heap _ _ z) hthere, fun s₉ kp => hkap .none s₉ ?_⟩
        · rw [hit, hs, List.length_append, List.length_cons]
          rw [show pre.length + ((escF cs (i + 1) i false).length + 1) - 1 - (escF cs (i + 1) i false).length = pre.length by omega]
          simp
        · have gr₉ : Gr Bh s₉ := gr_kp (gr₇.trans g₈) kp hBf hBg
          have S₉ := st_again (S₇.up g₈) at₆ hc (fun o z => kp.heap _ hfL o z) W hB gr₉
          have st₉ : Sti (i + 1) s₉.heap := fr _ _ st₇ fun b hb o z => kp.heap b (by
            rcases List.mem_cons.mp hb with rfl | hb
            · exact hfe
            · rw [List.mem_singleton] at hb; subst hb; exact hfi) o (g₈.heap _ _ z)
          obtain ⟨gi', st'⟩ := gi_next F hc W hB hLe hLi fr (.refl _ s₉) gr₉ st₉ S₉ rfl (pos := i) (esc := false) (.cons rfl (.cons rfl .nil))
          exact seg_again rfl (ih i false (pre ++ [(i, [c])]) s₉ s₉ hd' hl' (by rw [hit, hs]; simp) (by simpa [escE, q] using hee) gi' st')
end
end Mine
namespace Mine
section
variable {K : Cx} {B : Shared} {P : Addr → Prop} {φ : Nat → Option (Option Addr)} {σ : Sg} {H : Hp} {s : Shared}
theorem St.storeZ (S : K.St B P φ σ H s) {A : Around} {x : PySem.Str} {v : Value} {vv : VV} {Q : Unit → Shared → Prop} {E : Value → Shared → Prop} (hx : KO K x) (r : RdV P φ s.heap v vv)
    (q : ∀ s', s'.heap.objs.size = s.heap.objs.size → K.St B P φ ((x, vv) :: σ) H s' → Q () s') : wpAny (model K.prog K.w) A (storeName K.env x v) Q E s := by
  obtain ⟨tb, t⟩ := S.tgt K.F hx
  have nsq := t.noseq
  refine wp_store (by rw [K.F.scope]; exact K.F.kind) t fun h' tk hs ho ht hn => q _ hs.1 (S.stored K.F (hx.imp K.F.kindOf K.F.kindOf) t (s' := { s with heap := h', toks := tk }) ⟨⟨fun q o hq e => hs.extBut q o (by simpa using hq) e, fun _ _ e => e, fun e => e, rfl⟩, ho, ht, fun m hm => ?_⟩ (fun P => .of_but (N := fun q => q = tb) (fun q o hq e => hs.extBut q o hq e) fun q o hq e => by
    subst hq; obtain ⟨o', e', z⟩ := nsq; rw [e] at e'; cases e'; exact z) r)
  by_cases hb : tb = K.env.locals
  · exact ⟨_, hn m hm hb, fun y hy => by simp [hy]⟩
  · exact ⟨m, hm.sameBut hs (Ne.symm hb), fun _ _ => rfl⟩
end
section
variable {prog : Program} {w : World} {mg mb : PySem.Str → Option Value} {ds : List DefRec} {A : Around} {n : Nat} {env : Env} {Bh : Shared} {g : Nat} {x : PySem.Str} {fp : List Addr}
theorem enum_walk {e it : Addr} {t : Tok} (hei : e ≠ it) : ∃ (Sti : Nat → Heap → Prop) (Mid : Nat → Addr → Heap → Prop),
    (∀ A' : Around, A'.handled = none → WalksT prog w A' e [e, it] [e, it] x.cps.size (fun i vals => ∃ t y, (∃ c u, x.cps[i]? = some c ∧ y = .str ⟨#[c]⟩ u) ∧ vals = #[.int i t, y]) Sti Mid) ∧
    (∀ i h, Sti i h → ∀ b ∈ [e, it], ∃ o, h.get? b = some o ∧ NoSeq o) ∧ ∀ h, IsEnum h e it 0 .none → h.IsStrIter it (strIterType x) x t 0 → Sti 0 h := by
  have fin : ∀ {ty : String} {St : Nat → Heap → Prop}, (∀ (i : Nat) h, St i h → h.IsStrIter it ty x t i) → ∀ (i : Nat) h, ((∃ old, IsEnum h e it (i : Int) old) ∧ St i h) → ∀ b ∈ [e, it], ∃ o, h.get? b = some o ∧ NoSeq o := fun k i h ⟨⟨old, h1⟩, h2⟩ b hb => by
    rcases List.mem_cons.mp hb with rfl | hb
    · exact ⟨_, h1, .inr (.inr ⟨_, rfl⟩)⟩
    · rw [List.mem_singleton] at hb; subst hb
      obtain ⟨o, ho, hc, hd⟩ := k i h h2
      exact ⟨o, ho, .inr (.inr ⟨_, hd⟩)⟩
  cases ha : x.cps.all (· < 128)
  · exact ⟨_, _, fun A' hh => WalksT.enumerateD (Draws.strWide (A := A'.in1) hh it x t) e hei (by simpa using hei) (by simp), fin fun _ _ h => h, fun h h1 h2 => ⟨⟨_, h1⟩, by simpa [strIterType, ha] using h2⟩⟩
  · exact ⟨_, _, fun A' hh => WalksT.enumerateD (Draws.strAscii (A := A'.in1) hh it x t) e hei (by simpa using hei) (by simp), fin fun _ _ h => h, fun h h1 h2 => ⟨⟨_, h1⟩, by simpa [strIterType, ha] using h2⟩⟩
theorem iter_first (bi : Bi mg mb) (F : FE env d_iter.scope) (G : GA A (n + 1)) (hc : env.cells = []) (W : Wd mg mb ds Bh.heap) (hB : Bh.heap.get? env.locals = none) (hBf : ∀ b o, Bh.heap.get? b = some o → b ∈ fp) (hBg : Bh.gens.size ≤ g) (hfL : env.locals ∈ fp) (hsz : x.cps.size < 2 ^ 24) (hee : escE x.cps.toList false = false) (s : Shared)
    (S : (mkCx prog w mg mb ds d_iter env F).St (hb env.locals s) TP φ0 [("addr", .dat (.str x))] [] s) (gr : Gr Bh s) :
    Seg (model prog w) A (genR [env.locals, s.heap.objs.size + 1, s.heap.objs.size]) (genY (escF x.cps.toList 0 0 false) ((s.heap.objs.size + 1) :: s.heap.objs.size :: fp) [env.locals, s.heap.objs.size + 1, s.heap.objs.size] g) (escF x.cps.toList 0 0 false).length s (.func d_iter.body env) ((model prog w).den (.func d_iter.body env)) [] s := by
  have G₀ := ga_func G d_iter.body env
  refine seg_func ?_
  refine seg_execs_cons (seg_stm (wpAny_Assign_Name (wpAny_Constant_int (St.storeZ (S.up .tk) (x := "pos") (vv := .dat (.int 0)) (.inl (by rfl)) (.int _ _) fun s₁ z₁ S₁ => ?_))))
  refine seg_execs_cons (seg_stm (wpAny_Assign_Name (wpAny_Constant_bool (St.storeZ S₁ (x := "escape") (vv := .dat (.bool false)) (.inl (by rfl)) (.bool _) fun s₂ z₂ S₂ => ?_))))
  have hz : s₂.heap.objs.size = s.heap.objs.size := z₂.trans z₁
  have lL : @LT.lt Nat _ env.locals s.heap.objs.size := by
    obtain ⟨m, o, es, ep, ho, _⟩ := S.ns
    exact Heap.lt_size ho
  refine seg_execs_cons (seg_For ?_)
  refine wpAny_Call_Name_kw (wp_global S₂.wds (GN.bi F.ge (F.kindOf rfl) bi.enumerate) ?_)
  refine PyProof.Rows.callWith_type1 ?_
  obtain ⟨v, hv, rv⟩ := St.hold S₂ (x := "addr") rfl
  cases rv with
  | str _ t =>
  refine wpAny_items_cons (wpAny_Name (wp_loadName hv (wpAny_items_nil ?_)))
  refine call_enumerate_str fun h' he hit hsz' hk => ?_
  rw [hz] at he hit
  obtain ⟨Sti, Mid, WT, hno, h0⟩ := enum_walk (x := x) (e := s.heap.objs.size + 1) (it := s.heap.objs.size) (t := t) (Nat.succ_ne_self _)
  have st₀ := h0 h' he hit
  rw [hz]
  refine (WT _ G₀.hand).self 0 { s₂ with heap := h' } _ _ st₀ ?_
  intro p
  have n1 : s.heap.get? (s.heap.objs.size + 1) = none := none_of_size (Nat.le_succ _)
  have n2 : s.heap.get? s.heap.objs.size = none := none_of_size (Nat.le_refl _)
  have oh : Off [env.locals, s.heap.objs.size + 1, s.heap.objs.size] s { s₂ with heap := h' } := ((off_hb S₂.gr).mono (by simp)).trans (.of_gr (.hp hk))
  have wn : ∀ b ∈ [env.locals, s.heap.objs.size + 1, s.heap.objs.size], Bh.heap.get? b = none := fun b hb => by
    rcases List.mem_cons.mp hb with rfl | hb
    · exact hB
    · rcases List.mem_cons.mp hb with rfl | hb
      · exact none_down gr.heap n1
      · rw [List.mem_singleton] at hb; subst hb; exact none_down gr.heap n2
  have gr₃ : Gr Bh { s₂ with heap := h' } := gr_off gr oh wn
  refine iter_loop F G hc W hB (none_down gr.heap n1) (none_down gr.heap n2) (fun b o e => List.mem_cons_of_mem _ (List.mem_cons_of_mem _ (hBf b o e))) hBg (Nat.ne_of_gt (Nat.lt_succ_of_lt lL)) (Nat.ne_of_gt lL) (List.mem_cons_self ..) (List.mem_cons_of_mem _ (List.mem_cons_self ..)) (List.mem_cons_of_mem _ (List.mem_cons_of_mem _ hfL)) hsz WT hno _ p ?_
    x.cps.toList 0 0 false [] s _ rfl (by simp) rfl hee ⟨oh, st_again ((S₂.up (.hp hk)).weak (.cons rfl (.cons rfl .nil)) .refl) (σG_atoms _ _) hc (fun _ e => e) W hB gr₃, gr₃⟩ st₀
  intro s₀ s₄ pos gi
  refine seg_execs_cons (seg_If ?_)
  refine (EvC.of (b := false) fun A h G W V => .val t_bool (.name (V "escape" _ rfl))) _ _ _ _ s₄ G₀ gi.st _ _ fun s₅ g₅ => ?_
  rw [if_neg (by decide)]
  show Seg _ _ _ _ _ _ _ (leafOf (.ok (.ret .none))) [] _
  exact seg_end _ ⟨rfl, rfl, gi.off.trans (.of_gr g₅)⟩
end
end Mine
namespace Mine
theorem bare_setGen {s : Shared} {g : Nat} {x : GenState} (h : AllBare s.gens) (hx : x.bare = true) : AllBare (s.setGen g x).gens := fun y hy => by
  obtain ⟨i, hi, rfl⟩ := Array.mem_iff_getElem.mp hy
  by_cases q : i = g
  · subst q
    have hs : i < s.gens.size := by simpa [Shared.setGen] using hi
    have := setGen_self (x := x) (Array.getElem?_eq_getElem hs)
    rw [Array.getElem?_eq_getElem hi] at this
    rw [Option.some.inj this]; exact hx
  · have := (GenOnly.setGen s g x).2 i q
    rw [Array.getElem?_eq_getElem hi] at this
    obtain ⟨hi', e⟩ := Array.getElem?_eq_some_iff.mp this.symm
    exact e ▸ h _ (Array.getElem_mem hi')
theorem setGen_ne {s : Shared} {g j : Nat} {x y : GenState} (h : j ≠ g) (e : s.gens[j]? = some y) : (s.setGen g x).gens[j]? = some y := ((GenOnly.setGen s g x).2 j h).trans e
theorem kp_setGen {fp : List Addr} {s : Shared} {g : Nat} {x : GenState} (hx : x.bare = true) : Kp fp g s (s.setGen g x) := ⟨fun _ _ _ e => e, fun j y h e => setGen_ne h e, fun h => bare_setGen h hx, rfl⟩
theorem Kp.trans {fp : List Addr} {g : Nat} {a b c : Shared} (x : Kp fp g a b) (y : Kp fp g b c) : Kp fp g a c := ⟨fun b h o e => y.heap b h o (x.heap b h o e), fun j z h e => y.gens j z h (x.gens j z h e), fun e => y.bare (x.bare e), y.os.trans x.os⟩
structure GenSt (prog : Program) (w : World) (mg mb : PySem.Str → Option Value) (ds : List DefRec) (A : Around) (env : Env) (F : FE env d_iter.scope) (x : PySem.Str) (Bh : Shared) (a : Addr) (g : Nat) (fp₀ fp wr : List Addr) (i : Nat) (s : Shared) : Prop where
  gen : s.heap.IsGen a g
  gr : Gr Bh s
  st : ∃ gs, s.gens[g]? = some gs ∧ gs.bare = true ∧
    ((i = 0 ∧ fp = fp₀ ∧ wr = [env.locals] ∧ gs = .fresh (.func d_iter.body env) ∧ (mkCx prog w mg mb ds d_iter env F).St (hb env.locals s) TP φ0 [("addr", .dat (.str x))] [] s) ∨
     (∃ e it, fp = e :: it :: fp₀ ∧ wr = [env.locals, e, it] ∧ (∀ b ∈ wr, ∃ o, s.heap.get? b = some o ∧ NoSeq o) ∧ a ∉ wr ∧ (∀ b ∈ wr, Bh.heap.get? b = none) ∧
      ∀ s'', Kp fp g s s'' → gs.Goes (model prog w) A (genR wr) (genY (escF x.cps.toList 0 0 false) fp wr g) ((escF x.cps.toList 0 0 false).length - i) (.send .none) s''))
section
variable {prog : Program} {w : World} {mg mb : PySem.Str → Option Value} {ds : List DefRec} {A : Around} {n : Nat} {env : Env} {F : FE env d_iter.scope} {B Bh : Shared} {a : Addr} {g : Nat} {x : PySem.Str} {fp₀ : List Addr}
theorem gen_step (G : GA A n) (hBg : Bh.gens.size ≤ g) (W : Wd mg mb ds Bh.heap) {fp' wr wr' : List Addr} {i : Nat} {s : Shared} {gs : GenState} {Q : Option Value → Shared → Prop} {E : Value → Shared → Prop} (hBgen : B.gens.size ≤ g) (h1 : s.heap.IsGen a g) (h2 : Gr Bh s) (h3 : s.gens[g]? = some gs)
    (hf : ∃ e it, fp' = e :: it :: fp₀ ∧ wr' = [env.locals, e, it]) (ha : a ∉ wr') (hwB : ∀ b ∈ wr', Bh.heap.get? b = none) (hw : ∀ b, b ∉ wr → (∃ o, s.heap.get? b = some o) → b ∉ wr')
    (hgo : gs.Goes (model prog w) A.in1 (genR wr') (genY (escF x.cps.toList 0 0 false) fp' wr' g) ((escF x.cps.toList 0 0 false).length - i) (.send .none) (s.setGen g .running))
    (hi : i ≤ (escF x.cps.toList 0 0 false).length)
    (hQ : ∀ v d s', (escF x.cps.toList 0 0 false)[i]? = some d → Rd TP s'.heap v (eD d) → Mv B wr s s' → GenSt prog w mg mb ds A.in1 env F x Bh a g fp₀ fp' wr' (i + 1) s' → Q (some v) s')
    (hN : i = (escF x.cps.toList 0 0 false).length → ∀ s', Mv B wr s s' → Q none s') : wpAny (model prog w) A (pyNext (.ref a)) Q E s := by
  have hg : g < s.gens.size := (Array.getElem?_eq_some_iff.mp h3).1
  have mv : ∀ {s₁ : Shared} {y : GenState} {h' : Heap}, y.bare = true → Off wr' (s.setGen g .running) s₁ → (∀ b o, s₁.heap.get? b = some o → h'.get? b = some o) → Mv B wr s { s₁.setGen g y with heap := h' } := fun {s₁ y h'} hy o k =>
    ⟨fun b z hb e => k b z (o.heap b z (hw b hb ⟨z, e⟩) e), fun j z hj e => setGen_ne (fun q => by
      have := (Array.getElem?_eq_some_iff.mp hj).1
      omega) (o.gens j z (setGen_ne (fun q => by
      have := (Array.getElem?_eq_some_iff.mp hj).1
      omega) e)), fun e => bare_setGen (o.bare (bare_setGen e rfl)) hy, o.os⟩
  refine wp_nextGen (P := genP wr') G.hand (W.up h2.heap).lim (by have := G.depth; omega) h1 h3 hgo (fun v s₁ gs' hb hY => ?_) fun s₁ hp h' hk => ?_
  · obtain ⟨⟨d, hd, rd⟩, off, hns, hk⟩ := hY
    by_cases hlt : i < (escF x.cps.toList 0 0 false).length
    · obtain ⟨m, hm⟩ : ∃ m, (escF x.cps.toList 0 0 false).length - i = m + 1 := ⟨(escF x.cps.toList 0 0 false).length - i - 1, by omega⟩
      rw [hm] at hk
      dsimp only at hk
      rw [show (escF x.cps.toList 0 0 false).length - 1 - ((escF x.cps.toList 0 0 false).length - i - 1) = i by omega] at hd
      have hg' : g < s₁.gens.size := by
        have := off.gens g .running (setGen_self h3)
        exact (Array.getElem?_eq_some_iff.mp this).1
      have gr₁ : Gr Bh s₁ := ⟨fun b z e => off.heap b z (fun q => by rw [hwB b q] at e; cases e) (h2.heap b z e), fun j z e => off.gens j z (setGen_ne (fun q => by
        have := (Array.getElem?_eq_some_iff.mp e).1
        omega) (h2.gens j z e)), fun e => off.bare (bare_setGen (h2.bare e) rfl), off.os.trans h2.os⟩
      refine hQ v d _ hd rd (mv hb off fun _ _ e => e) ?_
      obtain ⟨e, it, hf1, hf2⟩ := hf
      refine ⟨let ⟨o, nm, qn, ho, r⟩ := h1; ⟨o, nm, qn, off.heap a o ha ho, r⟩, ⟨gr₁.heap, fun j z e => setGen_ne (fun q => by
        have := (Array.getElem?_eq_some_iff.mp e).1
        omega) (gr₁.gens j z e), fun e => bare_setGen (gr₁.bare e) hb, gr₁.os⟩, gs', setGen_self (off.gens g .running (setGen_self h3)), hb, .inr ⟨e, it, hf1, hf2, hns, ha, hwB, fun s'' kp => ?_⟩⟩
      rw [show (escF x.cps.toList 0 0 false).length - (i + 1) = m by omega]
      exact hk s'' ((kp_setGen hb).trans kp)
    · have : (escF x.cps.toList 0 0 false).length - i = 0 := by omega
      rw [this] at hk
      exact absurd (hk s₁ ⟨fun _ _ _ e => e, fun _ _ _ e => e, fun e => e, rfl⟩) (fun h => h)
  · have : i = (escF x.cps.toList 0 0 false).length := by have := hp.1; omega
    exact hN this _ (mv rfl hp.2 hk)
theorem genSt_itG {N X : Addr → Prop} {s₁ s₂ : Shared} (bi : Bi mg mb) (G : GA A (n + 2)) (hc : env.cells = []) (W : Wd mg mb ds Bh.heap) (hBf : ∀ b o, Bh.heap.get? b = some o → b ∈ fp₀) (hBg : Bh.gens.size ≤ g) (hB : Bh.heap.get? env.locals = none)
    (hfL : env.locals ∈ fp₀) (hfa : a ∈ fp₀) (haL : a ≠ env.locals) (hsz : x.cps.size < 2 ^ 24) (hee : escE x.cps.toList false = false) (hBgen : B.gens.size ≤ g)
    (h0 : GenSt prog w mg mb ds A.in1 env F x Bh a g fp₀ fp₀ [env.locals] 0 s₂) (fresh : s₁.heap.get? env.locals = none) (there : ∀ b ∈ fp₀, ∃ o, s₂.heap.get? b = some o) (src : ∀ b ∈ fp₀, ¬ X b) :
    ItG prog w A B N X s₁ s₂ a fp₀ [env.locals] (GenSt prog w mg mb ds A.in1 env F x Bh a g fp₀) ((escF x.cps.toList 0 0 false).map eD) where
  frame := fun fp wr i s s' y kf kg kb ko => by
    obtain ⟨h1, h2, gs, h3, h4, h5⟩ := y
    have hf : ∀ b ∈ fp₀, b ∈ fp := fun b hb => by
      rcases h5 with ⟨_, rfl, _⟩ | ⟨e, it, rfl, _⟩
      · exact hb
      · exact List.mem_cons_of_mem _ (List.mem_cons_of_mem _ hb)
    have gr' : Gr Bh s' := ⟨fun b o e => kf b (hf b (hBf b o e)) o (h2.heap b o e), fun j z e => kg j z (h2.gens j z e), fun e => kb (h2.bare e), ko.trans h2.os⟩
    refine ⟨let ⟨o, nm, qn, ho, r⟩ := h1; ⟨o, nm, qn, kf a (hf a hfa) o ho, r⟩, gr', gs, kg g gs h3, h4, ?_⟩
    rcases h5 with ⟨e1, e2, e3, e4, S⟩ | ⟨e, it, e1, e2, e3, e4, e5, go⟩
    · exact .inl ⟨e1, e2, e3, e4, st_again S (Atoms.nil.cons rfl) hc (fun o e => kf _ (hf _ hfL) o e) W hB gr'⟩
    · refine .inr ⟨e, it, e1, e2, fun b hb => ?_, e4, e5, fun s'' kp => go s'' ⟨fun b hb o e => kp.heap b hb o (kf b hb o e), fun j z h e => kp.gens j z h (kg j z e), fun e => kp.bare (kb e), kp.os.trans ko⟩⟩
      obtain ⟨o, ho, z⟩ := e3 b hb
      refine ⟨o, kf b ?_ o ho, z⟩
      subst e1 e2
      rcases List.mem_cons.mp hb with rfl | hb
      · exact List.mem_cons_of_mem _ (List.mem_cons_of_mem _ hfL)
      · rcases List.mem_cons.mp hb with rfl | hb
        · exact List.mem_cons_self ..
        · rw [List.mem_singleton] at hb; subst hb; exact List.mem_cons_of_mem _ (List.mem_cons_self ..)
  item := fun fp wr i d s Q E hd y hQ => by
    rw [List.getElem?_map, Option.map_eq_some_iff] at hd
    obtain ⟨d', hd', rfl⟩ := hd
    have hlt := (List.getElem?_eq_some_iff.mp hd').1
    obtain ⟨h1, h2, gs, h3, h4, h5⟩ := y
    rcases h5 with ⟨e1, e2, e3, e4, S⟩ | ⟨e, it, e1, e2, e3, e4, e5, go⟩
    · subst e1 e2 e3 e4
      have n1 : s.heap.get? (s.heap.objs.size + 1) = none := none_of_size (Nat.le_succ _)
      have n2 : s.heap.get? s.heap.objs.size = none := none_of_size (Nat.le_refl _)
      refine gen_step (F := F) (i := 0) (wr := [env.locals]) G hBg W hBgen h1 h2 h3 (fp' := (s.heap.objs.size + 1) :: s.heap.objs.size :: fp) (wr' := [env.locals, s.heap.objs.size + 1, s.heap.objs.size]) ⟨_, _, rfl, rfl⟩ (by
          obtain ⟨o, _, _, ho, _⟩ := h1
          have := Heap.lt_size ho
          simp [haL]
          exact ⟨Nat.ne_of_lt (Nat.lt_succ_of_lt this), Nat.ne_of_lt this⟩) (fun b hb => by
          rcases List.mem_cons.mp hb with rfl | hb
          · exact hB
          · rcases List.mem_cons.mp hb with rfl | hb
            · exact none_down h2.heap n1
            · rw [List.mem_singleton] at hb; subst hb; exact none_down h2.heap n2)
        (fun b hb ⟨o, ho⟩ => by
          have := Heap.lt_size ho
          simp at hb
          simp [hb]
          exact ⟨Nat.ne_of_lt (Nat.lt_succ_of_lt this), Nat.ne_of_lt this⟩) ⟨rfl, ?_⟩ (Nat.zero_le _) (fun v d s' hd rd mv st => ?_) (fun h => absurd h (Nat.ne_of_lt hlt))
      · exact iter_first bi F G.in1 hc W hB hBf hBg hfL hsz hee (s.setGen g .running) (st_again S (Atoms.nil.cons rfl) hc (fun _ e => e) W hB (gr_kp h2 (kp_setGen rfl) hBf hBg)) (gr_kp h2 (kp_setGen rfl) hBf hBg)
      · rw [hd'] at hd; cases hd
        exact hQ v s' _ _ (.inr ⟨rfl, rd⟩) st mv (fun b hb => by rw [List.mem_singleton] at hb; subst hb; exact List.mem_cons_self ..) (fun b hb => by
          rcases List.mem_cons.mp hb with rfl | hb
          · exact .inl (List.mem_cons_self ..)
          · rcases List.mem_cons.mp hb with rfl | hb
            · exact .inr n1
            · rw [List.mem_singleton] at hb; subst hb; exact .inr n2) fun b hb => by
          rcases List.mem_cons.mp hb with rfl | hb
          · exact .inr (by simp)
          · rcases List.mem_cons.mp hb with rfl | hb
            · exact .inr (by simp)
            · exact .inl hb
    · exact gen_step (F := F) (i := i) (wr := wr) G hBg W hBgen h1 h2 h3 ⟨e, it, e1, e2⟩ e4 e5 (fun b hb _ => hb) (go _ (kp_setGen rfl)) (Nat.le_of_lt hlt) (fun v d s' hd rd mv st => by
        rw [hd'] at hd; cases hd
        exact hQ v s' _ _ (.inr ⟨rfl, rd⟩) st mv (fun _ h => h) (fun _ h => .inl h) fun _ h => .inl h) (fun h => absurd h (Nat.ne_of_lt hlt))
  done := fun fp wr s Q E y hQ => by
    rw [List.length_map] at y
    obtain ⟨h1, h2, gs, h3, h4, h5⟩ := y
    rcases h5 with ⟨e1, e2, e3, e4, S⟩ | ⟨e, it, e1, e2, e3, e4, e5, go⟩
    · subst e2 e3 e4
      have n1 : s.heap.get? (s.heap.objs.size + 1) = none := none_of_size (Nat.le_succ _)
      have n2 : s.heap.get? s.heap.objs.size = none := none_of_size (Nat.le_refl _)
      refine gen_step (F := F) (i := (escF x.cps.toList 0 0 false).length) (wr := [env.locals]) G hBg W hBgen h1 h2 h3 (fp' := (s.heap.objs.size + 1) :: s.heap.objs.size :: fp) (wr' := [env.locals, s.heap.objs.size + 1, s.heap.objs.size]) ⟨_, _, rfl, rfl⟩ (by
          obtain ⟨o, _, _, ho, _⟩ := h1
          have := Heap.lt_size ho
          simp [haL]
          exact ⟨Nat.ne_of_lt (Nat.lt_succ_of_lt this), Nat.ne_of_lt this⟩) (fun b hb => by
          rcases List.mem_cons.mp hb with rfl | hb
          · exact hB
          · rcases List.mem_cons.mp hb with rfl | hb
            · exact none_down h2.heap n1
            · rw [List.mem_singleton] at hb; subst hb; exact none_down h2.heap n2)
        (fun b hb ⟨o, ho⟩ => by
          have := Heap.lt_size ho
          simp at hb
          simp [hb]
          exact ⟨Nat.ne_of_lt (Nat.lt_succ_of_lt this), Nat.ne_of_lt this⟩) ⟨rfl, ?_⟩ (Nat.le_refl _) (fun v d s' hd rd mv st => ?_) (fun h s' mv => hQ s' mv)
      · rw [Nat.sub_self]
        have := iter_first bi F G.in1 hc W hB hBf hBg hfL hsz hee (s.setGen g .running) (st_again S (Atoms.nil.cons rfl) hc (fun _ e => e) W hB (gr_kp h2 (kp_setGen rfl) hBf hBg)) (gr_kp h2 (kp_setGen rfl) hBf hBg)
        rw [e1] at this
        exact this
      · rw [List.getElem?_eq_none (Nat.le_refl _)] at hd; cases hd
    · refine gen_step (F := F) (i := (escF x.cps.toList 0 0 false).length) (wr := wr) G hBg W hBgen h1 h2 h3 ⟨e, it, e1, e2⟩ e4 e5 (fun b hb _ => hb) (go _ (kp_setGen rfl)) (Nat.le_refl _) (fun v d s' hd rd mv st => ?_) (fun h s' mv => hQ s' mv)
      rw [List.getElem?_eq_none (Nat.le_refl _)] at hd; cases hd
  go := fun fp wr i s v target Q E y q => by
    obtain ⟨o, nm, qn, ho, hcl, hdt, _⟩ := y.gen
    exact wp_goFields ⟨o, _, _, ho, hcl, hdt, by decide⟩ q
  st := h0
  fld := fun fp wr i s y b hb => by
    obtain ⟨h1, h2, gs, h3, h4, h5⟩ := y
    rcases h5 with ⟨e1, e2, e3, e4, S⟩ | ⟨e, it, e1, e2, e3, _, _, go⟩
    · rw [e3, List.mem_singleton] at hb
      subst hb
      exact ns_noseq S.ns.choose_spec
    · exact e3 b hb
  fresh := fun b hb => by rw [List.mem_singleton] at hb; subst hb; exact fresh
  there := there
  src := src
  sub := fun b hb => by rw [List.mem_singleton] at hb; subst hb; exact hfL
theorem cells_iter (n : Nat) : cellsFrom n d_iter.scope.names [] = [] := rfl
theorem iter_bind (pm code doc v : Value) : bindArgs (docDef d_iter.name d_iter.params d_iter.body d_iter.scope pm code doc) ⟨[v], []⟩ = pure [(("addr" : PySem.Str), v)] := rfl
open Classical in
theorem ForI.gen {K : Cx} {n : Nat} {σ : Sg} {H : Hp} {arg : Expr} {p pos : Pos} {x : PySem.Str} (bi : Bi K.mg K.mb) (hf : d_iter ∈ K.ds) (hk : K.env.kindOf "_iter_escaped_chars" = some .globalImplicit) (y : EvA K (n + 2) σ H arg (.str x)) (hsz : x.cps.size < 2 ^ 24) (hee : escE x.cps.toList false = false)
    (he : starEach [arg] K.env = (false, eval arg K.env) :: starEach [] K.env := by rfl) : ForI K (n + 2) σ H (.Call (.Name "_iter_escaped_chars" p) [arg] [] pos) ((escF x.cps.toList 0 0 false).map eD) := fun A B P φ s G S Q E q => by
  obtain ⟨a, o, pm, code, doc, h1, h2, h3, h4⟩ := (S.wds.fns d_iter hf).at'
  refine wpAny_Call_Name_kw (wp_global S.wds ⟨K.F.ge, hk, .inl h1⟩ ?_)
  show wpAny _ A (callWith pos (.ref a) [] (backTo pos (starEach [arg] K.env)) []) _ E s
  refine callWith_def h3 (he := he) (wpAny_items_cons (he := he) (y A B P φ s G S _ _ fun v s₁ g₁ r₁ => wpAny_items_nil ?_))
  obtain ⟨t, rfl⟩ := r₁.str_inv
  refine ⟨g₁.heap _ _ h2, ?_⟩
  have S₁ := S.up g₁
  refine wpAny_call (codeAny_call_generator (by have := G.depth; omega) (g₁.heap _ _ h2) h3 rfl rfl rfl (h4.keeps g₁.heap) ?_)
  rw [iter_bind]
  refine wpAny_pure (wpAny_newFunctionEnv_cells rfl (fun z hz => .inl (by rw [List.mem_singleton] at hz; subst hz; rfl)) fun env henv s₂ ic => ?_)
  have F : FE env d_iter.scope := by
    subst henv
    exact ⟨rfl, rfl, rfl, rfl, fun z hz => cellsFrom_some _ _ _ (.inl hz), fun z z' c hh hh' => name_of_addr ic.apart (mem_of_lookup hh) (mem_of_lookup hh')⟩
  have hc : env.cells = [] := by rw [henv]; exact cells_iter (s₁.heap.objs.size + 1)
  obtain ⟨h', tk', hsame⟩ := ic.toInCall.same
  have hk₂ : Ext s₁.heap s₂.heap := ic.toInCall.keep
  have g₂ : Gr s₁ s₂ := ⟨hk₂, by rw [hsame]; exact fun _ _ e => e, by rw [hsame]; exact fun e => e, by rw [hsame]⟩
  have hgens : s₂.gens = s₁.gens := by rw [hsame]
  have hL₁ : s₁.heap.get? env.locals = none := none_of_size ic.toInCall.fresh
  refine ⟨S₁.wds.lim.keeps hk₂, ?_⟩
  show wpAny _ A (pyIter (.ref s₂.heap.objs.size)) Q E { s₂ with gens := s₂.gens.push (.fresh (.func d_iter.body env)), toks := s₂.toks + 1 + 1, heap := s₂.heap.push { cls := .type "generator", data := .fields #[.int s₂.gens.size 0, .str d_iter.name s₂.toks, .str d_iter.name (s₂.toks + 1)] } }
  generalize hs₃ : ({ s₂ with gens := s₂.gens.push (.fresh (.func d_iter.body env)), toks := s₂.toks + 1 + 1, heap := s₂.heap.push { cls := .type "generator", data := .fields #[.int s₂.gens.size 0, .str d_iter.name s₂.toks, .str d_iter.name (s₂.toks + 1)] } } : Shared) = s₃
  have hh₃ : s₃.heap = s₂.heap.push { cls := .type "generator", data := .fields #[.int s₂.gens.size 0, .str d_iter.name s₂.toks, .str d_iter.name (s₂.toks + 1)] } := by rw [← hs₃]
  have hg₃ : s₃.gens = s₂.gens.push (.fresh (.func d_iter.body env)) := by rw [← hs₃]
  have g₃ : Gr s₂ s₃ := ⟨by rw [hh₃]; exact Ext.rf.push _, fun j z e => by
    rw [hg₃, Array.getElem?_push]
    have := (Array.getElem?_eq_some_iff.mp e).1
    rw [if_neg (by omega)]; exact e, fun e => by rw [hg₃]; exact e.push rfl, by rw [← hs₃]⟩
  have ha₃ : s₃.heap.IsGen s₂.heap.objs.size s₂.gens.size := by
    rw [hh₃]
    exact ⟨_, _, _, Heap.get?_push_size _ rfl, rfl, rfl, rfl⟩
  refine wpAny_pyIter_gen ha₃ ?_
  generalize hBh : ({ s₁ with heap := hideA (fun b => FA K.env b ∨ Own φ b) s₁.heap } : Shared) = Bh
  have hBhh : Bh.heap = hideA (fun b => FA K.env b ∨ Own φ b) s₁.heap := by rw [← hBh]
  have hBhg : Bh.gens = s₁.gens := by rw [← hBh]
  have gB : Gr B Bh := by
    have := S₁.gr
    rw [← hBh]
    refine ⟨fun b z e => hideA_some (this.heap b z e) fun hx => ?_, this.gens, this.bare, this.os⟩
    rcases hx with hx | ⟨k, hx⟩
    · rw [S.frf b hx] at e; cases e
    · rw [S.ofr k b hx] at e; cases e
  have gBh : Gr Bh s₁ := ⟨by rw [hBhh]; exact hideA_ext, by rw [hBhg]; exact fun _ _ e => e, by rw [hBhg]; exact fun e => e, by rw [← hBh]⟩
  have W : Wd K.mg K.mb K.ds Bh.heap := S.wd.up gB.heap
  have hB : Bh.heap.get? env.locals = none := none_down gBh.heap hL₁
  have nX : ∀ b, s.heap.get? b = none → ¬ (FA K.env b ∨ Own φ b) := fun b hb hx => by
    rcases hx with hx | ⟨k, hx⟩
    · obtain ⟨z, hz, _⟩ := S.fa hx; rw [hb] at hz; cases hz
    · obtain ⟨us, m, hl⟩ := S.isl k b hx; rw [show s.heap.get? b = some _ from hl] at hb; cases hb
  have na : s.heap.get? s₂.heap.objs.size = none := none_down (g₁.heap.tr hk₂) (none_of_size (Nat.le_refl _))
  have nL : s.heap.get? env.locals = none := none_down g₁.heap hL₁
  have lL : @LT.lt Nat _ env.locals s₂.heap.objs.size := by
    obtain ⟨z, _, _, hz, _⟩ := ic.toInCall.ns
    exact Heap.lt_size hz
  have S₂ : (mkCx K.prog K.w K.mg K.mb K.ds d_iter env F).St s₁ TP φ0 [("addr", .dat (.str x))] [] s₂ :=
    inCall_st (names := ["addr"]) (vs := [.str x t]) (args := [.str x]) F S₁.wds .tp (.cons (.str x t) .nil) (by simp) (fun z hz => .inl (by rw [List.mem_singleton] at hz; subst hz; rfl)) rfl ic
  have hBg : Bh.gens.size ≤ s₂.gens.size := by rw [hBhg, hgens]; exact Nat.le_refl _
  refine q _ (s₂.heap.objs.size :: env.locals :: (List.range s₁.heap.objs.size).filter fun b => decide (¬ (FA K.env b ∨ Own φ b) ∧ ∃ o, s₁.heap.get? b = some o)) [env.locals] _ s₃ ((g₁.trans g₂).trans g₃) (genSt_itG (F := F) (Bh := Bh) (g := s₂.gens.size) (x := x) bi G hc W (fun b z hz => ?_) hBg hB (List.mem_cons_of_mem _ (List.mem_cons_self ..)) (List.mem_cons_self ..) (Nat.ne_of_gt lL) hsz hee ?_ ?_ nL ?_ ?_)
  · rw [hBhh] at hz
    obtain ⟨e1, e2⟩ := of_hideA hz
    refine List.mem_cons_of_mem _ (List.mem_cons_of_mem _ (List.mem_filter.mpr ⟨List.mem_range.mpr (Heap.lt_size e1), ?_⟩))
    exact decide_eq_true ⟨e2, _, e1⟩
  · rw [hgens]
    refine Nat.not_lt.mp fun hlt => ?_
    have e := Array.getElem?_eq_getElem hlt
    have hlt2 : s₁.gens.size < B.gens.size := hlt
    have := S₁.gr.gens _ _ e
    rw [Array.getElem?_eq_none (Nat.le_refl _)] at this; cases this
  · refine ⟨ha₃, (gBh.trans g₂).trans g₃, _, by rw [hg₃]; exact Array.getElem?_push_size .., rfl, .inl ⟨rfl, rfl, rfl, rfl, ?_⟩⟩
    exact st_again (S₂.up g₃) (Atoms.nil.cons rfl) hc (fun _ e => e) W hB ((gBh.trans g₂).trans g₃)
  · intro b hb
    rcases List.mem_cons.mp hb with rfl | hb
    · obtain ⟨z, _, _, hz, _⟩ := ha₃; exact ⟨z, hz⟩
    · rcases List.mem_cons.mp hb with rfl | hb
      · obtain ⟨z, _, _, hz, _⟩ := ic.toInCall.ns; exact ⟨z, g₃.heap _ _ hz⟩
      · obtain ⟨z, hz⟩ := (of_decide_eq_true (List.mem_filter.mp hb).2).2
        exact ⟨z, g₃.heap _ _ (hk₂ _ _ hz)⟩
  · intro b hb
    rcases List.mem_cons.mp hb with rfl | hb
    · exact nX _ na
    · rcases List.mem_cons.mp hb with rfl | hb
      · exact nX _ nL
      · exact (of_decide_eq_true (List.mem_filter.mp hb).2).1
end
end Mine
namespace Mine
section
variable {prog : Program} {w : World} {mg mb : PySem.Str → Option Value} {ds : List DefRec}
theorem GA.room {A : Around} {n : Nat} (G : GA A n) {k : Nat} (h : k ≤ 8 * n) : A.units + k < cLine := by have := G.units; omega
theorem eqv_int (i j : Int) : PyData.eqv (.int i) (.int j) = (i == j) := rfl
theorem canLay_ints : ∀ xs : List Int, PyData.canLayAll0 (pys (xs.map .int)) = true
  | [] => rfl
  | x :: xs => by rw [List.map_cons, pys, PyData.canLayAll0, canLay_ints xs]; rfl
/-! ## _law_torn -/
noncomputable def at' {α : Type} (xs : List α) (d : α) (i : Int) : α := match seqIndex? i xs.length with | some j => (xs[j]?).getD d | none => d
noncomputable def tornIn (within : List (List Int)) (node s : Int) : Bool := (at' within [] s).any (· == node)
noncomputable def torn (trip : List Int) (within : List (List Int)) (node : Int) : Bool :=
  let inside := trip.map (tornIn within node)
  decide (2 < (((List.range 5).filter fun k : Nat => at' inside false ((k : Int) - 1) != at' inside false k).length : Int))
noncomputable def d_torn : DefRec := dAt 21
theorem torn_ok : DOk d_torn ["trip", "within", "node"] where
  kind := rfl
  co := rfl
  nodup := by decide
  kinds := by decide
  bind := fun pm code doc vals h => by
    obtain ⟨a, b, c, rfl⟩ := len_3 h
    rfl
theorem at_ss {α : Type} {xs : List α} {d : α} {i : Int} (h0 : 0 ≤ i) (h1 : i < xs.length) (f : α → D) : ∃ j, seqIndex? i (xs.map f).length = some j ∧ (xs.map f)[j]? = some (f (at' xs d i)) := by
  have e : seqIndex? i xs.length = some i.toNat := by
    unfold seqIndex?
    simp only [show ¬ i < 0 by omega, if_false]
    rw [if_pos (by simp; omega)]
  refine ⟨i.toNat, by rw [List.length_map]; exact e, ?_⟩
  have hl : i.toNat < xs.length := by omega
  rw [List.getElem?_map, List.getElem?_eq_getElem hl]
  simp [at', e, hl]
theorem at_ss' {α : Type} {xs : List α} {d : α} {i : Int} (h0 : i < 0) (h1 : -(xs.length : Int) ≤ i) (f : α → D) : ∃ j, seqIndex? i (xs.map f).length = some j ∧ (xs.map f)[j]? = some (f (at' xs d i)) := by
  have e : seqIndex? i xs.length = some (i + xs.length).toNat := by
    unfold seqIndex?
    simp only [h0, if_true]
    rw [if_pos (by simp; omega)]
  refine ⟨_, by rw [List.length_map]; exact e, ?_⟩
  have hl : (i + xs.length).toNat < xs.length := by omega
  rw [List.getElem?_map, List.getElem?_eq_getElem hl]
  simp [at', e, hl]
theorem o_in_int {A : Around} {n : Nat} (G : GA A n) (hn : 1 ≤ n) {k : Int} {xs : List Int} : OpY prog w A (compareOp .In) (.int k) (dI xs) (.bool (xs.any (· == k))) := by
  have := o_in_any (prog := prog) (w := w) (A := A) (x := .int k) (xs := xs.map .int) (canLay_ints _) rfl (by
    have := G.units
    simp only [D.py, PyData.depth, Nat.min_zero, Nat.add_zero]
    omega)
  rw [List.any_map] at this
  exact this
theorem torn_fn (bi : Bi mg mb) {n : Nat} (hn : 1 ≤ n) {trip : List Int} {within : List (List Int)} {node : Int} (h5 : trip.length = 5) (hs : ∀ s ∈ trip, 0 ≤ s ∧ s < within.length) (hw : within.length ≤ sizeLine) : Fn prog w mg mb ds (n + 1) d_torn [dI trip, dLL within, .int node] (.bool (torn trip within node)) := Fn.of torn_ok rfl rfl fun env F => by
  have hz : sizeLine = 16777216 := rfl
  conv => arg 3; whnf
  refine Blk.assign (d := .list ((trip.map (tornIn within node)).map .bool)) (.dat fun A h G W V => ?_) (.inr (by rfl)) ?_ (swaps_comp F rfl)
  · have v1 := V "node" _ rfl
    have v2 := V "within" _ rfl
    rw [List.map_map]
    have c1 := CV.of_lv v1 (F.kindOf rfl)
    have c2 := CV.of_lv v2 (F.kindOf rfl)
    refine EvN.ev ?_
    refine EvN.compA (fr := ["node", "within"]) D.int trip _ (EvI.list G.hand (.name (V "trip" _ rfl))) int_inj rfl rfl (.cons c1 (.cons c2 .nil)) (by omega) fun cenv h₃ s ce k m lv => ?_
    obtain ⟨j, e1, e2⟩ := at_ss (d := []) (hs s m).1 (hs s m).2 dI
    exact .cmp (o_in_int G hn) (.name (c1.inner ce k rfl rfl).lv) (.sub (ss_list e1 e2 (by simpa using hw)) (.name (c2.inner ce k rfl rfl).lv) (.name lv))
  · refine Blk.ret (d := .bool (torn trip within node)) (.dat fun A h G W V => ?_) rfl
    have c1 := CV.of_lv (V "inside" _ rfl) (F.kindOf rfl)
    have hl : (trip.map (tornIn within node)).length = 5 := by simpa using h5
    refine Ev.cmp (a := .int _) (b := .int 2) o_gt_int (Ev.len (xs := ((List.range 5).filter fun k : Nat => at' (trip.map (tornIn within node)) false ((k : Int) - 1) != at' (trip.map (tornIn within node)) false k).map nD) bi W F.ge (F.kindOf rfl) rfl ?_ (by simp) ?_) .cInt
    · refine EvN.ev ?_
      refine EvN.compM (fr := ["inside"]) nD (List.range 5) _ nD (EvI.range0 bi W G.hand F.ge (F.kindOf rfl) rfl .cInt (by omega)) nD_inj rfl rfl (.cons c1 .nil) (by simp; omega) fun cenv h₃ k ce x m lv => ⟨.one ?_, fun _ => .name lv⟩
      rw [List.mem_range] at m
      have c2 := (c1.inner ce x rfl rfl).lv
      obtain ⟨j1, e1, e1'⟩ : ∃ j, seqIndex? ((k : Int) - 1) ((trip.map (tornIn within node)).map D.bool).length = some j ∧ ((trip.map (tornIn within node)).map D.bool)[j]? = some (.bool (at' (trip.map (tornIn within node)) false ((k : Int) - 1))) := by
        by_cases hk : k = 0
        · exact at_ss' (by omega) (by omega) _
        · exact at_ss (by omega) (by omega) _
      obtain ⟨j2, e2, e2'⟩ := at_ss (xs := trip.map (tornIn within node)) (d := false) (i := k) (by omega) (by omega) D.bool
      exact .cmp o_ne_bool (.sub (ss_list e1 e1' (by simp; omega)) (.name c2) (.bin o_sub_int (.name lv) .cInt)) (.sub (ss_list e2 e2' (by simp; omega)) (.name c2) (.name lv))
    · exact Nat.le_trans (List.length_filter_le _ _) (by simp; omega)
end
end Mine
namespace Mine
noncomputable abbrev mkS (l : List Nat) : PySem.Str := ⟨l.toArray⟩
/-! ## _strip_quoted_realnames -/
noncomputable def oD : Option Nat → D
  | none => .none
  | some n => .int n
noncomputable def cutS (x : PySem.Str) (a : Nat) (b : Option Nat) : PySem.Str := ⟨(pySl (some (a : Int)) (b.map fun n => (n : Int)) x.cps.toList).toArray⟩
noncomputable def stripL (x : PySem.Str) : List (Nat × List Nat) → Nat → Option Nat → List PySem.Str → Nat × List PySem.Str
  | [], st, _, acc => (st, acc)
  | (pos, ch) :: r, st, op, acc => if mkS ch == "\"" then (match op with
    | none => stripL x r st (some pos) acc
    | some o => stripL x r (pos + 1) none (if (st : Int) != o then acc ++ [cutS x st (some o)] else acc)) else stripL x r st op acc
theorem stripL_q0 {x : PySem.Str} {pos : Nat} {ch : List Nat} {r : List (Nat × List Nat)} {st : Nat} {acc : List PySem.Str} (h : (mkS ch == "\"") = true) : stripL x ((pos, ch) :: r) st none acc = stripL x r st (some pos) acc := by
  conv => lhs; unfold stripL
  rw [if_pos h]
theorem stripL_q1 {x : PySem.Str} {pos o : Nat} {ch : List Nat} {r : List (Nat × List Nat)} {st : Nat} {acc : List PySem.Str} (h : (mkS ch == "\"") = true) : stripL x ((pos, ch) :: r) st (some o) acc = stripL x r (pos + 1) none (if (st : Int) != o then acc ++ [cutS x st (some o)] else acc) := by
  conv => lhs; unfold stripL
  rw [if_pos h]
theorem stripL_n {x : PySem.Str} {pos : Nat} {ch : List Nat} {r : List (Nat × List Nat)} {st : Nat} {op : Option Nat} {acc : List PySem.Str} (h : (mkS ch == "\"") = false) : stripL x ((pos, ch) :: r) st op acc = stripL x r st op acc := by
  conv => lhs; unfold stripL
  rw [if_neg (by rw [h]; decide)]
noncomputable def hasQ (x : PySem.Str) : Bool := !(Builtin.Str.occurrences x "\"" 0 x.length 1).isEmpty
noncomputable def stripF (x : PySem.Str) : PySem.Str :=
  if hasQ x then
    let r := stripL x (escF x.cps.toList 0 0 false) 0 none []
    Txt.join "" (if (r.1 : Int) < x.length then r.2 ++ [cutS x r.1 none] else r.2)
  else x
noncomputable def d_strip : DefRec := dAt 2
theorem strip_ok : DOk d_strip ["addr"] where
  kind := rfl
  co := rfl
  nodup := by decide
  kinds := by decide
  bind := fun pm code doc vals h => by
    obtain ⟨a, rfl⟩ := len_1 h
    rfl
theorem cutS_len (x : PySem.Str) (a : Nat) (b : Option Nat) : (cutS x a b).length ≤ x.length := by
  show (pySl _ _ _).toArray.size ≤ x.cps.size
  simp only [List.size_toArray, pySl, List.length_take, List.length_drop]
  have : x.cps.toList.length = x.cps.size := by simp
  omega
theorem escF_len : ∀ (cs : List Nat) (i pos : Nat) (esc : Bool), (escF cs i pos esc).length ≤ cs.length + 1
  | [], _, _, esc => by cases esc <;> simp [escF]
  | c :: cs, i, pos, esc => by
    have h1 := escF_len cs (i + 1) i false
    have h2 := escF_len cs (i + 1) i true
    unfold escF
    split
    · simp; omega
    · split
      · simp; omega
      · simp; omega
theorem sum_le : ∀ (ys : List PySem.Str) (m : Nat), (∀ y ∈ ys, y.length ≤ m) → (ys.map (·.length)).sum ≤ ys.length * m
  | [], _, _ => by simp
  | y :: ys, m, h => by
    have h1 := sum_le ys m fun z hz => h z (List.mem_cons_of_mem _ hz)
    have h2 := h y (List.mem_cons_self ..)
    simp only [List.map_cons, List.sum_cons, List.length_cons, Nat.add_mul, Nat.one_mul]
    omega
noncomputable def σS (x : PySem.Str) (st : Nat) (op : Option Nat) : Sg := [("addr", .dat (.str x)), ("start", .dat (.int st)), ("open_pos", .dat (oD op)), ("result", .loc 0)]
noncomputable def HS (acc : List PySem.Str) : Hp := [some ((acc.map D.str).map .dat)]
section
variable {prog : Program} {w : World} {mg mb : PySem.Str → Option Value} {ds : List DefRec}
set_option maxHeartbeats 4000000 in
theorem strip_fn (bi : Bi mg mb) (hf : d_iter ∈ ds) {n : Nat} (hn : 2 ≤ n) {x : PySem.Str} (hx : x.length ≤ 1000) (hee : escE x.cps.toList false = false) : Fn prog w mg mb ds (n + 1) d_strip [.str x] (.str (stripF x)) := Fn.of strip_ok rfl rfl fun env F => by
  have hz : sizeLine = 16777216 := rfl
  have hx' : x.cps.size ≤ 1000 := hx
  obtain ⟨m, rfl⟩ : ∃ m, n = m + 2 := ⟨n - 2, by omega⟩
  conv => arg 3; whnf
  refine Blk.if_ (b := !hasQ x) (.of fun A h G W V => .cmp o_notIn_str .cStr (.name (V "addr" _ rfl))) (fun hb => ?_) (fun hb => ?_)
  · refine Blk.ret (d := .str x) (.dat fun A h G W V => .name (V "addr" _ rfl)) ?_
    show D.str x = .str (stripF x)
    unfold stripF
    rw [if_neg (by simpa using hb)]
  · refine Blk.nil (σ' := argS ["addr"] [.str x]) ?_ .refl
    refine Blk.assign (d := .int 0) (.dat fun A h G W V => .cInt) (.inl (by rfl)) ?_
    refine Blk.assign (d := .none) (.dat fun A h G W V => .cNone) (.inl (by rfl)) ?_
    refine Blk.assignN (dl := []) (fun A h G W V => EvN.list .nil (by simp)) (.inl (by rfl)) ?_
    refine Blk.weak (σ' := σS x 0 none) (H' := HS []) ?_ (.cons rfl (.cons rfl (.cons rfl (.cons rfl .nil)))) .refl
    have hR : stripF x = Txt.join "" (if ((stripL x (escF x.cps.toList 0 0 false) 0 none []).1 : Int) < x.length then (stripL x (escF x.cps.toList 0 0 false) 0 none []).2 ++ [cutS x (stripL x (escF x.cps.toList 0 0 false) 0 none []).1 none] else (stripL x (escF x.cps.toList 0 0 false) 0 none []).2) := by
      unfold stripF
      rw [if_pos (by simpa using hb)]
    rw [hR]
    clear hR
    refine Blk.cons ?_
    refine Stm.for_ (ForI.gen bi hf (F.kindOf rfl) (.dat fun A h G W V => .name (V "addr" _ rfl)) (by omega) hee)
      (fun r σ H => ∃ (rs : List (Nat × List Nat)) (st : Nat) (op : Option Nat) (acc : List PySem.Str), r = rs.map eD ∧ stripL x rs st op acc = stripL x (escF x.cps.toList 0 0 false) 0 none [] ∧ acc.length + rs.length ≤ 1001 ∧ (∀ y ∈ acc, y.length ≤ 1000) ∧ σ = σS x st op ∧ H = HS acc)
      ⟨_, 0, none, [], rfl, rfl, by have := escF_len x.cps.toList 0 0 false; simp at this ⊢; omega, by simp, rfl, rfl⟩ ?_ ?_
    · rintro d r σ H ⟨rs, st, op, acc, hr, hR, h1, h2, rfl, rfl⟩
      cases rs with
      | nil => cases hr
      | cons p rs =>
        obtain ⟨pos, ch⟩ := p
        rw [List.map_cons] at hr
        injection hr with hr1 hr2
        subst hr1 hr2
        refine ⟨_, .pair (.inl (by rfl)) (.inl (by rfl)), ?_⟩
        simp only [List.length_cons] at h1
        refine Blk.if_ (b := mkS ch == "\"") (.of fun A h G W V => .cmp o_eq_str (.name (V "ch" _ rfl)) .cStr) (fun hq => ?_) (fun hq => ?_)
        · cases op with
          | none =>
            refine Blk.if_ (b := true) (.of fun A h G W V => .cmp (o_is_none (b := true) fun P h v r => by rw [r.none_inv]; rfl) (.name (V "open_pos" _ rfl)) .cNone) (fun _ => ?_) (fun h => by cases h)
            refine Blk.assign (d := .int pos) (.dat fun A h G W V => .name (V "pos" _ rfl)) (.inl (by rfl)) ?_
            refine Blk.nil (σ' := σS x st (some pos)) ?_ (.cons rfl (.cons rfl (.cons rfl (.cons rfl .nil))))
            refine Blk.nil (σ' := σS x st (some pos)) ?_ .refl
            refine Blk.nil (σ' := σS x st (some pos)) ?_ .refl
            exact ⟨rs, st, some pos, acc, rfl, by rw [← hR, stripL_q0 hq], by omega, h2, rfl, rfl⟩
          | some o =>
            refine Blk.if_ (b := false) (.of fun A h G W V => .cmp (o_is_none (b := false) fun P h v r => by obtain ⟨t, rfl⟩ := r.int_inv; rfl) (.name (V "open_pos" (.int o) rfl)) .cNone) (fun h => by cases h) (fun _ => ?_)
            have k1 : (acc.map D.str).map VV.dat ++ [VV.dat (.str (cutS x st (some o)))] = ((acc ++ [cutS x st (some o)]).map D.str).map VV.dat := by simp
            have fin : ∀ acc' : List PySem.Str, (if (st : Int) != o then acc ++ [cutS x st (some o)] else acc) = acc' → acc'.length + rs.length ≤ 1001 → (∀ y ∈ acc', y.length ≤ 1000) → ∃ (rs' : List (Nat × List Nat)) (st : Nat) (op : Option Nat) (acc : List PySem.Str), rs.map eD = rs'.map eD ∧ stripL x rs' st op acc = stripL x (escF x.cps.toList 0 0 false) 0 none [] ∧ acc.length + rs'.length ≤ 1001 ∧ (∀ y ∈ acc, y.length ≤ 1000) ∧ σS x (pos + 1) none = σS x st op ∧ HS acc' = HS acc :=
              fun acc' e e1 e2 => ⟨rs, pos + 1, none, acc', rfl, by rw [← hR, stripL_q1 hq, e], e1, e2, rfl, rfl⟩
            refine Blk.if_ (b := (st : Int) != o) (.of fun A h G W V => .cmp o_ne_int (.name (V "start" _ rfl)) (.name (V "open_pos" (.int o) rfl))) (fun hc => ?_) (fun hc => ?_)
            · refine Blk.append (k := 0) rfl rfl (by simp; omega) (d := .str (cutS x st (some o))) (.dat fun A h G W V => .slStr (.name (V "addr" _ rfl)) (.int (.name (V "start" _ rfl))) (.int (.name (V "open_pos" (.int o) rfl))) (by omega)) ?_
              rw [show (List.set (HS acc) 0 (some ((acc.map D.str).map VV.dat ++ [VV.dat (.str (cutS x st (some o)))]))) = HS (acc ++ [cutS x st (some o)]) by rw [k1]; rfl]
              refine Blk.nil ?_ .refl
              refine Blk.assign (d := .int ((pos + 1 : Nat) : Int)) (.dat fun A h G W V => .bin o_add_int (.name (V "pos" _ rfl)) .cInt) (.inl (by rfl)) ?_
              refine Blk.assign (d := .none) (.dat fun A h G W V => .cNone) (.inl (by rfl)) ?_
              refine Blk.nil (σ' := σS x (pos + 1) none) ?_ (.cons rfl (.cons rfl (.cons rfl (.cons rfl .nil))))
              refine Blk.nil (σ' := σS x (pos + 1) none) ?_ .refl
              refine Blk.nil (σ' := σS x (pos + 1) none) ?_ .refl
              refine fin _ (if_pos hc) (by simp; omega) (fun y hy => ?_)
              rcases List.mem_append.mp hy with hy | hy
              · exact h2 y hy
              · rw [List.mem_singleton] at hy; subst hy; exact Nat.le_trans (cutS_len ..) hx
            · refine Blk.nil ?_ .refl
              refine Blk.assign (d := .int ((pos + 1 : Nat) : Int)) (.dat fun A h G W V => .bin o_add_int (.name (V "pos" _ rfl)) .cInt) (.inl (by rfl)) ?_
              refine Blk.assign (d := .none) (.dat fun A h G W V => .cNone) (.inl (by rfl)) ?_
              refine Blk.nil (σ' := σS x (pos + 1) none) ?_ (.cons rfl (.cons rfl (.cons rfl (.cons rfl .nil))))
              refine Blk.nil (σ' := σS x (pos + 1) none) ?_ .refl
              refine Blk.nil (σ' := σS x (pos + 1) none) ?_ .refl
              exact fin _ (if_neg (by rw [hc]; decide)) (by omega) h2
        · refine Blk.nil (σ' := σS x st op) ?_ (.cons rfl (.cons rfl (.cons rfl (.cons rfl .nil))))
          refine Blk.nil (σ' := σS x st op) ?_ .refl
          exact ⟨rs, st, op, acc, rfl, by rw [← hR, stripL_n hq], by omega, h2, rfl, rfl⟩
    · rintro σ H ⟨rs, st, op, acc, hr, hR, h1, h2, rfl, rfl⟩
      cases rs with
      | cons => cases hr
      | nil =>
        rw [show stripL x [] st op acc = (st, acc) from rfl] at hR
        rw [← hR]
        have fin : ∀ acc' : List PySem.Str, acc'.length ≤ 1002 → (∀ y ∈ acc', y.length ≤ 1000) → (acc'.map (·.length)).sum + acc'.length * (Str.length "") ≤ 16777216 := fun acc' e1 e2 => by
          have := sum_le acc' 1000 e2
          have h0 : Str.length "" = 0 := rfl
          rw [h0]
          have : acc'.length * 1000 ≤ 1002 * 1000 := Nat.mul_le_mul_right _ e1
          omega
        refine Blk.nil (σ' := σS x st op) ?_ .refl
        refine Blk.if_ (b := decide ((st : Int) < x.length)) (.of fun A h G W V => .cmp o_lt_int (.name (V "start" _ rfl)) (Ev.lenS bi W F.ge (F.kindOf rfl) rfl (.name (V "addr" _ rfl)) rfl (by omega))) (fun hc => ?_) (fun hc => ?_)
        · have k1 : (acc.map D.str).map VV.dat ++ [VV.dat (.str (cutS x st none))] = ((acc ++ [cutS x st none]).map D.str).map VV.dat := by simp
          refine Blk.append (k := 0) rfl rfl (by simp at h1 ⊢; omega) (d := .str (cutS x st none)) (.dat fun A h G W V => .slStr (.name (V "addr" _ rfl)) (.int (.name (V "start" _ rfl))) .no (by omega)) ?_
          rw [show (List.set (HS acc) 0 (some ((acc.map D.str).map VV.dat ++ [VV.dat (.str (cutS x st none))]))) = HS (acc ++ [cutS x st none]) by rw [k1]; rfl]
          refine Blk.nil (σ' := σS x st op) ?_ .refl
          have hfit := fin (acc ++ [cutS x st none]) (by simp at h1 ⊢; omega) fun y hy => ?_
          refine Blk.ret (d := .str (Txt.join "" (acc ++ [cutS x st none]))) (.flat (fun A h G W V => ?_) (by simp only [D.flat])) ?_
          · have v := V "result" (.list ((acc ++ [cutS x st none]).map D.str)) (fv_loc (k := 0) (dl := (acc ++ [cutS x st none]).map D.str) rfl rfl)
            exact .meth (m_join hfit) .cStr (.cons (.name v) .nil)
          rotate_left
          · rcases List.mem_append.mp hy with hy | hy
            · exact h2 y hy
            · rw [List.mem_singleton] at hy; subst hy; exact Nat.le_trans (cutS_len ..) hx
          · show D.str _ = .str _
            rw [if_pos (of_decide_eq_true hc)]
        · have hfit := fin acc (by simp at h1 ⊢; omega) h2
          refine Blk.nil (σ' := σS x st op) ?_ .refl
          refine Blk.ret (d := .str (Txt.join "" acc)) (.flat (fun A h G W V => ?_) (by simp only [D.flat])) ?_
          · have v := V "result" (.list (acc.map D.str)) (fv_loc (k := 0) (dl := acc.map D.str) rfl rfl)
            exact .meth (m_join hfit) .cStr (.cons (.name v) .nil)
          show D.str _ = .str _
          rw [if_neg (of_decide_eq_false hc)]
end
end Mine
namespace Mine
section
variable {K : Cx} {n : Nat}
theorem i_add {a b : Int} : IopY K n .Add (.int a) (.int b) (.int (a + b)) := fun A G P s x y nw r1 r2 Q E q => by
  cases r1; cases r2; exact PyProof.Rows.iadd_int (q _ _ .tk (.int _ _))
theorem i_sub {a b : Int} : IopY K n .Sub (.int a) (.int b) (.int (a - b)) := fun A G P s x y nw r1 r2 Q E q => by
  cases r1; cases r2; exact PyProof.Rows.isub_int (q _ _ .tk (.int _ _))
theorem i_xor {a b : Int} : IopY K n .BitXor (.int a) (.int b) (.int (Builtin.bitXor a b)) := fun A G P s x y nw r1 r2 Q E q => by
  cases r1; cases r2; exact PyProof.Rows.ixor_int (q _ _ .tk (.int _ _))
end
/-! ## _check_parenthesis -/
noncomputable def chkL : List (Nat × List Nat) → Int → Bool
  | [], o => o == 0
  | (_, ch) :: r, o => if mkS ch == "(" then chkL r (o + 1) else if mkS ch == ")" then (if o - 1 < 0 then false else chkL r (o - 1)) else chkL r o
noncomputable def checkF (x : PySem.Str) : Bool := chkL (escF (stripF x).cps.toList 0 0 false) 0
noncomputable def d_chk : DefRec := dAt 3
theorem chk_ok : DOk d_chk ["addr"] where
  kind := rfl
  co := rfl
  nodup := by decide
  kinds := by decide
  bind := fun pm code doc vals h => by
    obtain ⟨a, rfl⟩ := len_1 h
    rfl
noncomputable def σC (o : Int) : Sg := [("opens", .dat (.int o))]
theorem chkL_o {pos : Nat} {ch : List Nat} {r : List (Nat × List Nat)} {o : Int} (h : (mkS ch == "(") = true) : chkL ((pos, ch) :: r) o = chkL r (o + 1) := by
  conv => lhs; unfold chkL
  rw [if_pos h]
theorem chkL_c {pos : Nat} {ch : List Nat} {r : List (Nat × List Nat)} {o : Int} (h : (mkS ch == "(") = false) (h' : (mkS ch == ")") = true) : chkL ((pos, ch) :: r) o = if o - 1 < 0 then false else chkL r (o - 1) := by
  conv => lhs; unfold chkL
  rw [if_neg (by rw [h]; decide), if_pos h']
theorem chkL_n {pos : Nat} {ch : List Nat} {r : List (Nat × List Nat)} {o : Int} (h : (mkS ch == "(") = false) (h' : (mkS ch == ")") = false) : chkL ((pos, ch) :: r) o = chkL r o := by
  conv => lhs; unfold chkL
  rw [if_neg (by rw [h]; decide), if_neg (by rw [h']; decide)]
section
variable {prog : Program} {w : World} {mg mb : PySem.Str → Option Value} {ds : List DefRec}
set_option maxHeartbeats 4000000 in
theorem chk_fn (bi : Bi mg mb) (hf : d_iter ∈ ds) (hf2 : d_strip ∈ ds) {n : Nat} (hn : 3 ≤ n) {x : PySem.Str} (hx : x.length ≤ 1000) (hee : escE x.cps.toList false = false) (hx2 : (stripF x).length ≤ 1000) (hee2 : escE (stripF x).cps.toList false = false) :
    Fn prog w mg mb ds (n + 1) d_chk [.str x] (.bool (checkF x)) := Fn.of chk_ok rfl rfl fun env F => by
  have hz : sizeLine = 16777216 := rfl
  have hx' : (stripF x).cps.size ≤ 1000 := hx2
  obtain ⟨m, rfl⟩ : ∃ m, n = m + 2 := ⟨n - 2, by omega⟩
  conv => arg 3; whnf
  refine Blk.assign (d := .str (stripF x)) (.dat fun A h G W V => .callF (strip_fn bi hf (n := 2) (by omega) hx hee) (G.mono (by omega)) W hf2 F.ge (F.kindOf rfl) rfl (.cons (.name (V "addr" _ rfl)) .nil)) (.inl (by rfl)) ?_
  refine Blk.assign (d := .int 0) (.dat fun A h G W V => .cInt) (.inl (by rfl)) ?_
  refine Blk.cons ?_
  refine Stm.for_ (ForI.gen bi hf (F.kindOf rfl) (.dat fun A h G W V => .name (V "addr" (.str (stripF x)) rfl)) (by omega) hee2)
    (fun r σ H => ∃ (rs : List (Nat × List Nat)) (o : Int), r = rs.map eD ∧ chkL rs o = checkF x ∧ σ.lookup ("opens" : PySem.Str) = some (.dat (.int o)) ∧ H = [])
    ⟨_, 0, rfl, rfl, rfl, rfl⟩ ?_ ?_
  · rintro d r σ H ⟨rs, o, hr, hR, hσ, rfl⟩
    cases rs with
    | nil => cases hr
    | cons p rs =>
      obtain ⟨pos, ch⟩ := p
      rw [List.map_cons] at hr
      injection hr with hr1 hr2
      subst hr1 hr2
      refine ⟨_, .pair (.inl (by rfl)) (.inl (by rfl)), ?_⟩
      have hw : Sub (("ch", .dat (.str (mkS ch))) :: σC o) (([("ch", VV.dat (.str (mkS ch))), ("pos", .dat (.int pos))] : Sg) ++ σ) := .cons rfl (.cons hσ .nil)
      refine Blk.weak ?_ hw
      refine Blk.if_ (b := mkS ch == "(") (.of fun A h G W V => .cmp o_eq_str (.name (V "ch" _ rfl)) .cStr) (fun hq => ?_) (fun hq => ?_)
      · refine Blk.aug (d := .int (o + 1)) (d₀ := .int o) (d₁ := .int 1) rfl (.dat fun A h G W V => .cInt) ?_ (.inl (by rfl)) ?_
        · exact i_add
        · refine Blk.nil ?_ .refl
          refine Blk.nil ?_ .refl
          exact ⟨rs, o + 1, rfl, by rw [← hR, chkL_o hq], rfl, rfl⟩
      · refine Blk.if_ (b := mkS ch == ")") (.of fun A h G W V => .cmp o_eq_str (.name (V "ch" _ rfl)) .cStr) (fun hq' => ?_) (fun hq' => ?_)
        · refine Blk.aug (d := .int (o - 1)) (d₀ := .int o) (d₁ := .int 1) rfl (.dat fun A h G W V => .cInt) ?_ (.inl (by rfl)) ?_
          · exact i_sub
          · refine Blk.if_ (b := decide (o - 1 < 0)) (.of fun A h G W V => .cmp o_lt_int (.name (V "opens" _ rfl)) .cInt) (fun hc => ?_) (fun hc => ?_)
            · refine Blk.ret (d := .bool false) (.dat fun A h G W V => .cBool) ?_
              show D.bool false = .bool (checkF x)
              rw [← hR, chkL_c hq hq', if_pos (of_decide_eq_true hc)]
            · refine Blk.nil ?_ .refl
              refine Blk.nil ?_ .refl
              refine Blk.nil ?_ .refl
              refine Blk.nil ?_ .refl
              exact ⟨rs, o - 1, rfl, by rw [← hR, chkL_c hq hq', if_neg (of_decide_eq_false hc)], rfl, rfl⟩
        · refine Blk.nil ?_ .refl
          refine Blk.nil ?_ .refl
          refine Blk.nil ?_ .refl
          exact ⟨rs, o, rfl, by rw [← hR, chkL_n hq hq'], rfl, rfl⟩
  · rintro σ H ⟨rs, o, hr, hR, hσ, rfl⟩
    cases rs with
    | cons => cases hr
    | nil =>
      refine Blk.nil (σ' := σC o) ?_ (.cons hσ .nil)
      refine Blk.ret (d := .bool (o == 0)) (.dat fun A h G W V => .cmp o_eq_int (.name (V "opens" _ rfl)) .cInt) ?_
      show D.bool _ = .bool _
      rw [← hR, chkL]
end
end Mine
namespace Mine
/-! ## constants of the modules -/
structure Co (mg : PySem.Str → Option Value) : Prop where
  maxs : ∃ t, mg "_MAX_STRING_SIZE" = some (.int 40 t)
  move : ∃ t, mg "_MOVE_COST" = some (.int 2 t)
  case : ∃ t, mg "_CASE_COST" = some (.int 1 t)
section
variable {prog : Program} {w : World} {A : Around} {env : Env} {h : Heap} {mg mb : PySem.Str → Option Value} {ds : List DefRec}
theorem Ev.const {x : PySem.Str} {p : Pos} {i : Int} (W : Wd mg mb ds h) (ge : GE env) (hk : env.kindOf x = some .globalImplicit) (hm : ∃ t, mg x = some (.int i t)) (hd : (x == ("__debug__" : PySem.Str)) = false := by decide) : Ev prog w A env h (.Name x p) (.int i) :=
  let ⟨t, e⟩ := hm; Ev.glob W ⟨ge, hk, .inl e⟩ (fun P h' => .int i t) hd
/-! ## _substitution_cost -/
noncomputable def subF (a b : PySem.Str) : Int := if a == b then 0 else if Txt.lower a == Txt.lower b then 1 else 2
noncomputable def d_sub : DefRec := dAt 11
theorem sub_ok : DOk d_sub ["ch_a", "ch_b"] where
  kind := rfl
  co := rfl
  nodup := by decide
  kinds := by decide
  bind := fun pm code doc vals h => by
    obtain ⟨a, b, rfl⟩ := len_2 h
    rfl
theorem sub_fn (co : Co mg) {n : Nat} {a b : PySem.Str} (ha : Builtin.Str.tooLong (Txt.lower a).length = false) (hb : Builtin.Str.tooLong (Txt.lower b).length = false) : Fn prog w mg mb ds (n + 1) d_sub [.str a, .str b] (.int (subF a b)) := Fn.of sub_ok rfl rfl fun env F => by
  conv => arg 3; whnf
  refine Blk.if_ (b := a == b) (.of fun A h G W V => .cmp o_eq_str (.name (V "ch_a" _ rfl)) (.name (V "ch_b" _ rfl))) (fun hq => ?_) (fun hq => ?_)
  · refine Blk.ret (d := .int 0) (.dat fun A h G W V => .cInt) ?_
    show D.int 0 = .int (subF a b)
    unfold subF; rw [if_pos hq]
  · refine Blk.nil (σ' := argS ["ch_a", "ch_b"] [.str a, .str b]) ?_ .refl
    refine Blk.if_ (b := Txt.lower a == Txt.lower b) (.of fun A h G W V => .cmp o_eq_str (.meth0 (m_lower ha) (.name (V "ch_a" _ rfl))) (.meth0 (m_lower hb) (.name (V "ch_b" _ rfl)))) (fun hq' => ?_) (fun hq' => ?_)
    · refine Blk.ret (d := .int 1) (.dat fun A h G W V => .const W F.ge (F.kindOf rfl) co.case) ?_
      show D.int 1 = .int (subF a b)
      unfold subF; rw [if_neg (by rw [hq]; decide), if_pos hq']
    · refine Blk.nil (σ' := argS ["ch_a", "ch_b"] [.str a, .str b]) ?_ .refl
      refine Blk.ret (d := .int 2) (.dat fun A h G W V => .const W F.ge (F.kindOf rfl) co.move) ?_
      show D.int 2 = .int (subF a b)
      unfold subF; rw [if_neg (by rw [hq]; decide), if_neg (by rw [hq']; decide)]
end
/-! ## _levenshtein_distance -/
noncomputable def cpre : List Nat → List Nat → Nat
  | x :: xs, y :: ys => if x = y then cpre xs ys + 1 else 0
  | _, _ => 0
noncomputable def minP (a b : Int) : Int := if b < a then b else a
noncomputable def innerF (bc : Nat) : List Nat → List Int → Int → Int → Int → List Int × Int × Int
  | a :: as, r :: rs, dist, res, mini =>
    let res' := minP (minP res r + 2) (dist + subF (mkS [bc]) (mkS [a]))
    let q := innerF bc as rs r res' (if res' < mini then res' else mini)
    (res' :: q.1, q.2)
  | _, _, _, res, mini => ([], res, mini)
noncomputable def outerF (mc : Int) (a : List Nat) : List Nat → Nat → List Int → Int → Int
  | [], _, _, res => res
  | bc :: bs, i, row, res =>
    let q := innerF bc a row (i * 2) (i * 2) 9223372036854775807
    if mc < q.2.2 then mc + 1 else outerF mc a bs (i + 1) q.1 q.2.1
noncomputable def levC (a b : List Nat) (mc : Int) : Int := if a = [] ∨ b = [] then 2 * ((a.length : Int) + b.length) else outerF mc a b 0 ((List.range a.length).map fun i : Nat => 2 + (i : Int) * 2) 0
noncomputable def levB (a b : List Nat) (mc : Int) : Int :=
  levC (a.take (a.length - cpre a.reverse b.reverse)) (b.take (b.length - cpre a.reverse b.reverse)) mc
noncomputable def levF (a b : List Nat) (mc : Int) : Int := if a = b then 0 else levB (a.drop (cpre a b)) (b.drop (cpre a b)) mc
noncomputable def d_lev : DefRec := dAt 12
theorem lev_ok : DOk d_lev ["a", "b", "max_cost"] where
  kind := rfl
  co := rfl
  nodup := by decide
  kinds := by decide
  bind := fun pm code doc vals h => by
    obtain ⟨a, b, c, rfl⟩ := len_3 h
    rfl
theorem pySl_from {α : Type} {l : List α} {k : Nat} (h : k ≤ l.length) : pySl (some (k : Int)) none l = l.drop k := by
  have e : clipAt l.length (k : Int) = k := by
    have := clipAt_cast l.length (k : Int)
    rw [if_neg (by omega)] at this
    omega
  unfold pySl
  simp only [Option.elim, e]
  rw [List.take_of_length_le (by simp)]
theorem pySl_to {α : Type} {l : List α} {k : Nat} (h : k ≤ l.length) (h0 : k ≠ 0) : pySl none (some (-(k : Int))) l = l.take (l.length - k) := by
  have e : clipAt l.length (-(k : Int)) = l.length - k := by
    have := clipAt_cast l.length (-(k : Int))
    rw [if_pos (by omega)] at this
    omega
  unfold pySl
  simp only [Option.elim, e, List.drop_zero, Nat.sub_zero]
theorem mkS_eq (a b : List Nat) : (mkS a == mkS b) = decide (a = b) := by
  by_cases q : a = b
  · subst q; simp
  · rw [decide_eq_false q, beq_eq_false_iff_ne]
    intro z
    exact q (by simpa using congrArg (fun s : PySem.Str => s.cps.toList) z)
section
variable {prog : Program} {w : World} {A : Around} {env : Env} {h : Heap}
theorem Ev.slFrom {value : Expr} {lo : Expr} {p pos : Pos} {l : List Nat} {k : Nat} (hv : Ev prog w A env h value (.str (mkS l))) (hl : Ev prog w A env h lo (.int k)) (hk : k ≤ l.length) (hz : l.length ≤ sizeLine)
    (ht : ∀ o r, letTemporaryGo value o r = pure () := by intro _ _; rfl) : Ev prog w A env h (.Subscript value (.Slice (some lo) none none p) pos) (.str (mkS (l.drop k))) := by
  have := Ev.slStr (p := p) (pos := pos) hv (.int hl) .no (by exact hz) ht
  rw [show (mkS l).cps.toList = l from rfl, pySl_from hk] at this
  exact this
theorem Ev.slTo {value hi : Expr} {p bp pos cp : Pos} {ck : Nat} {l : List Nat} {k : Nat} (hv : Ev prog w A env h value (.str (mkS l))) (hl : Ev prog w A env h hi (.int (-(k : Int)))) (hk : k ≤ l.length) (hz : l.length ≤ sizeLine)
    (ht : ∀ o r, letTemporaryGo value o r = pure () := by intro _ _; rfl) : Ev prog w A env h (.Subscript value (.Slice none (some (.BoolOp .Or [hi, .Constant .none ck cp] bp)) none p) pos) (.str (mkS (l.take (l.length - k)))) := by
  have e := EvP.orNone (k := -(k : Int)) rfl (Ev.or2 (p := bp) (y := .Constant .none ck cp) (c := (-(k : Int)) != 0) hl t_int (fun c => by
    rw [if_neg (by simpa using c)]) (fun c => by
    rw [if_pos (by simpa using c)]; exact .cNone))
  have := Ev.slStr (p := p) (pos := pos) hv .no e (by exact hz) ht
  by_cases h0 : k = 0
  · subst h0
    simp only [Int.natCast_zero, Int.neg_zero, if_true] at this
    have e2 : pySl none none l = l := by unfold pySl; simp
    rw [e2] at this
    rw [Nat.sub_zero, List.take_length]
    exact this
  · rw [if_neg (by omega), show (mkS l).cps.toList = l from rfl, pySl_to hk h0] at this
    exact this
theorem Ev.atS {value slice : Expr} {pos : Pos} {l : List Nat} {i : Int} {j : Nat} (hv : Ev prog w A env h value (.str (mkS l))) (hi : Ev prog w A env h slice (.int i)) (hj : seqIndex? i l.length = some j) (hlt : j < l.length) (hz : l.length < 2 ^ 30)
    (hp : PlainIx slice := by intro _ _; exact ⟨_, rfl⟩) : Ev prog w A env h (.Subscript value slice pos) (.str (mkS [l.getD j 0])) := by
  have e : (seqIndex? i (mkS l).length).bind ((mkS l).cps[·]?) = some (l.getD j 0) := by
    rw [show (mkS l).length = l.length from rfl, hj]
    simp [hlt]
  refine .sub (ss_str e ?_ hp) hv hi
  rcases seqIx_pos hj with ⟨h0, h1, _⟩ | ⟨h0, h1, _⟩
  · rw [decide_eq_false (by omega), decide_eq_false (by omega)]; rfl
  · rw [decide_eq_false (by omega), decide_eq_false (by omega)]; rfl
end
theorem seqIx_nat {i n : Nat} (h : i < n) : seqIndex? (i : Int) n = some i := by
  unfold seqIndex?
  simp only [show ¬ (i : Int) < 0 by omega, if_false]
  rw [if_pos (by simp; omega)]; rfl
theorem seqIx_neg {i n : Nat} (h : i < n) : seqIndex? (-(i : Int) - 1) n = some (n - 1 - i) := by
  unfold seqIndex?
  simp only [show (-(i : Int) - 1) < 0 by omega, if_true]
  rw [if_pos (by simp; omega)]
  congr 1
  omega
theorem cpre_drop {a b : List Nat} {i : Nat} (ha : i < a.length) (hb : i < b.length) : cpre (a.drop i) (b.drop i) = if a.getD i 0 = b.getD i 0 then cpre (a.drop (i + 1)) (b.drop (i + 1)) + 1 else 0 := by
  rw [List.drop_eq_getElem_cons ha, List.drop_eq_getElem_cons hb, cpre]
  simp [ha, hb]
theorem cpre_nil {a b : List Nat} {i : Nat} (h : a.length ≤ i ∨ b.length ≤ i) : cpre (a.drop i) (b.drop i) = 0 := by
  rcases h with h | h
  · rw [List.drop_eq_nil_of_le h]; cases b.drop i <;> rfl
  · rw [List.drop_eq_nil_of_le h]; cases a.drop i <;> rfl
theorem cpre_le : ∀ (a b : List Nat), cpre a b ≤ a.length ∧ cpre a b ≤ b.length
  | [], b => by cases b <;> simp [cpre]
  | x :: xs, [] => by simp [cpre]
  | x :: xs, y :: ys => by
    have := cpre_le xs ys
    rw [cpre]
    split <;> simp <;> omega
end Mine
namespace Mine
section
variable {prog : Program} {w : World} {A : Around} {env : Env} {h : Heap} {mg mb : PySem.Str → Option Value} {ds : List DefRec}
theorem small_gen {a b c : Int} {n : Nat} (hn : Builtin.Range.rangeSize a b c = n) (h0 : c > 0) (ha : -(2 ^ 40) ≤ a ∧ a < 2 ^ 40) (hb : -(2 ^ 40) ≤ b ∧ b < 2 ^ 40) (hc : c < 2 ^ 40) (hN : n < 2 ^ 40) : Builtin.Range.small a b c = true := by
  unfold Builtin.Range.small
  rw [hn]
  simp only [Builtin.Range.rangeFitsLong, Bool.and_eq_true, Bool.or_eq_true, decide_eq_true_eq, beq_iff_eq, h0, if_true]
  omega
theorem EvN.listRange {x y : PySem.Str} {p p2 pos pos2 : Pos} {e1 e2 e3 : Expr} {a b c : Int} {n : Nat} (bi : Bi mg mb) (W : Wd mg mb ds h) (hh : A.handled = none) (ge : GE env) (hk1 : env.kindOf "list" = some .globalImplicit) (hk2 : env.kindOf "range" = some .globalImplicit) (hx : x = "list") (hy : y = "range")
    (y1 : Ev prog w A env h e1 (.int a)) (y2 : Ev prog w A env h e2 (.int b)) (y3 : Ev prog w A env h e3 (.int c)) (hc : c ≠ 0) (hc2 : c.natAbs < 1073741824) (hs : Builtin.Range.small a b c = true) (hn : Builtin.Range.rangeSize a b c = n) (hlen : n ≤ 2 ^ 24)
    (he : starEach [.Call (.Name y p2) [e1, e2, e3] [] pos2] env = [(false, eval (.Call (.Name y p2) [e1, e2, e3] [] pos2) env)] := by rfl)
    (he1 : starEach [e1, e2, e3] env = (false, eval e1 env) :: starEach [e2, e3] env := by rfl) (he2 : starEach [e2, e3] env = (false, eval e2 env) :: starEach [e3] env := by rfl) (he3 : starEach [e3] env = (false, eval e3 env) :: starEach [] env := by rfl)
    (hp1 : (backTo pos2 (starEach [e2, e3] env)).any (·.1) = false := by rfl) :
    EvN prog w A env h (.Call (.Name x p) [.Call (.Name y p2) [e1, e2, e3] [] pos2] [] pos) ((List.range n).map fun i : Nat => .int (a + i * c)) := fun P s k hp nw Q E q => by
  subst hx hy
  refine wpAny_Call_Name_kw (wp_global (W.up k) (GN.bi ge hk1 bi.list) ?_)
  refine PyProof.Rows.callWith_type1 (he := he) (wpAny_items_cons (he := he) (wpAny_Call_Name_kw (wp_global (W.up k) (GN.bi ge hk2 bi.range) ?_)))
  refine PyProof.Rows.callWith_type1 (he := he1) (hplain := hp1) ((EvL.cons (he := he1) y1 (EvL.cons (he := he2) y2 (EvL.cons (he := he3) y3 .nil))) TP pos2 s k .tp .tp _ _ fun vs s₁ g r => ?_)
  cases r with
  | cons r1 r => cases r with
    | cons r2 r => cases r with
      | cons r3 r =>
        cases r
        obtain ⟨t, rfl⟩ := r1.int_inv
        obtain ⟨u, rfl⟩ := r2.int_inv
        obtain ⟨v, rfl⟩ := r3.int_inv
        refine call_range_3 hc (wpAny_items_nil ?_) (.inl (PyProof.noPylong_small hc2))
        have hr : IsRange (s₁.heap.push { cls := .type "range", data := .fields #[.int a t, .int b u, .int c v] }) s₁.heap.objs.size a b c t u v := Heap.get?_push_size _ rfl
        refine call_list_range hh hr hs hn hlen fun h' tk acc' c' hk hS hacc => ?_
        have kk : Ext s₁.heap h' := (Ext.rf.push _).tr hk
        refine q _ c' acc' _ (g.trans (.mk' kk)) (none_down g.heap (none_of_size (by rw [Heap.size_push]; exact Nat.le_succ _))) hS ?_
        have key : ∀ (l : List Value) (i : Nat), (∀ (j : Nat) (v : Value), l[j]? = some v → ∃ t, v = Value.int (a + ((i + j : Nat) : Int) * c) t) → RdL (fun z => P z ∧ z ≠ (s₁.heap.push { cls := .type "range", data := .fields #[.int a t, .int b u, .int c v] }).objs.size) h' l ((List.range' i l.length).map fun i : Nat => D.int (a + i * c)) := fun l => by
          induction l with
          | nil => intro i _; exact .nil
          | cons z l ih =>
            intro i hz
            obtain ⟨t, ht⟩ := hz 0 z rfl
            refine .cons (ht ▸ .int _ _) (ih (i + 1) fun j v hv => ?_)
            obtain ⟨t, e⟩ := hz (j + 1) v (by simpa using hv)
            exact ⟨t, by rw [e, show i + (j + 1) = i + 1 + j by omega]⟩
        have hl : acc'.toList.length = n := by simpa using hacc.1
        have := key acc'.toList 0 fun j v hv => by
          obtain ⟨t, e⟩ := hacc.2 j v (by simpa using hv)
          exact ⟨t, by rw [e, Nat.zero_add]⟩
        rw [hl, ← List.range_eq_range'] at this
        exact this
end
section
variable {K : Cx} {n : Nat} {σ σ' : Sg} {H H' : Hp} {O : Oc → Prop}
theorem Blk.assign2 {x y : PySem.Str} {p q pos : Pos} {e : Expr} {d : D} {rest : List Stmt} (z : EvA K n σ H e d) (hx : KO K x) (hy : KO K y) (r : Blk K n rest ((y, .dat d) :: (x, .dat d) :: σ) H O)
    (hw : swappedStores [.Name x p, .Name y q] e K.env = pure none := by rfl) : Blk K n (.Assign [.Name x p, .Name y q] e pos :: rest) σ H O := .seq (fun O' k A B P φ s E G S =>
  wpAny_Assign_two (hw := hw) (z A B P φ s G S _ _ fun v s₁ g rv => wpAny_assign_Name (St.storeK (S.up g) hx (vv := .dat d) rv fun s₂ lk S₂ => wpAny_assign_Name (S₂.store K.F hy (vv := .dat d) (Rd.keep (fun _ h => h) (lk _) rv) fun s₃ S₃ => ⟨φ, _, _, k, S₃⟩)))) r
end
end Mine
namespace Mine
section
variable {prog : Program} {w : World} {A : Around} {env : Env} {h : Heap} {mg mb : PySem.Str → Option Value} {ds : List DefRec}
noncomputable def σ1 (a b : List Nat) (mc : Int) (x : PySem.Str) (i : Int) : Sg := [("a", .dat (.str (mkS a))), ("b", .dat (.str (mkS b))), ("max_cost", .dat (.int mc)), (x, .dat (.int i))]
noncomputable def HR (row : List Int) : Hp := [some ((row.map D.int).map .dat)]
noncomputable def σ2 (a b : List Nat) (mc res : Int) : Sg := [("a", .dat (.str (mkS a))), ("b", .dat (.str (mkS b))), ("max_cost", .dat (.int mc)), ("row", .loc 0), ("result", .dat (.int res))]
noncomputable def σ3 (a b : List Nat) (mc res : Int) (bc : Nat) (dist mini : Int) : Sg := [("a", .dat (.str (mkS a))), ("b", .dat (.str (mkS b))), ("max_cost", .dat (.int mc)), ("row", .loc 0), ("result", .dat (.int res)), ("bchar", .dat (.str (mkS [bc]))), ("distance", .dat (.int dist)), ("minimum", .dat (.int mini))]
theorem sz40 {k : Nat} (h : k ≤ 40) : k ≤ sizeLine := Nat.le_trans h (by decide)
theorem lt40 {k : Nat} (h : k ≤ 40) : k < 2 ^ 40 := Nat.lt_of_le_of_lt h (by decide)
set_option maxHeartbeats 8000000 in
theorem lev_fn (bi : Bi mg mb) (co : Co mg) (hsub : d_sub ∈ ds) {n : Nat} (hn : 2 ≤ n) {a b : List Nat} {mc : Int} (hl : a.length = b.length) (h40 : a.length ≤ 40) (hmc : 0 ≤ mc) (hlow : ∀ c ∈ a ++ b, Builtin.Str.tooLong (Txt.lower (mkS [c])).length = false) :
    Fn prog w mg mb ds (n + 1) d_lev [.str (mkS a), .str (mkS b), .int mc] (.int (levF a b mc)) := Fn.of lev_ok rfl rfl fun env F => by
  have hz : sizeLine = 16777216 := rfl
  conv => arg 3; whnf
  refine Blk.if_ (b := decide (a = b)) (.of fun A h G W V => mkS_eq a b ▸ .cmp o_eq_str (.name (V "a" _ rfl)) (.name (V "b" _ rfl))) (fun hq => ?_) (fun hq => ?_)
  · refine Blk.ret (d := .int 0) (.dat fun A h G W V => .cInt) ?_
    show D.int 0 = .int (levF a b mc)
    unfold levF; rw [if_pos (of_decide_eq_true hq)]
  have hab : a ≠ b := of_decide_eq_false hq
  refine Blk.nil (σ' := argS ["a", "b", "max_cost"] [.str (mkS a), .str (mkS b), .int mc]) ?_ .refl
  refine Blk.assign (d := .int 0) (.dat fun A h G W V => .cInt) (.inl (by rfl)) ?_
  refine Blk.weak (σ' := σ1 a b mc "pre" (0 : Nat)) ?_ (.cons rfl (.cons rfl (.cons rfl (.cons rfl .nil))))
  have cp := cpre_le a b
  refine Blk.cons ?_
  refine Stm.while_ (fun k σ H => ∃ i : Nat, σ = σ1 a b mc "pre" i ∧ H = [] ∧ k = a.length - i ∧ i ≤ a.length ∧ i + cpre (a.drop i) (b.drop i) = cpre a b) ⟨0, rfl, rfl, rfl, Nat.zero_le _, by simp⟩ ?_
  · rintro k σ H ⟨i, rfl, rfl, rfl, hi, hc⟩
    refine ⟨(a.drop i).length != 0 && ((b.drop i).length != 0 && ((mkS [a.getD i 0] == mkS [b.getD i 0]) && true)), .of fun A h G W V => ?_, fun ht => ?_, fun ht => ?_⟩
    · have va := V "a" (.str (mkS a)) rfl
      have vb := V "b" (.str (mkS b)) rfl
      have vp := V "pre" (.int i) rfl
      refine .boolOp (.and (.val (t_str (by show (a.drop i).length ≤ _; simp; omega)) (.slFrom (.name va) (.name vp) hi (by omega))) fun h1 => .and (.val (t_str (by show (b.drop i).length ≤ _; simp; omega)) (.slFrom (.name vb) (.name vp) (by omega) (by omega))) fun h2 => .and (.cmp o_eq_str (.atS (.name va) (.name vp) (seqIx_nat ?_) ?_ (by omega)) (.atS (.name vb) (.name vp) (seqIx_nat ?_) ?_ (by omega))) fun _ => .andNil)
      all_goals (have h1' : (a.drop i).length ≠ 0 := by simpa [PySem.Str.length] using h1); simp at h1'; omega
    · simp only [Bool.and_eq_true, bne_iff_ne, ne_eq, mkS_eq, decide_eq_true_eq, List.length_drop, Bool.true_and, and_true, List.cons.injEq] at ht
      obtain ⟨h1, h2, h3⟩ := ht
      refine Blk.aug (d := .int ((i + 1 : Nat) : Int)) (d₀ := .int i) (d₁ := .int 1) rfl (.dat fun A h G W V => .cInt) i_add (.inl (by rfl)) ?_
      refine Blk.nil (σ' := σ1 a b mc "pre" (i + 1 : Nat)) ?_ (.cons rfl (.cons rfl (.cons rfl (.cons rfl .nil))))
      refine ⟨a.length - (i + 1), by omega, i + 1, rfl, rfl, rfl, by omega, ?_⟩
      rw [← hc, cpre_drop (a := a) (b := b) (i := i) (by omega) (by omega), if_pos h3]
      omega
    · have hp : cpre (a.drop i) (b.drop i) = 0 := by
        by_cases h1 : a.length ≤ i
        · exact cpre_nil (.inl h1)
        · rw [cpre_drop (by omega) (by omega), if_neg]
          intro h3
          rw [mkS_eq, h3] at ht
          simp at ht
          omega
      have hip : i = cpre a b := by omega
      clear hc hp ht
      subst hip
      refine Blk.nil (σ' := σ1 a b mc "pre" (cpre a b : Nat)) ?_ .refl
      generalize hp : cpre a b = p at *
      have hpl : p ≤ a.length := hi
      refine Blk.assign (d := .str (mkS (a.drop p))) (.dat fun A h G W V => .slFrom (.name (V "a" _ rfl)) (.name (V "pre" _ rfl)) hi (by omega)) (.inl (by rfl)) ?_
      refine Blk.assign (d := .str (mkS (b.drop p))) (.dat fun A h G W V => .slFrom (.name (V "b" _ rfl)) (.name (V "pre" _ rfl)) (by omega) (by omega)) (.inl (by rfl)) ?_
      refine Blk.assign (d := .int 0) (.dat fun A h G W V => .cInt) (.inl (by rfl)) ?_
      have hR : levF a b mc = levB (a.drop p) (b.drop p) mc := by unfold levF; rw [if_neg hab, hp]
      rw [hR]
      clear hR
      have hl' : (a.drop p).length = (b.drop p).length := by simp [hl]
      have h40' : (a.drop p).length ≤ 40 := by simp; omega
      have hlow' : ∀ c ∈ a.drop p ++ b.drop p, Builtin.Str.tooLong (Txt.lower (mkS [c])).length = false := fun c hc => hlow c (by
        rcases List.mem_append.mp hc with hc | hc
        · exact List.mem_append_left _ (List.mem_of_mem_drop hc)
        · exact List.mem_append_right _ (List.mem_of_mem_drop hc))
      refine Blk.weak (σ' := σ1 (a.drop p) (b.drop p) mc "post" (-((0 : Nat) : Int))) ?_ (.cons rfl (.cons rfl (.cons rfl (.cons rfl .nil))))
      generalize a.drop p = a at *
      generalize b.drop p = b at *
      clear hlow hl h40 hi cp hab hp hpl hq
      have cp := cpre_le a.reverse b.reverse
      simp only [List.length_reverse] at cp
      refine Blk.cons ?_
      refine Stm.while_ (fun k σ H => ∃ i : Nat, σ = σ1 a b mc "post" (-(i : Int)) ∧ H = [] ∧ k = a.length - i ∧ i ≤ a.length ∧ i + cpre (a.reverse.drop i) (b.reverse.drop i) = cpre a.reverse b.reverse) ⟨0, rfl, rfl, rfl, Nat.zero_le _, by simp⟩ ?_
      rintro k σ H ⟨i, rfl, rfl, rfl, hi, hc⟩
      refine ⟨(a.take (a.length - i)).length != 0 && ((b.take (b.length - i)).length != 0 && ((mkS [a.getD (a.length - 1 - i) 0] == mkS [b.getD (b.length - 1 - i) 0]) && true)), .of fun A h G W V => ?_, fun ht => ?_, fun ht => ?_⟩
      · have va := V "a" (.str (mkS a)) rfl
        have vb := V "b" (.str (mkS b)) rfl
        have vp := V "post" (.int (-(i : Int))) rfl
        refine .boolOp (.and (.val (t_str (by show (a.take _).length ≤ _; simp; omega)) (.slTo (.name va) (.name vp) hi (by omega))) fun h1 => .and (.val (t_str (by show (b.take _).length ≤ _; simp; omega)) (.slTo (.name vb) (.name vp) (by omega) (by omega))) fun h2 => .and (.cmp o_eq_str (.atS (.name va) (.bin o_sub_int (.name vp) .cInt) (seqIx_neg ?_) ?_ (by omega)) (.atS (.name vb) (.bin o_sub_int (.name vp) .cInt) (seqIx_neg ?_) ?_ (by omega))) fun _ => .andNil)
        all_goals (have h1' : (a.take (a.length - i)).length ≠ 0 := by simpa [PySem.Str.length] using h1); simp at h1'; omega
      · simp only [Bool.and_eq_true, bne_iff_ne, ne_eq, mkS_eq, decide_eq_true_eq, List.length_take, and_true, List.cons.injEq] at ht
        obtain ⟨h1, h2, h3⟩ := ht
        refine Blk.aug (d := .int (-((i + 1 : Nat) : Int))) (d₀ := .int (-(i : Int))) (d₁ := .int 1) rfl (.dat fun A h G W V => .cInt) (by rw [show (-((i + 1 : Nat) : Int)) = -(i : Int) - 1 by omega]; exact i_sub) (.inl (by rfl)) ?_
        refine Blk.nil (σ' := σ1 a b mc "post" (-((i + 1 : Nat) : Int))) ?_ (.cons rfl (.cons rfl (.cons rfl (.cons rfl .nil))))
        refine ⟨a.length - (i + 1), by omega, i + 1, rfl, rfl, rfl, by omega, ?_⟩
        rw [← hc, cpre_drop (a := a.reverse) (b := b.reverse) (i := i) (by simp; omega) (by simp; omega), if_pos ?_]
        · omega
        · simp only [List.getD_eq_getElem?_getD] at h3 ⊢
          rw [List.getElem?_reverse (by omega), List.getElem?_reverse (by omega)]
          exact h3
      · have hp : cpre (a.reverse.drop i) (b.reverse.drop i) = 0 := by
          by_cases h1 : a.length ≤ i
          · exact cpre_nil (.inl (by simpa using h1))
          · rw [cpre_drop (by simp; omega) (by simp; omega), if_neg]
            intro h3
            have h3' : a.getD (a.length - 1 - i) 0 = b.getD (b.length - 1 - i) 0 := by
              simp only [List.getD_eq_getElem?_getD] at h3 ⊢
              rw [List.getElem?_reverse (by omega), List.getElem?_reverse (by omega)] at h3
              exact h3
            rw [mkS_eq, h3'] at ht
            simp at ht
            omega
        have hip : i = cpre a.reverse b.reverse := by omega
        clear hc hp ht
        have hR : levB a b mc = levC (a.take (a.length - i)) (b.take (b.length - i)) mc := by unfold levB; rw [← hip]
        rw [hR]
        refine Blk.nil (σ' := σ1 a b mc "post" (-(i : Int))) ?_ .refl
        refine Blk.assign (d := .str (mkS (a.take (a.length - i)))) (.dat fun A h G W V => .slTo (.name (V "a" _ rfl)) (.name (V "post" _ rfl)) hi (by omega)) (.inl (by rfl)) ?_
        refine Blk.assign (d := .str (mkS (b.take (b.length - i)))) (.dat fun A h G W V => .slTo (.name (V "b" _ rfl)) (.name (V "post" _ rfl)) (by omega) (by omega)) (.inl (by rfl)) ?_
        have hl : (a.take (a.length - i)).length = (b.take (b.length - i)).length := by simp; omega
        have h40 : (a.take (a.length - i)).length ≤ 40 := by simp; omega
        have hlow : ∀ c ∈ a.take (a.length - i) ++ b.take (b.length - i), Builtin.Str.tooLong (Txt.lower (mkS [c])).length = false := fun c hc => hlow' c (by
          rcases List.mem_append.mp hc with hc | hc
          · exact List.mem_append_left _ (List.mem_of_mem_take hc)
          · exact List.mem_append_right _ (List.mem_of_mem_take hc))
        refine Blk.weak (σ' := σ1 (a.take (a.length - i)) (b.take (b.length - i)) mc "max_cost" mc) ?_ (.cons rfl (.cons rfl (.cons rfl (.cons rfl .nil))))
        clear hR hip cp hlow' h40' hl'
        generalize a.take (a.length - i) = a at *
        generalize b.take (b.length - i) = b at *
        have sa : a.length ≤ sizeLine := sz40 h40
        have sb : b.length ≤ sizeLine := sz40 (hl ▸ h40)
        refine Blk.if_ (b := !(a.length != 0) || (!(b.length != 0) || false)) (.of fun A h G W V => .boolOp (.or (.not (.val (t_str (x := mkS a) sa) (.name (V "a" _ rfl)))) fun _ => .or (.not (.val (t_str (x := mkS b) sb) (.name (V "b" _ rfl)))) fun _ => .orNil)) (fun hc => ?_) (fun hc => ?_)
        · refine Blk.ret (d := .int (2 * ((a.length : Int) + b.length))) (.dat fun A h G W V => .bin (o_mul_int ?_) (.const W F.ge (F.kindOf rfl) co.move) (.bin o_add_int (Ev.lenS bi W F.ge (F.kindOf rfl) rfl (.name (V "a" _ rfl)) rfl sa) (Ev.lenS bi W F.ge (F.kindOf rfl) rfl (.name (V "b" _ rfl)) rfl sb))) ?_
          · exact .of_left (by decide)
          · show D.int _ = .int _
            unfold levC
            rw [if_pos]
            simp at hc
            rcases hc with hc | hc
            · exact .inl hc
            · exact .inr hc
        simp at hc
        obtain ⟨ha0, hb0⟩ := hc
        have hR : levC a b mc = outerF mc a b 0 ((List.range a.length).map fun i : Nat => 2 + (i : Int) * 2) 0 := by
          unfold levC
          rw [if_neg (by simp [ha0, hb0])]
        rw [hR]
        clear hR
        refine Blk.nil (σ' := σ1 a b mc "max_cost" mc) ?_ .refl
        refine Blk.if_ (b := false) (.of fun A h G W V => ?_) (fun hc => by cases hc) (fun _ => ?_)
        · rw [show false = (decide ((40 : Int) < a.length) || (decide ((40 : Int) < b.length) || false)) by rw [decide_eq_false (by omega), decide_eq_false (by omega)]; rfl]
          exact .boolOp (.or (.cmp o_gt_int (Ev.lenS bi W F.ge (F.kindOf rfl) rfl (.name (V "a" _ rfl)) rfl sa) (.const W F.ge (F.kindOf rfl) co.maxs)) fun _ => .or (.cmp o_gt_int (Ev.lenS bi W F.ge (F.kindOf rfl) rfl (.name (V "b" _ rfl)) rfl sb) (.const W F.ge (F.kindOf rfl) co.maxs)) fun _ => .orNil)
        refine Blk.nil (σ' := σ1 a b mc "max_cost" mc) ?_ .refl
        refine Blk.if_ (b := false) (.of fun A h G W V => ?_) (fun hc => by cases hc) (fun _ => ?_)
        · rw [show false = decide ((b.length : Int) < a.length) by rw [decide_eq_false (by omega)]]
          exact .cmp o_lt_int (Ev.lenS bi W F.ge (F.kindOf rfl) rfl (.name (V "b" _ rfl)) rfl sb) (Ev.lenS bi W F.ge (F.kindOf rfl) rfl (.name (V "a" _ rfl)) rfl sa)
        refine Blk.nil (σ' := σ1 a b mc "max_cost" mc) ?_ .refl
        refine Blk.if_ (b := false) (.of fun A h G W V => ?_) (fun hc => by cases hc) (fun _ => ?_)
        · rw [show false = decide (mc < ((b.length : Int) - a.length) * 2) by rw [decide_eq_false (by omega)]]
          refine .cmp o_gt_int (.bin (o_mul_int ?_) (.bin o_sub_int (Ev.lenS bi W F.ge (F.kindOf rfl) rfl (.name (V "b" _ rfl)) rfl sb) (Ev.lenS bi W F.ge (F.kindOf rfl) rfl (.name (V "a" _ rfl)) rfl sa)) (.const W F.ge (F.kindOf rfl) co.move)) (.name (V "max_cost" _ rfl))
          exact .of_right (by decide)
        refine Blk.nil (σ' := σ1 a b mc "max_cost" mc) ?_ .refl
        refine Blk.assignN (dl := (List.range a.length).map fun i : Nat => .int (2 + (i : Int) * 2)) (fun A h G W V => ?_) (.inl (by rfl)) ?_
        · refine EvN.listRange (n := a.length) (b := 2 * ((a.length : Int) + 1)) bi W G.hand F.ge (F.kindOf rfl) (F.kindOf rfl) rfl rfl (.const W F.ge (F.kindOf rfl) co.move) (.bin (o_mul_int ?_) (.const W F.ge (F.kindOf rfl) co.move) (.bin o_add_int (Ev.lenS bi W F.ge (F.kindOf rfl) rfl (.name (V "a" _ rfl)) rfl sa) .cInt)) (.const W F.ge (F.kindOf rfl) co.move) (by decide) (by decide) ?_ ?_ (by omega)
          · exact .of_left (by decide)
          · have hrs : Builtin.Range.rangeSize 2 (2 * ((a.length : Int) + 1)) 2 = a.length := by
              have := List.length_pos_iff.mpr ha0
              unfold Builtin.Range.rangeSize
              rw [if_pos (by decide), if_pos (show (2 : Int) < 2 * ((a.length : Int) + 1) by omega)]
              omega
            exact small_gen hrs (by decide) (by omega) (by omega) (by omega) (by omega)
          · have := List.length_pos_iff.mpr ha0
            unfold Builtin.Range.rangeSize
            rw [if_pos (by decide), if_pos (show (2 : Int) < 2 * ((a.length : Int) + 1) by omega)]
            omega
        refine Blk.assign (d := .int 0) (.dat fun A h G W V => .cInt) (.inl (by rfl)) ?_
        refine Blk.weak (σ' := σ2 a b mc 0) (H' := HR ((List.range a.length).map fun i : Nat => 2 + (i : Int) * 2)) ?_ (.cons rfl (.cons rfl (.cons rfl (.cons rfl (.cons rfl .nil))))) ⟨rfl, fun k l e => ?_⟩
        rotate_left
        · have q : HR ((List.range a.length).map fun i : Nat => 2 + (i : Int) * 2) = [] ++ [some (((List.range a.length).map fun i : Nat => D.int (2 + (i : Int) * 2)).map VV.dat)] := by simp [HR]
          rw [← q]; exact e
        refine Blk.cons ?_
        refine Stm.for_ (dl := (List.range b.length).map nD) (.dat fun A h G W V => EvI.range0 bi W G.hand F.ge (F.kindOf rfl) rfl (Ev.lenS bi W F.ge (F.kindOf rfl) rfl (.name (V "b" _ rfl)) rfl sb) (lt40 (hl ▸ h40)))
          (fun r σ H => ∃ (i : Nat) (row : List Int) (res : Int), r = (List.range' i (b.length - i)).map nD ∧ i ≤ b.length ∧ row.length = a.length ∧ outerF mc a (b.drop i) i row res = outerF mc a b 0 ((List.range a.length).map fun i : Nat => 2 + (i : Int) * 2) 0 ∧ Sub (σ2 a b mc res) σ ∧ H = HR row)
          ⟨0, _, 0, by rw [List.range_eq_range']; rfl, Nat.zero_le _, by simp, rfl, .refl, rfl⟩ ?_ ?_
        · rintro d r σ H ⟨i, row, res, hr, hi, hrow, hR, hσ, rfl⟩
          have hib : i < b.length := by
            by_cases q : i < b.length
            · exact q
            · rw [show b.length - i = 0 by omega] at hr; cases hr
          rw [show b.length - i = (b.length - (i + 1)) + 1 by omega, List.range'_succ, List.map_cons] at hr
          injection hr with hr1 hr2
          subst hr1 hr2
          have hdr : b.drop i = b.getD i 0 :: b.drop (i + 1) := by
            rw [List.drop_eq_getElem_cons hib]; simp [hib]
          generalize hbc : b.getD i 0 = bc at *
          rw [hdr, outerF] at hR
          refine ⟨_, .name (.inl (by rfl)), ?_⟩
          have hw : Sub (("bindex", .dat (.int i)) :: σ2 a b mc res) (([("bindex", VV.dat (nD i))] : Sg) ++ σ) := .cons rfl (.cons (hσ "a" _ rfl) (.cons (hσ "b" _ rfl) (.cons (hσ "max_cost" _ rfl) (.cons (hσ "row" _ rfl) (.cons (hσ "result" _ rfl) .nil)))))
          refine Blk.weak ?_ hw
          refine Blk.assign (d := .str (mkS [bc])) (.dat fun A h G W V => hbc ▸ .atS (.name (V "b" _ rfl)) (.name (V "bindex" _ rfl)) (seqIx_nat hib) hib (by omega)) (.inl (by rfl)) ?_
          refine Blk.assign2 (d := .int ((i : Int) * 2)) (.dat fun A h G W V => .bin (o_mul_int (.of_right (by decide))) (.name (V "bindex" _ rfl)) (.const W F.ge (F.kindOf rfl) co.move)) (.inl (by rfl)) (.inl (by rfl)) ?_
          refine Blk.assign (d := .int 9223372036854775807) (.dat fun A h G W V => .cInt) (.inl (by rfl)) ?_
          refine Blk.weak (σ' := ("bindex", .dat (.int i)) :: σ3 a b mc ((i : Int) * 2) bc ((i : Int) * 2) 9223372036854775807) ?_ (.cons rfl (.cons rfl (.cons rfl (.cons rfl (.cons rfl (.cons rfl (.cons rfl (.cons rfl (.cons rfl .nil)))))))))
          refine Blk.cons ?_
          refine Stm.for_ (dl := (List.range a.length).map nD) (.dat fun A h G W V => EvI.range0 bi W G.hand F.ge (F.kindOf rfl) rfl (Ev.lenS bi W F.ge (F.kindOf rfl) rfl (.name (V "a" _ rfl)) rfl sa) (lt40 h40))
            (fun r σ H => ∃ (j : Nat) (done rest : List Int) (dist res mini : Int), r = (List.range' j (a.length - j)).map nD ∧ j ≤ a.length ∧ done.length = j ∧ rest.length = a.length - j ∧
              (done ++ (innerF bc (a.drop j) rest dist res mini).1, (innerF bc (a.drop j) rest dist res mini).2) = innerF bc a row ((i : Int) * 2) ((i : Int) * 2) 9223372036854775807 ∧ Sub (σ3 a b mc res bc dist mini) σ ∧ H = HR (done ++ rest))
            ⟨0, [], row, _, _, _, by rw [List.range_eq_range']; rfl, Nat.zero_le _, rfl, by omega, rfl, ?_, rfl⟩ ?_ ?_
          · exact .cons rfl (.cons rfl (.cons rfl (.cons rfl (.cons rfl (.cons rfl (.cons rfl (.cons rfl .nil)))))))
          · rintro d r σ H ⟨j, done, rest, dist, res, mini, hr, hj, hdn, hrest, hR2, hσ, rfl⟩
            have hja : j < a.length := by
              by_cases q : j < a.length
              · exact q
              · rw [show a.length - j = 0 by omega] at hr; cases hr
            rw [show a.length - j = (a.length - (j + 1)) + 1 by omega, List.range'_succ, List.map_cons] at hr
            injection hr with hr1 hr2
            subst hr1 hr2
            have haj : a.drop j = a.getD j 0 :: a.drop (j + 1) := by
              rw [List.drop_eq_getElem_cons hja]; simp [hja]
            generalize hac : a.getD j 0 = ac at *
            cases rest with
            | nil => simp at hrest; omega
            | cons r0 rest =>
              have hac' : ac ∈ a := by rw [← hac]; simp [hja]
              have hbc' : bc ∈ b := by rw [← hbc]; simp [hib]
              rw [haj, innerF] at hR2
              generalize hres' : minP (minP res r0 + 2) (dist + subF (mkS [bc]) (mkS [ac])) = res' at hR2
              refine ⟨_, .name (.inl (by rfl)), ?_⟩
              have hw : Sub (("index", .dat (.int j)) :: σ3 a b mc res bc dist mini) (([("index", VV.dat (nD j))] : Sg) ++ σ) := .cons rfl (.cons (hσ "a" _ rfl) (.cons (hσ "b" _ rfl) (.cons (hσ "max_cost" _ rfl) (.cons (hσ "row" _ rfl) (.cons (hσ "result" _ rfl) (.cons (hσ "bchar" _ rfl) (.cons (hσ "distance" _ rfl) (.cons (hσ "minimum" _ rfl) .nil))))))))
              refine Blk.weak ?_ hw
              refine Blk.assign (d := .int (dist + subF (mkS [bc]) (mkS [ac]))) (.dat fun A h G W V => .bin o_add_int (.name (V "distance" _ rfl)) (.callF (sub_fn co (n := 0) (hlow bc (by simp [hbc'])) (hlow ac (by simp [hac']))) (G.mono (by omega)) W hsub F.ge (F.kindOf rfl) rfl (.cons (.name (V "bchar" _ rfl)) (.cons (hac ▸ .atS (.name (V "a" _ rfl)) (.name (V "index" _ rfl)) (seqIx_nat hja) hja (by omega)) .nil)))) (.inl (by rfl)) ?_
              have hlen : (done ++ r0 :: rest).length = a.length := by simp at hrest ⊢; omega
              have hget : ((done ++ r0 :: rest).map D.int)[j]? = some (.int r0) := by
                rw [List.getElem?_map, List.getElem?_append_right (by omega), hdn]; simp
              refine Blk.assign (d := .int r0) (.flat (fun A h G W V => ?_) (by simp only [D.flat])) (.inl (by rfl)) ?_
              · have v := V "row" (.list ((done ++ r0 :: rest).map D.int)) (fv_loc (k := 0) (dl := (done ++ r0 :: rest).map D.int) rfl rfl)
                exact .sub (ss_list (j := j) (by rw [List.length_map, hlen]; exact seqIx_nat hja) hget (by rw [List.length_map, hlen]; omega)) (.name v) (.name (V "index" (.int j) rfl))
              refine Blk.assign (d := .int (minP res r0 + 2)) (.dat fun A h G W V => .bin o_add_int (.callB W (GN.bi F.ge (F.kindOf rfl) bi.min) (.cons (.name (V "result" _ rfl)) (.cons (.name (V "distance" _ rfl)) .nil)) (c_min2 G.hand)) (.const W F.ge (F.kindOf rfl) co.move)) (.inl (by rfl)) ?_
              refine Blk.assign (d := .int res') (.dat fun A h G W V => hres' ▸ .callB W (GN.bi F.ge (F.kindOf rfl) bi.min) (.cons (.name (V "insert_delete" _ rfl)) (.cons (.name (V "substitute" _ rfl)) .nil)) (c_min2 G.hand)) (.inl (by rfl)) ?_
              refine Blk.setItem (k := 0) (j := j) (l := ((done ++ r0 :: rest).map D.int).map .dat) (d := .int res') (.dat fun A h G W V => .name (V "result" _ rfl)) (.name rfl rfl) (.dat fun A h G W V => .name (V "index" _ rfl)) rfl (by simp at hrest ⊢; omega) (by simp at hrest ⊢; omega) ?_
              have hset : List.set (HR (done ++ r0 :: rest)) 0 (some ((((done ++ r0 :: rest).map D.int).map VV.dat).set j (.dat (.int res')))) = HR (done ++ [res'] ++ rest) := by
                unfold HR
                rw [← hdn]
                simp
              rw [hset]
              have key : ∀ mini', (if res' < mini then res' else mini) = mini' → ∃ (j' : Nat) (done' rest' : List Int) (dist res mini : Int), (List.range' (j + 1) (a.length - (j + 1))).map nD = (List.range' j' (a.length - j')).map nD ∧ j' ≤ a.length ∧ done'.length = j' ∧ rest'.length = a.length - j' ∧
                  (done' ++ (innerF bc (a.drop j') rest' dist res mini).1, (innerF bc (a.drop j') rest' dist res mini).2) = innerF bc a row ((i : Int) * 2) ((i : Int) * 2) 9223372036854775807 ∧ Sub (σ3 a b mc res bc dist mini) (σ3 a b mc res' bc r0 mini') ∧ HR (done ++ [res'] ++ rest) = HR (done' ++ rest') := fun mini' e =>
                ⟨j + 1, done ++ [res'], rest, r0, res', mini', rfl, hja, by simp [hdn], by simp at hrest; omega, by rw [← hR2, ← e]; simp, .refl, rfl⟩
              refine Blk.if_ (b := decide (res' < mini)) (.of fun A h G W V => .cmp o_lt_int (.name (V "result" (.int res') rfl)) (.name (V "minimum" (.int mini) rfl))) (fun hc => ?_) (fun hc => ?_)
              · refine Blk.assign (d := .int res') (.dat fun A h G W V => .name (V "result" _ rfl)) (.inl (by rfl)) ?_
                refine Blk.nil (σ' := σ3 a b mc res' bc r0 res') ?_ (.cons rfl (.cons rfl (.cons rfl (.cons rfl (.cons rfl (.cons rfl (.cons rfl (.cons rfl .nil))))))))
                refine Blk.nil (σ' := σ3 a b mc res' bc r0 res') ?_ .refl
                exact key _ (if_pos (of_decide_eq_true hc))
              · refine Blk.nil (σ' := σ3 a b mc res' bc r0 mini) ?_ (.cons rfl (.cons rfl (.cons rfl (.cons rfl (.cons rfl (.cons rfl (.cons rfl (.cons rfl .nil))))))))
                refine Blk.nil (σ' := σ3 a b mc res' bc r0 mini) ?_ .refl
                exact key _ (if_neg (of_decide_eq_false hc))
          · rintro σ H ⟨j, done, rest, dist, res, mini, hr, hj, hdn, hrest, hR2, hσ, rfl⟩
            have hja : a.length - j = 0 := by
              cases hq : a.length - j with
              | zero => rfl
              | succ m => rw [hq] at hr; cases hr
            have hrn : rest = [] := List.eq_nil_of_length_eq_zero (by omega)
            subst hrn
            rw [List.drop_eq_nil_of_le (by omega)] at hR2
            have hR2' : innerF bc a row ((i : Int) * 2) ((i : Int) * 2) 9223372036854775807 = (done, res, mini) := by
              rw [← hR2]
              show (done ++ [], (res, mini)) = _
              rw [List.append_nil]
            rw [hR2'] at hR
            refine Blk.nil (σ' := σ3 a b mc res bc dist mini) ?_ hσ
            refine Blk.if_ (b := decide (mc < mini)) (.of fun A h G W V => .cmp o_gt_int (.name (V "minimum" _ rfl)) (.name (V "max_cost" _ rfl))) (fun hc => ?_) (fun hc => ?_)
            · refine Blk.ret (d := .int (mc + 1)) (.dat fun A h G W V => .bin o_add_int (.name (V "max_cost" _ rfl)) .cInt) ?_
              show D.int _ = .int _
              rw [← hR]
              dsimp only
              rw [if_pos (of_decide_eq_true hc)]
            · refine Blk.nil (σ' := σ3 a b mc res bc dist mini) ?_ .refl
              refine Blk.nil (σ' := σ2 a b mc res) ?_ (.cons rfl (.cons rfl (.cons rfl (.cons rfl (.cons rfl .nil)))))
              dsimp only at hR
              rw [if_neg (of_decide_eq_false hc)] at hR
              exact ⟨i + 1, done, res, rfl, hib, by omega, hR, .refl, by rw [List.append_nil]⟩
        · rintro σ H ⟨i, row, res, hr, hi, hrow, hR, hσ, rfl⟩
          have hib : b.length - i = 0 := by
            cases hq : b.length - i with
            | zero => rfl
            | succ m => rw [hq] at hr; cases hr
          rw [List.drop_eq_nil_of_le (by omega)] at hR
          refine Blk.nil (σ' := σ2 a b mc res) ?_ hσ
          refine Blk.ret (d := .int res) (.dat fun A h G W V => .name (V "result" _ rfl)) ?_
          show D.int _ = .int _
          rw [← hR, outerF]
end
end Mine
namespace Mine
theorem pySl_map {α β : Type} (f : α → β) (l u : Option Int) (xs : List α) : pySl l u (xs.map f) = (pySl l u xs).map f := by
  unfold pySl; simp only [List.length_map, List.map_take, List.map_drop]
theorem clip_nat (n k : Nat) : clipAt n (k : Int) = min k n := by
  have := clipAt_cast n (k : Int)
  rw [if_neg (by omega)] at this
  omega
theorem pySl_upto {α : Type} (xs : List α) (k : Nat) : pySl none (some (k : Int)) xs = xs.take k := by
  unfold pySl
  simp only [Option.elim, clip_nat, List.drop_zero, Nat.sub_zero]
  by_cases h : k ≤ xs.length
  · rw [Nat.min_eq_left h]
  · rw [Nat.min_eq_right (by omega), List.take_of_length_le (Nat.le_refl _), List.take_of_length_le (by omega)]
theorem pySl_dn {α : Type} (xs : List α) (k : Nat) : pySl (some (k : Int)) none xs = xs.drop k := by
  unfold pySl
  simp only [Option.elim, clip_nat]
  by_cases h : k ≤ xs.length
  · rw [Nat.min_eq_left h, List.take_of_length_le (by simp)]
  · rw [Nat.min_eq_right (by omega), List.drop_eq_nil_of_le (Nat.le_refl _), List.drop_eq_nil_of_le (by omega)]; simp
section
variable {prog : Program} {w : World} {A : Around} {env : Env} {h : Heap}
theorem Ev.slListT {value : Expr} {lo hi : Option Expr} {p pos : Pos} {ds : List D} {l u : Option Int} (hv : Ev prog w A env h value (.list ds)) (hl : EvP prog w A env h lo l) (hu : EvP prog w A env h hi u) (hz : ds.length ≤ sizeLine)
    (hp : PlainIx (.Slice lo hi none p) := by intro _ _; exact ⟨_, rfl⟩) : Ev prog w A env h (.Subscript value (.Slice lo hi none p) pos) (.list (pySl l u ds)) := fun P s k hP nw Q E q => by
  refine Subscript_ (hv P s k hP nw _ _ fun x s₁ g₁ r₁ => wpAny_Slice (hl s₁ (k.tr g₁.heap) _ _ fun vl s₂ g₂ p₂ => hu s₂ ((k.tr g₁.heap).tr g₂.heap) _ _ fun vu s₃ g₃ p₃ => ?_))
  rw [evalPart_none]
  refine wpAny_pure ?_
  obtain ⟨a, n, vs, rfl, -, e1, l1⟩ := r₁.list_inv
  have hn := l1.length
  have hsz : vs.size = ds.length := by simpa using hn
  have e3 := g₃.heap _ _ (g₂.heap _ _ e1)
  have hsl : (s₃.heap.push { cls := .type "slice", data := .fields #[vl, vu, .none] }).IsSliceOf s₃.heap.objs.size vl vu .none := .new ..
  have e4 : IsL (s₃.heap.push { cls := .type "slice", data := .fields #[vl, vu, .none] }) a vs n := IsL.push e3 _
  obtain ⟨ops, ho⟩ := hp (.ref a) (.ref s₃.heap.objs.size)
  refine tail_any (IsL.isList e4).typeIs slot_list_getitem.lookup (wpAny_getItem_list_slice (IsL.isList e4) hsl p₂ p₃ .none (by simp) ?_ (by omega)) ho
  have k3 : Ext s₃.heap ((s₃.heap.push { cls := .type "slice", data := .fields #[vl, vu, .none] }).push { cls := .type "list", data := .seq (slicePick vs l u none) }) := (Ext.rf.push _).push _
  refine q _ _ (((g₁.trans g₂).trans g₃).trans (.hp k3)) ?_
  have e := IsL.new (s₃.heap.push { cls := .type "slice", data := .fields #[vl, vu, .none] }) (slicePick vs l u none)
  have key : ∀ h', RdL P h' vs.toList ds → RdL P h' (slicePick vs l u none).toList (pySl l u ds) := fun h' r => by
    rw [slicePick_plain]
    unfold pySl
    rw [hsz]
    exact (r.drop _).take _
  exact .list (nw _ (none_down ((g₁.heap.tr g₂.heap).tr g₃.heap) (none_of_size (by rw [Heap.size_push]; exact Nat.le_succ _)))) e (key _ (((l1.up g₂.heap).up g₃.heap).up k3))
theorem Ev.upto {α : Type} {value hi : Expr} {p pos : Pos} {f : α → D} {xs : List α} {k : Nat} (hv : Ev prog w A env h value (.list (xs.map f))) (hu : Ev prog w A env h hi (.int k)) (hz : xs.length ≤ sizeLine)
    (hp : PlainIx (.Slice none (some hi) none p) := by intro _ _; exact ⟨_, rfl⟩) : Ev prog w A env h (.Subscript value (.Slice none (some hi) none p) pos) (.list ((xs.take k).map f)) := by
  have := Ev.slListT (p := p) (pos := pos) hv .no (.int hu) (by simpa using hz) hp
  rw [pySl_map, pySl_upto] at this
  exact this
theorem Ev.from {α : Type} {value lo : Expr} {p pos : Pos} {f : α → D} {xs : List α} {k : Nat} (hv : Ev prog w A env h value (.list (xs.map f))) (hl : Ev prog w A env h lo (.int k)) (hz : xs.length ≤ sizeLine)
    (hp : PlainIx (.Slice (some lo) none none p) := by intro _ _; exact ⟨_, rfl⟩) : Ev prog w A env h (.Subscript value (.Slice (some lo) none none p) pos) (.list ((xs.drop k).map f)) := by
  have := Ev.slListT (p := p) (pos := pos) hv (.int hl) .no (by simpa using hz) hp
  rw [pySl_map, pySl_dn] at this
  exact this
theorem Ev.addL {α : Type} {l r : Expr} {p : Pos} {f : α → D} {xs ys : List α} (hl : Ev prog w A env h l (.list (xs.map f))) (hr : Ev prog w A env h r (.list (ys.map f))) (hz : xs.length + ys.length ≤ sizeLine) : Ev prog w A env h (.BinOp l .Add r p) (.list ((xs ++ ys).map f)) := by
  rw [List.map_append]
  exact .bin (o_add_list (by simpa using hz)) hl hr
theorem Ev.atL {α : Type} {value slice : Expr} {pos : Pos} {f : α → D} {xs : List α} {d : α} {i : Nat} (hv : Ev prog w A env h value (.list (xs.map f))) (hi : Ev prog w A env h slice (.int i)) (hlt : i < xs.length) (hz : xs.length ≤ sizeLine) (hd : xs.getD i d = xs.getD i d := by rfl)
    (hp : PlainIx slice := by intro _ _; exact ⟨_, rfl⟩) : Ev prog w A env h (.Subscript value slice pos) (f (xs.getD i d)) := by
  refine .sub (ss_list (j := i) (by rw [List.length_map]; exact seqIx_nat hlt) ?_ (by simpa using hz) hp) hv hi
  rw [List.getElem?_map, List.getElem?_eq_getElem hlt]
  simp [hlt]
theorem Ev.atL' {α : Type} {value slice : Expr} {pos : Pos} {f : α → D} {xs : List α} {d : α} {i : Nat} {z : Int} (hv : Ev prog w A env h value (.list (xs.map f))) (hi : Ev prog w A env h slice (.int z)) (e : (i : Int) = z) (hlt : i < xs.length) (hz : xs.length ≤ sizeLine)
    (hp : PlainIx slice := by intro _ _; exact ⟨_, rfl⟩) : Ev prog w A env h (.Subscript value slice pos) (f (xs.getD i d)) := by
  subst e; exact Ev.atL hv hi hlt hz rfl hp
end
section
variable {prog : Program} {w : World} {A : Around} {env : Env} {h : Heap}
/-- displays of constants (by .cons in a row the elaborator's work doubles at each item) -/
theorem EvL.cInts : ∀ ks : List (Int × Pos), EvL prog w A env h (ks.map fun k => .Constant (.int k.1) 0 k.2) (ks.map fun k => .int k.1)
  | [] => .nil
  | _ :: ks => .cons .cInt (EvL.cInts ks)
theorem EvL.cStrs : ∀ ks : List (PySem.Str × Pos), EvL prog w A env h (ks.map fun k => .Constant (.str k.1) 0 k.2) (ks.map fun k => .str k.1)
  | [] => .nil
  | _ :: ks => .cons .cStr (EvL.cStrs ks)
end
/-! ## _law_numbers -/
noncomputable def defN : List Int := [1, 1, 3, 6, 2, 25, 9, 19, 0, 2]
noncomputable def numbersF (script : List Int) : List Int := (script.take 10).map (fun x => x.fmod 1000000) ++ defN.drop ((script.take 10).map (fun x => x.fmod 1000000)).length
noncomputable def d_num : DefRec := dAt 14
theorem num_ok : DOk d_num ["script"] where
  kind := rfl
  co := rfl
  nodup := by decide
  kinds := by decide
  bind := fun pm code doc vals h => by
    obtain ⟨a, rfl⟩ := len_1 h
    rfl
section
variable {prog : Program} {w : World} {mg mb : PySem.Str → Option Value} {ds : List DefRec}
theorem o_million {A : Around} : OpY prog w A (binaryOp .Pow) (.int 10) (.int 6) (.int 1000000) := by
  have h := o_pow_int (prog := prog) (w := w) (A := A) (a := 10) (n := 6) (by decide) (by decide)
  have e : (10 : Int) ^ (6 : Int).toNat = 1000000 := by decide +kernel
  rwa [e] at h
set_option maxHeartbeats 4000000 in
theorem num_fn (bi : Bi mg mb) {n : Nat} {script : List Int} (hs : script.length ≤ 63) : Fn prog w mg mb ds (n + 1) d_num [dI script] (dI (numbersF script)) := Fn.of num_ok rfl rfl fun env F => by
  have hz : sizeLine = 16777216 := rfl
  conv => arg 3; whnf
  refine Blk.assignU (fr := []) D.int (script.take 10) (fun _ => true) (fun x => D.int (x.fmod 1000000)) (fun A h G W V => EvI.list G.hand (.upto (k := 10) (.name (V "script" _ rfl)) .cInt (by omega))) int_inj rfl rfl (fun h V => .nil) (by simp; omega) (fun A h G W V cenv h₃ x ce k hx lv => ⟨.nil, fun _ => ?_⟩) (.inl (by rfl)) ?_ (swaps_comp F rfl)
  · exact .bin (o_mod_int (by decide)) (.name lv) (.bin (d := .int 1000000) (b := .int 6) o_million .cInt .cInt)
  · rw [List.filter_eq_self.mpr (fun _ _ => rfl)]
    refine Blk.ret (d := dI (numbersF script)) (.dat fun A h G W V => ?_) rfl
    have hv := V "row" _ rfl
    rw [show (script.take 10).map (fun x => D.int (x.fmod 1000000)) = ((script.take 10).map (fun x => x.fmod 1000000)).map D.int by rw [List.map_map]; rfl] at hv
    refine .addL (.name hv) (.from (xs := defN) (.list (EvL.cInts [(1, _), (1, _), (3, _), (6, _), (2, _), (25, _), (9, _), (19, _), (0, _), (2, _)]) (by decide)) (Ev.len bi W F.ge (F.kindOf rfl) rfl (.name hv) (by simp) (by simp; omega)) (by decide)) (by simp [defN]; omega)
end
end Mine
namespace Mine
/-! ## _law_steps -/
noncomputable def dS (xs : List PySem.Str) : D := .list (xs.map .str)
noncomputable def spotF (xs : List PySem.Str) (n : Int) : Nat := (n.fmod ((xs.length : Int) + 1)).toNat
noncomputable def insS (xs : List PySem.Str) (n : Int) (ys : List PySem.Str) : List PySem.Str := xs.take (spotF xs n) ++ ys ++ xs.drop (spotF xs n)
noncomputable def brkF : List Int → List PySem.Str → List PySem.Str
  | [], st => st
  | n :: ns, st => brkF ns (insS st n ["(", ")"])
noncomputable def preL : List PySem.Str := ["\"(\"", "\\", "\")\"", "\"\\\")\""]
noncomputable def stopS (ns : List Int) (k : Nat) : PySem.Str :=
  if (ns.getD 9 0).fmod 5 == (k : Int) then preL.getD (((ns.getD 9 0).fdiv 5).fmod 4).toNat "" ++ mkS [[65, 66, 67, 68, 69].getD k 0] else mkS [[65, 66, 67, 68, 69].getD k 0]
noncomputable def stopsF (ns : List Int) : List Nat → List PySem.Str → List PySem.Str
  | [], st => st
  | k :: ks, st => stopsF ns ks (insS st (ns.getD (4 + k) 0) [stopS ns k])
noncomputable def stepsF (ns : List Int) : List PySem.Str := stopsF ns [0, 1, 2, 3, 4] (brkF (ns.take 4) [])
noncomputable def d_steps : DefRec := dAt 15
theorem steps_ok : DOk d_steps ["numbers"] where
  kind := rfl
  co := rfl
  nodup := by decide
  kinds := by decide
  bind := fun pm code doc vals h => by
    obtain ⟨a, rfl⟩ := len_1 h
    rfl
theorem spot_le (xs : List PySem.Str) (n : Int) : spotF xs n ≤ xs.length ∧ ((spotF xs n : Nat) : Int) = n.fmod ((xs.length : Int) + 1) := by
  have h1 := Int.fmod_nonneg_of_pos n (show (0 : Int) < (xs.length : Int) + 1 by omega)
  have h2 := Int.fmod_lt_of_pos n (show (0 : Int) < (xs.length : Int) + 1 by omega)
  unfold spotF
  omega
theorem insS_len (xs : List PySem.Str) (n : Int) (ys : List PySem.Str) : (insS xs n ys).length = xs.length + ys.length := by
  have := (spot_le xs n).1
  unfold insS
  simp
  omega
noncomputable def σT (ns : List Int) (st : List PySem.Str) : Sg := [("numbers", .dat (dI ns)), ("steps", .dat (dS st))]
section
variable {prog : Program} {w : World} {mg mb : PySem.Str → Option Value} {ds : List DefRec}
set_option maxHeartbeats 4000000 in
theorem steps_fn (bi : Bi mg mb) {n : Nat} {ns : List Int} (hs : ns.length = 10) : Fn prog w mg mb ds (n + 1) d_steps [dI ns] (dS (stepsF ns)) := Fn.of steps_ok rfl rfl fun env F => by
  have hz : sizeLine = 16777216 := rfl
  conv => arg 3; whnf
  refine Blk.assign (d := dS []) (.dat fun A h G W V => .list .nil (by simp)) (.inl (by rfl)) ?_
  refine Blk.weak (σ' := σT ns []) ?_ (.cons rfl (.cons rfl .nil))
  refine Blk.cons ?_
  refine Stm.for_ (dl := (ns.take 4).map .int) (.dat fun A h G W V => EvI.list G.hand (.upto (k := 4) (.name (V "numbers" _ rfl)) .cInt (by omega)))
    (fun r σ H => ∃ (rs : List Int) (st : List PySem.Str), r = rs.map .int ∧ brkF rs st = brkF (ns.take 4) [] ∧ st.length + 2 * rs.length = 8 ∧ Sub (σT ns st) σ ∧ H = []) ⟨_, [], rfl, rfl, by simp; omega, .refl, rfl⟩ ?_ ?_
  · rintro d r σ H ⟨rs, st, hr, hR, hl, hσ, rfl⟩
    cases rs with
    | nil => cases hr
    | cons n₁ rs =>
      rw [List.map_cons] at hr
      injection hr with hr1 hr2
      subst hr1 hr2
      simp only [List.length_cons] at hl
      refine ⟨_, .name (.inl (by rfl)), ?_⟩
      have hw : Sub (("number", .dat (.int n₁)) :: σT ns st) (([("number", VV.dat (.int n₁))] : Sg) ++ σ) := .cons rfl (.cons (hσ "numbers" _ rfl) (.cons (hσ "steps" _ rfl) .nil))
      refine Blk.weak ?_ hw
      obtain ⟨k1, k2⟩ := spot_le st n₁
      refine Blk.assign (d := .int (spotF st n₁ : Nat)) (.dat fun A h G W V => k2 ▸ .bin (o_mod_int (by omega)) (.name (V "number" _ rfl)) (.bin o_add_int (Ev.len bi W F.ge (F.kindOf rfl) rfl (.name (V "steps" _ rfl)) (by simp) (by omega)) .cInt)) (.inl (by rfl)) ?_
      refine Blk.assign (d := dS (insS st n₁ ["(", ")"])) (.dat fun A h G W V => .addL (.addL (.upto (.name (V "steps" _ rfl)) (.name (V "spot" _ rfl)) (by omega)) (.list (.cons .cStr (.cons .cStr .nil)) (by decide)) (by simp; omega)) (.from (.name (V "steps" _ rfl)) (.name (V "spot" _ rfl)) (by omega)) (by simp; omega)) (.inl (by rfl)) ?_
      refine Blk.nil (σ' := σT ns (insS st n₁ ["(", ")"])) ?_ (.cons rfl (.cons rfl .nil))
      exact ⟨rs, _, rfl, by rw [← hR, brkF], by rw [insS_len]; simp; omega, .refl, rfl⟩
  · rintro σ H ⟨rs, st, hr, hR, hl, hσ, rfl⟩
    cases rs with
    | cons => cases hr
    | nil =>
      have hst : st = brkF (ns.take 4) [] := by rw [← hR, brkF]
      have hl8 : (brkF (ns.take 4) []).length = 8 := by rw [← hst]; simpa using hl
      rw [hst] at hσ
      clear hl hR hst
      refine Blk.nil (σ' := σT ns (brkF (ns.take 4) [])) ?_ hσ
      refine Blk.cons ?_
      refine Stm.for_ (dl := (List.range 5).map nD) (.dat fun A h G W V => EvI.range0 bi W G.hand F.ge (F.kindOf rfl) rfl .cInt (by omega))
        (fun r σ H => ∃ (ks : List Nat) (st : List PySem.Str), r = ks.map nD ∧ (∀ k ∈ ks, k < 5) ∧ stopsF ns ks st = stepsF ns ∧ st.length + ks.length = 13 ∧ Sub (σT ns st) σ ∧ H = []) ⟨_, _, rfl, by decide, rfl, by rw [hl8]; rfl, .refl, rfl⟩ ?_ ?_
      · rintro d r σ H ⟨ks, st, hr, hk5, hR, hl, hσ, rfl⟩
        cases ks with
        | nil => cases hr
        | cons k ks =>
          rw [List.map_cons] at hr
          injection hr with hr1 hr2
          subst hr1 hr2
          simp only [List.length_cons] at hl
          have hk := hk5 k (List.mem_cons_self ..)
          refine ⟨_, .name (.inl (by rfl)), ?_⟩
          have hw : Sub (("k", .dat (.int k)) :: σT ns st) (([("k", VV.dat (nD k))] : Sg) ++ σ) := .cons rfl (.cons (hσ "numbers" _ rfl) (.cons (hσ "steps" _ rfl) .nil))
          refine Blk.weak ?_ hw
          obtain ⟨k1, k2⟩ := spot_le st (ns.getD (4 + k) 0)
          refine Blk.assign (d := .int (spotF st (ns.getD (4 + k) 0) : Nat)) (.dat fun A h G W V => k2 ▸ .bin (o_mod_int (by omega)) (.atL (f := D.int) (d := 0) (i := 4 + k) (.name (V "numbers" _ rfl)) (.bin o_add_int .cInt (.name (V "k" _ rfl))) (by omega) (by omega)) (.bin o_add_int (Ev.len bi W F.ge (F.kindOf rfl) rfl (.name (V "steps" _ rfl)) (by simp) (by omega)) .cInt)) (.inl (by rfl)) ?_
          refine Blk.assign (d := .str (mkS [[65, 66, 67, 68, 69].getD k 0])) (.dat fun A h G W V => .atS .cStr (.name (V "k" _ rfl)) (seqIx_nat hk) hk (by decide)) (.inl (by rfl)) ?_
          have hm : ((((ns.getD 9 0).fdiv 5).fmod 4).toNat : Int) = ((ns.getD 9 0).fdiv 5).fmod 4 ∧ (((ns.getD 9 0).fdiv 5).fmod 4).toNat < 4 := by
            have h1 := Int.fmod_nonneg_of_pos ((ns.getD 9 0).fdiv 5) (show (0 : Int) < 4 by decide)
            have h2 := Int.fmod_lt_of_pos ((ns.getD 9 0).fdiv 5) (show (0 : Int) < 4 by decide)
            omega
          have hpl : (preL.getD (((ns.getD 9 0).fdiv 5).fmod 4).toNat "").length ≤ 10 := by
            have h4 := hm.2
            generalize (((ns.getD 9 0).fdiv 5).fmod 4).toNat = j at h4
            match j, h4 with
            | 0, _ => decide
            | 1, _ => decide
            | 2, _ => decide
            | 3, _ => decide
          refine Blk.if_ (b := (ns.getD 9 0).fmod 5 == (k : Int)) (.of fun A h G W V => .cmp o_eq_int (.bin (o_mod_int (by decide)) (.atL (f := D.int) (d := 0) (i := 9) (.name (V "numbers" _ rfl)) .cInt (by omega) (by omega)) .cInt) (.name (V "k" _ rfl))) (fun hc => ?_) (fun hc => ?_)
          · have he : preL.getD (((ns.getD 9 0).fdiv 5).fmod 4).toNat "" ++ mkS [[65, 66, 67, 68, 69].getD k 0] = stopS ns k := by unfold stopS; rw [if_pos hc]
            refine Blk.assign (d := .str (stopS ns k)) (.dat fun A h G W V => ?_) (.inl (by rfl)) ?_
            · rw [← he]
              exact .bin (o_add_str (by show _ + 1 ≤ _; omega)) (.atL' (f := D.str) (xs := preL) (d := "") (.list (.cons .cStr (.cons .cStr (.cons .cStr (.cons .cStr .nil)))) (by decide)) (.bin (o_mod_int (by decide)) (.bin (o_div_int (by decide) (by decide)) (.atL (f := D.int) (d := 0) (i := 9) (.name (V "numbers" _ rfl)) .cInt (by omega) (by omega)) .cInt) .cInt) hm.1 hm.2 (by decide)) (.name (V "stop" _ rfl))
            refine Blk.nil ?_ .refl
            refine Blk.assign (d := dS (insS st (ns.getD (4 + k) 0) [stopS ns k])) (.dat fun A h G W V => .addL (.addL (.upto (.name (V "steps" _ rfl)) (.name (V "spot" _ rfl)) (by omega)) (.list (.cons (.name (V "stop" _ rfl)) .nil) (by show 1 ≤ 16777216; omega)) (by simp; omega)) (.from (.name (V "steps" _ rfl)) (.name (V "spot" _ rfl)) (by omega)) (by simp; omega)) (.inl (by rfl)) ?_
            refine Blk.nil (σ' := σT ns (insS st (ns.getD (4 + k) 0) [stopS ns k])) ?_ (.cons rfl (.cons rfl .nil))
            exact ⟨ks, _, rfl, fun z hz => hk5 z (List.mem_cons_of_mem _ hz), by rw [← hR, stopsF], by rw [insS_len]; simp; omega, .refl, rfl⟩
          · have he : mkS [[65, 66, 67, 68, 69].getD k 0] = stopS ns k := by unfold stopS; rw [if_neg (by rw [hc]; decide)]
            rw [he]
            refine Blk.nil ?_ .refl
            refine Blk.assign (d := dS (insS st (ns.getD (4 + k) 0) [stopS ns k])) (.dat fun A h G W V => .addL (.addL (.upto (.name (V "steps" _ rfl)) (.name (V "spot" _ rfl)) (by omega)) (.list (.cons (.name (V "stop" _ rfl)) .nil) (by show 1 ≤ 16777216; omega)) (by simp; omega)) (.from (.name (V "steps" _ rfl)) (.name (V "spot" _ rfl)) (by omega)) (by simp; omega)) (.inl (by rfl)) ?_
            refine Blk.nil (σ' := σT ns (insS st (ns.getD (4 + k) 0) [stopS ns k])) ?_ (.cons rfl (.cons rfl .nil))
            exact ⟨ks, _, rfl, fun z hz => hk5 z (List.mem_cons_of_mem _ hz), by rw [← hR, stopsF], by rw [insS_len]; simp; omega, .refl, rfl⟩
      · rintro σ H ⟨ks, st, hr, hk5, hR, hl, hσ, rfl⟩
        cases ks with
        | cons => cases hr
        | nil =>
          refine Blk.nil (σ' := σT ns st) ?_ hσ
          refine Blk.ret (d := dS st) (.dat fun A h G W V => .name (V "steps" _ rfl)) ?_
          show dS st = dS (stepsF ns)
          rw [← hR, stopsF]
end
end Mine
namespace Mine
/-! ## _law_hung -/
noncomputable def nL (xs : List Nat) : D := .list (xs.map nD)
noncomputable def chainF (above : List Nat) : Nat → Nat → List Nat
  | 0, _ => []
  | f + 1, node => if node = 0 then [] else node :: chainF above f (above.getD node 0)
noncomputable def lastC (s : PySem.Str) : Nat := s.cps.toList.getLastD 0
noncomputable def hungF : List PySem.Str → List Nat → Nat → List (List Nat) → List Nat × List (List Nat)
  | [], above, _, within => (above, within)
  | s :: ss, above, here, within =>
    if s == "(" then hungF ss (above ++ [here]) above.length within
    else if s == ")" then hungF ss above (above.getD here 0) within
    else hungF ss above here (within.set (lastC s - 65) (chainF above here here))
noncomputable def StepOk (s : PySem.Str) : Prop := s = "(" ∨ s = ")" ∨ (s ≠ "(" ∧ s ≠ ")" ∧ s.length ≤ 20 ∧ s.cps.toList ≠ [] ∧ 65 ≤ lastC s ∧ lastC s ≤ 69)
noncomputable def d_hung : DefRec := dAt 19
theorem hung_ok : DOk d_hung ["steps"] where
  kind := rfl
  co := rfl
  nodup := by decide
  kinds := by decide
  bind := fun pm code doc vals h => by
    obtain ⟨a, rfl⟩ := len_1 h
    rfl
noncomputable def HG (above : List Nat) (within : List (List Nat)) (m : Nat) : Hp := some ((above.map nD).map .dat) :: some ((within.map nL).map .dat) :: List.replicate m none
noncomputable def σH (here : Nat) : Sg := [("above", .loc 0), ("here", .dat (.int here)), ("within", .loc 1)]
theorem hg_len (above : List Nat) (within : List (List Nat)) (m : Nat) : (HG above within m).length = m + 2 := by simp [HG]
theorem hg_set (above : List Nat) (within : List (List Nat)) (m : Nat) (a b : Option (List VV)) : List.set (HG above within m ++ [a]) (m + 2) b = HG above within m ++ [b] := by
  rw [← hg_len above within m, List.set_append_right _ _ (Nat.le_refl _)]
  simp
theorem hg_free (above : List Nat) (within : List (List Nat)) (m : Nat) : HG above within m ++ [none] = HG above within (m + 1) := by
  simp [HG, List.replicate_succ']
theorem hg_get (above : List Nat) (within : List (List Nat)) (m : Nat) (a : Option (List VV)) : (HG above within m ++ [a])[m + 2]? = some a := by
  rw [List.getElem?_append_right (by rw [hg_len]; exact Nat.le_refl _), hg_len]; simp
theorem idx_occ (i : Nat) (h : i < 5) : Builtin.Str.occurrences "ABCDE" (mkS [65 + i]) 0 (Str.length "ABCDE") 1 = [i] := by
  match i, h with
  | 0, _ => decide +kernel
  | 1, _ => decide +kernel
  | 2, _ => decide +kernel
  | 3, _ => decide +kernel
  | 4, _ => decide +kernel
section
variable {prog : Program} {w : World} {A : Around} {env : Env} {h : Heap}
/-- the place of a stop -/
theorem Ev.stopIx {oe : Expr} {apos pos spos upos : Pos} {s : PySem.Str} {ck : Nat} (he : s.cps.toList ≠ []) (h1 : 65 ≤ lastC s) (h2 : lastC s ≤ 69) (hl : s.length ≤ 20) (hv : Ev prog w A env h oe (.str s)) {cc : Pos} {ek : Nat} {ep : Pos}
    {pl : Sem Bool} (hcl : eval (.Call (.Attribute (.Constant (.str "ABCDE") ck cc) "index" apos) [.Subscript oe (.UnaryOp .USub (.Constant (.int 1) ek ep) upos) spos] [] pos) env = (do
      let ov ← eval (.Constant (.str "ABCDE") ck cc) env
      standAt apos.atName
      let (f, first) ← holding [ov] (getMethod ov "index" pl)
      callWith pos f first (backTo pos (starEach [.Subscript oe (.UnaryOp .USub (.Constant (.int 1) ek ep) upos) spos] env)) []) := by rfl)
    (hst : starEach [.Subscript oe (.UnaryOp .USub (.Constant (.int 1) ek ep) upos) spos] env = [(false, eval (.Subscript oe (.UnaryOp .USub (.Constant (.int 1) ek ep) upos) spos) env)] := by rfl) :
    Ev prog w A env h (.Call (.Attribute (.Constant (.str "ABCDE") ck cc) "index" apos) [.Subscript oe (.UnaryOp .USub (.Constant (.int 1) ek ep) upos) spos] [] pos) (.int (lastC s - 65 : Nat)) := by
  have hlen : 0 < s.cps.toList.length := List.length_pos_iff.mpr he
  have hl' : s.cps.toList.length ≤ 20 := hl
  have ey : Ev prog w A env h (.Subscript oe (.UnaryOp .USub (.Constant (.int 1) ek ep) upos) spos) (.str (mkS [s.cps.toList.getD (s.cps.toList.length - 1) 0])) :=
    .atS (l := s.cps.toList) hv (.neg .cInt) (j := s.cps.toList.length - 1) (by
      have := seqIx_neg (i := 0) hlen
      simpa using this) (by omega) (by omega)
  have hc : s.cps.toList.getD (s.cps.toList.length - 1) 0 = lastC s := by
    unfold lastC
    rw [List.getLastD_eq_getLast?, List.getLast?_eq_getElem?, List.getD_eq_getElem?_getD]
  rw [hc, show lastC s = 65 + (lastC s - 65) by omega] at ey
  have ho := idx_occ (lastC s - 65) (by omega)
  have mm : MethY prog w A "index" "str.index" (.str "ABCDE") [.str (mkS [65 + (lastC s - 65)])] (.int ((lastC s - 65 : Nat) : Int)) := m_index (x := "ABCDE") (y := mkS [65 + (lastC s - 65)]) (i := lastC s - 65) (rest := []) ho
  have el : EvL prog w A env h [.Subscript oe (.UnaryOp .USub (.Constant (.int 1) ek ep) upos) spos] [.str (mkS [65 + (lastC s - 65)])] := .cons (he := hst) ey .nil
  have fin := @Ev.meth prog w A env h (.Constant (.str "ABCDE") ck cc) (.Subscript oe (.UnaryOp .USub (.Constant (.int 1) ek ep) upos) spos) [] "index" apos pos "str.index" (.str "ABCDE") (.int (lastC s - 65 : Nat)) [.str (mkS [65 + (lastC s - 65)])] pl mm .cStr el hcl hst rfl
  exact fin
end
section
variable {prog : Program} {w : World} {mg mb : PySem.Str → Option Value} {ds : List DefRec}
noncomputable def Falls (above : List Nat) : Prop := ∀ i, i < above.length → above.getD i 0 ≤ i ∧ (0 < i → above.getD i 0 < i)
noncomputable def σR (s : PySem.Str) (here m node : Nat) : Sg := [("step", .dat (.str s)), ("above", .loc 0), ("here", .dat (.int here)), ("within", .loc 1), ("row", .loc (m + 2)), ("node", .dat (.int node))]
set_option maxHeartbeats 8000000 in
theorem hung_fn (bi : Bi mg mb) {n : Nat} {steps : List PySem.Str} (hs : ∀ s ∈ steps, StepOk s) (hl : steps.length ≤ 1000) :
    Fn prog w mg mb ds (n + 1) d_hung [dS steps] (.tup [nL (hungF steps [0] 0 [[], [], [], [], []]).1, .list ((hungF steps [0] 0 [[], [], [], [], []]).2.map nL)]) := Fn.of hung_ok rfl rfl fun env F => by
  have hz : sizeLine = 16777216 := rfl
  conv => arg 3; whnf
  refine Blk.assignN (dl := [0].map nD) (fun A h G W V => EvN.list (.cons .cInt .nil) (by decide)) (.inl (by rfl)) ?_
  refine Blk.assign (d := .int 0) (.dat fun A h G W V => .cInt) (.inl (by rfl)) ?_
  refine Blk.assignN (dl := [[], [], [], [], []].map nL) (fun A h G W V => EvN.mul (ds := [nL []]) (x := 5) (.list (.cons (.list .nil (by decide)) .nil) (by decide)) .cInt (by decide) (by decide) (by decide)) (.inl (by rfl)) ?_
  refine Blk.weak (σ' := ("steps", .dat (dS steps)) :: σH 0) (H' := HG [0] [[], [], [], [], []] 0) ?_ (.cons rfl (.cons rfl (.cons rfl (.cons rfl .nil)))) .refl
  refine Blk.cons ?_
  refine Stm.for_ (dl := steps.map .str) (.dat fun A h G W V => EvI.list G.hand (.name (V "steps" _ rfl)))
    (fun r σ H => ∃ (ss : List PySem.Str) (above : List Nat) (here : Nat) (within : List (List Nat)) (m : Nat), r = ss.map .str ∧ (∀ s ∈ ss, StepOk s) ∧ hungF ss above here within = hungF steps [0] 0 [[], [], [], [], []] ∧ within.length = 5 ∧ here < above.length ∧ Falls above ∧ above.length + ss.length ≤ 1001 ∧ Sub (σH here) σ ∧ H = HG above within m)
    ⟨steps, [0], 0, _, 0, rfl, hs, rfl, rfl, by decide, fun i h2 => by
      have : i = 0 := by simp at h2; omega
      subst this; decide, by simp; omega, .cons rfl (.cons rfl (.cons rfl .nil)), rfl⟩ ?_ ?_
  · rintro d r σ H ⟨ss, above, here, within, m, hr, hok, hR, hw5, hh, hf, hln, hσ, rfl⟩
    cases ss with
    | nil => cases hr
    | cons s ss =>
      rw [List.map_cons] at hr
      injection hr with hr1 hr2
      subst hr1 hr2
      simp only [List.length_cons] at hln
      have hok' := fun z hz => hok z (List.mem_cons_of_mem s hz)
      refine ⟨_, .name (.inl (by rfl)), ?_⟩
      have hw : Sub (("step", .dat (.str s)) :: σH here) (([("step", VV.dat (.str s))] : Sg) ++ σ) := .cons rfl (.cons (hσ "above" _ rfl) (.cons (hσ "here" _ rfl) (.cons (hσ "within" _ rfl) .nil)))
      refine Blk.weak ?_ hw
      refine Blk.if_ (b := s == "(") (.of fun A h G W V => .cmp o_eq_str (.name (V "step" _ rfl)) .cStr) (fun hq => ?_) (fun hq => ?_)
      · refine Blk.append (k := 0) (l := (above.map nD).map .dat) (d := .int here) rfl rfl (by simp; omega) (.dat fun A h G W V => .name (V "here" _ rfl)) ?_
        have e0 : List.set (HG above within m) 0 (some ((above.map nD).map VV.dat ++ [VV.dat (.int here)])) = HG (above ++ [here]) within m := by simp [HG, nD]
        rw [e0]
        refine Blk.assign (d := .int (above.length : Nat)) (.flat (fun A h G W V => ?_) (by simp only [D.flat])) (.inl (by rfl)) ?_
        · have v := V "above" (.list ((above ++ [here]).map nD)) (fv_loc (k := 0) (dl := (above ++ [here]).map nD) rfl rfl)
          rw [show ((above.length : Nat) : Int) = ((above ++ [here]).length : Nat) - 1 by simp]
          exact .bin o_sub_int (Ev.len bi W F.ge (F.kindOf rfl) rfl (.name v) (by simp) (by simp; omega)) .cInt
        refine Blk.nil (σ' := σH above.length) ?_ (.cons rfl (.cons rfl (.cons rfl .nil)))
        refine Blk.nil (σ' := σH above.length) ?_ .refl
        refine ⟨ss, above ++ [here], above.length, within, m, rfl, hok', by rw [← hR, hungF, if_pos hq], hw5, by simp, fun i h2 => ?_, by simp; omega, .refl, rfl⟩
        by_cases hi : i < above.length
        · rw [List.getD_eq_getElem?_getD, List.getElem?_append_left hi, ← List.getD_eq_getElem?_getD]
          exact hf i hi
        · have : i = above.length := by simp at h2; omega
          subst this
          simp
          omega
      · refine Blk.if_ (b := s == ")") (.of fun A h G W V => .cmp o_eq_str (.name (V "step" _ rfl)) .cStr) (fun hq' => ?_) (fun hq' => ?_)
        · refine Blk.assign (d := .int (above.getD here 0 : Nat)) (.flat (fun A h G W V => ?_) (by simp only [D.flat])) (.inl (by rfl)) ?_
          · have v := V "above" (.list (above.map nD)) (fv_loc (k := 0) (dl := above.map nD) rfl rfl)
            exact Ev.atL (f := nD) (d := 0) (.name v) (.name (V "here" _ rfl)) hh (by omega)
          refine Blk.nil (σ' := σH (above.getD here 0)) ?_ (.cons rfl (.cons rfl (.cons rfl .nil)))
          refine Blk.nil (σ' := σH (above.getD here 0)) ?_ .refl
          refine Blk.nil (σ' := σH (above.getD here 0)) ?_ .refl
          refine ⟨ss, above, above.getD here 0, within, m, rfl, hok', by rw [← hR, hungF, if_neg (by rw [hq]; decide), if_pos hq'], hw5, ?_, hf, by omega, .refl, rfl⟩
          exact Nat.lt_of_le_of_lt (hf here hh).1 hh
        · have hso : s ≠ "(" ∧ s ≠ ")" ∧ s.length ≤ 20 ∧ s.cps.toList ≠ [] ∧ 65 ≤ lastC s ∧ lastC s ≤ 69 := by
            rcases hok s (List.mem_cons_self ..) with h | h | h
            · subst h; simp at hq
            · subst h; simp at hq'
            · exact h
          obtain ⟨_, _, s1, s2, s3, s4⟩ := hso
          refine Blk.assignN (dl := []) (fun A h G W V => EvN.list .nil (by simp)) (.inl (by rfl)) ?_
          refine Blk.assign (d := .int here) (.dat fun A h G W V => .name (V "here" _ rfl)) (.inl (by rfl)) ?_
          refine Blk.weak (σ' := σR s here m here) (H' := HG above within m ++ [some ((([] : List Nat).map nD).map .dat)]) ?_ (.cons rfl (.cons rfl (.cons rfl (.cons rfl (.cons (by rw [hg_len]; rfl) (.cons rfl .nil)))))) .refl
          refine Blk.cons ?_
          refine Stm.while_ (fun k σ H => ∃ (node : Nat) (done : List Nat), node ≤ k ∧ node < above.length ∧ done.length + k = here ∧ done ++ chainF above k node = chainF above here here ∧ σ = σR s here m node ∧ H = HG above within m ++ [some ((done.map nD).map .dat)]) (k := here) ⟨here, [], Nat.le_refl _, hh, by simp, rfl, rfl, rfl⟩ ?_
          rintro k σ' H ⟨node, done, hnk, hna, hdk, hch, rfl, rfl⟩
          refine ⟨decide ((0 : Int) < node), .of fun A h G W V => .cmp o_gt_int (.name (V "node" _ rfl)) .cInt, fun ht => ?_, fun ht => ?_⟩
          · have hn0 : 0 < node := by have := of_decide_eq_true ht; omega
            obtain ⟨k, rfl⟩ : ∃ k', k = k' + 1 := ⟨k - 1, by omega⟩
            rw [chainF, if_neg (by omega)] at hch
            refine Blk.append (k := m + 2) (l := (done.map nD).map .dat) (d := nD node) rfl (hg_get ..) (by simp; omega) (.dat fun A h G W V => .name (V "node" _ rfl)) ?_
            rw [hg_set]
            rw [show (done.map nD).map VV.dat ++ [VV.dat (nD node)] = ((done ++ [node]).map nD).map VV.dat by simp]
            refine Blk.assign (d := .int (above.getD node 0 : Nat)) (.flat (fun A h G W V => ?_) (by simp only [D.flat])) (.inl (by rfl)) ?_
            · have v := V "above" (.list (above.map nD)) (fv_loc (k := 0) (dl := above.map nD) rfl rfl)
              exact Ev.atL (f := nD) (d := 0) (.name v) (.name (V "node" _ rfl)) hna (by omega)
            refine Blk.nil (σ' := σR s here m (above.getD node 0)) ?_ (.cons rfl (.cons rfl (.cons rfl (.cons rfl (.cons rfl (.cons rfl .nil))))))
            have hf' := hf node hna
            exact ⟨k, Nat.lt_succ_self _, above.getD node 0, done ++ [node], by have := hf'.2 hn0; omega, by omega, by simp; omega, by rw [← hch]; simp, rfl, rfl⟩
          · have hn0 : node = 0 := by have := of_decide_eq_false ht; omega
            subst hn0
            have hch0 : chainF above k 0 = [] := by cases k <;> simp [chainF]
            rw [hch0, List.append_nil] at hch
            subst hch
            refine Blk.nil (σ' := σR s here m 0) ?_ .refl
            refine Blk.free (x := "row") (k := m + 2) (dl := (chainF above here here).map nD) rfl (hg_get ..) ?_
            rw [hg_set, hg_free]
            refine Blk.setItem (k := 1) (j := lastC s - 65) (l := (within.map nL).map .dat) (d := nL (chainF above here here)) (.dat fun A h G W V => .name (V "row" _ rfl)) (.name rfl rfl) (.dat fun A h G W V => .stopIx s2 s3 s4 s1 (.name (V "step" _ rfl))) rfl (by simp; omega) (by simp; omega) ?_
            have hset : List.set (HG above within (m + 1)) 1 (some (((within.map nL).map VV.dat).set (lastC s - 65) (.dat (nL (chainF above here here))))) = HG above (within.set (lastC s - 65) (chainF above here here)) (m + 1) := by
              simp [HG, List.map_set]
            rw [hset]
            refine Blk.nil (σ' := σH here) ?_ (.cons rfl (.cons rfl (.cons rfl .nil)))
            refine Blk.nil (σ' := σH here) ?_ .refl
            refine Blk.nil (σ' := σH here) ?_ .refl
            exact ⟨ss, above, here, _, m + 1, rfl, hok', by rw [← hR, hungF, if_neg (by rw [hq]; decide), if_neg (by rw [hq']; decide)], by simp [hw5], hh, hf, by omega, .refl, rfl⟩
  · rintro σ H ⟨ss, above, here, within, m, hr, hok, hR, hw5, hh, hf, hln, hσ, rfl⟩
    cases ss with
    | cons => cases hr
    | nil =>
      rw [hungF] at hR
      refine Blk.nil (σ' := σH here) ?_ hσ
      refine Blk.free (x := "above") (k := 0) (dl := above.map nD) rfl rfl ?_
      refine Blk.free (x := "within") (k := 1) (dl := within.map nL) rfl rfl ?_
      refine Blk.ret (d := .tup [nL above, .list (within.map nL)]) (.dat fun A h G W V => .tup (.cons (.name (V "above" _ rfl)) (.cons (.name (V "within" _ rfl)) .nil)) (by show 2 ≤ 16777216; omega)) ?_
      show D.tup _ = .tup _
      rw [← hR]
end
end Mine
namespace Mine
/-! ## _law_count -/
theorem nDs_inj {xs ys : List Nat} (e : xs.map nD = ys.map nD) : xs = ys := by
  induction xs generalizing ys with
  | nil => cases ys with
    | nil => rfl
    | cons => cases e
  | cons x xs ih => cases ys with
    | nil => cases e
    | cons y ys =>
      rw [List.map_cons, List.map_cons] at e
      injection e with e1 e2
      have := D.int.inj e1
      rw [show x = y by omega, ih e2]
theorem nL_inj {xs : List (List Nat)} : ∀ x ∈ xs, ∀ y ∈ xs, nL x = nL y → x = y := fun _ _ _ _ e => nDs_inj (D.list.inj e)
noncomputable def p1F (node : Nat) (row : List Nat) : Bool := (((row ++ [0]).getD 0 0 : Nat) : Int) == (node : Int)
noncomputable def p2F (above held : List Nat) (node n : Nat) : Bool := (((above.getD n 0 : Nat) : Int) == (node : Int)) && (decide ((0 : Int) < ((held.getD n 0 : Nat) : Int)) && true)
noncomputable def waysF (above : List Nat) (within : List (List Nat)) (held : List Nat) (node : Nat) : Nat :=
  (within.filter (p1F node)).length + ((List.range' 1 4).filter (p2F above held node)).length + if (decide ((0 : Int) < node) && (decide ((held.getD node 0 : Int) < 5) && true)) = true then 1 else 0
noncomputable def mulF : List Nat → Nat → Nat
  | [], c => c
  | k :: ks, c => mulF ks (c * k)
noncomputable def countL (above : List Nat) (within : List (List Nat)) (held : List Nat) : List Nat → Nat → Nat
  | [], c => c
  | node :: ns, c => countL above within held ns (mulF (List.range' 2 (waysF above within held node - 2)) c)
noncomputable def countF (above : List Nat) (within : List (List Nat)) (held : List Nat) : Nat := countL above within held [0, 1, 2, 3, 4] 1 / 2
noncomputable def d_count : DefRec := dAt 20
theorem count_ok : DOk d_count ["above", "within", "held"] where
  kind := rfl
  co := rfl
  nodup := by decide
  kinds := by decide
  bind := fun pm code doc vals h => by
    obtain ⟨a, b, c, rfl⟩ := len_3 h
    rfl
noncomputable def σN (above : List Nat) (within : List (List Nat)) (held : List Nat) (c : Nat) : Sg := [("above", .dat (nL above)), ("within", .dat (.list (within.map nL))), ("held", .dat (nL held)), ("count", .dat (.int c))]
noncomputable def nthS (b : List Stmt) (i j : Nat) : Stmt := (nth (forB (nth b i)) j).getD (.Pass ⟨0, 0, 0, 0⟩)
section
variable {prog : Program} {w : World} {mg mb : PySem.Str → Option Value} {ds : List DefRec}
set_option maxHeartbeats 8000000 in
theorem count_fn (bi : Bi mg mb) {n : Nat} {above held : List Nat} {within : List (List Nat)} (ha : above.length = 5) (hw : within.length = 5) (hh : held.length = 5) (hr : ∀ r ∈ within, r.length ≤ 5) :
    Fn prog w mg mb ds (n + 1) d_count [nL above, .list (within.map nL), nL held] (.int (countF above within held : Nat)) := Fn.of count_ok rfl rfl fun env F => by
  have hz : sizeLine = 16777216 := rfl
  conv => arg 3; whnf
  refine Blk.assign (d := .int (1 : Nat)) (.dat fun A h G W V => .cInt) (by first | exact Or.inl (by rfl) | exact Or.inr (by rfl)) ?_
  refine Blk.weak (σ' := σN above within held 1) ?_ (.cons rfl (.cons rfl (.cons rfl (.cons rfl .nil))))
  refine Blk.cons ?_
  refine Stm.for_ (dl := (List.range 5).map nD) (.dat fun A h G W V => EvI.range0 bi W G.hand F.ge (F.kindOf rfl) rfl .cInt (by omega))
    (fun r σ H => ∃ (ks : List Nat) (c : Nat), r = ks.map nD ∧ (∀ k ∈ ks, k < 5) ∧ countL above within held ks c = countL above within held [0, 1, 2, 3, 4] 1 ∧ Sub (σN above within held c) σ ∧ H = []) ⟨_, 1, rfl, by decide, rfl, .refl, rfl⟩ ?_ ?_
  · rintro d r σ H ⟨ks, c, hks, hk5, hR, hσ, rfl⟩
    cases ks with
    | nil => cases hks
    | cons node ks =>
      rw [List.map_cons] at hks
      injection hks with hr1 hr2
      subst hr1 hr2
      have hn5 := hk5 node (List.mem_cons_self ..)
      refine ⟨_, .name (by first | exact Or.inl (by rfl) | exact Or.inr (by rfl)), ?_⟩
      have hw' : Sub (("node", .dat (nD node)) :: σN above within held c) (([("node", VV.dat (nD node))] : Sg) ++ σ) := .cons rfl (.cons (hσ "above" _ rfl) (.cons (hσ "within" _ rfl) (.cons (hσ "held" _ rfl) (.cons (hσ "count" _ rfl) .nil))))
      refine Blk.weak ?_ hw'
      have hf1 : (within.filter (p1F node)).length ≤ 5 := Nat.le_trans (List.length_filter_le _ _) (by omega)
      have hf2 : ((List.range' 1 4).filter (p2F above held node)).length ≤ 4 := Nat.le_trans (List.length_filter_le _ _) (by simp)
      refine Blk.assign (d := .int ((within.filter (p1F node)).length : Nat)) (.dat fun A h G W V => ?_) (by first | exact Or.inl (by rfl) | exact Or.inr (by rfl)) ?_
      · have c1 := CV.of_lv (V "node" _ rfl) (F.kindOf rfl)
        refine Ev.len (xs := (within.filter (p1F node)).map nL) bi W F.ge (F.kindOf rfl) rfl (EvN.ev ?_) (by simp) (by omega)
        refine EvN.compM (fr := ["node"]) nL within _ nL (EvI.list G.hand (.name (V "within" _ rfl))) nL_inj rfl rfl (.cons c1 .nil) (by omega) fun cenv h₃ row ce k m lv => ⟨.one ?_, fun _ => .name lv⟩
        have hrl := hr row m
        exact .cmp o_eq_int (.atL (f := nD) (xs := row ++ [0]) (d := 0) (i := 0) (.addL (ys := [0]) (.name lv) (.list (.cons .cInt .nil) (by decide)) (by simp; omega)) .cInt (by simp) (by simp; omega)) (.name (c1.inner ce k rfl rfl).lv)
      refine Blk.aug (d₀ := .int ((within.filter (p1F node)).length : Nat)) (d₁ := .int (((List.range' 1 4).filter (p2F above held node)).length : Nat)) rfl (.dat fun A h G W V => ?_) i_add (by first | exact Or.inl (by rfl) | exact Or.inr (by rfl)) ?_
      · have c1 := CV.of_lv (V "node" _ rfl) (F.kindOf rfl)
        have c2 := CV.of_lv (V "above" _ rfl) (F.kindOf rfl)
        have c3 := CV.of_lv (V "held" _ rfl) (F.kindOf rfl)
        refine Ev.len (xs := ((List.range' 1 4).filter (p2F above held node)).map nD) bi W F.ge (F.kindOf rfl) rfl (EvN.ev ?_) (by simp) (by omega)
        refine EvN.compM (fr := ["above", "held", "node"]) nD (List.range' 1 4) _ nD (EvI.range2 bi W G.hand F.ge (F.kindOf rfl) rfl (a := 1) (b := 5) .cInt .cInt (by omega)) nD_inj rfl rfl (.cons c2 (.cons c3 (.cons c1 .nil))) (by simp; omega) fun cenv h₃ j ce k m lv => ⟨.one ?_, fun _ => .name lv⟩
        simp at m
        exact .boolOp (.and (.cmp o_eq_int (.atL (f := nD) (d := 0) (.name (c2.inner ce k rfl rfl).lv) (.name lv) (by omega) (by omega)) (.name (c1.inner ce k rfl rfl).lv)) fun _ => .and (.cmp o_gt_int (.atL (f := nD) (d := 0) (.name (c3.inner ce k rfl rfl).lv) (.name lv) (by omega) (by omega)) .cInt) fun _ => .andNil)
      have hR2 : countL above within held (node :: ks) c = countL above within held ks (mulF (List.range' 2 (waysF above within held node - 2)) c) := rfl
      generalize hw1 : (within.filter (p1F node)).length = w1 at *
      generalize hw2 : ((List.range' 1 4).filter (p2F above held node)).length = w2 at *
      have tail : ∀ (ways : Nat) (O' : Oc → Prop), ways = waysF above within held node → ways ≤ 10 → (∀ c' : Nat, countL above within held ks c' = countL above within held [0, 1, 2, 3, 4] 1 → O' (.next (σN above within held c') [])) →
          Blk (mkCx prog w mg mb ds d_count env F) n [nthS d_count.body 1 3] (("ways", .dat (.int (ways : Nat))) :: ("node", .dat (nD node)) :: σN above within held c) [] O' := by
        intro ways O' hways hw10 hO
        refine Blk.cons ?_
        conv => arg 3; whnf
        refine Stm.for_ (dl := (List.range' 2 (ways - 2)).map nD) (.dat fun A h G W V => EvI.range2 bi W G.hand F.ge (F.kindOf rfl) rfl (a := 2) (b := ways) .cInt (.name (V "ways" _ rfl)) (by omega))
          (fun r σ H => ∃ (js : List Nat) (c' : Nat), r = js.map nD ∧ (∀ j ∈ js, j ≤ 10) ∧ mulF js c' = mulF (List.range' 2 (ways - 2)) c ∧ Sub (σN above within held c') σ ∧ H = []) ⟨_, c, rfl, fun j hj => by simp at hj; omega, rfl, .cons rfl (.cons rfl (.cons rfl (.cons rfl .nil))), rfl⟩ ?_ ?_
        · rintro d r σ H ⟨js, c', hjs, hj10, hM, hσ', rfl⟩
          cases js with
          | nil => cases hjs
          | cons j js =>
            rw [List.map_cons] at hjs
            injection hjs with hr1 hr2
            subst hr1 hr2
            have hj := hj10 j (List.mem_cons_self ..)
            refine ⟨_, .name (by first | exact Or.inl (by rfl) | exact Or.inr (by rfl)), ?_⟩
            have hw'' : Sub (("k", .dat (nD j)) :: σN above within held c') (([("k", VV.dat (nD j))] : Sg) ++ σ) := .cons rfl (.cons (hσ' "above" _ rfl) (.cons (hσ' "within" _ rfl) (.cons (hσ' "held" _ rfl) (.cons (hσ' "count" _ rfl) .nil))))
            refine Blk.weak ?_ hw''
            refine Blk.assign (d := .int (c' * j : Nat)) (.dat fun A h G W V => Int.natCast_mul c' j ▸ .bin (o_mul_int (.of_right (PySem.intBits_le_64 (by omega) (by omega)))) (.name (V "count" _ rfl)) (.name (V "k" _ rfl))) (by first | exact Or.inl (by rfl) | exact Or.inr (by rfl)) ?_
            refine Blk.nil (σ' := σN above within held (c' * j)) ?_ (.cons rfl (.cons rfl (.cons rfl (.cons rfl .nil))))
            exact ⟨js, c' * j, rfl, fun z hz => hj10 z (List.mem_cons_of_mem _ hz), by rw [← hM]; rfl, .refl, rfl⟩
        · rintro σ H ⟨js, c', hjs, hj10, hM, hσ', rfl⟩
          cases js with
          | cons => cases hjs
          | nil =>
            refine Blk.nil (σ' := σN above within held c') ?_ hσ'
            refine Blk.nil (σ' := σN above within held c') ?_ .refl
            exact hO c' (by rw [← hR, hR2, ← hways, ← hM]; rfl)
      have hwf : waysF above within held node = w1 + w2 + if (decide ((0 : Int) < node) && (decide ((held.getD node 0 : Int) < 5) && true)) = true then 1 else 0 := by unfold waysF; rw [hw1, hw2]
      refine Blk.if_ (b := decide ((0 : Int) < node) && (decide ((held.getD node 0 : Int) < 5) && true)) (.of fun A h G W V => .boolOp (.and (.cmp o_gt_int (.name (V "node" _ rfl)) .cInt) fun _ => .and (.cmp o_lt_int (.atL (f := nD) (d := 0) (.name (V "held" _ rfl)) (.name (V "node" _ rfl)) (by omega) (by omega)) .cInt) fun _ => .andNil)) (fun hc => ?_) (fun hc => ?_)
      · refine Blk.aug (d := .int (w1 + w2 + 1 : Nat)) (d₀ := .int ((w1 : Int) + w2)) (d₁ := .int 1) rfl (.dat fun A h G W V => .cInt) (by rw [show ((w1 + w2 + 1 : Nat) : Int) = (w1 : Int) + w2 + 1 by omega]; exact i_add) (by first | exact Or.inl (by rfl) | exact Or.inr (by rfl)) ?_
        refine Blk.nil ?_ .refl
        exact Blk.weak (tail (w1 + w2 + 1) _ (by rw [hwf, if_pos hc]) (by omega) fun c' hc' => ⟨ks, c', rfl, fun z hz => hk5 z (List.mem_cons_of_mem _ hz), hc', .refl, rfl⟩) (.cons rfl (.cons rfl (.cons rfl (.cons rfl (.cons rfl (.cons rfl .nil))))))
      · refine Blk.nil ?_ .refl
        refine Blk.weak (tail (w1 + w2) _ (by rw [hwf, if_neg (by rw [hc]; decide)]; rfl) (by omega) fun c' hc' => ⟨ks, c', rfl, fun z hz => hk5 z (List.mem_cons_of_mem _ hz), hc', .refl, rfl⟩) (.cons ?_ (.cons rfl (.cons rfl (.cons rfl (.cons rfl (.cons rfl .nil))))))
        rw [show ((w1 + w2 : Nat) : Int) = (w1 : Int) + w2 by omega]
        rfl
  · rintro σ H ⟨ks, c, hks, hk5, hR, hσ, rfl⟩
    cases ks with
    | cons => cases hks
    | nil =>
      rw [countL] at hR
      refine Blk.nil (σ' := σN above within held c) ?_ hσ
      refine Blk.ret (d := .int ((c : Int).fdiv 2)) (.dat fun A h G W V => .bin (o_div_int (by decide) (by decide)) (.name (V "count" _ rfl)) .cInt) ?_
      show D.int _ = .int _
      unfold countF
      rw [← hR]
      congr 1
      rw [Int.fdiv_eq_ediv_of_nonneg _ (by decide)]
      rfl
end
end Mine
namespace Mine
section
variable {prog : Program} {w : World} {A : Around} {env : Env} {h : Heap}
theorem EvN.slRev {value st : Expr} {p pos : Pos} {ds : List D} (hv : Ev prog w A env h value (.list ds)) (hs : Ev prog w A env h st (.int (-1))) (hz : ds.length ≤ sizeLine)
    (ht : ∀ o r, letTemporaryGo value o r = pure () := by intro _ _; rfl) : EvN prog w A env h (.Subscript value (.Slice none none (some st) p) pos) ds.reverse := fun P s k hp nw Q E q => by
  refine wpAny_Subscript_Slice_step (T := "list") list_getitem_lookup (ht := ht) (hv P s k hp nw _ _ fun x s₁ g₁ r₁ => wpAny_Slice ?_)
  rw [evalPart_none]
  refine wpAny_pure (wpAny_pure (hs P s₁ (k.tr g₁.heap) hp (nw.up g₁) _ _ fun vs₂ s₂ g₂ r₂ => ?_))
  obtain ⟨a, n, vs, rfl, -, e1, l1⟩ := r₁.list_inv
  obtain ⟨t, rfl⟩ := r₂.int_inv
  have hn := l1.length
  have e2 := g₂.heap _ _ e1
  have hsl : (s₂.heap.push { cls := .type "slice", data := .fields #[.none, .none, .int (-1) t] }).IsSliceOf s₂.heap.objs.size .none .none (.int (-1) t) := .new ..
  have e3 : IsL (s₂.heap.push { cls := .type "slice", data := .fields #[.none, .none, .int (-1) t] }) a vs n := IsL.push e2 _
  refine ⟨e3.isList.typeIs, wpAny_getItem_list_slice e3.isList hsl .none .none (.int _ _) (by simp) ?_ (by simp at hn; omega)⟩
  have k3 : Ext s₂.heap ((s₂.heap.push { cls := .type "slice", data := .fields #[.none, .none, .int (-1) t] }).push { cls := .type "list", data := .seq (slicePick vs none none (some (-1))) }) := (Ext.rf.push _).push _
  have e := IsL.new (s₂.heap.push { cls := .type "slice", data := .fields #[.none, .none, .int (-1) t] }) (slicePick vs none none (some (-1)))
  have nn : s₂.heap.get? (s₂.heap.push { cls := .type "slice", data := .fields #[.none, .none, .int (-1) t] }).objs.size = none := none_of_size (by rw [Heap.size_push]; exact Nat.le_succ _)
  refine q _ _ _ _ ((g₁.trans g₂).trans (.hp k3)) (none_down (g₁.heap.tr g₂.heap) nn) e ?_
  have hrev : (slicePick vs none none (some (-1))).toList = vs.toList.reverse := by rw [krv_pick]
  rw [hrev]
  exact (((l1.up g₂.heap).ne nn).up k3).reverse
end
section
variable {K : Cx} {n : Nat} {σ : Sg} {H : Hp}
theorem ForI.flatN {iter : Expr} {dl : List D} (y : EvNS K n (fv σ H) iter dl) (hf : flats dl = true) : ForI K n σ H iter dl := fun A B P φ s G S Q E q => by
  refine y A _ G S.wds S.flv TP s Ext.rf .tp .tp _ _ fun a m vs s₁ g fr e1 l1 => ?_
  have pa : PP P φ a := S.nwp a fr
  have l2 : RdL (PP P φ) s₁.heap vs.toList dl := l1.flat hf
  have hl := l2.length
  have hu : vs.size = dl.length := by simpa using hl
  have hlt := Heap.lt_size e1
  have hne : a ≠ s₁.heap.objs.size := Nat.ne_of_lt hlt
  have e2 : IsL (s₁.heap.push { cls := .type "list_iterator", data := .fields #[.ref a, .int 0 0] }) a vs m := IsL.push e1 _
  have it2 : (s₁.heap.push { cls := .type "list_iterator", data := .fields #[.ref a, .int 0 0] }).IsListIter s₁.heap.objs.size a 0 := ⟨_, Heap.get?_push_size _ rfl, rfl, rfl⟩
  have itw : ItW K.prog K.w A (PP P φ) s { s₁ with heap := s₁.heap.push { cls := .type "list_iterator", data := .fields #[.ref a, .int 0 0] } } s₁.heap.objs.size [s₁.heap.objs.size, a] [s₁.heap.objs.size] (fun i v => vs[i]? = some v) (fun i h => h.IsListIter s₁.heap.objs.size a i ∧ h.IsList a vs) dl := by
    refine ⟨hu ▸ Walks.list G.hand s₁.heap.objs.size a hne vs, ⟨it2, e2.isList⟩, fun i v hv => ?_, fun i hh' st b hb => ?_, fun b hb => ?_, fun b hb => ?_, fun b hb => ?_, fun i hh st => ?_⟩
    · obtain ⟨d, hd, hr⟩ := l2.getV (i := i) (v := v) (by simpa using hv)
      exact ⟨d, hd, hr.up (Ext.rf.push _)⟩
    · rw [List.mem_singleton] at hb; subst hb
      obtain ⟨⟨o, ho, _, hd⟩, _⟩ := st
      exact ⟨o, _, ho, hd⟩
    · rw [List.mem_singleton] at hb; subst hb
      exact none_down g.heap (none_of_size (Nat.le_refl _))
    · rcases List.mem_cons.mp hb with rfl | hb
      · exact ⟨_, Heap.get?_push_size _ rfl⟩
      · rw [List.mem_singleton] at hb; subst hb; exact ⟨_, e2⟩
    · rcases List.mem_cons.mp hb with rfl | hb
      · exact .inl (List.mem_singleton.mpr rfl)
      · rw [List.mem_singleton] at hb; subst hb; exact .inr (.inl ⟨pa, _, _, e2⟩)
    · obtain ⟨⟨o, ho, hc, hd⟩, _⟩ := st
      exact ⟨o, _, _, ho, hc, hd, by decide⟩
  have g' : Gr s { s₁ with heap := s₁.heap.push { cls := .type "list_iterator", data := .fields #[.ref a, .int 0 0] } } := g.trans (.hp (Ext.rf.push _))
  refine wpAny_pyIter_list e1.isList (q _ _ _ _ _ g' (ItG.ofW itw (fun b hx => ?_) fun b us m t => (S.up g').notT t))
  rcases hx with hx | hx
  · obtain ⟨o, e, z⟩ := S.fa hx
    exact .inr ⟨o, g'.heap _ _ e, z, o, e⟩
  · obtain ⟨k, e⟩ := id hx
    obtain ⟨us, m, hl⟩ := S.isl k b e
    exact .inl ⟨⟨_, hl⟩, fun p => p.2 hx⟩
end
end Mine
namespace Mine
/-! ## _law_masks -/
noncomputable def jn (ss : List PySem.Str) : List Nat := (ss.map fun s => s.cps.toList).flatten
theorem jn_append (a b : List PySem.Str) : jn (a ++ b) = jn a ++ jn b := by simp [jn]
theorem str_append (a b : List Nat) : mkS a ++ mkS b = mkS (a ++ b) := by
  show (⟨a.toArray ++ b.toArray⟩ : PySem.Str) = ⟨(a ++ b).toArray⟩
  rw [List.append_toArray]
theorem join_jn : ∀ ss : List PySem.Str, Str.join "" ss = mkS (jn ss)
  | [] => rfl
  | [x] => by show x = _; simp [jn]
  | x :: y :: r => by
    have ih := join_jn (y :: r)
    show (x ++ ("" : PySem.Str)) ++ Str.join "" (y :: r) = _
    rw [ih]
    show (⟨(x.cps ++ #[]) ++ (jn (y :: r)).toArray⟩ : PySem.Str) = ⟨(jn (x :: y :: r)).toArray⟩
    congr 1
    apply Array.ext'
    simp [jn]
noncomputable def plF (steps : List PySem.Str) (k : Nat) : Nat := (jn (steps.take k)).length
noncomputable def segF (steps : List PySem.Str) (i j : Nat) : List Nat := jn ((steps.drop i).take (j - i))
theorem plF_split (steps : List PySem.Str) {i j : Nat} (h : i ≤ j) : plF steps j = plF steps i + (segF steps i j).length := by
  unfold plF segF
  rw [← List.length_append, ← jn_append]
  congr 2
  rw [show j = i + (j - i) by omega, List.take_add, show i + (j - i) - i = j - i by omega]
theorem cut_seg (steps : List PySem.Str) {i j : Nat} (h : i ≤ j) (hj : j ≤ steps.length) : cutS (mkS (jn steps)) (plF steps i) (some (plF steps j)) = mkS (segF steps i j) := by
  have e1 : jn steps = jn (steps.take i) ++ (segF steps i j ++ jn (steps.drop j)) := by
    unfold segF
    rw [← jn_append, ← jn_append]
    have h1 : (steps.drop i).take (j - i) ++ steps.drop j = steps.drop i := by
      conv => rhs; rw [← List.take_append_drop (j - i) (steps.drop i)]
      rw [List.drop_drop, show i + (j - i) = j by omega]
    rw [h1, List.take_append_drop]
  have e2 := plF_split steps h
  have e3 : plF steps j ≤ (jn steps).length := by
    rw [e1, List.length_append, List.length_append, e2]
    unfold plF
    omega
  show mkS (pySl (some ((plF steps i : Nat) : Int)) (some ((plF steps j : Nat) : Int)) (jn steps)) = _
  unfold pySl
  simp only [Option.elim]
  rw [clip_nat, clip_nat, Nat.min_eq_left e3, Nat.min_eq_left (by omega)]
  congr 1
  rw [show plF steps j - plF steps i = (segF steps i j).length by omega, e1]
  show List.take _ (List.drop (jn (steps.take i)).length _) = _
  rw [List.drop_left, List.take_left]
noncomputable def GoodX (x : PySem.Str) : Prop := x.length ≤ 1000 ∧ escE x.cps.toList false = false ∧ (stripF x).length ≤ 1000 ∧ escE (stripF x).cps.toList false = false
noncomputable def findM (steps : List PySem.Str) (j : Nat) : List (Nat × Nat) → Nat
  | [] => 0
  | (i, inner) :: r => if checkF (mkS (segF steps i j ++ [41])) then inner else findM steps j r
noncomputable def masksL (steps : List PySem.Str) (shift : Nat) : Nat → List PySem.Str → List (Nat × Nat) → List Nat → List Nat
  | _, [], _, m => m
  | j, s :: ss, op, m =>
    if s != ")" then
      if s == "(" then masksL steps shift (j + 1) ss (op ++ [(j, findM steps j op.reverse + 2 ^ (shift + op.length))]) m
      else masksL steps shift (j + 1) ss op (m.set (lastC s - 65) (findM steps j op.reverse))
    else masksL steps shift (j + 1) ss op m
noncomputable def oE (steps : List PySem.Str) (p : Nat × Nat) : D := .tup [.int (plF steps p.1), .int p.2]
noncomputable def d_masks : DefRec := dAt 16
theorem masks_ok : DOk d_masks ["steps", "shift"] where
  kind := rfl
  co := rfl
  nodup := by decide
  kinds := by decide
  bind := fun pm code doc vals h => by
    obtain ⟨a, b, rfl⟩ := len_2 h
    rfl
noncomputable def ifB : Option Stmt → List Stmt
  | some (.If _ b _ _) => b
  | _ => []
noncomputable def masksIf : Stmt := (nth (ifB (nth (forB (nth d_masks.body 4)) 0)) 2).getD (.Pass ⟨0, 0, 0, 0⟩)
noncomputable def σM (steps : List PySem.Str) (shift j : Nat) : Sg := [("text", .dat (.str (mkS (jn steps)))), ("shift", .dat (.int shift)), ("opened", .loc 0), ("masks", .loc 1), ("place", .dat (.int (plF steps j)))]
noncomputable def HM (steps : List PySem.Str) (op : List (Nat × Nat)) (m : List Nat) : Hp := [some ((op.map (oE steps)).map .dat), some ((m.map nD).map .dat)]
theorem oE_flat (steps : List PySem.Str) : ∀ op : List (Nat × Nat), flats (op.map (oE steps)) = true
  | [] => rfl
  | p :: r => by rw [List.map_cons, flats, oE_flat steps r]; simp [oE, D.flat, flats]
section
variable {prog : Program} {w : World} {mg mb : PySem.Str → Option Value} {ds : List DefRec}
set_option maxHeartbeats 8000000 in
theorem masks_fn (bi : Bi mg mb) (hf : d_iter ∈ ds) (hf2 : d_strip ∈ ds) (hf3 : d_chk ∈ ds) {n : Nat} (hn : 4 ≤ n) {steps : List PySem.Str} {shift : Nat} (hs : ∀ s ∈ steps, StepOk s) (hl : steps.length ≤ 100) (hsh : shift ≤ 100)
    (hck : ∀ i j, i ≤ j → j ≤ steps.length → GoodX (mkS (segF steps i j ++ [41]))) :
    Fn prog w mg mb ds (n + 1) d_masks [dS steps, .int shift] (nL (masksL steps shift 0 steps [] [0, 0, 0, 0, 0])) := Fn.of masks_ok rfl rfl fun env F => by
  have hz : sizeLine = 16777216 := rfl
  have hlen : ∀ s ∈ steps, s.length ≤ 20 := fun s h => by
    rcases hs s h with rfl | rfl | h
    · decide
    · decide
    · exact h.2.2.1
  have hjl : (steps.map (·.length)).sum ≤ steps.length * 20 := sum_le steps 20 hlen
  have hjs : (jn steps).length ≤ 2000 := by
    have : (jn steps).length = (steps.map (·.length)).sum := by simp [jn, List.length_flatten, Function.comp_def, PySem.Str.length]
    omega
  conv => arg 3; whnf
  refine Blk.assign (d := .str (mkS (jn steps))) (.dat fun A h G W V => ?_) (.inl (by rfl)) ?_
  · have := m_join (prog := prog) (w := w) (A := A) (x := "") (ys := steps) (by
      rw [show Str.length "" = 0 from rfl]; omega)
    rw [show Txt.join "" steps = mkS (jn steps) from (PySem.StrLaws.glued_eq_join "" steps).trans (join_jn steps)] at this
    exact .meth this .cStr (.cons (.name (V "steps" _ rfl)) .nil)
  refine Blk.assignN (dl := []) (fun A h G W V => EvN.list .nil (by simp)) (.inl (by rfl)) ?_
  refine Blk.assignN (dl := [0, 0, 0, 0, 0].map nD) (fun A h G W V => EvN.mul (ds := [nD 0]) (x := 5) (.list (.cons .cInt .nil) (by decide)) .cInt (by decide) (by decide) (by decide)) (.inl (by rfl)) ?_
  refine Blk.assign (d := .int 0) (.dat fun A h G W V => .cInt) (.inl (by rfl)) ?_
  refine Blk.weak (σ' := ("steps", .dat (dS steps)) :: σM steps shift 0) (H' := HM steps [] [0, 0, 0, 0, 0]) ?_ (.cons rfl (.cons rfl (.cons rfl (.cons rfl (.cons rfl (.cons rfl .nil)))))) .refl
  refine Blk.cons ?_
  refine Stm.for_ (dl := steps.map .str) (.dat fun A h G W V => EvI.list G.hand (.name (V "steps" _ rfl)))
    (fun r σ H => ∃ (j : Nat) (op : List (Nat × Nat)) (m : List Nat), r = (steps.drop j).map .str ∧ j ≤ steps.length ∧ (∀ p ∈ op, p.1 ≤ j) ∧ op.length ≤ j ∧ m.length = 5 ∧ masksL steps shift j (steps.drop j) op m = masksL steps shift 0 steps [] [0, 0, 0, 0, 0] ∧ Sub (σM steps shift j) σ ∧ H = HM steps op m)
    ⟨0, [], _, rfl, Nat.zero_le _, by simp, by simp, rfl, rfl, .cons rfl (.cons rfl (.cons rfl (.cons rfl (.cons rfl .nil)))), rfl⟩ ?_ ?_
  · rintro d r σ H ⟨j, op, m, hr, hj, hop, hol, hm5, hR, hσ, rfl⟩
    have hjl : j < steps.length := by
      by_cases q : j < steps.length
      · exact q
      · rw [List.drop_eq_nil_of_le (by omega)] at hr; cases hr
    rw [List.drop_eq_getElem_cons hjl, List.map_cons] at hr
    injection hr with hr1 hr2
    subst hr1 hr2
    rw [List.drop_eq_getElem_cons hjl] at hR
    generalize hsj : steps[j] = s at *
    have hsm : s ∈ steps := hsj ▸ List.getElem_mem hjl
    have hpl : plF steps (j + 1) = plF steps j + s.length := by
      unfold plF
      rw [List.take_add_one, List.getElem?_eq_getElem hjl, hsj, jn_append, List.length_append]
      simp [jn, PySem.Str.length]
    refine ⟨_, .name (.inl (by rfl)), ?_⟩
    have hw : Sub (("step", .dat (.str s)) :: σM steps shift j) (([("step", VV.dat (.str s))] : Sg) ++ σ) := .cons rfl (.cons (hσ "text" _ rfl) (.cons (hσ "shift" _ rfl) (.cons (hσ "opened" _ rfl) (.cons (hσ "masks" _ rfl) (.cons (hσ "place" _ rfl) .nil)))))
    refine Blk.weak ?_ hw
    have tail : ∀ (op' : List (Nat × Nat)) (m' : List Nat) (O' : Oc → Prop), O' (.next (σM steps shift (j + 1)) (HM steps op' m')) →
        Blk (mkCx prog w mg mb ds d_masks env F) n [nthS d_masks.body 4 1] (("step", .dat (.str s)) :: σM steps shift j) (HM steps op' m') O' := by
      intro op' m' O' hO
      have ht : nthS d_masks.body 4 1 = nthS d_masks.body 4 1 := rfl
      conv => arg 3; arg 1; whnf
      refine Blk.aug (d := .int (plF steps (j + 1) : Nat)) (d₀ := .int (plF steps j)) (d₁ := .int (s.length : Nat)) rfl (.dat fun A h G W V => Ev.lenS bi W F.ge (F.kindOf rfl) rfl (.name (V "step" _ rfl)) rfl (by have := hlen s hsm; omega)) (by rw [hpl, Int.natCast_add]; exact i_add) (.inl (by rfl)) ?_
      exact Blk.nil (σ' := σM steps shift (j + 1)) hO (.cons rfl (.cons rfl (.cons rfl (.cons rfl (.cons rfl .nil)))))
    have done : ∀ (op' : List (Nat × Nat)) (m' : List Nat), (∀ p ∈ op', p.1 ≤ j + 1) → op'.length ≤ j + 1 → m'.length = 5 → masksL steps shift (j + 1) (steps.drop (j + 1)) op' m' = masksL steps shift 0 steps [] [0, 0, 0, 0, 0] →
        ∃ (j' : Nat) (op : List (Nat × Nat)) (m : List Nat), (steps.drop (j + 1)).map D.str = (steps.drop j').map .str ∧ j' ≤ steps.length ∧ (∀ p ∈ op, p.1 ≤ j') ∧ op.length ≤ j' ∧ m.length = 5 ∧ masksL steps shift j' (steps.drop j') op m = masksL steps shift 0 steps [] [0, 0, 0, 0, 0] ∧ Sub (σM steps shift j') (σM steps shift (j + 1)) ∧ HM steps op' m' = HM steps op m :=
      fun op' m' h1 h2 h3 h4 => ⟨j + 1, op', m', rfl, hjl, h1, h2, h3, h4, .refl, rfl⟩
    have hop1 : ∀ p ∈ op, p.1 ≤ j + 1 := fun p hp => Nat.le_succ_of_le (hop p hp)
    refine Blk.if_ (b := s != ")") (.of fun A h G W V => .cmp o_ne_str (.name (V "step" _ rfl)) .cStr) (fun hq => ?_) (fun hq => ?_)
    rotate_left
    · refine Blk.nil (σ' := ("step", .dat (.str s)) :: σM steps shift j) ?_ .refl
      exact tail op m _ (done op m hop1 (by omega) hm5 (by rw [← hR, masksL, if_neg (by rw [hq]; decide)]))
    · rw [masksL, if_pos hq] at hR
      generalize hM : findM steps j op.reverse = M at hR
      have rest2 : ∀ (O' : Oc → Prop), (∀ (op' : List (Nat × Nat)) (m' : List Nat), (∀ p ∈ op', p.1 ≤ j + 1) → op'.length ≤ j + 1 → m'.length = 5 → masksL steps shift (j + 1) (steps.drop (j + 1)) op' m' = masksL steps shift 0 steps [] [0, 0, 0, 0, 0] → O' (.next (("step", .dat (.str s)) :: σM steps shift j) (HM steps op' m'))) →
          Blk (mkCx prog w mg mb ds d_masks env F) n [masksIf] (("mask", .dat (.int M)) :: ("step", .dat (.str s)) :: σM steps shift j) (HM steps op m) O' := by
        intro O' hO
        conv => arg 3; arg 1; whnf
        refine Blk.if_ (b := s == "(") (.of fun A h G W V => .cmp o_eq_str (.name (V "step" _ rfl)) .cStr) (fun hq' => ?_) (fun hq' => ?_)
        · rw [if_pos hq'] at hR
          have hcast : ((M + 2 ^ (shift + op.length) : Nat) : Int) = (M : Int) + 2 ^ (((shift : Int) + (op.length : Nat)).toNat) := by
            rw [show ((shift : Int) + (op.length : Nat)).toNat = shift + op.length by omega]
            simp
          refine Blk.append (k := 0) (l := (op.map (oE steps)).map .dat) (d := oE steps (j, M + 2 ^ (shift + op.length))) rfl rfl (by simp; omega) (.flat (fun A h G W V => ?_) (by simp [oE, D.flat, flats])) ?_
          · have v := V "opened" (.list (op.map (oE steps))) (fv_loc (k := 0) (dl := op.map (oE steps)) rfl rfl)
            unfold oE
            rw [hcast]
            refine .tup (.cons (.name (V "place" _ rfl)) (.cons (.bin o_add_int (.name (V "mask" _ rfl)) (.bin (o_pow_int (by omega) ?_) .cInt (.bin o_add_int (.name (V "shift" _ rfl)) (Ev.len bi W F.ge (F.kindOf rfl) rfl (.name v) (by simp) (by omega))))) .nil)) (by show 2 ≤ 16777216; omega)
            rw [show Builtin.Int.intBits 2 = 2 by decide]
            omega
          refine Blk.nil (σ' := ("step", .dat (.str s)) :: σM steps shift j) ?_ (.cons rfl (.cons rfl (.cons rfl (.cons rfl (.cons rfl (.cons rfl .nil))))))
          have e0 : List.set (HM steps op m) 0 (some ((op.map (oE steps)).map VV.dat ++ [VV.dat (oE steps (j, M + 2 ^ (shift + op.length)))])) = HM steps (op ++ [(j, M + 2 ^ (shift + op.length))]) m := by simp [HM]
          rw [e0]
          have hR' : masksL steps shift (j + 1) (steps.drop (j + 1)) (op ++ [(j, M + 2 ^ (shift + op.length))]) m = masksL steps shift 0 steps [] [0, 0, 0, 0, 0] := hR
          refine Blk.nil (σ' := ("step", .dat (.str s)) :: σM steps shift j) (hO _ _ (fun p hp => ?_) (by simp; omega) hm5 hR') .refl
          rcases List.mem_append.mp hp with hp | hp
          · exact hop1 p hp
          · rw [List.mem_singleton] at hp; subst hp; exact Nat.le_succ _
        · rw [if_neg (by rw [hq']; decide)] at hR
          have hso : s ≠ "(" ∧ s ≠ ")" ∧ s.length ≤ 20 ∧ s.cps.toList ≠ [] ∧ 65 ≤ lastC s ∧ lastC s ≤ 69 := by
            rcases hs s hsm with h | h | h
            · subst h; simp at hq'
            · subst h; simp at hq
            · exact h
          obtain ⟨_, _, s1, s2, s3, s4⟩ := hso
          refine Blk.setItem (k := 1) (j := lastC s - 65) (l := (m.map nD).map .dat) (d := nD M) (.dat fun A h G W V => .name (V "mask" _ rfl)) (.name rfl rfl) (.dat fun A h G W V => .stopIx s2 s3 s4 s1 (.name (V "step" _ rfl))) rfl (by simp; omega) (by simp; omega) ?_
          have e0 : List.set (HM steps op m) 1 (some (((m.map nD).map VV.dat).set (lastC s - 65) (.dat (nD M)))) = HM steps op (m.set (lastC s - 65) M) := by simp [HM, List.map_set]
          rw [e0]
          refine Blk.nil (σ' := ("step", .dat (.str s)) :: σM steps shift j) ?_ (.cons rfl (.cons rfl (.cons rfl (.cons rfl (.cons rfl (.cons rfl .nil))))))
          exact Blk.nil (σ' := ("step", .dat (.str s)) :: σM steps shift j) (hO _ _ hop1 (by omega) (by simp [hm5]) hR) .refl
      refine Blk.assign (d := .int (0 : Nat)) (.dat fun A h G W V => .cInt) (.inl (by rfl)) ?_
      refine Blk.cons ?_
      have hgood : ∀ i, i ≤ j → GoodX (mkS (segF steps i j ++ [41])) := fun i hi => hck i j hi (Nat.le_of_lt hjl)
      refine Stm.for_ (dl := op.reverse.map (oE steps)) (ForI.flatN (fun A h G W V => ?_) (oE_flat steps _))
        (fun r σ H => ∃ rs : List (Nat × Nat), r = rs.map (oE steps) ∧ (∀ p ∈ rs, p.1 ≤ j) ∧ findM steps j rs = M ∧ Sub (("mask", .dat (.int (0 : Nat))) :: ("step", .dat (.str s)) :: σM steps shift j) σ ∧ H = HM steps op m)
        ⟨op.reverse, rfl, fun p hp => hop p (by simpa using hp), hM, .refl, rfl⟩ ?_ ?_
      · have v := V "opened" (.list (op.map (oE steps))) (fv_loc (k := 0) (dl := op.map (oE steps)) rfl rfl)
        rw [List.map_reverse]
        exact EvN.slRev (.name v) (.neg .cInt) (by simp; omega)
      · rintro d r σ H ⟨rs, hrr, hrj, hF, hσ2, rfl⟩
        cases rs with
        | nil => cases hrr
        | cons p rs =>
          obtain ⟨i, inner⟩ := p
          rw [List.map_cons] at hrr
          injection hrr with hr1 hr2
          subst hr1 hr2
          have hij : i ≤ j := hrj (i, inner) (List.mem_cons_self ..)
          obtain ⟨g1, g2, g3, g4⟩ := hgood i hij
          have hsl : (mkS (segF steps i j)).length ≤ 2000 := by
            have := g1
            simp only [PySem.Str.length, List.size_toArray, List.length_append] at this ⊢
            omega
          refine ⟨_, .pair (.inl (by rfl)) (.inl (by rfl)), ?_⟩
          have hw2 : Sub (("inner", .dat (.int inner)) :: ("start", .dat (.int (plF steps i))) :: ("mask", .dat (.int (0 : Nat))) :: ("step", .dat (.str s)) :: σM steps shift j) (([("inner", VV.dat (.int inner)), ("start", VV.dat (.int (plF steps i)))] : Sg) ++ σ) :=
            .cons rfl (.cons rfl (.cons (hσ2 "mask" _ rfl) (.cons (hσ2 "step" _ rfl) (.cons (hσ2 "text" _ rfl) (.cons (hσ2 "shift" _ rfl) (.cons (hσ2 "opened" _ rfl) (.cons (hσ2 "masks" _ rfl) (.cons (hσ2 "place" _ rfl) .nil))))))))
          refine Blk.weak ?_ hw2
          refine Blk.if_ (b := checkF (mkS (segF steps i j ++ [41]))) (.of fun A h G W V => .val t_bool (.callF (chk_fn bi hf hf2 (n := 3) (by omega) g1 g2 g3 g4) (G.mono (by omega)) W hf3 F.ge (F.kindOf rfl) rfl (.cons ?_ .nil))) (fun hc => ?_) (fun hc => ?_)
          · have e := cut_seg steps hij (Nat.le_of_lt hjl)
            rw [← str_append, ← e]
            refine .bin (o_add_str ?_) (.slStr (.name (V "text" (.str (mkS (jn steps))) rfl)) (.int (.name (V "start" _ rfl))) (.int (.name (V "place" _ rfl))) ?_) .cStr
            · rw [e]
              show (mkS (segF steps i j)).length + 1 ≤ 16777216
              omega
            · show (jn steps).length ≤ 16777216
              omega
          · refine Blk.assign (d := .int inner) (.dat fun A h G W V => .name (V "inner" _ rfl)) (.inl (by rfl)) ?_
            have hMi : inner = M := by rw [← hF, findM, if_pos hc]
            subst hMi
            refine Blk.brk (σ' := ("mask", .dat (.int inner)) :: ("step", .dat (.str s)) :: σM steps shift j) ?_ (.cons rfl (.cons rfl (.cons rfl (.cons rfl (.cons rfl (.cons rfl (.cons rfl .nil)))))))
            exact rest2 _ fun op' m' a b c d => tail op' m' _ (done op' m' a b c d)
          · refine Blk.nil (σ' := ("mask", .dat (.int (0 : Nat))) :: ("step", .dat (.str s)) :: σM steps shift j) ?_ (.cons rfl (.cons rfl (.cons rfl (.cons rfl (.cons rfl (.cons rfl (.cons rfl .nil)))))))
            refine Blk.nil (σ' := ("mask", .dat (.int (0 : Nat))) :: ("step", .dat (.str s)) :: σM steps shift j) ?_ .refl
            exact ⟨rs, rfl, fun p hp => hrj p (List.mem_cons_of_mem _ hp), by rw [← hF, findM, if_neg (by rw [hc]; decide)], .refl, rfl⟩
      · rintro σ H ⟨rs, hrr, hrj, hF, hσ2, rfl⟩
        cases rs with
        | cons => cases hrr
        | nil =>
          have hM0 : M = 0 := hF.symm
          subst hM0
          exact Blk.nil (σ' := ("mask", .dat (.int (0 : Nat))) :: ("step", .dat (.str s)) :: σM steps shift j) (rest2 _ fun op' m' a b c d => tail op' m' _ (done op' m' a b c d)) hσ2
  · rintro σ H ⟨j, op, m, hr, hj, hop, hol, hm5, hR, hσ, rfl⟩
    have hjl : steps.length ≤ j := by
      by_cases q : j < steps.length
      · rw [List.drop_eq_getElem_cons q] at hr; cases hr
      · omega
    rw [List.drop_eq_nil_of_le hjl, masksL] at hR
    refine Blk.nil (σ' := σM steps shift j) ?_ hσ
    refine Blk.free (x := "masks") (k := 1) (dl := m.map nD) rfl rfl ?_
    refine Blk.ret (d := nL m) (.dat fun A h G W V => .name (V "masks" _ rfl)) ?_
    show nL m = nL _
    rw [hR]
end
end Mine
namespace Mine
/-- distinct new lists that read as one row -/
noncomputable def RowsL (h₀ : Heap) (Da : Addr) (row : List D) (h : Heap) (vs : List Value) : Prop :=
  ∃ bs : List Addr, vs = bs.map .ref ∧ bs.Nodup ∧ ∀ b ∈ bs, b ≠ Da ∧ h₀.get? b = none ∧ ∃ us n, IsL h b us n ∧ RdL TP h us.toList row
theorem RowsL.keep {h₀ h h' : Heap} {Da : Addr} {row : List D} {vs : List Value} (r : RowsL h₀ Da row h vs) (k : LK TP h h') : RowsL h₀ Da row h' vs :=
  let ⟨bs, e1, e2, e3⟩ := r
  ⟨bs, e1, e2, fun b hb => let ⟨d1, d2, us, n, i, q⟩ := e3 b hb; ⟨d1, d2, us, n, k.1 _ _ _ i trivial, q.keep (fun _ h => h) k⟩⟩
section
variable {prog : Program} {w : World} {A : Around} {env : Env} {h : Heap}
theorem comp_coreR {elt iter : Expr} {x : PySem.Str} {px : Pos} {scope : Scope} {pos : Pos} {N : Addr → Prop} {s s₂ : Shared} {I : Addr} {fp wr : List Addr} {P : Nat → Value → Prop} {St : Nat → Heap → Prop} {ds : List D} {E : Value → Shared → Prop}
    (kh : Ext h s.heap) (hp : HP N h) (nw : Nw N s) (gr : Gr s s₂) (it : ItW prog w A N s s₂ I fp wr P St ds) (hkind : scope.kind = .function) (hx : scope.names.lookup x = some .local ∨ scope.names.lookup x = some .cell)
    (hnc : ∀ y ∈ scope.names, y.2 = .cell → scope.names.lookup y.1 = some .cell) (hfree : ∀ y ∈ scope.names, y.2 = .free → (env.cells.lookup y.1).isSome = true) (hz : ds.length ≤ sizeLine)
    (row : List D) (hrow : flats row = true) (body : ∀ (cenv : Env) (h₃ : Heap), EvN prog w A cenv h₃ elt row)
    {RR : Value → Addr → Result → Shared → Prop}
    (hRR : ∀ (a C : Addr) (s' : Shared) (m : PySem.Str → Option Value) (n : Nat) (items : Array Value), Off wr s₂ s' → s'.heap.Ns C m → IsL s'.heap a items n → RowsL s₂.heap a row s'.heap items.toList → items.size = ds.length → s₂.heap.get? a = none → s₂.heap.get? C = none → a ≠ C →
      RR (.ref a) C (.ok .next) s') :
    wpAny (model prog w) A (newList []) (fun acc s₃ => wpAny (model prog w) A (newFunctionEnv scope env.globals (clOf scope.names env []) [] env.qual none .none (some env)) (fun cenv s₄ =>
      codeAny (model prog w) A (.compStart (.ListComp elt [⟨.Name x px, iter, [], 0⟩] scope pos) 0 (.ref I) acc { cenv with scope := relabel scope env }) (RR acc cenv.locals) s₄) E s₃) E s₂ := by
  refine wpAny_newObj_type (wp_newCompEnv ?_)
  dsimp only
  generalize hD : s₂.heap.objs.size = Da
  generalize hH2 : s₂.heap.push { cls := .type "list", dict := none, data := .seq ([] : List Value).toArray } = H2
  have hC : H2.objs.size = Da + 1 := by rw [← hH2, Heap.size_push, hD]
  rw [hC]
  have ok := cellsFrom_ok scope.names (H2.push { cls := .type "dict", data := .dict #[] }) (Da + 2) [] ⟨fun _ _ hm => (nomatch hm), List.Pairwise.nil⟩ (by rw [Heap.size_push, hC]; exact Nat.le_refl _)
  rw [Heap.size_push, hC] at ok
  generalize hH3 : pushCells (H2.push { cls := .type "dict", data := .dict #[] }) scope.names = H3 at ok ⊢
  have k2 : Ext s₂.heap H2 := hH2 ▸ Ext.rf.push _
  have k3 : Ext H2 H3 := fun b o e => hH3 ▸ pushCells_keeps _ _ b o (Heap.get?_push_of_some _ e)
  have hDl : IsL H3 Da #[] 0 := k3 _ _ (by rw [← hH2, ← hD]; exact Heap.get?_push_size _ rfl)
  have hCn : H3.Ns (Da + 1) (fun _ => none) := by
    rw [← hH3, ← hC]; exact (Heap.Ns.new H2 (.type "dict")).keeps (pushCells_keeps _ _)
  have nD : s₂.heap.get? Da = none := none_of_size (by omega)
  have nC : s₂.heap.get? (Da + 1) = none := none_of_size (by omega)
  have fpD : ∀ b ∈ fp, @LT.lt Nat _ b Da := fun b hb => by
    obtain ⟨o, ho⟩ := it.there b hb
    have h1 : @LT.lt Nat _ b s₂.heap.objs.size := Heap.lt_size ho
    rw [hD] at h1; exact h1
  have wrD : ∀ b ∈ wr, @LT.lt Nat _ b Da := fun b hb => fpD b (it.W.sub b hb)
  have lt₂ : ∀ b o, s₂.heap.get? b = some o → @LT.lt Nat _ b Da := fun b o e => by
    have h1 : @LT.lt Nat _ b s₂.heap.objs.size := Heap.lt_size e
    rw [hD] at h1; exact h1
  have fld₂ := it.fld 0 _ it.st
  -- the block's environment
  generalize hcenv : ({ scope := relabel scope env, locals := Da + 1, globals := env.globals, cells := cellsFrom (Da + 1 + 1) scope.names (clOf scope.names env []), qual := env.qual, func := none, code := env.code, frame := env.frame, builtins := env.builtins } : Env) = cenv
  have ce : CE env scope cenv := by
    subst hcenv
    refine ⟨rfl, rfl, rfl, fun y hy => ?_⟩
    show (cellsFrom (Da + 1 + 1) scope.names (clOf scope.names env [])).lookup y = _
    rw [cellsFrom_app, List.lookup_append, lookup_none_of_not_mem (fun c hc => by
      have := hnc _ (cellsFrom_mem _ _ _ _ hc) rfl
      rw [hy] at this; cases this)]
    exact clOf_lookup (.inl (mem_of_lookup hy)) hfree
  have hcl : cenv.locals = Da + 1 := by subst hcenv; rfl
  have hck : cenv.scope.kind = .function := by rw [ce.scp]; exact hkind
  -- the target
  obtain ⟨tb, htb, htD⟩ : ∃ tb, Tgt cenv H3 x tb ∧ @LT.lt Nat _ Da tb := by
    rcases hx with hx | hx
    · exact ⟨Da + 1, .inl ⟨ce.kind hx, hcl.symm, _, hcl ▸ hCn⟩, by omega⟩
    · have := cellsFrom_some (x := x) scope.names (Da + 1 + 1) [] (.inl hx)
      obtain ⟨c, hc⟩ := Option.isSome_iff_exists.mp this
      have hmem := mem_of_lookup hc
      refine ⟨c, .inr ⟨ce.kind hx, ?_, none, (ok.empty x c hmem).1⟩, Nat.lt_of_lt_of_le (Nat.lt_succ_of_lt (Nat.lt_succ_self _)) (ok.empty x c hmem).2⟩
      subst hcenv
      show (cellsFrom (Da + 1 + 1) scope.names (clOf scope.names env [])).lookup x = _
      rw [cellsFrom_app, List.lookup_append, hc]; rfl
  have off0 : ∀ tk, Off wr s₂ { s₂ with heap := H3, toks := tk } := fun tk => .hp fun b o _ e => k3 _ _ (k2 _ _ e)
  have loop : ∀ s₄ : Shared, s₄ = { s₂ with heap := H3 } → codeAny (model prog w) A (.compLoop (.ListComp elt [⟨.Name x px, iter, [], 0⟩] scope pos) 0 (.ref I) (.ref Da) cenv) (RR (.ref Da) (Da + 1)) s₄ := by
    rintro s₄ rfl
    refine codeAny_compLoop_tests (fun k s' => ∃ i m n items, Off wr s₂ s' ∧ St i s'.heap ∧ s'.heap.Ns (Da + 1) m ∧ IsL s'.heap Da items n ∧ RowsL s₂.heap Da row s'.heap items.toList ∧ items.size = i ∧ Tgt cenv s'.heap x tb ∧ i ≤ ds.length ∧ k = ds.length + 1 - i) ?_ (ds.length + 1)
      ⟨0, _, _, _, off0 _, it.W.frame _ _ _ it.st fun b _ o e => k3 _ _ (k2 _ _ e), hCn, hDl, ⟨[], rfl, List.nodup_nil, fun b hb => (nomatch hb)⟩, rfl, htb, Nat.zero_le _, rfl⟩
    rintro k s' ⟨i, m, n, items, off, st, hns, hl, hrd, hsz, htg, hi, rfl⟩
    by_cases hlt : i < ds.length
    · refine it.W.item i s' _ _ hlt st fun v h₁ tk₁ hPv hst₁ hk₁ => ?_
      obtain ⟨d, hd, hrv⟩ := it.rd i v hPv
      have off₁ : Off wr s' { s' with heap := h₁, toks := tk₁ } := .hp hk₁
      have fld' := it.fld i _ st
      have lk₁ : ∀ P', LK P' s'.heap h₁ := fun _ => off₁.lk fld'
      have hwD : Da ∉ wr := fun hb => Nat.lt_irrefl _ (wrD _ hb)
      have hwC : Da + 1 ∉ wr := fun hb => Nat.lt_irrefl _ (Nat.lt_of_succ_lt (wrD _ hb))
      have hwt : tb ∉ wr := fun hb => Nat.lt_irrefl _ (Nat.lt_trans htD (wrD _ hb))
      have htg₁ : Tgt cenv h₁ x tb := by
        rcases htg with ⟨a, b, m', c⟩ | ⟨a, b, v', c⟩
        · exact .inl ⟨a, b, m', c.at' fun o e => hk₁ _ o (by rw [hcl]; exact hwC) e⟩
        · obtain ⟨o, ho, hd⟩ := c; exact .inr ⟨a, b, v', o, hk₁ _ _ hwt ho, hd⟩
      refine wpAny_assign_Name (wp_store (b := tb) hck htg₁ fun h₂ tk₂ hs₂ hold₂ htg₂ hnst => ?_)
      have hnt : ∃ o, h₁.get? tb = some o ∧ NoSeq o := htg₁.noseq
      have lk₂ : ∀ P', LK P' h₁ h₂ := fun _ => .of_but (N := fun b => b = tb) (fun b o hb e => hs₂.extBut b o hb e) fun b o hb e => by
        subst hb; obtain ⟨o', e', z⟩ := hnt; rw [e] at e'; cases e'; exact z
      have hrv₂ : Rd (fun b => N b ∧ b ≠ Da) h₂ v d := hrv.here.keep (fun b ⟨hb, vs, n, e⟩ => ⟨hb, fun q => by rw [q] at e; rw [show s₂.heap.get? Da = _ from e] at nD; cases nD⟩) (((off.lk fld₂).trans (lk₁ _)).trans (lk₂ _))
      have off₂ : Off wr s₂ { s' with heap := h₂, toks := tk₂ } := ⟨fun b o hb e => hs₂.extBut b o (fun q => by
          have := lt₂ b o e; rw [q] at this; exact Nat.lt_irrefl _ (Nat.lt_trans htD this)) (hk₁ b o hb (off.heap b o hb e)), off.gens, off.bare, off.os⟩
      have ext₂ : Ext s.heap h₂ := fun b o e => off₂.heap b o (fun hb => by rw [it.fresh b hb] at e; cases e) (gr.heap b o e)
      have ext₃ : Ext h (hideL (fun b => N b ∧ b ≠ Da) h₂) := fun b o e => hideL_some (ext₂ b o (kh b o e)) fun vs n q => ⟨hp b vs n (by subst q; exact e), fun q' => by
        have := gr.heap _ _ (kh _ _ e); rw [q', nD] at this; cases this⟩
      have hneD : Da ≠ tb := Nat.ne_of_lt htD
      have hl₂ : IsL h₂ Da items n := hs₂.extBut _ _ hneD (hk₁ _ _ hwD hl)
      have hns₂ : ∃ m', h₂.Ns (Da + 1) m' := by
        have hn₁ : h₁.Ns (Da + 1) m := hns.at' fun o e => hk₁ _ o hwC e
        by_cases hq : tb = cenv.locals
        · exact ⟨_, hcl ▸ hnst m (hcl.symm ▸ hn₁) hq⟩
        · exact ⟨m, hn₁.sameBut hs₂ (by rw [← hcl]; exact fun e => hq e.symm)⟩
      obtain ⟨m₂, hns₂⟩ := hns₂
      have hst₂ : St (i + 1) h₂ := it.W.frame _ _ _ hst₁ fun b hb o e => hs₂.extBut b o (fun q => by
        have := fpD b hb; rw [q] at this; exact Nat.lt_irrefl _ (Nat.lt_trans htD this)) e
      have hrd₂ : RowsL s₂.heap Da row h₂ items.toList := hrd.keep ((lk₁ _).trans (lk₂ _))
      refine wpAny_tests_nil ?_
      rw [if_pos rfl]
      refine body cenv h₂ TP _ Ext.rf .tp .tp _ _ fun y ny us s₄ g₄ fy ly ry => ?_
      have k₄ : Ext h₂ s₄.heap := g₄.heap
      have hl₄ : IsL s₄.heap Da items n := k₄ _ _ hl₂
      have hyD : y ≠ Da := fun q => by rw [q, show h₂.get? Da = some _ from hl₂] at fy; cases fy
      have hy₂ : s₂.heap.get? y = none := by
        cases e : s₂.heap.get? y with
        | none => rfl
        | some o =>
          by_cases hw : y ∈ wr
          · obtain ⟨o', fs, e', _⟩ := fld' y hw
            have hex : ∃ o, h₁.get? y = some o := by
              obtain ⟨o'', fs'', e'', _⟩ := it.fld (i + 1) _ hst₁ y hw
              exact ⟨o'', e''⟩
            obtain ⟨o'', e''⟩ := hex
            have hyt : y ≠ tb := fun q => Nat.lt_irrefl _ (Nat.lt_trans htD (q ▸ wrD y hw))
            rw [hs₂.extBut _ _ hyt e''] at fy; cases fy
          · rw [off₂.heap y o hw e] at fy; cases fy
      refine wpAny_list_append_plain ⟨n, hl₄⟩ (fun h₅ hl₅ hs₅ => ?_) (by omega)
      obtain ⟨n₅, hl₅⟩ := hl₅
      refine ⟨ds.length + 1 - (i + 1), by omega, i + 1, m₂, n₅, items.push (.ref y), ?_, ?_, ?_, hl₅, ?_, by rw [Array.size_push, hsz], ?_, hlt, rfl⟩
      · have o₄ := off₂.trans (.of_gr g₄)
        exact ⟨fun b o hb e => hs₅.extBut b o (fun q => by have := lt₂ b o e; rw [q] at this; exact Nat.lt_irrefl _ this) (o₄.heap b o hb e), o₄.gens, o₄.bare, o₄.os⟩
      · exact it.W.frame _ _ _ hst₂ fun b hb o e => hs₅.extBut b o (fun q => by have := fpD b hb; rw [q] at this; exact Nat.lt_irrefl _ this) (k₄ b o e)
      · exact (hns₂.keeps k₄).sameBut hs₅ (Nat.ne_of_gt (Nat.lt_succ_self _))
      · obtain ⟨bs, e1, e2, e3⟩ := hrd₂
        have lk₅ : LK (fun b => b ≠ Da) s₄.heap h₅ := ⟨fun a vs n e q => hs₅.extBut _ _ q e, fun a vs n e => hs₅.extBut _ _ (fun q => isL_isT hl₄ (q ▸ e)) e⟩
        have flatRow : ∀ {us : List Value}, RdL TP s₄.heap us row → RdL TP h₅ us row := fun r => r.flat hrow |>.keep (P := fun b => b ≠ Da) (fun _ _ => trivial) lk₅
        refine ⟨bs ++ [y], by rw [Array.toList_push, e1]; simp, ?_, fun b hb => ?_⟩
        · rw [List.nodup_append]
          refine ⟨e2, by simp, fun a ha b hb q => ?_⟩
          rw [List.mem_singleton] at hb
          subst hb q
          obtain ⟨_, _, us', n', i', _⟩ := e3 a ha
          rw [show h₂.get? a = some _ from i'] at fy; cases fy
        · rcases List.mem_append.mp hb with hb | hb
          · obtain ⟨d1, d2, us', n', i', r'⟩ := e3 b hb
            exact ⟨d1, d2, us', n', hs₅.extBut _ _ d1 (k₄ _ _ i'), flatRow (r'.up k₄)⟩
          · rw [List.mem_singleton] at hb
            subst hb
            exact ⟨hyD, hy₂, us, ny, hs₅.extBut _ _ hyD ly, flatRow (ry.keep (fun _ _ => trivial) (.of_ext Ext.rf))⟩
      · have t₄ := htg₂.up k₄
        rcases t₄ with ⟨a, b, m', c⟩ | ⟨a, b, v', c⟩
        · exact .inl ⟨a, b, m', c.sameBut hs₅ (by rw [hcl]; exact Nat.ne_of_gt (Nat.lt_succ_self _))⟩
        · exact .inr ⟨a, b, v', c.sameBut hs₅ (Nat.ne_of_gt htD)⟩
    · have hi' : i = ds.length := by omega
      subst hi'
      refine it.W.done s' _ _ st fun h₁ tk₁ hk₁ => ?_
      have hwD : Da ∉ wr := fun hb => Nat.lt_irrefl _ (wrD _ hb)
      have hwC : Da + 1 ∉ wr := fun hb => Nat.lt_irrefl _ (Nat.lt_of_succ_lt (wrD _ hb))
      have off₁ : Off wr s' { s' with heap := h₁, toks := tk₁ } := .hp hk₁
      have lk₁ : LK TP s'.heap h₁ := off₁.lk (it.fld _ _ st)
      exact hRR Da (Da + 1) _ m n items (off.trans off₁) (hns.at' fun o e => hk₁ _ o hwC e) (hk₁ _ _ hwD hl) (hrd.keep lk₁) hsz nD nC (Nat.ne_of_lt (Nat.lt_succ_self _))
  exact codeAny_compStart_list (loop _ rfl) (it.W.self 0 _ _ _ (it.W.frame _ _ _ it.st fun b _ o e => k3 _ _ (k2 _ _ e)) (loop _ rfl))
end
section
variable {mg mb : PySem.Str → Option Value} {ds : List DefRec} {env : Env} {sc : Scope} {B : Shared} {P : Addr → Prop} {φ : Nat → Option (Option Addr)} {σ : Sg} {H : Hp} {s s' : Shared}
/-- new lists get owners -/
theorem St.allocs (S : St mg mb ds env B P φ σ H s) (g : Gr s s') {as : List Addr} {ls : List (List VV)} (hlen : as.length = ls.length) (nd : as.Nodup) (f : ∀ a ∈ as, s.heap.get? a = none) (hl : ∀ a ∈ as, ∃ vs n, IsL s'.heap a vs n)
    (r : ∀ φ' : Nat → Option (Option Addr), (∀ b, PP P φ b → b ∉ as → PP P φ' b) → (∀ (i : Nat) (a : Addr), as[i]? = some a → φ' (H.length + i) = some (some a)) → ∀ (i : Nat) (a : Addr) (l : List VV), as[i]? = some a → ls[i]? = some l → ∃ vs n, IsL s'.heap a vs n ∧ RdVL P φ' s'.heap vs.toList l) :
    ∃ φ', St mg mb ds env B P φ' σ (H ++ ls.map some) s' ∧ ∀ (i : Nat) (a : Addr), as[i]? = some a → φ' (H.length + i) = some (some a) := by
  refine ⟨fun k => if k < H.length then φ k else (as[k - H.length]?).map some, ?_, fun i a e => by
    show (if _ then _ else _) = _
    rw [if_neg (by omega), show H.length + i - H.length = i by omega, e]; rfl⟩
  generalize hφ : (fun k => if k < H.length then φ k else (as[k - H.length]?).map some) = φ'
  have e0 : ∀ (i : Nat) (a : Addr), as[i]? = some a → φ' (H.length + i) = some (some a) := fun i a e => by
    rw [← hφ]
    show (if _ then _ else _) = _
    rw [if_neg (by omega), show H.length + i - H.length = i by omega, e]; rfl
  have e1 : ∀ k c, φ' k = some (some c) → (φ k = some (some c) ∧ k < H.length) ∨ (H.length ≤ k ∧ as[k - H.length]? = some c) := fun k c e => by
    rw [← hφ] at e
    simp only at e
    split at e
    · rename_i q; exact .inl ⟨e, q⟩
    · rename_i q
      cases h : as[k - H.length]? with
      | none => rw [h] at e; cases e
      | some a => rw [h] at e; simp at e; exact .inr ⟨by omega, by rw [e]⟩
  have lt : ∀ k x, φ k = some x → k < H.length := fun k c e => by
    by_cases q : k < H.length
    · exact q
    · rw [S.out k (Nat.not_lt.mp q)] at e; cases e
  have e2 : ∀ k x, φ k = some x → φ' k = some x := fun k x q => by rw [← hφ]; exact (if_pos (lt k x q)).trans q
  have noA : ∀ {a us m}, a ∈ as → ¬ IsL s.heap a us m := fun {a us m} ha i => by
    have := f a ha
    rw [show s.heap.get? a = some _ from i] at this; cases this
  have own : ∀ k c, φ k = some (some c) → c ∉ as := fun k c e q => by
    obtain ⟨us, m, i⟩ := S.isl k c e
    exact noA q i
  have pp : ∀ b, PP P φ b → b ∉ as → PP P φ' b := fun b ⟨p, q⟩ hb => ⟨p, fun ⟨k, e⟩ => by
    rcases e1 k b e with ⟨e, _⟩ | ⟨_, e⟩
    · exact q ⟨k, e⟩
    · exact hb (List.mem_of_getElem? e)⟩
  have loc : ∀ {v : Value} {vv : VV}, RdV P φ s.heap v vv → RdV P φ' s'.heap v vv := fun {v vv} r => by
    cases vv with
    | dat d => exact Rd.keep (fun b ⟨p, us, m, i⟩ => pp b p fun q => noA q i) (.of_ext g.heap) (Rd.here r)
    | loc k => obtain ⟨x, hx, hr⟩ := r; exact ⟨x, e2 k x hx, hr⟩
  have locs : ∀ {us : List Value} {l : List VV}, RdVL P φ s.heap us l → RdVL P φ' s'.heap us l := fun {us l} r => by
    induction r with
    | nil => exact .nil
    | cons r1 _ ih => exact .cons (loc r1) ih
  have S' := S.up g
  refine { S' with vars := fun x vv e => ?_, inj := fun j k c h1 h2 => ?_, ofr := fun k c e => ?_, isl := fun k c e => ?_, cont := fun k l' e => ?_, out := fun k hk => ?_ }
  · obtain ⟨v, h1, h2⟩ := S.vars x vv e
    exact ⟨v, h1.up g.heap, loc h2⟩
  · rcases e1 j c h1 with ⟨h1, _⟩ | ⟨h0, h1⟩ <;> rcases e1 k c h2 with ⟨h2, _⟩ | ⟨h3, h2⟩
    · exact S.inj j k c h1 h2
    · exact absurd (List.mem_of_getElem? h2) (own j c h1)
    · exact absurd (List.mem_of_getElem? h1) (own k c h2)
    · have i1 := (List.getElem?_eq_some_iff.mp h1).1
      have := (List.getElem?_inj i1 nd).mp (h1.trans h2.symm)
      omega
  · rcases e1 k c e with ⟨e, _⟩ | ⟨_, e⟩
    · exact S.ofr k c e
    · exact none_down S.gr.heap (f c (List.mem_of_getElem? e))
  · rcases e1 k c e with ⟨e, _⟩ | ⟨_, e⟩
    · exact S'.isl k c e
    · exact hl c (List.mem_of_getElem? e)
  · rw [List.getElem?_append] at e
    split at e
    · obtain ⟨c, m, us, h1, h2, h3⟩ := S.cont k l' e
      exact ⟨c, m, us, e2 _ _ h1, g.heap _ _ h2, locs h3⟩
    · rename_i hk
      rw [List.getElem?_map] at e
      cases hq : ls[k - H.length]? with
      | none => rw [hq] at e; cases e
      | some l =>
        rw [hq] at e
        simp at e
        subst e
        have hlt : k - H.length < as.length := by
          have := (List.getElem?_eq_some_iff.mp hq).1
          omega
        obtain ⟨vs, n, q1, q2⟩ := r φ' pp e0 (k - H.length) _ l (List.getElem?_eq_getElem hlt) hq
        have := e0 (k - H.length) _ (List.getElem?_eq_getElem hlt)
        rw [show H.length + (k - H.length) = k by omega] at this
        exact ⟨_, n, vs, this, q1, q2⟩
  · rw [List.length_append, List.length_map] at hk
    rw [← hφ]
    simp only
    rw [if_neg (by omega), List.getElem?_eq_none (by omega)]
    rfl
end
section
variable {K : Cx} {n : Nat} {σ σ' : Sg} {H H' : Hp} {O O' : Oc → Prop}
theorem RdVL.of_get {P : Addr → Prop} {φ : Nat → Option (Option Addr)} {h : Heap} : ∀ {vs : List Value} {xs : List VV}, vs.length = xs.length → (∀ (i : Nat) (v : Value) (x : VV), vs[i]? = some v → xs[i]? = some x → RdV P φ h v x) → RdVL P φ h vs xs
  | [], [], _, _ => .nil
  | v :: vs, x :: xs, hl, k => .cons (k 0 v x rfl rfl) (RdVL.of_get (by simpa using hl) fun i v x h1 h2 => k (i + 1) v x (by simpa using h1) (by simpa using h2))
set_option maxHeartbeats 4000000 in
/-- a comprehension of new rows, assigned on its own line to a plain local: the rows and the list get owners -/
theorem Blk.assignRows {x y : PySem.Str} {px py pos spos : Pos} {elt iter : Expr} {scope : Scope} {rest : List Stmt} {dl : List D} (row : List D) (hrow : flats row = true)
    (hi : EvIS K n (dv σ) iter dl) (hok : compOk scope x = true) (hfr : (scope.names.filter fun y => y.2 == NameKind.free).map (·.1) = []) (hz : dl.length ≤ sizeLine)
    (body : ∀ (A : Around), GA A n → ∀ (cenv : Env) (h₃ : Heap), EvN K.prog K.w A cenv h₃ elt row)
    (hx : KO K y) (z : Blk K n rest ((y, .loc (H.length + dl.length)) :: σ) (H ++ (List.replicate dl.length (row.map VV.dat) ++ [(List.range dl.length).map fun i => VV.loc (H.length + i)]).map some) O)
    (hsw : swapsWith (.ListComp elt [⟨.Name x px, iter, [], 0⟩] scope pos) (some (.Name y py)) spos.line K.env = pure true)
    (hs : ∀ x, foldedSetIterable iter K.env x = pure x := by intro _; rfl) : Blk K n (.Assign [.Name y py] (.ListComp elt [⟨.Name x px, iter, [], 0⟩] scope pos) spos :: rest) σ H O := .seq (fun O' q A B P φ s E G S => by
  obtain ⟨hkind, hxk, hnc, hnames⟩ := compOk_parts hok
  have hfree : ∀ y ∈ scope.names, y.2 = .free → (K.env.cells.lookup y.1).isSome = true := fun y hy hf => by
    have : y.1 ∈ (scope.names.filter fun y => y.2 == NameKind.free).map (·.1) := List.mem_map.mpr ⟨y, List.mem_filter.mpr ⟨hy, by simpa using hf⟩, rfl⟩
    rw [hfr] at this; cases this
  obtain ⟨tb, t⟩ := S.tgt K.F hx
  rw [exec_Assign_Name_used _ _ _ _ hsw]
  refine wpAny_bind (wpAny_standAt (wpAny_bind ?_))
  show wpAny _ A (do let _ ← comprehension (.ListComp elt [⟨.Name x px, iter, [], 0⟩] scope pos) scope K.env _ (newList []) false (eval iter K.env) (some (PySem.assign (.Name y py) K.env))) _ _ s
  refine wpAny_bind (wpAny_mono (wpAny_comprehension_free (use := some (PySem.assign (.Name y py) K.env)) (Q := fun _ s' => OutF K B P O' .next s') rfl hs (closureFor_cl hfree) hkind hnames
    (hi A _ G (hideL_wd S.wds) S.dlv (PP P φ) s hideL_ext hideL_hp S.nwp _ _ fun I fp wr Pi Sti s₂ gr it => ?_)) (fun _ s' hq => wpAny_pure (wpAny_pure hq)) fun _ _ e => e)
  refine comp_coreR (RR := fun acc C => compPost (model K.prog K.w) A E (some (PySem.assign (.Name y py) K.env)) (fun _ s' => OutF K B P O' .next s') acc C) hideL_ext hideL_hp S.nwp gr it hkind hxk hnc hfree hz row hrow (body A G) fun a C s' m n' items off hC hl hr hsz na nC hne => ?_
  show wpAny _ A (PySem.assign (.Name y py) K.env (.ref a)) _ _ _
  have nC' : s.heap.get? C = none := none_down gr.heap nC
  have na' : s.heap.get? a = none := none_down gr.heap na
  have gr' : Gr s s' := ⟨fun b o e => off.heap b o (fun hb => by rw [it.fresh b hb] at e; cases e) (gr.heap b o e), fun g x e => off.gens g x (gr.gens g x e), fun e => off.bare (gr.bare e), off.os.trans gr.os⟩
  obtain ⟨bs, e1, e2, e3⟩ := hr
  have hbl : bs.length = dl.length := by
    have := congrArg List.length e1
    simp at this
    omega
  have nda : (bs ++ [a]).Nodup := by
    rw [List.nodup_append]
    refine ⟨e2, by simp, fun u hu v hv q => ?_⟩
    rw [List.mem_singleton] at hv
    exact (e3 u hu).1 (q.trans hv)
  obtain ⟨φ', S', hφ'⟩ := S.allocs gr' (as := bs ++ [a]) (ls := List.replicate dl.length (row.map VV.dat) ++ [(List.range dl.length).map fun i => VV.loc (H.length + i)]) (by simp [hbl]) nda (fun u hu => by
    rcases List.mem_append.mp hu with hu | hu
    · exact none_down gr.heap (e3 u hu).2.1
    · rw [List.mem_singleton] at hu; subst hu; exact na') (fun u hu => by
    rcases List.mem_append.mp hu with hu | hu
    · obtain ⟨_, _, us, m', i', _⟩ := e3 u hu; exact ⟨us, m', i'⟩
    · rw [List.mem_singleton] at hu; subst hu; exact ⟨_, _, hl⟩) (fun φ' pp e0 i u l hu hl' => by
    by_cases hlt : i < dl.length
    · rw [List.getElem?_append_left (by omega)] at hu
      rw [List.getElem?_append_left (by simpa using hlt), List.getElem?_replicate, if_pos hlt] at hl'
      cases hl'
      obtain ⟨_, _, us, m', i', r'⟩ := e3 u (List.mem_of_getElem? hu)
      exact ⟨us, m', i', RdVL.ofL (r'.flat hrow)⟩
    · rw [List.getElem?_append_right (by omega)] at hu
      rw [List.getElem?_append_right (by simp; omega), List.length_replicate] at hl'
      have h0 : i - dl.length = 0 := by
        by_cases q : i - dl.length = 0
        · exact q
        · rw [List.getElem?_eq_none (by simp; omega)] at hl'; cases hl'
      rw [hbl, h0] at hu
      rw [h0] at hl'
      simp at hu hl'
      subst hu hl'
      refine ⟨items, n', hl, RdVL.of_get (by rw [e1]; simp [hbl]) fun k v xx h1 h2 => ?_⟩
      rw [e1, List.getElem?_map] at h1
      rw [List.getElem?_map] at h2
      cases hb : bs[k]? with
      | none => rw [hb] at h1; cases h1
      | some b =>
        rw [hb] at h1
        have hkb := (List.getElem?_eq_some_iff.mp hb).1
        rw [List.getElem?_range (by omega)] at h2
        simp at h1 h2
        subst h1 h2
        exact ⟨some b, e0 k b (by rw [List.getElem?_append_left hkb]; exact hb), fun c q => by cases q; rfl⟩)
  have htC : tb ≠ C := fun q => by obtain ⟨o, ho, _⟩ := t.noseq; rw [q, nC'] at ho; cases ho
  refine wpAny_assign_Name (wp_stored (by rw [K.F.scope]; exact K.F.kind) (t.up gr'.heap) fun s₃ st lk => ?_)
  have S₃ := S'.stored K.F (hx.imp K.F.kindOf K.F.kindOf) (t.up gr'.heap) st lk (vv := .loc (H.length + dl.length)) ⟨some a, hφ' dl.length a (by rw [List.getElem?_append_right (by omega), hbl]; simp), fun b q => by cases q; rfl⟩
  have hC₃ : ∃ m, s₃.heap.Ns C m := ⟨m, hC.at' fun o e => st.off.heap C o (by simpa using Ne.symm htC) e⟩
  obtain ⟨m₃, hC₃⟩ := hC₃
  refine ⟨m₃, hC₃, fun h' hs' => ⟨φ', _, _, q, ?_⟩⟩
  refine St.moved (wr := [C]) S₃ (s' := { s₃ with heap := h' }) ⟨fun b o hb e => hs'.extBut b o (by simpa using hb) e, fun _ _ _ e => e, fun e => e, rfl⟩ (fun b hb hf => ?_) (fun b hb => ?_) fun b hb => ?_
  · rw [List.mem_singleton] at hb; subst hb
    obtain ⟨o, ho, _⟩ := S.fa hf
    rw [nC'] at ho; cases ho
  · rw [List.mem_singleton] at hb; subst hb
    exact ns_noseq hC₃
  · rw [List.mem_singleton] at hb; subst hb
    exact none_down S.gr.heap nC') z
end
end Mine
namespace Mine
section
variable {K : Cx} {n : Nat} {σ σ' : Sg} {H H' : Hp} {O O' : Oc → Prop} {B : Shared} {P : Addr → Prop} {φ : Nat → Option (Option Addr)} {s : Shared}
theorem deepL_rdP {P Q : Addr → Prop} {φ : Nat → Option (Option Addr)} {h : Heap} {f : VV → Option D} (hv : ∀ (vv : VV) (v : Value) (d : D), RdV P φ h v vv → f vv = some d → Rd Q h v d) : ∀ (l : List VV) (vs : List Value) (dl : List D), RdVL P φ h vs l → deepL f l = some dl → RdL Q h vs dl
  | [], vs, dl, r, e => by rw [deepL] at e; cases e; cases r; exact .nil
  | x :: xs, vs, dl, r, e => by
    rw [deepL] at e
    split at e
    · rename_i d ds' h1 h2
      cases e
      cases r with
      | cons r1 r2 => exact .cons (hv _ _ _ r1 h1) (deepL_rdP hv xs _ _ r2 h2)
    · cases e
theorem St.deepP (S : K.St B P φ σ H s) : ∀ (n : Nat) (vv : VV) (v : Value) (d : D), RdV P φ s.heap v vv → deepV H n vv = some d → Rd P s.heap v d
  | 0, .dat d', v, d, r, e => by rw [deepV] at e; cases e; exact Rd.keep (fun _ h => h.1) (.of_ext Ext.rf) r
  | 0, .loc k, v, d, r, e => by rw [deepV] at e; cases e
  | n + 1, .dat d', v, d, r, e => by rw [deepV] at e; cases e; exact Rd.keep (fun _ h => h.1) (.of_ext Ext.rf) r
  | n + 1, .loc k, v, d, r, e => by
    rw [deepV] at e
    split at e
    · rename_i l hl
      obtain ⟨a, m, vs, h1, h2, h3⟩ := S.cont k l hl
      cases hd : deepL (deepV H n) l with
      | none => rw [hd] at e; cases e
      | some dl =>
        rw [hd] at e
        cases e
        obtain ⟨x, hx, hr⟩ := r
        rw [h1] at hx; cases hx
        rw [hr a rfl]
        exact .list (S.nw a (S.ofr k a h1)) h2 (deepL_rdP (S.deepP n) _ _ _ h3 hd)
    · cases e
/-- a variable with all that it owns is given back -/
theorem Blk.retDeep {x : PySem.Str} {p pos : Pos} {vv : VV} {d : D} {rest : List Stmt} (hv : σ.lookup x = some vv) (hd : deepV H 3 vv = some d) (q : O (.ret d))
    (hd' : (x == ("__debug__" : PySem.Str)) = false := by decide) (hc : (x == ("__classdict__" : PySem.Str)) = false := by decide) : Blk K n (.Return (some (.Name x p)) pos :: rest) σ H O := .cons fun A B P φ s E G S => by
  obtain ⟨v, hh, rv⟩ := St.hold S hv
  exact wpAny_Return_some (wpAny_Name (wp_loadName hh ⟨d, q, S.gr, St.deepP S 3 vv v d rv hd⟩ hc) hd')
/-- an owned list in an owned list -/
theorem EvLoc.sub {o i : Expr} {pos : Pos} {k k₂ j : Nat} {l : List VV} {l₂ : List VV} (y : EvLoc K n σ H o k) (yi : EvA K n σ H i (.int j)) (hk : H[k]? = some (some l)) (hj : l[j]? = some (.loc k₂)) (hk₂ : H[k₂]? = some (some l₂)) (hz : l.length ≤ sizeLine)
    (hp : PlainIx i := by intro _ _; exact ⟨_, rfl⟩) : EvLoc K n σ H (.Subscript o i pos) k₂ := fun A B P φ s G S Q E q => by
  refine Subscript_ (y A B P φ s G S _ _ fun s₁ a g₁ ha => yi A B P φ s₁ G (S.up g₁) _ _ fun v s₂ g₂ rv => ?_)
  have S₂ := (S.up g₁).up g₂
  obtain ⟨t, rfl⟩ := rv.int_inv
  obtain ⟨b, m, vs, h1, h2, h3⟩ := S₂.cont k l hk
  rw [ha] at h1; cases h1
  obtain ⟨u, hu, x, hx, hr⟩ := h3.get hj
  obtain ⟨c, m', us, h4, h5, h6⟩ := S₂.cont k₂ l₂ hk₂
  rw [h4] at hx; cases hx
  rw [hr c rfl] at hu
  obtain ⟨ops, ho⟩ := hp (.ref a) (.int j t)
  have hz' : sizeLine = 16777216 := rfl
  have hn := h3.length
  have hjl := (List.getElem?_eq_some_iff.mp hj).1
  exact tail_any h2.isList.typeIs slot_list_getitem.lookup (wpAny_getItem_list h2.isList (by omega) (by omega) (by simpa using hu) (q s₂ c (g₁.trans g₂) h4)) ho
end
end Mine
namespace Mine
/-! ## _law_far -/
noncomputable def bitF (shift mask p : Nat) : Bool := ((mask : Int).fdiv (2 ^ (((shift : Int) + (p : Nat)).toNat))).fmod 2 == 1
noncomputable def wordC (shift mask p : Nat) : Nat := if bitF shift mask p then [65, 66, 67, 68].getD p 0 else [97, 98, 99, 100].getD p 0
noncomputable def wordF (shift mask : Nat) : List Nat := (List.range 4).map (wordC shift mask)
noncomputable def wD (w : List Nat) : D := .str (mkS w)
noncomputable def farJ (ws : List (List Nat)) (i : Nat) : List Nat → List (List Int) → List (List Int)
  | [], rows => rows
  | j :: js, rows =>
    let v := levF (ws.getD i []) (ws.getD j []) 8
    let rows := rows.set i ((rows.getD i []).set j v)
    farJ ws i js (rows.set j ((rows.getD j []).set i v))
noncomputable def farI (ws : List (List Nat)) : List Nat → List (List Int) → List (List Int)
  | [], rows => rows
  | i :: is, rows => farI ws is (farJ ws i (List.range i) rows)
noncomputable def farF (ws : List (List Nat)) : List (List Int) := farI ws [0, 1, 2, 3, 4] (List.replicate 5 [0, 0, 0, 0, 0])
noncomputable def d_far : DefRec := dAt 17
theorem far_ok : DOk d_far ["masks", "shift"] where
  kind := rfl
  co := rfl
  nodup := by decide
  kinds := by decide
  bind := fun pm code doc vals h => by
    obtain ⟨a, b, rfl⟩ := len_2 h
    rfl
noncomputable def HV (ws : List (List Nat)) : Hp := [some ((ws.map wD).map .dat)]
noncomputable def rowV (r : List Int) : Option (List VV) := some ((r.map D.int).map .dat)
noncomputable def farL : List VV := [.loc 1, .loc 2, .loc 3, .loc 4, .loc 5]
noncomputable def HW (ws : List (List Nat)) (rows : List (List Int)) : Hp := some ((ws.map wD).map .dat) :: (rows.map rowV ++ [some farL])
noncomputable def σF (masks : List Nat) (shift : Nat) : Sg := [("words", .loc 0), ("far", .loc 6)]
theorem hw_row {ws : List (List Nat)} {rows : List (List Int)} {i : Nat} (h : i < rows.length) : (HW ws rows)[1 + i]? = some (rowV (rows.getD i [])) := by
  rw [Nat.add_comm]
  show (rows.map rowV ++ [some farL])[i]? = _
  rw [List.getElem?_append_left (by simpa using h), List.getElem?_map, List.getElem?_eq_getElem h]
  simp [h]
theorem hw_far {ws : List (List Nat)} {rows : List (List Int)} (h : rows.length = 5) : (HW ws rows)[6]? = some (some farL) := by
  show (rows.map rowV ++ [some farL])[5]? = _
  rw [List.getElem?_append_right (by simp [h])]
  simp [h]
theorem hw_set {ws : List (List Nat)} {rows : List (List Int)} {i : Nat} (h : i < rows.length) (r : List Int) : List.set (HW ws rows) (1 + i) (rowV r) = HW ws (rows.set i r) := by
  rw [Nat.add_comm]
  show some _ :: (rows.map rowV ++ [some farL]).set i (rowV r) = _
  rw [List.set_append_left _ _ (by simpa using h), HW, List.map_set]
theorem hw_deep {ws : List (List Nat)} {rows : List (List Int)} (h : rows.length = 5) : deepV (HW ws rows) 3 (.loc 6) = some (.list (rows.map dI)) := by
  match rows, h with
  | [a, b, c, d, e], _ =>
    have k : ∀ r : List Int, (deepL (deepV (HW ws [a, b, c, d, e]) 1) ((r.map D.int).map .dat)).map D.list = some (dI r) := fun r => by rw [deepL_dat fun d => rfl]; rfl
    rw [deepV, hw_far rfl]
    show (deepL (deepV _ 2) farL).map D.list = _
    have q : ∀ (i : Nat) (r : List Int), (HW ws [a, b, c, d, e])[i]? = some (rowV r) → deepV (HW ws [a, b, c, d, e]) 2 (.loc i) = some (dI r) := fun i r hi => by
      rw [deepV, hi]; exact k r
    unfold farL
    rw [deepL, deepL, deepL, deepL, deepL, deepL, q 1 a rfl, q 2 b rfl, q 3 c rfl, q 4 d rfl, q 5 e rfl]
    rfl
theorem far_at {i : Nat} (h : i < 5) : farL[i]? = some (.loc (1 + i)) := by
  match i, h with
  | 0, _ => rfl
  | 1, _ => rfl
  | 2, _ => rfl
  | 3, _ => rfl
  | 4, _ => rfl
theorem hw_put {ws : List (List Nat)} {rows : List (List Int)} {i j : Nat} {v : Int} (h : i < rows.length) : List.set (HW ws rows) (1 + i) (some ((((rows.getD i []).map D.int).map VV.dat).set j (.dat (.int v)))) = HW ws (rows.set i ((rows.getD i []).set j v)) := by
  rw [← hw_set h]
  congr 1
  simp [rowV, List.map_set]
theorem rows_len {rows : List (List Int)} {i j : Nat} {v : Int} (hq : ∀ q ∈ rows, q.length = 5) (hi : i < rows.length) : ∀ q ∈ rows.set i ((rows.getD i []).set j v), q.length = 5 := fun q hm => by
  rcases List.mem_or_eq_of_mem_set hm with h | h
  · exact hq q h
  · subst h
    rw [List.length_set]
    exact hq _ (by rw [List.getD_eq_getElem?_getD, List.getElem?_eq_getElem hi]; exact List.getElem_mem hi)
theorem row_len {rows : List (List Int)} {i : Nat} (hq : ∀ q ∈ rows, q.length = 5) (hi : i < rows.length) : (rows.getD i []).length = 5 :=
  hq _ (by rw [List.getD_eq_getElem?_getD, List.getElem?_eq_getElem hi]; exact List.getElem_mem hi)
theorem low_ok (shift mask : Nat) : ∀ c ∈ wordF shift mask, Builtin.Str.tooLong (Txt.lower (mkS [c])).length = false := fun c hc => by
  have key : ∀ c ∈ [65, 66, 67, 68, 97, 98, 99, 100], Builtin.Str.tooLong (Txt.lower (mkS [c])).length = false := by decide +kernel
  refine key c ?_
  simp only [wordF, List.mem_map, List.mem_range] at hc
  obtain ⟨p, hp, rfl⟩ := hc
  unfold wordC
  match p, hp with
  | 0, _ => split <;> decide
  | 1, _ => split <;> decide
  | 2, _ => split <;> decide
  | 3, _ => split <;> decide
theorem jn_chars (l : List Nat) : jn (l.map fun c => mkS [c]) = l := by
  unfold jn
  rw [List.map_map]
  induction l with
  | nil => rfl
  | cons c l ih => simp only [List.map_cons, List.flatten_cons, ih]; rfl
section
variable {prog : Program} {w : World} {mg mb : PySem.Str → Option Value} {ds : List DefRec}
set_option maxHeartbeats 8000000 in
theorem far_fn (bi : Bi mg mb) (co : Co mg) (hf1 : d_lev ∈ ds) (hf2 : d_sub ∈ ds) {n : Nat} (hn : 3 ≤ n) {masks : List Nat} {shift : Nat} (hm : masks.length = 5) (hsh : shift ≤ 8) :
    Fn prog w mg mb ds (n + 1) d_far [nL masks, .int shift] (.list ((farF (masks.map (wordF shift))).map dI)) := Fn.of far_ok rfl rfl fun env F => by
  have hz : sizeLine = 16777216 := rfl
  conv => arg 3; whnf
  refine Blk.assignN (dl := []) (fun A h G W V => EvN.list .nil (by simp)) (by first | exact Or.inl (by rfl) | exact Or.inr (by rfl)) ?_
  refine Blk.weak (σ' := [("words", .loc 0), ("masks", .dat (nL masks)), ("shift", .dat (.int shift))]) (H' := HV []) ?_ (.cons rfl (.cons rfl (.cons rfl .nil))) .refl
  refine Blk.cons ?_
  refine Stm.for_ (dl := masks.map nD) (.dat fun A h G W V => EvI.list G.hand (.name (V "masks" _ rfl)))
    (fun r σ H => ∃ (done rest : List Nat), r = rest.map nD ∧ done ++ rest = masks ∧ Sub [("words", .loc 0), ("masks", .dat (nL masks)), ("shift", .dat (.int shift))] σ ∧ H = HV (done.map (wordF shift))) ⟨[], masks, rfl, rfl, .refl, rfl⟩ ?_ ?_
  · rintro d r σ H ⟨done, rest, hr, hdr, hσ, rfl⟩
    cases rest with
    | nil => cases hr
    | cons mask rest =>
      rw [List.map_cons] at hr
      injection hr with hr1 hr2
      subst hr1 hr2
      have hdl : done.length ≤ 5 := by have := congrArg List.length hdr; simp at this; omega
      refine ⟨_, .name (by first | exact Or.inl (by rfl) | exact Or.inr (by rfl)), ?_⟩
      have hw : Sub [("mask", .dat (nD mask)), ("words", .loc 0), ("masks", .dat (nL masks)), ("shift", .dat (.int shift))] (([("mask", VV.dat (nD mask))] : Sg) ++ σ) := .cons rfl (.cons (hσ "words" _ rfl) (.cons (hσ "masks" _ rfl) (.cons (hσ "shift" _ rfl) .nil)))
      refine Blk.weak ?_ hw
      refine Blk.append (k := 0) (l := ((done.map (wordF shift)).map wD).map .dat) (d := wD (wordF shift mask)) rfl rfl (by simp; omega) (.dat fun A h G W V => ?_) ?_
      · have c1 := CV.of_lv (V "mask" _ rfl) (F.kindOf rfl)
        have c2 := CV.of_lv (V "shift" _ rfl) (F.kindOf rfl)
        have mj := m_join (prog := prog) (w := w) (A := A) (x := "") (ys := (wordF shift mask).map fun c => mkS [c]) (by
          rw [show Str.length "" = 0 from rfl, List.map_map]
          have : (wordF shift mask).length = 4 := by simp [wordF]
          have h2 : ∀ l : List Nat, (l.map (Str.length ∘ fun c => mkS [c])).sum = l.length := fun l => by
            induction l with
            | nil => rfl
            | cons c l ih => simp only [List.map_cons, List.sum_cons, ih, List.length_cons]; show 1 + _ = _; omega
          rw [h2, this]; omega)
        rw [show Txt.join "" ((wordF shift mask).map fun c => mkS [c]) = mkS (wordF shift mask) from ((PySem.StrLaws.glued_eq_join "" _).trans (join_jn _)).trans (by rw [jn_chars])] at mj
        refine Ev.meth mj .cStr (.cons (EvN.ev ?_) .nil)
        rw [show (((wordF shift mask).map fun c => mkS [c]).map D.str) = (List.range 4).map fun p => D.str (mkS [wordC shift mask p]) by unfold wordF; rw [List.map_map, List.map_map]; rfl]
        refine EvN.compA (fr := ["mask", "shift"]) nD (List.range 4) _ (EvI.range0 bi W G.hand F.ge (F.kindOf rfl) rfl .cInt (by omega)) nD_inj rfl rfl (.cons c1 (.cons c2 .nil)) (by simp; omega) fun cenv h₃ p ce k m lv => ?_
        rw [List.mem_range] at m
        have v1 := (c1.inner ce k rfl rfl).lv
        have v2 := (c2.inner ce k rfl rfl).lv
        have hp2 : ((2 : Int) ^ (((shift : Int) + (p : Nat)).toNat)).natAbs < 1073741824 ∧ ((2 : Int) ^ (((shift : Int) + (p : Nat)).toNat)) ≠ 0 := by
          have : ((shift : Int) + (p : Nat)).toNat ≤ 11 := by omega
          generalize ((shift : Int) + (p : Nat)).toNat = e at this
          have h1 : (2 : Nat) ^ e ≤ 2 ^ 11 := Nat.pow_le_pow_right (by decide) this
          have h2 : ((2 : Int) ^ e) = ((2 ^ e : Nat) : Int) := by simp
          have h3 : 0 < (2 : Nat) ^ e := Nat.pow_pos (by decide)
          rw [h2]
          omega
        unfold wordC
        refine Ev.ite (c := bitF shift mask p) (.cmp o_eq_int (.bin (o_mod_int (by decide)) (.bin (o_div_int hp2.2 hp2.1) (.name v1) (.bin (o_pow_int (by omega) ?_) .cInt (.bin o_add_int (.name v2) (.name lv)))) .cInt) .cInt) (fun hc => ?_) (fun hc => ?_)
        · rw [show Builtin.Int.intBits 2 = 2 by decide]; omega
        · rw [if_pos hc]; exact .atS (l := [65, 66, 67, 68]) .cStr (.name lv) (seqIx_nat m) m (by decide)
        · rw [if_neg (by rw [hc]; decide)]; exact .atS (l := [97, 98, 99, 100]) .cStr (.name lv) (seqIx_nat m) m (by decide)
      · have e0 : List.set (HV (done.map (wordF shift))) 0 (some (((done.map (wordF shift)).map wD).map VV.dat ++ [VV.dat (wD (wordF shift mask))])) = HV ((done ++ [mask]).map (wordF shift)) := by simp [HV]
        rw [e0]
        refine Blk.nil (σ' := [("words", .loc 0), ("masks", .dat (nL masks)), ("shift", .dat (.int shift))]) ?_ (.cons rfl (.cons rfl (.cons rfl .nil)))
        exact ⟨done ++ [mask], rest, rfl, by rw [← hdr]; simp, .refl, rfl⟩
  · rintro σ H ⟨done, rest, hr, hdr, hσ, rfl⟩
    cases rest with
    | cons => cases hr
    | nil =>
      rw [List.append_nil] at hdr
      subst hdr
      refine Blk.nil (σ' := [("words", .loc 0), ("masks", .dat (nL done)), ("shift", .dat (.int shift))]) ?_ hσ
      refine Blk.assignRows (dl := done.map nD) ([0, 0, 0, 0, 0].map D.int) rfl (fun A h G W V => EvI.list G.hand (.name (V "masks" _ rfl))) rfl rfl (by simp; omega) (fun A G cenv h₃ => EvN.mul (ds := [D.int 0]) (x := 5) (.list (.cons .cInt .nil) (by decide)) .cInt (by decide) (by decide) (by decide)) (by first | exact Or.inl (by rfl) | exact Or.inr (by rfl)) ?_ (swaps_comp F rfl)
      have hws : (done.map (wordF shift)).length = 5 := by simp [hm]
      have hwl : ∀ x ∈ done.map (wordF shift), x.length = 4 ∧ ∀ c ∈ x, Builtin.Str.tooLong (Txt.lower (mkS [c])).length = false := fun x hx => by
        obtain ⟨mask, _, rfl⟩ := List.mem_map.mp hx
        exact ⟨by simp [wordF], low_ok shift mask⟩
      have hH : HV (done.map (wordF shift)) ++ (List.replicate (done.map nD).length (([0, 0, 0, 0, 0].map D.int).map VV.dat) ++ [(List.range (done.map nD).length).map fun i => VV.loc ((HV (done.map (wordF shift))).length + i)]).map some = HW (done.map (wordF shift)) (List.replicate 5 [0, 0, 0, 0, 0]) := by
        rw [List.length_map, hm]; rfl
      rw [hH, show (HV (done.map (wordF shift))).length + (done.map nD).length = 6 by rw [List.length_map, hm]; rfl]
      generalize done.map (wordF shift) = ws at *
      refine Blk.weak (σ' := σF [] 0) ?_ (.cons rfl (.cons rfl .nil)) .refl
      refine Blk.cons ?_
      refine Stm.for_ (dl := (List.range 5).map nD) (.dat fun A h G W V => EvI.range0 bi W G.hand F.ge (F.kindOf rfl) rfl .cInt (by omega))
        (fun r σ H => ∃ (is : List Nat) (rows : List (List Int)), r = is.map nD ∧ (∀ i ∈ is, i < 5) ∧ farI ws is rows = farF ws ∧ rows.length = 5 ∧ (∀ q ∈ rows, q.length = 5) ∧ Sub (σF [] 0) σ ∧ H = HW ws rows) ⟨[0, 1, 2, 3, 4], _, rfl, by decide, rfl, rfl, by simp, .refl, rfl⟩ ?_ ?_
      · rintro d r σ H ⟨is, rows, hr, hi5, hR, hl, hq, hσ, rfl⟩
        cases is with
        | nil => cases hr
        | cons i is =>
          rw [List.map_cons] at hr
          injection hr with hr1 hr2
          subst hr1 hr2
          have hi := hi5 i (List.mem_cons_self ..)
          refine ⟨_, .name (by first | exact Or.inl (by rfl) | exact Or.inr (by rfl)), ?_⟩
          have hw : Sub (("i", .dat (nD i)) :: σF [] 0) (([("i", VV.dat (nD i))] : Sg) ++ σ) := .cons rfl (.cons (hσ "words" _ rfl) (.cons (hσ "far" _ rfl) .nil))
          refine Blk.weak ?_ hw
          refine Blk.cons ?_
          refine Stm.for_ (dl := (List.range i).map nD) (.dat fun A h G W V => EvI.range0 bi W G.hand F.ge (F.kindOf rfl) rfl (.name (V "i" _ rfl)) (by omega))
            (fun r σ H => ∃ (js : List Nat) (rows' : List (List Int)), r = js.map nD ∧ (∀ j ∈ js, j < i) ∧ farJ ws i js rows' = farJ ws i (List.range i) rows ∧ rows'.length = 5 ∧ (∀ q ∈ rows', q.length = 5) ∧ Sub (("i", .dat (nD i)) :: σF [] 0) σ ∧ H = HW ws rows') ⟨_, rows, rfl, fun j hj => by simpa using hj, rfl, hl, hq, .refl, rfl⟩ ?_ ?_
          · rintro d r σ H ⟨js, rows', hr, hj5, hJ, hl', hq', hσ', rfl⟩
            cases js with
            | nil => cases hr
            | cons j js =>
              rw [List.map_cons] at hr
              injection hr with hr1 hr2
              subst hr1 hr2
              have hj := hj5 j (List.mem_cons_self ..)
              refine ⟨_, .name (by first | exact Or.inl (by rfl) | exact Or.inr (by rfl)), ?_⟩
              have hw2 : Sub (("j", .dat (nD j)) :: ("i", .dat (nD i)) :: σF [] 0) (([("j", VV.dat (nD j))] : Sg) ++ σ) := .cons rfl (.cons (hσ' "i" _ rfl) (.cons (hσ' "words" _ rfl) (.cons (hσ' "far" _ rfl) .nil)))
              refine Blk.weak ?_ hw2
              have hi' : i < rows'.length := by omega
              have hgi : ws.getD i [] ∈ ws := by rw [List.getD_eq_getElem?_getD, List.getElem?_eq_getElem (by omega)]; exact List.getElem_mem (by omega)
              have hgj : ws.getD j [] ∈ ws := by rw [List.getD_eq_getElem?_getD, List.getElem?_eq_getElem (by omega)]; exact List.getElem_mem (by omega)
              obtain ⟨li, ci⟩ := hwl _ hgi
              obtain ⟨lj, cj⟩ := hwl _ hgj
              refine Blk.setItem (k := 1 + i) (j := j) (l := ((rows'.getD i []).map D.int).map .dat) (d := .int (levF (ws.getD i []) (ws.getD j []) 8)) (.flat (fun A h G W V => ?_) (by simp only [D.flat])) (.sub (.name (k := 6) rfl (hw_far hl')) (.dat fun A h G W V => .name (V "i" _ rfl)) (hw_far hl') (far_at hi) (hw_row hi') (by decide)) (.dat fun A h G W V => .name (V "j" _ rfl)) (hw_row hi') (by have := row_len hq' hi'; simp at this ⊢; omega) (by have := row_len hq' hi'; simp at this ⊢; omega) ?_
              · have v := V "words" (.list (ws.map wD)) (fv_loc (k := 0) (dl := ws.map wD) rfl rfl)
                exact .callF (lev_fn bi co hf2 (n := 2) (by omega) (a := ws.getD i []) (b := ws.getD j []) (mc := 8) (by omega) (by omega) (by omega) fun c hc => (List.mem_append.mp hc).elim (ci c) (cj c)) (G.mono (by omega)) W hf1 F.ge (F.kindOf rfl) rfl (.cons (.atL (f := wD) (d := []) (.name v) (.name (V "i" _ rfl)) (by omega) (by omega)) (.cons (.atL (f := wD) (d := []) (.name v) (.name (V "j" _ rfl)) (by omega) (by omega)) (.cons .cInt .nil)))
              rw [hw_put hi']
              have hl1 : (rows'.set i ((rows'.getD i []).set j (levF (ws.getD i []) (ws.getD j []) 8))).length = 5 := by rw [List.length_set]; exact hl'
              have hq1 := rows_len (v := levF (ws.getD i []) (ws.getD j []) 8) (j := j) hq' hi'
              have hv1 : ((rows'.set i ((rows'.getD i []).set j (levF (ws.getD i []) (ws.getD j []) 8))).getD i []).getD j 0 = levF (ws.getD i []) (ws.getD j []) 8 := by
                have := row_len hq' hi'
                simp only [List.getD_eq_getElem?_getD] at this ⊢
                rw [List.getElem?_set_self hi', Option.getD_some, List.getElem?_set_self (by omega), Option.getD_some]
              rw [farJ] at hJ
              generalize levF (ws.getD i []) (ws.getD j []) 8 = lv at *
              generalize rows'.set i ((rows'.getD i []).set j lv) = rows1 at *
              have hj1 : j < rows1.length := by omega
              have hi1 : i < rows1.length := by omega
              refine Blk.setItem (k := 1 + j) (j := i) (l := ((rows1.getD j []).map D.int).map .dat) (d := .int lv) (.flat (fun A h G W V => ?_) (by simp only [D.flat])) (.sub (.name (k := 6) rfl (hw_far hl1)) (.dat fun A h G W V => .name (V "j" _ rfl)) (hw_far hl1) (far_at (by omega)) (hw_row hj1) (by decide)) (.dat fun A h G W V => .name (V "i" _ rfl)) (hw_row hj1) (by have := row_len hq1 hj1; simp at this ⊢; omega) (by have := row_len hq1 hj1; simp at this ⊢; omega) ?_
              · have v := V "far" (.list (rows1.map dI)) (hw_deep hl1)
                rw [← hv1]
                exact .atL (f := D.int) (xs := rows1.getD i []) (d := 0) (.atL (f := dI) (xs := rows1) (d := []) (.name v) (.name (V "i" _ rfl)) hi1 (by omega)) (.name (V "j" _ rfl)) (by rw [row_len hq1 hi1]; omega) (by rw [row_len hq1 hi1]; omega)
              rw [hw_put hj1]
              refine Blk.nil (σ' := ("i", .dat (nD i)) :: σF [] 0) ?_ (.cons rfl (.cons rfl (.cons rfl .nil)))
              exact ⟨js, _, rfl, fun z hz => hj5 z (List.mem_cons_of_mem _ hz), hJ, by rw [List.length_set]; exact hl1, rows_len hq1 hj1, .refl, rfl⟩
          · rintro σ H ⟨js, rows', hr, hj, hJ, hl', hq', hσ', rfl⟩
            cases js with
            | cons => cases hr
            | nil =>
              refine Blk.nil (σ' := ("i", .dat (nD i)) :: σF [] 0) ?_ hσ'
              refine Blk.nil (σ' := σF [] 0) ?_ (.cons rfl (.cons rfl .nil))
              exact ⟨is, rows', rfl, fun z hz => hi5 z (List.mem_cons_of_mem _ hz), by rw [← hR, farI, ← hJ, farJ], hl', hq', .refl, rfl⟩
      · rintro σ H ⟨is, rows, hr, hi5, hR, hl, hq, hσ, rfl⟩
        cases is with
        | cons => cases hr
        | nil =>
          refine Blk.nil (σ' := σF [] 0) ?_ hσ
          refine Blk.retDeep (vv := .loc 6) rfl (hw_deep hl) ?_
          show D.list _ = .list _
          rw [← hR, farI]
end
end Mine
namespace Mine
/-! ## pretty_flags -/
noncomputable def hexS (f : Int) : PySem.Str := baseText "0x" 16 f
noncomputable def nameF (f : Int) : PySem.Str := match PySem.Spec.lookup (.int f) flagD with
  | some (.str s) => s
  | _ => hexS f
theorem name_ok (f : Int) : (PySem.Spec.lookup (.int f) flagD).getD (.str (hexS f)) = .str (nameF f) := by
  have key : ∀ D : List (PyData × PyData), (∀ p ∈ D, ∃ s, p.2 = PyData.str s) → ∀ v, PySem.Spec.lookup (.int f) D = some v → ∃ s, v = .str s := by
    intro D
    induction D with
    | nil => intro _ v h; cases h
    | cons p D ih =>
      intro hD v h
      obtain ⟨a, b⟩ := p
      unfold PySem.Spec.lookup at h
      split at h
      · have q := hD (a, b) (List.mem_cons_self ..)
        rw [Option.some.injEq] at h
        subst h
        exact q
      · exact ih (fun q hq => hD q (List.mem_cons_of_mem _ hq)) v h
  unfold nameF
  cases h : PySem.Spec.lookup (.int f) flagD with
  | none => rfl
  | some v =>
    obtain ⟨s, rfl⟩ := key flagD (by intro p hp; simp [flagD] at hp; rcases hp with rfl | rfl | rfl | rfl | rfl | rfl | rfl | rfl | rfl | rfl <;> exact ⟨_, rfl⟩) v h
    rfl
/-- the loop, from bit i on -/
noncomputable def flagsL : List Nat → Int → List PySem.Str → List PySem.Str
  | [], fl, acc => acc ++ [hexS fl]
  | i :: is, fl, acc =>
    if Builtin.bitAnd fl (2 ^ i) != 0 then
      if !(Builtin.bitXor fl (2 ^ i) != 0) then acc ++ [nameF (2 ^ i)] else flagsL is (Builtin.bitXor fl (2 ^ i)) (acc ++ [nameF (2 ^ i)])
    else flagsL is fl acc
noncomputable def flagsOk : List Nat → Int → Bool
  | [], fl => decide ((hexS fl).length ≤ 1000)
  | i :: is, fl =>
    if Builtin.bitAnd fl (2 ^ i) != 0 then
      decide ((hexS (2 ^ i)).length ≤ 1000) && (if !(Builtin.bitXor fl (2 ^ i) != 0) then true else flagsOk is (Builtin.bitXor fl (2 ^ i)))
    else flagsOk is fl
noncomputable def r32 : List Nat := [0, 1, 2, 3, 4, 5, 6, 7, 8, 9, 10, 11, 12, 13, 14, 15, 16, 17, 18, 19, 20, 21, 22, 23, 24, 25, 26, 27, 28, 29, 30, 31]
noncomputable def flagsF (fl : Int) : PySem.Str := Txt.join ", " (flagsL r32 fl [])
noncomputable def flagsH (fl : Int) : Bool := flagsOk r32 fl && decide (((flagsL r32 fl []).map (·.length)).sum + (flagsL r32 fl []).length * 2 ≤ 16777216)
noncomputable def d_flags : DefRec := dAt 6
theorem flags_ok : DOk d_flags ["flags"] where
  kind := rfl
  co := rfl
  nodup := by decide
  kinds := by decide
  bind := fun pm code doc vals h => by
    obtain ⟨a, rfl⟩ := len_1 h
    rfl
noncomputable def flR : Stmt := (nth d_flags.body 2).getD (.Pass ⟨0, 0, 0, 0⟩)
section
variable {prog : Program} {w : World} {A : Around} {env : Env} {h : Heap} {mg mb : PySem.Str → Option Value} {ds : List DefRec}
theorem Ev.flagGet {p apos pos : Pos} {e1 e2 : Expr} {f : Int} {dd : PySem.Str} (W : Wd mg mb ds h) (ge : GE env) (hk : env.kindOf "COMPILER_FLAG_NAMES" = some .globalImplicit) (y1 : Ev prog w A env h e1 (.int f)) (y2 : Ev prog w A env h e2 (.str dd))
    {s₀ : PySem.Str} (hl : (PySem.Spec.lookup (.int f) flagD).getD (.str dd) = .str s₀) {pl : Sem Bool}
    (hcl : eval (.Call (.Attribute (.Name "COMPILER_FLAG_NAMES" p) "get" apos) [e1, e2] [] pos) env = (do
      let ov ← eval (.Name "COMPILER_FLAG_NAMES" p) env
      standAt apos.atName
      let (f, first) ← holding [ov] (getMethod ov "get" pl)
      callWith pos f first (backTo pos (starEach [e1, e2] env)) []) := by rfl)
    (he : starEach [e1, e2] env = (false, eval e1 env) :: starEach [e2] env := by rfl) (he2 : starEach [e2] env = (false, eval e2 env) :: starEach [] env := by rfl) (hplain : (backTo pos (starEach [e2] env)).any (·.1) = false := by rfl) :
    Ev prog w A env h (.Call (.Attribute (.Name "COMPILER_FLAG_NAMES" p) "get" apos) [e1, e2] [] pos) (.str s₀) := fun P s k hp nw Q E q => by
  obtain ⟨d, o, h1, h2, h3⟩ := (W.up k).tab
  refine MethodCall_ (he := hcl) (wp_global (W.up k) ⟨ge, hk, .inl h1⟩ ?_)
  refine getMethod_intTab_get (prog := prog) (w := w) (h3.2 prog w _ h2) ?_
  refine callWith_method1 (he := he) (hplain := hplain) ((EvL.cons (he := he) y1 (EvL.cons (he := he2) y2 .nil)) P pos s k hp nw _ _ fun vs s₁ g r => ?_)
  cases r with
  | cons r1 r => cases r with
    | cons r2 r =>
      cases r
      obtain ⟨t, rfl⟩ := r1.int_inv
      obtain ⟨u, rfl⟩ := r2.str_inv
      refine call_get2_intTab (dd := .str dd) (h3.2 prog w _ (g.heap _ _ h2)) (fun h => .str dd u) fun v hv => ?_
      rw [hl] at hv
      have := hv s₁.heap
      cases this
      exact q _ _ (g.trans .tk) (.str _ _)
noncomputable def σP (fl : Int) : Sg := [("names", .loc 0), ("flags", .dat (.int fl))]
set_option maxHeartbeats 8000000 in
theorem flags_fn (bi : Bi mg mb) {n : Nat} (hn : 1 ≤ n) {fl₀ : Int} (hH : flagsH fl₀ = true) : Fn prog w mg mb ds (n + 1) d_flags [.int fl₀] (.str (flagsF fl₀)) := Fn.of flags_ok rfl rfl fun env F => by
  have hz : sizeLine = 16777216 := rfl
  unfold flagsH at hH
  rw [Bool.and_eq_true, decide_eq_true_eq] at hH
  obtain ⟨hO, hJ⟩ := hH
  unfold flagsF
  generalize hL : flagsL r32 fl₀ [] = L at hJ ⊢
  conv => arg 3; whnf
  refine Blk.assignN (dl := []) (fun A h G W V => EvN.list .nil (by simp)) (by first | exact Or.inl (by rfl) | exact Or.inr (by rfl)) ?_
  refine Blk.weak (σ' := σP fl₀) (H' := HS []) ?_ (.cons rfl (.cons rfl .nil)) .refl
  have fin : ∀ (σ : Sg) (O' : Oc → Prop), Sub [("names", VV.loc 0)] σ → O' (.ret (.str (Txt.join ", " L))) → Blk (mkCx prog w mg mb ds d_flags env F) n [flR] σ (HS L) O' := fun σ O' hσ hO' => by
    conv => arg 3; arg 1; whnf
    refine Blk.weak (σ' := [("names", VV.loc 0)]) ?_ hσ
    refine Blk.ret (d := .str (Txt.join ", " L)) (.flat (fun A h G W V => ?_) (by simp only [D.flat])) hO'
    have v := V "names" (.list (L.map .str)) (fv_loc (k := 0) (dl := L.map .str) rfl rfl)
    exact .meth (m_join (x := ", ") (ys := L) (by rw [show Str.length ", " = 2 from rfl]; exact hJ)) .cStr (.cons (.name v) .nil)
  refine Blk.cons ?_
  refine Stm.for_ (dl := (List.range 32).map nD) (.dat fun A h G W V => EvI.range0 bi W G.hand F.ge (F.kindOf rfl) rfl .cInt (by omega))
    (fun r σ H => ∃ (is : List Nat) (fl : Int) (acc : List PySem.Str), r = is.map nD ∧ (∀ i ∈ is, i < 32) ∧ flagsL is fl acc = L ∧ flagsOk is fl = true ∧ acc.length + is.length ≤ 32 ∧ Sub (σP fl) σ ∧ H = HS acc) ⟨r32, fl₀, [], rfl, by decide, hL, hO, by decide, .refl, rfl⟩ ?_ ?_
  · rintro d r σ H ⟨is, fl, acc, hr, hi32, hR, hok, hln, hσ, rfl⟩
    cases is with
    | nil => cases hr
    | cons i is =>
      rw [List.map_cons] at hr
      injection hr with hr1 hr2
      subst hr1 hr2
      have hi := hi32 i (List.mem_cons_self ..)
      simp only [List.length_cons] at hln
      refine ⟨_, .name (by first | exact Or.inl (by rfl) | exact Or.inr (by rfl)), ?_⟩
      have hw : Sub (("i", .dat (nD i)) :: σP fl) (([("i", VV.dat (nD i))] : Sg) ++ σ) := .cons rfl (.cons (hσ "names" _ rfl) (.cons (hσ "flags" _ rfl) .nil))
      refine Blk.weak ?_ hw
      refine Blk.assign (d := .int (2 ^ i)) (.dat fun A h G W V => ?_) (by first | exact Or.inl (by rfl) | exact Or.inr (by rfl)) ?_
      · have := Ev.bin (p := ⟨49, 15, 49, 21⟩) (o_shl_int (prog := prog) (w := w) (A := A) (a := 1) (n := (i : Int)) (by omega) (by omega) (by decide)) (Ev.cInt (k := 0) (p := ⟨49, 15, 49, 16⟩)) (Ev.name (p := ⟨49, 20, 49, 21⟩) (V "i" _ rfl))
        rw [Int.one_mul, Int.toNat_natCast] at this
        exact this
      rw [flagsL] at hR
      rw [flagsOk] at hok
      refine Blk.if_ (b := Builtin.bitAnd fl (2 ^ i) != 0) (.of fun A h G W V => .val t_int (.bin o_and_int (.name (V "flags" _ rfl)) (.name (V "flag" _ rfl)))) (fun hc => ?_) (fun hc => ?_)
      · rw [if_pos hc] at hR hok
        rw [Bool.and_eq_true, decide_eq_true_eq] at hok
        obtain ⟨hok1, hok2⟩ := hok
        refine Blk.append (k := 0) (l := (acc.map D.str).map .dat) (d := .str (nameF (2 ^ i))) rfl rfl (by simp; omega) (.flat (fun A h G W V => ?_) (by simp only [D.flat])) ?_
        · have v := V "flag" (.int (2 ^ i)) rfl
          exact .flagGet W F.ge (F.kindOf rfl) (.name v) (Ev.callB (d := .str (hexS (2 ^ i))) W (GN.bi F.ge (F.kindOf rfl) bi.hex) (.cons (.name v) .nil) (c_hex (i := 2 ^ i) (by unfold hexS at hok1; omega))) (name_ok (2 ^ i))
        have e0 : List.set (HS acc) 0 (some ((acc.map D.str).map VV.dat ++ [VV.dat (.str (nameF (2 ^ i)))])) = HS (acc ++ [nameF (2 ^ i)]) := by simp [HS]
        rw [e0]
        refine Blk.aug (d := .int (Builtin.bitXor fl (2 ^ i))) (d₀ := .int fl) (d₁ := .int (2 ^ i)) rfl (.dat fun A h G W V => .name (V "flag" _ rfl)) i_xor (by first | exact Or.inl (by rfl) | exact Or.inr (by rfl)) ?_
        refine Blk.if_ (b := !(Builtin.bitXor fl (2 ^ i) != 0)) (.of fun A h G W V => .not (.val t_int (.name (V "flags" _ rfl)))) (fun hc' => ?_) (fun hc' => ?_)
        · rw [if_pos hc'] at hR
          subst hR
          refine Blk.brk (σ' := [("names", VV.loc 0)]) ?_ (.cons rfl .nil)
          exact fin _ _ .refl rfl
        · rw [if_neg (by rw [hc']; decide)] at hR hok2
          refine Blk.nil (σ' := σP (Builtin.bitXor fl (2 ^ i))) ?_ (.cons rfl (.cons rfl .nil))
          refine Blk.nil (σ' := σP (Builtin.bitXor fl (2 ^ i))) ?_ .refl
          refine Blk.nil (σ' := σP (Builtin.bitXor fl (2 ^ i))) ?_ .refl
          exact ⟨is, _, _, rfl, fun z hz => hi32 z (List.mem_cons_of_mem _ hz), hR, hok2, by simp; omega, .refl, rfl⟩
      · rw [if_neg (by rw [hc]; decide)] at hR hok
        refine Blk.nil (σ' := σP fl) ?_ (.cons rfl (.cons rfl .nil))
        refine Blk.nil (σ' := σP fl) ?_ .refl
        exact ⟨is, fl, acc, rfl, fun z hz => hi32 z (List.mem_cons_of_mem _ hz), hR, hok, by omega, .refl, rfl⟩
  · rintro σ H ⟨is, fl, acc, hr, hi32, hR, hok, hln, hσ, rfl⟩
    cases is with
    | cons => cases hr
    | nil =>
      rw [flagsL] at hR
      rw [flagsOk, decide_eq_true_eq] at hok
      refine Blk.weak ?_ hσ
      refine Blk.append (k := 0) (l := (acc.map D.str).map .dat) (d := .str (hexS fl)) rfl rfl (by simp at hln ⊢; omega) (.flat (fun A h G W V => ?_) (by simp only [D.flat])) ?_
      · have v := V "flags" (.int fl) rfl
        exact Ev.callB W (GN.bi F.ge (F.kindOf rfl) bi.hex) (.cons (.name v) .nil) (c_hex (i := fl) (by unfold hexS at hok; omega))
      have e0 : List.set (HS acc) 0 (some ((acc.map D.str).map VV.dat ++ [VV.dat (.str (hexS fl))])) = HS L := by rw [← hR]; simp [HS]
      rw [e0]
      refine Blk.nil (σ' := [("names", VV.loc 0)]) ?_ (.cons rfl .nil)
      exact fin _ _ .refl rfl
end
end Mine
namespace Mine
/-! ## comprehensions with two generators -/
section
variable {prog : Program} {w : World} {A : Around} {E : Value → Shared → Prop} {R : Result → Shared → Prop} {s : Shared}
theorem compTurn2a (elt t1 iter1 t2 iter2 : Expr) (scope : Scope) (pos : Pos) (it acc : Value) (env : Env) :
    compTurn (.ListComp elt [⟨t1, iter1, [], 0⟩, ⟨t2, iter2, [], 0⟩] scope pos) 0 it acc env = (standAt iter1.pos >>= fun _ => pyNext it >>= fun r => match r with
      | none => pure (.done .next)
      | some v => letOwnedTupleGo t1 it v >>= fun _ => assign t1 env v >>= fun _ =>
        (eval iter2 env >>= fun x => standAt iter2.pos >>= fun _ => foldedSetIterable iter2 env x >>= fun x => holding [x] (pyIter x) >>= fun it' => runOwn (.compStart (.ListComp elt [⟨t1, iter1, [], 0⟩, ⟨t2, iter2, [], 0⟩] scope pos) 1 it' acc env) env >>= fun _ =>
          again (.compLoop (.ListComp elt [⟨t1, iter1, [], 0⟩, ⟨t2, iter2, [], 0⟩] scope pos) 0 it acc env))) := by rfl
theorem compTurn2b (elt t1 iter1 t2 iter2 : Expr) (scope : Scope) (pos : Pos) (it acc : Value) (env : Env) :
    compTurn (.ListComp elt [⟨t1, iter1, [], 0⟩, ⟨t2, iter2, [], 0⟩] scope pos) 1 it acc env = (standAt iter2.pos >>= fun _ => pyNext it >>= fun r => match r with
      | none => pure (.done .next)
      | some v => letOwnedTupleGo t2 it v >>= fun _ => assign t2 env v >>= fun _ =>
        (eval elt env >>= fun x => call (.builtin "list.append") [acc, x] >>= fun _ => pure ()) >>= fun _ =>
          again (.compLoop (.ListComp elt [⟨t1, iter1, [], 0⟩, ⟨t2, iter2, [], 0⟩] scope pos) 1 it acc env)) := by rfl
theorem codeAny_comp2a {elt t1 iter1 t2 iter2 : Expr} {scope : Scope} {pos : Pos} {it acc : Value} {env : Env} (I : Nat → Shared → Prop)
    (turn : ∀ n s, I n s → wpAny (model prog w) A (pyNext it) (fun r s₁ => match r with
      | none => R (.ok .next) s₁
      | some v => wpAny (model prog w) A (assign t1 env v) (fun _ s₂ => wpAny (model prog w) A (eval iter2 env) (fun x s₃ => wpAny (model prog w) A (pyIter x) (fun it' s₄ =>
          codeAny (model prog w) A (.compStart (.ListComp elt [⟨t1, iter1, [], 0⟩, ⟨t2, iter2, [], 0⟩] scope pos) 1 it' acc env) (fun r s₅ => match r with
            | .ok _ => ∃ m, m < n ∧ I m s₅
            | .error e => cameBackBy (model prog w) A env (notedBy (model prog w) A env fun e s' => R (.error e) s') e s₅) s₄)
          (notedBy (model prog w) A env fun e s' => R (.error e) s') s₃) (notedBy (model prog w) A env fun e s' => R (.error e) s') s₂) (notedBy (model prog w) A env fun e s' => R (.error e) s') s₁) (notedBy (model prog w) A env fun e s' => R (.error e) s') s)
    (n : Nat) (h : I n s) (ht : ∀ v, letOwnedTupleGo t1 it v = pure () := by intro _; rfl) (hs : ∀ x, foldedSetIterable iter2 env x = pure x := by intro _; rfl) :
    codeAny (model prog w) A (.compLoop (.ListComp elt [⟨t1, iter1, [], 0⟩, ⟨t2, iter2, [], 0⟩] scope pos) 0 it acc env) R s := by
  refine codeAny_loop rfl I (fun n s hI => ?_) n h
  show wpAny _ A ((compTurn (.ListComp elt [⟨t1, iter1, [], 0⟩, ⟨t2, iter2, [], 0⟩] scope pos) 0 it acc env).onRaise (fun x => do noteFrame x env; theTreesLotGoes x)) _ _ s
  refine wpAny_noted ?_
  rw [compTurn2a]
  refine wpAny_bind (wpAny_standAt (wpAny_bind (wpAny_mono (turn n s hI) (fun r s₁ h₁ => ?_) fun _ _ h' => h')))
  cases r with
  | none => exact wpAny_pure h₁
  | some v =>
    refine wpAny_bind (wpAny_of_eq (ht v) ?_)
    refine wpAny_bind (wpAny_mono h₁ (fun _ s₂ h₂ => wpAny_bind (wpAny_mono h₂ (fun x s₃ h₃ => wpAny_bind (wpAny_standAt (wpAny_bind (wpAny_of_eq (hs x) (wpAny_bind (wpAny_holding (wpAny_mono h₃ (fun it' s₄ h₄ => ?_) fun _ _ h' => h'))))))) fun _ _ h' => h')) fun _ _ h' => h')
    refine wpAny_bind (wpAny_runOwn (codeAny_mono h₄ fun r s₅ hr => ?_))
    cases r with
    | ok f => exact wpAny_pure ⟨rfl, hr⟩
    | error e => exact hr
theorem codeAny_comp2b {elt t1 iter1 t2 iter2 : Expr} {scope : Scope} {pos : Pos} {it acc : Value} {env : Env} (I : Nat → Shared → Prop)
    (turn : ∀ n s, I n s → wpAny (model prog w) A (pyNext it) (fun r s₁ => match r with
      | none => R (.ok .next) s₁
      | some v => wpAny (model prog w) A (assign t2 env v) (fun _ s₂ => wpAny (model prog w) A (eval elt env) (fun x s₃ =>
          wpAny (model prog w) A (call (.builtin "list.append") [acc, x]) (fun _ s₄ => ∃ m, m < n ∧ I m s₄) (notedBy (model prog w) A env fun e s' => R (.error e) s') s₃)
          (notedBy (model prog w) A env fun e s' => R (.error e) s') s₂) (notedBy (model prog w) A env fun e s' => R (.error e) s') s₁) (notedBy (model prog w) A env fun e s' => R (.error e) s') s)
    (n : Nat) (h : I n s) (ht : ∀ v, letOwnedTupleGo t2 it v = pure () := by intro _; rfl) :
    codeAny (model prog w) A (.compLoop (.ListComp elt [⟨t1, iter1, [], 0⟩, ⟨t2, iter2, [], 0⟩] scope pos) 1 it acc env) R s := by
  refine codeAny_loop rfl I (fun n s hI => ?_) n h
  show wpAny _ A ((compTurn (.ListComp elt [⟨t1, iter1, [], 0⟩, ⟨t2, iter2, [], 0⟩] scope pos) 1 it acc env).onRaise (fun x => do noteFrame x env; theTreesLotGoes x)) _ _ s
  refine wpAny_noted ?_
  rw [compTurn2b]
  refine wpAny_bind (wpAny_standAt (wpAny_bind (wpAny_mono (turn n s hI) (fun r s₁ h₁ => ?_) fun _ _ h' => h')))
  cases r with
  | none => exact wpAny_pure h₁
  | some v =>
    refine wpAny_bind (wpAny_of_eq (ht v) ?_)
    exact wpAny_bind (wpAny_mono h₁ (fun _ s₂ h₂ => wpAny_bind (wpAny_bind (wpAny_mono h₂ (fun x s₃ h₃ => wpAny_bind (wpAny_mono h₃
      (fun _ s₄ h₄ => wpAny_pure (wpAny_pure ⟨rfl, h₄⟩)) fun _ _ h' => h')) fun _ _ h' => h'))) fun _ _ h' => h')
theorem codeAny_compStart1 {elt t1 iter1 t2 iter2 : Expr} {scope : Scope} {pos : Pos} {it acc : Value} {env : Env}
    (h0 : codeAny (model prog w) A (.compLoop (.ListComp elt [⟨t1, iter1, [], 0⟩, ⟨t2, iter2, [], 0⟩] scope pos) 1 it acc env) R s)
    (h : wpAny (model prog w) A (pyIter it) (fun it' s' => codeAny (model prog w) A (.compLoop (.ListComp elt [⟨t1, iter1, [], 0⟩, ⟨t2, iter2, [], 0⟩] scope pos) 1 it' acc env) R s')
      (notedBy (model prog w) A env fun x s' => R (.error x) s') s) :
    codeAny (model prog w) A (.compStart (.ListComp elt [⟨t1, iter1, [], 0⟩, ⟨t2, iter2, [], 0⟩] scope pos) 1 it acc env) R s := by
  refine codeAny_of_tree ?_
  show wpAny _ _ ((compStart (.ListComp elt [⟨t1, iter1, [], 0⟩, ⟨t2, iter2, [], 0⟩] scope pos) 1 it acc env).onRaise (fun x => do noteFrame x env; standAt theWindowsPlace)) _ _ s
  refine wpAny_notedAt ?_
  unfold compStart
  show wpAny _ _ (ask >>= _) _ _ s
  refine wpAny_bind (wpAny_askSetting (wpAny_ite ?_))
  split
  · first
      | exact wpAny_bind (wpAny_pure (wpAny_pure (And.intro rfl h0)))
      | exact wpAny_pure (And.intro rfl h0)
  · first
      | exact wpAny_bind (wpAny_rule (wpAny_bind (wpAny_standAt (wpAny_bind (wpAny_mono h (fun it' s' h' => wpAny_pure (And.intro rfl h')) fun _ _ x => x)))))
      | (refine wpAny_bind (wpAny_rule ?_); show wpAny _ _ (standAt iter2.pos >>= _) _ _ s; exact wpAny_bind (wpAny_standAt (wpAny_bind (wpAny_mono h (fun it' s' h' => wpAny_pure (And.intro rfl h')) fun _ _ x => x))))
end
end Mine
namespace Mine
section
variable {prog : Program} {w : World} {A : Around} {env : Env} {h : Heap}
noncomputable def totF (ys : D → List D) (g : D → D → D) (ds : List D) : List D := ds.flatMap fun d => (ys d).map (g d)
theorem totF_succ {ys : D → List D} {g : D → D → D} {ds : List D} {i : Nat} {d : D} (hd : ds[i]? = some d) : totF ys g (ds.take (i + 1)) = totF ys g (ds.take i) ++ (ys d).map (g d) := by
  unfold totF
  rw [List.take_add_one, hd, List.flatMap_append]; simp
set_option maxHeartbeats 4000000 in
theorem comp_core2 {elt iter iter2 : Expr} {x y : PySem.Str} {px py : Pos} {scope : Scope} {pos : Pos} {N : Addr → Prop} {s s₂ : Shared} {I : Addr} {fp wr : List Addr} {P : Nat → Value → Prop} {St : Nat → Heap → Prop} {ds : List D} {E : Value → Shared → Prop}
    (kh : Ext h s.heap) (hp : HP N h) (nw : Nw N s) (gr : Gr s s₂) (it : ItW prog w A N s s₂ I fp wr P St ds) (hkind : scope.kind = .function) (hx : scope.names.lookup x = some .local) (hy : scope.names.lookup y = some .local) (hxy : x ≠ y)
    (hnc : ∀ y ∈ scope.names, y.2 = .cell → scope.names.lookup y.1 = some .cell) (hfree : ∀ y ∈ scope.names, y.2 = .free → (env.cells.lookup y.1).isSome = true)
    (ys : D → List D) (g : D → D → D) (hz : ∀ i, (totF ys g (ds.take i)).length ≤ sizeLine)
    (inner : ∀ (cenv : Env) (h₃ : Heap) (i : Nat) (d : D), CE env scope cenv → Ext h h₃ → ds[i]? = some d → LV cenv h₃ x d → EvI prog w A cenv h₃ iter2 (ys d))
    (body : ∀ (cenv : Env) (h₃ : Heap) (i j : Nat) (d e : D), CE env scope cenv → Ext h h₃ → ds[i]? = some d → (ys d)[j]? = some e → LV cenv h₃ x d → LV cenv h₃ y e → Ev prog w A cenv h₃ elt (g d e))
    (hs2 : ∀ cenv x, foldedSetIterable iter2 cenv x = pure x)
    {RR : Value → Addr → Result → Shared → Prop}
    (hRR : ∀ (a C : Addr) (s' : Shared) (m : PySem.Str → Option Value) (n : Nat) (items : Array Value), Off wr s₂ s' → s'.heap.Ns C m → IsL s'.heap a items n → RdL (fun b => N b ∧ b ≠ a) s'.heap items.toList (totF ys g ds) → s₂.heap.get? a = none → s₂.heap.get? C = none → a ≠ C →
      RR (.ref a) C (.ok .next) s') :
    wpAny (model prog w) A (newList []) (fun acc s₃ => wpAny (model prog w) A (newFunctionEnv scope env.globals (clOf scope.names env []) [] env.qual none .none (some env)) (fun cenv s₄ =>
      codeAny (model prog w) A (.compStart (.ListComp elt [⟨.Name x px, iter, [], 0⟩, ⟨.Name y py, iter2, [], 0⟩] scope pos) 0 (.ref I) acc { cenv with scope := relabel scope env }) (RR acc cenv.locals) s₄) E s₃) E s₂ := by
  refine wpAny_newObj_type (wp_newCompEnv ?_)
  dsimp only
  generalize hD : s₂.heap.objs.size = Da
  generalize hH2 : s₂.heap.push { cls := .type "list", dict := none, data := .seq ([] : List Value).toArray } = H2
  have hC : H2.objs.size = Da + 1 := by rw [← hH2, Heap.size_push, hD]
  rw [hC]
  have ok := cellsFrom_ok scope.names (H2.push { cls := .type "dict", data := .dict #[] }) (Da + 2) [] ⟨fun _ _ hm => (nomatch hm), List.Pairwise.nil⟩ (by rw [Heap.size_push, hC]; exact Nat.le_refl _)
  rw [Heap.size_push, hC] at ok
  generalize hH3 : pushCells (H2.push { cls := .type "dict", data := .dict #[] }) scope.names = H3 at ok ⊢
  have k2 : Ext s₂.heap H2 := hH2 ▸ Ext.rf.push _
  have k3 : Ext H2 H3 := fun b o e => hH3 ▸ pushCells_keeps _ _ b o (Heap.get?_push_of_some _ e)
  have hDl : IsL H3 Da #[] 0 := k3 _ _ (by rw [← hH2, ← hD]; exact Heap.get?_push_size _ rfl)
  have hCn : H3.Ns (Da + 1) (fun _ => none) := by
    rw [← hH3, ← hC]; exact (Heap.Ns.new H2 (.type "dict")).keeps (pushCells_keeps _ _)
  have nD : s₂.heap.get? Da = none := none_of_size (by omega)
  have nC : s₂.heap.get? (Da + 1) = none := none_of_size (by omega)
  have fpD : ∀ b ∈ fp, @LT.lt Nat _ b Da := fun b hb => by
    obtain ⟨o, ho⟩ := it.there b hb
    have h1 : @LT.lt Nat _ b s₂.heap.objs.size := Heap.lt_size ho
    rw [hD] at h1; exact h1
  have wrD : ∀ b ∈ wr, @LT.lt Nat _ b Da := fun b hb => fpD b (it.W.sub b hb)
  have lt₂ : ∀ b o, s₂.heap.get? b = some o → @LT.lt Nat _ b Da := fun b o e => by
    have h1 : @LT.lt Nat _ b s₂.heap.objs.size := Heap.lt_size e
    rw [hD] at h1; exact h1
  have fld₂ := it.fld 0 _ it.st
  -- the block's environment
  generalize hcenv : ({ scope := relabel scope env, locals := Da + 1, globals := env.globals, cells := cellsFrom (Da + 1 + 1) scope.names (clOf scope.names env []), qual := env.qual, func := none, code := env.code, frame := env.frame, builtins := env.builtins } : Env) = cenv
  have ce : CE env scope cenv := by
    subst hcenv
    refine ⟨rfl, rfl, rfl, fun y hy => ?_⟩
    show (cellsFrom (Da + 1 + 1) scope.names (clOf scope.names env [])).lookup y = _
    rw [cellsFrom_app, List.lookup_append, lookup_none_of_not_mem (fun c hc => by
      have := hnc _ (cellsFrom_mem _ _ _ _ hc) rfl
      rw [hy] at this; cases this)]
    exact clOf_lookup (.inl (mem_of_lookup hy)) hfree
  have hcl : cenv.locals = Da + 1 := by subst hcenv; rfl
  have hck : cenv.scope.kind = .function := by rw [ce.scp]; exact hkind
  have hDC : Da ≠ Da + 1 := Nat.ne_of_lt (Nat.lt_succ_self _)
  have kx := ce.kind hx
  have ky := ce.kind hy
  generalize hN' : (fun b => N b ∧ b ≠ Da) = N'
  have N'1 : ∀ b, N' b → N b := fun b hb => by rw [← hN'] at hb; exact hb.1
  have N'2 : ∀ b, N' b → b ≠ Da := fun b hb => by rw [← hN'] at hb; exact hb.2
  have N'3 : ∀ b, N b → b ≠ Da → N' b := fun b h1 h2 => by rw [← hN']; exact ⟨h1, h2⟩
  have loop : ∀ s₄ : Shared, s₄ = { s₂ with heap := H3 } → codeAny (model prog w) A (.compLoop (.ListComp elt [⟨.Name x px, iter, [], 0⟩, ⟨.Name y py, iter2, [], 0⟩] scope pos) 0 (.ref I) (.ref Da) cenv) (RR (.ref Da) (Da + 1)) s₄ := by
    rintro s₄ rfl
    refine codeAny_comp2a (hs := hs2 cenv) (fun k s' => ∃ i m n items, Off wr s₂ s' ∧ St i s'.heap ∧ s'.heap.Ns (Da + 1) m ∧ IsL s'.heap Da items n ∧ RdL N' s'.heap items.toList (totF ys g (ds.take i)) ∧ i ≤ ds.length ∧ k = ds.length + 1 - i) ?_ (ds.length + 1)
      ⟨0, _, _, _, .hp fun b o _ e => k3 _ _ (k2 _ _ e), it.W.frame _ _ _ it.st fun b _ o e => k3 _ _ (k2 _ _ e), hCn, hDl, by simpa [totF] using .nil, Nat.zero_le _, rfl⟩
    rintro k s' ⟨i, m, n, items, off, st, hns, hl, hrd, hi, rfl⟩
    by_cases hlt : i < ds.length
    · refine it.W.item i s' _ _ hlt st fun v h₁ tk₁ hPv hst₁ hk₁ => ?_
      obtain ⟨d, hd, hrv⟩ := it.rd i v hPv
      have off₁ : Off wr s' { s' with heap := h₁, toks := tk₁ } := .hp hk₁
      have fld' := it.fld i _ st
      have lk₁ : ∀ P', LK P' s'.heap h₁ := fun _ => off₁.lk fld'
      have hwD : Da ∉ wr := fun hb => Nat.lt_irrefl _ (wrD _ hb)
      have hwC : Da + 1 ∉ wr := fun hb => Nat.lt_irrefl _ (Nat.lt_of_succ_lt (wrD _ hb))
      have hns₁ : h₁.Ns (Da + 1) m := hns.at' fun o e => hk₁ _ o hwC e
      refine wpAny_assign_Name (wp_store (b := Da + 1) hck (.inl ⟨kx, hcl.symm, m, hcl ▸ hns₁⟩) fun h₂ tk₂ hs₂ hold₂ htg₂ hnst => ?_)
      have hns₂ : h₂.Ns (Da + 1) (fun z => if z = x then some v else m z) := hcl ▸ hnst m (hcl.symm ▸ hns₁) hcl.symm
      have lk₂ : ∀ P', LK P' h₁ h₂ := fun _ => .of_but (N := fun b => b = Da + 1) (fun b o hb e => hs₂.extBut b o hb e) fun b o hb e => by
        subst hb; obtain ⟨o', e', z⟩ := ns_noseq hns₁; rw [e] at e'; cases e'; exact z
      have hrv₂ : Rd N' h₂ v d := hrv.here.keep (fun b ⟨hb, vs, n, e⟩ => N'3 b hb fun q => by rw [q] at e; rw [show s₂.heap.get? Da = _ from e] at nD; cases nD) (((off.lk fld₂).trans (lk₁ _)).trans (lk₂ _))
      have off₂ : Off wr s₂ { s' with heap := h₂, toks := tk₂ } := ⟨fun b o hb e => hs₂.extBut b o (fun q => by
          have := lt₂ b o e; rw [q] at this; exact Nat.lt_irrefl _ (Nat.lt_of_succ_lt this)) (hk₁ b o hb (off.heap b o hb e)), off.gens, off.bare, off.os⟩
      have ext₂ : Ext s.heap h₂ := fun b o e => off₂.heap b o (fun hb => by rw [it.fresh b hb] at e; cases e) (gr.heap b o e)
      have toN : ∀ {h' : Heap}, Ext s.heap h' → Ext h (hideL N' h') := fun {h'} ex b o e => hideL_some (ex b o (kh b o e)) fun vs n q => N'3 b (hp b vs n (by subst q; exact e)) fun q' => by
        have := gr.heap _ _ (kh _ _ e); rw [q', nD] at this; cases this
      have toW : ∀ {s₉ : Shared}, Ext s.heap s₉.heap → (∃ vs n, IsL s₉.heap Da vs n) → Nw N' s₉ := fun {s₉} ex ⟨vs, n, hl⟩ b e => by
        refine N'3 b (nw b ?_) fun q => by rw [q, show s₉.heap.get? Da = _ from hl] at e; cases e
        cases e3 : s.heap.get? b with
        | none => rfl
        | some o => rw [ex b o e3] at e; cases e
      have hl₂ : IsL h₂ Da items n := hs₂.extBut _ _ hDC (hk₁ _ _ hwD hl)
      have hst₂ : St (i + 1) h₂ := it.W.frame _ _ _ hst₁ fun b hb o e => hs₂.extBut b o (fun q => by
        have := fpD b hb; rw [q] at this; exact Nat.lt_irrefl _ (Nat.lt_of_succ_lt this)) e
      have hrd₂ : RdL N' h₂ items.toList (totF ys g (ds.take i)) := hrd.keep (fun _ h => h) ((lk₁ _).trans (lk₂ _))
      have fpX : ∀ b ∈ fp, ∃ o, h₂.get? b = some o := fun b hb => by
        have h1 : b ≠ Da + 1 := fun q => by
          have := fpD b hb; rw [q] at this; exact Nat.lt_irrefl _ (Nat.lt_of_succ_lt this)
        by_cases hw : b ∈ wr
        · obtain ⟨o, fs, e, _⟩ := it.fld (i + 1) _ hst₁ b hw
          exact ⟨o, hs₂.extBut _ _ h1 e⟩
        · obtain ⟨o, e⟩ := it.there b hb
          exact ⟨o, off₂.heap b o hw e⟩
      refine inner cenv (hideL N' h₂) i d ce (toN ext₂) hd ⟨v, hideL_holds hold₂, hideL_rd hrv₂⟩ N' _ hideL_ext hideL_hp (toW ext₂ ⟨_, _, hl₂⟩) _ _ fun I₂ fp₂ wr₂ P₂ St₂ s₅ g₅ it₅ => ?_
      have fld₅ := it₅.fld 0 _ it₅.st
      have w2D : Da ∉ wr₂ := fun hb => by
        have := it₅.fresh _ hb
        rw [show h₂.get? Da = some _ from hl₂] at this; cases this
      have w2C : Da + 1 ∉ wr₂ := fun hb => by
        obtain ⟨o, e, _⟩ := ns_noseq hns₂
        rw [show h₂.get? (Da + 1) = none from it₅.fresh _ hb] at e; cases e
      have hl₅ : IsL s₅.heap Da items n := g₅.heap _ _ hl₂
      have hns₅ := hns₂.keeps g₅.heap
      have f2ok : ∀ b ∈ fp₂, b ≠ Da ∧ b ≠ Da + 1 := fun b hb => by
        rcases it₅.src b hb with h | ⟨h1, vs, n', h2⟩ | ⟨vs, n', h2⟩
        · exact ⟨fun q => w2D (q ▸ h), fun q => w2C (q ▸ h)⟩
        · exact ⟨N'2 b h1, fun q => isL_ne h2 (ns_noseq hns₅) q.symm⟩
        · exact ⟨fun q => isL_isT hl₅ (q ▸ h2), fun q => isT_noseq h2 (ns_noseq hns₅) q.symm⟩
      have loop₂ : codeAny (model prog w) A (.compLoop (.ListComp elt [⟨.Name x px, iter, [], 0⟩, ⟨.Name y py, iter2, [], 0⟩] scope pos) 1 (.ref I₂) (.ref Da) cenv) (fun r s₅ => match r with
            | .ok _ => ∃ m, m < ds.length + 1 - i ∧ ∃ i m' n items, Off wr s₂ s₅ ∧ St i s₅.heap ∧ s₅.heap.Ns (Da + 1) m' ∧ IsL s₅.heap Da items n ∧ RdL N' s₅.heap items.toList (totF ys g (ds.take i)) ∧ i ≤ ds.length ∧ m = ds.length + 1 - i
            | .error e => cameBackBy (model prog w) A cenv (notedBy (model prog w) A cenv fun e s' => RR (.ref Da) (Da + 1) (.error e) s') e s₅) s₅ := by
        refine codeAny_comp2b (fun k s₆ => ∃ j m' n' items', Off (Da :: (Da + 1) :: wr₂) s₅ s₆ ∧ St₂ j s₆.heap ∧ s₆.heap.Ns (Da + 1) m' ∧ m' x = some v ∧ IsL s₆.heap Da items' n' ∧ RdL N' s₆.heap items'.toList (totF ys g (ds.take i) ++ ((ys d).take j).map (g d)) ∧ j ≤ (ys d).length ∧ k = (ys d).length + 1 - j) ?_ ((ys d).length + 1)
          ⟨0, _, _, _, .refl _ _, it₅.st, hns₅, if_pos rfl, hl₅, by simpa using hrd₂.up g₅.heap, Nat.zero_le _, rfl⟩
        rintro k s₆ ⟨j, m', n', items', off₆, st₆, hns₆, hmx, hl₆, hrd₆, hj, rfl⟩
        have lk₆ : LK N' s₅.heap s₆.heap := by
          have key : ∀ b o, (b ≠ Da ∧ ∃ vs n, o.data = .seq vs n) → s₅.heap.get? b = some o → s₆.heap.get? b = some o := fun b o ⟨h1, vs, n, h2⟩ e => off₆.heap b o (fun hb => by
            rcases List.mem_cons.mp hb with hb | hb
            · exact h1 hb
            · rcases List.mem_cons.mp hb with hb | hb
              · obtain ⟨o', e', z⟩ := ns_noseq hns₅
                rw [← hb, e] at e'; cases e'
                rcases z with ⟨_, _, z⟩ | ⟨_, z⟩ | ⟨_, z⟩ <;> rw [z] at h2 <;> cases h2
              · obtain ⟨o', fs, e', z⟩ := fld₅ b hb
                rw [e] at e'; cases e'
                rw [z] at h2; cases h2) e
          exact ⟨fun a vs n e p => key _ _ ⟨N'2 a p, vs, n, rfl⟩ e, fun a vs n e => key _ _ ⟨fun q => isL_isT hl₅ (q ▸ e), vs, n, rfl⟩ e⟩
        have fld₆ := it₅.fld j _ st₆
        have ext₆ : ∀ b o, b ∉ wr → s₂.heap.get? b = some o → s₆.heap.get? b = some o := fun b o hb e => by
          have e3 := off₂.heap b o hb e
          refine off₆.heap b o (fun h => ?_) (g₅.heap _ _ e3)
          have := lt₂ b o e
          rcases List.mem_cons.mp h with h | h
          · rw [h] at this; exact Nat.lt_irrefl _ this
          · rcases List.mem_cons.mp h with h | h
            · rw [h] at this; exact Nat.lt_irrefl _ (Nat.lt_of_succ_lt this)
            · rw [it₅.fresh b h] at e3; cases e3
        have offO : Off wr s₂ s₆ := ⟨ext₆, fun g z e => off₆.gens g z (g₅.gens g z (off₂.gens g z e)), fun e => off₆.bare (g₅.bare (off₂.bare e)), off₆.os.trans (g₅.os.trans off₂.os)⟩
        have stO : St (i + 1) s₆.heap := it.W.frame _ _ _ hst₂ fun b hb o e => off₆.heap b o (fun h => by
          have := fpD b hb
          rcases List.mem_cons.mp h with h | h
          · rw [h] at this; exact Nat.lt_irrefl _ this
          · rcases List.mem_cons.mp h with h | h
            · rw [h] at this; exact Nat.lt_irrefl _ (Nat.lt_of_succ_lt this)
            · rw [it₅.fresh b h] at e; cases e) (g₅.heap _ _ e)
        by_cases hlt₂ : j < (ys d).length
        · refine it₅.W.item j s₆ _ _ hlt₂ st₆ fun u h₇ tk₇ hPu hst₇ hk₇ => ?_
          obtain ⟨e, he, hru⟩ := it₅.rd j u hPu
          have off₇ : Off wr₂ s₆ { s₆ with heap := h₇, toks := tk₇ } := .hp hk₇
          have lk₇ : ∀ P', LK P' s₆.heap h₇ := fun _ => off₇.lk fld₆
          have hns₇ : h₇.Ns (Da + 1) m' := hns₆.at' fun o e => hk₇ _ o w2C e
          refine wpAny_assign_Name (wp_store (b := Da + 1) hck (.inl ⟨ky, hcl.symm, m', hcl ▸ hns₇⟩) fun h₈ tk₈ hs₈ hold₈ htg₈ hnst₈ => ?_)
          have hns₈ : h₈.Ns (Da + 1) (fun z => if z = y then some u else m' z) := hcl ▸ hnst₈ m' (hcl.symm ▸ hns₇) hcl.symm
          have lk₈ : ∀ P', LK P' h₇ h₈ := fun _ => .of_but (N := fun b => b = Da + 1) (fun b o hb e => hs₈.extBut b o hb e) fun b o hb e => by
            subst hb; obtain ⟨o', e', z⟩ := ns_noseq hns₇; rw [e] at e'; cases e'; exact z
          have lk58 : LK N' s₅.heap h₈ := (lk₆.trans (lk₇ _)).trans (lk₈ _)
          have hrv₈ : Rd N' h₈ v d := (hrv₂.up g₅.heap).keep (fun _ h => h) lk58
          have hru₈ : Rd N' h₈ u e := hru.keep (fun _ h => h) lk58
          have holdx : Holds cenv h₈ x v := ⟨hck, .inl ⟨kx, _, hcl.symm ▸ hns₈, (if_neg hxy).trans hmx⟩⟩
          have hl₈ : IsL h₈ Da items' n' := hs₈.extBut _ _ hDC (hk₇ _ _ w2D hl₆)
          have ext₈ : Ext s.heap h₈ := fun b o e => by
            have hw : b ∉ wr := fun hb => by rw [it.fresh b hb] at e; cases e
            have e2 := gr.heap b o e
            have e3 := off₂.heap b o hw e2
            have hw2 : b ∉ wr₂ := fun hb => by rw [it₅.fresh b hb] at e3; cases e3
            exact hs₈.extBut b o (fun q => by have := lt₂ b o e2; rw [q] at this; exact Nat.lt_irrefl _ (Nat.lt_of_succ_lt this)) (hk₇ b o hw2 (ext₆ b o hw e2))
          refine body cenv (hideL N' h₈) i j d e ce (toN ext₈) hd he ⟨v, hideL_holds holdx, hideL_rd hrv₈⟩ ⟨u, hideL_holds hold₈, hideL_rd hru₈⟩ N' _ hideL_ext hideL_hp (toW ext₈ ⟨_, _, hl₈⟩) _ _ fun z s₉ g₉ r₉ => ?_
          have hl₉ : IsL s₉.heap Da items' n' := g₉.heap _ _ hl₈
          have htk : ((ys d).take (j + 1)).map (g d) = ((ys d).take j).map (g d) ++ [g d e] := by
            rw [List.take_add_one, he]; simp
          have hsz : items'.size ≤ sizeLine := by
            have e1 := hrd₆.length
            have e2 := hz (i + 1)
            rw [totF_succ hd] at e2
            have e3 : ((ys d).take j).length ≤ (ys d).length := by rw [List.length_take]; omega
            simp only [List.length_append, List.length_map, Array.length_toList] at e1 e2
            omega
          refine wpAny_list_append_plain ⟨n', hl₉⟩ (fun h₁₀ hl₁₀ hs₁₀ => ?_) hsz
          obtain ⟨n₁₀, hl₁₀⟩ := hl₁₀
          have lk₁₀ : LK N' s₉.heap h₁₀ := ⟨fun a vs n e q => hs₁₀.extBut _ _ (N'2 a q) e, fun a vs n e => hs₁₀.extBut _ _ (fun q => isL_isT hl₉ (q ▸ e)) e⟩
          refine ⟨(ys d).length + 1 - (j + 1), by omega, j + 1, (fun z => if z = y then some u else m' z), n₁₀, items'.push z, ?_, ?_, ?_, (if_neg hxy).trans hmx, hl₁₀, ?_, hlt₂, rfl⟩
          · refine ⟨fun b o hb e => ?_, fun g z e => g₉.gens g z (off₆.gens g z e), fun e => g₉.bare (off₆.bare e), g₉.os.trans off₆.os⟩
            have b1 : b ≠ Da := fun q => hb (q ▸ List.mem_cons_self ..)
            have b2 : b ≠ Da + 1 := fun q => hb (q ▸ List.mem_cons_of_mem _ (List.mem_cons_self ..))
            have b3 : b ∉ wr₂ := fun q => hb (List.mem_cons_of_mem _ (List.mem_cons_of_mem _ q))
            exact hs₁₀.extBut b o b1 (g₉.heap _ _ (hs₈.extBut b o b2 (hk₇ b o b3 (off₆.heap b o hb e))))
          · exact it₅.W.frame _ _ _ hst₇ fun b hb o e => hs₁₀.extBut b o (f2ok b hb).1 (g₉.heap _ _ (hs₈.extBut b o (f2ok b hb).2 e))
          · exact (hns₈.keeps g₉.heap).sameBut hs₁₀ hDC.symm
          · rw [htk, ← List.append_assoc, Array.toList_push]
            exact (((hrd₆.keep (fun _ h => h) ((lk₇ _).trans (lk₈ _))).up g₉.heap).keep (fun _ h => h) lk₁₀).append (.cons (r₉.keep (fun _ h => h) lk₁₀) .nil)
        · have hj' : j = (ys d).length := by omega
          subst hj'
          refine it₅.W.done s₆ _ _ st₆ fun h₇ tk₇ hk₇ => ?_
          have off₇ : Off wr₂ s₆ { s₆ with heap := h₇, toks := tk₇ } := .hp hk₇
          have lk₇ : LK N' s₆.heap h₇ := off₇.lk fld₆
          rw [List.take_length, ← totF_succ hd] at hrd₆
          refine ⟨ds.length + 1 - (i + 1), by omega, i + 1, m', n', items', ?_, ?_, hns₆.at' fun o e => hk₇ _ o w2C e, hk₇ _ _ w2D hl₆, hrd₆.keep (fun _ h => h) lk₇, hlt, rfl⟩
          · refine ⟨fun b o hb e => hk₇ b o (fun h => ?_) (ext₆ b o hb e), offO.gens, offO.bare, offO.os⟩
            have e3 := off₂.heap b o hb e
            rw [it₅.fresh b h] at e3; cases e3
          · refine it.W.frame _ _ _ stO fun b hb o e => hk₇ b o (fun h => ?_) e
            obtain ⟨o', e'⟩ := fpX b hb
            rw [show h₂.get? b = none from it₅.fresh b h] at e'; cases e'
      exact codeAny_compStart1 loop₂ (it₅.W.self 0 _ _ _ it₅.st loop₂)
    · have hi' : i = ds.length := by omega
      subst hi'
      refine it.W.done s' _ _ st fun h₁ tk₁ hk₁ => ?_
      have hwD : Da ∉ wr := fun hb => Nat.lt_irrefl _ (wrD _ hb)
      have hwC : Da + 1 ∉ wr := fun hb => Nat.lt_irrefl _ (Nat.lt_of_succ_lt (wrD _ hb))
      have off₁ : Off wr s' { s' with heap := h₁, toks := tk₁ } := .hp hk₁
      have lk₁ : LK N' s'.heap h₁ := off₁.lk (it.fld _ _ st)
      rw [List.take_length] at hrd
      subst hN'
      exact hRR Da (Da + 1) _ m n items (off.trans off₁) (hns.at' fun o e => hk₁ _ o hwC e) (hk₁ _ _ hwD hl) (hrd.keep (fun _ h => h) lk₁) nD nC hDC
  exact codeAny_compStart_list (loop _ rfl) (it.W.self 0 _ _ _ (it.W.frame _ _ _ it.st fun b _ o e => k3 _ _ (k2 _ _ e)) (loop _ rfl))
end
end Mine
namespace Mine
section
variable {prog : Program} {w : World} {A : Around} {env : Env} {h : Heap}
theorem wp_assignU2 {x x2 y : PySem.Str} {px px2 py pos spos : Pos} {elt iter iter2 : Expr} {scope : Scope} {ds : List D} {fr : List PySem.Str} {P : Addr → Prop} {s : Shared} {tb : Addr} {Q : Flow → Shared → Prop} {E : Value → Shared → Prop} (ys : D → List D) (g : D → D → D)
    (hk : env.scope.kind = .function) (t : Tgt env s.heap y tb) (k : Ext h s.heap) (hp : HP P h) (nw : Nw P s)
    (hi : EvI prog w A env h iter ds) (hok : compOk scope x = true) (hfr : (scope.names.filter fun y => y.2 == NameKind.free).map (·.1) = fr) (hc : AllC env fr) (hz : ∀ i, (totF ys g (ds.take i)).length ≤ sizeLine) (hx1 : scope.names.lookup x = some .local) (hx2 : scope.names.lookup x2 = some .local) (hxy : x ≠ x2)
    (inner : ∀ (cenv : Env) (h₃ : Heap) (i : Nat) (d : D), CE env scope cenv → Ext h h₃ → ds[i]? = some d → LV cenv h₃ x d → EvI prog w A cenv h₃ iter2 (ys d))
    (body : ∀ (cenv : Env) (h₃ : Heap) (i j : Nat) (d e : D), CE env scope cenv → Ext h h₃ → ds[i]? = some d → (ys d)[j]? = some e → LV cenv h₃ x d → LV cenv h₃ x2 e → Ev prog w A cenv h₃ elt (g d e))
    (q : ∀ a n items s', Stored env y (.ref a) tb s s' → s.heap.get? a = none → IsL s'.heap a items n → RdL (fun b => P b ∧ b ≠ a) s'.heap items.toList (totF ys g ds) → Q .next s')
    (hsw : swapsWith (.ListComp elt [⟨.Name x px, iter, [], 0⟩, ⟨.Name x2 px2, iter2, [], 0⟩] scope pos) (some (.Name y py)) spos.line env = pure true := by with_unfolding_all rfl)
    (hs : ∀ x, foldedSetIterable iter env x = pure x := by intro _; rfl) (hs2 : ∀ cenv x, foldedSetIterable iter2 cenv x = pure x := by intro _ _; rfl) : wpAny (model prog w) A (exec (.Assign [.Name y py] (.ListComp elt [⟨.Name x px, iter, [], 0⟩, ⟨.Name x2 px2, iter2, [], 0⟩] scope pos) spos) env) Q E s := by
  obtain ⟨hkind, hx, hnc, hnames⟩ := compOk_parts hok
  have hfree := allC_free hfr hc
  rw [exec_Assign_Name_used _ _ _ _ hsw]
  refine wpAny_bind (wpAny_standAt (wpAny_bind ?_))
  show wpAny _ A (do let _ ← comprehension (.ListComp elt [⟨.Name x px, iter, [], 0⟩, ⟨.Name x2 px2, iter2, [], 0⟩] scope pos) scope env _ (newList []) false (eval iter env) (some (assign (.Name y py) env))) _ _ s
  refine wpAny_bind (wpAny_mono (wpAny_comprehension_free (use := some (assign (.Name y py) env)) (Q := fun _ s' => Q .next s') rfl hs (closureFor_cl hfree) hkind hnames
    (hi P s k hp nw _ _ fun I fp wr Pi St s₂ gr it => ?_)) (fun _ s' hq => wpAny_pure (wpAny_pure hq)) fun _ _ e => e)
  refine comp_core2 (RR := fun acc C => compPost (model prog w) A E (some (assign (.Name y py) env)) (fun _ s' => Q .next s') acc C) k hp nw gr it hkind hx1 hx2 hxy hnc hfree ys g hz inner body hs2 fun a C s' m n items off hC hl hr na nC hne => ?_
  show wpAny _ A (assign (.Name y py) env (.ref a)) _ _ _
  have nC' : s.heap.get? C = none := none_down gr.heap nC
  have gr' : Gr s s' := ⟨fun b o e => off.heap b o (fun hb => by rw [it.fresh b hb] at e; cases e) (gr.heap b o e), fun g x e => off.gens g x (gr.gens g x e), fun e => off.bare (gr.bare e), off.os.trans gr.os⟩
  have htC : tb ≠ C := fun q => by obtain ⟨o, ho, _⟩ := t.noseq; rw [q, nC'] at ho; cases ho
  refine wpAny_assign_Name (wp_stored hk (t.up gr'.heap) fun s₃ st lk => ?_)
  have hC₃ : ∃ m, s₃.heap.Ns C m := ⟨m, hC.at' fun o e => st.off.heap C o (by simpa using Ne.symm htC) e⟩
  obtain ⟨m₃, hC₃⟩ := hC₃
  refine ⟨m₃, hC₃, fun h' hs' => ?_⟩
  have lk' : ∀ P, LK P s₃.heap h' := fun P => by
    obtain ⟨o, es, ep, ho, hd, _⟩ := hC₃
    exact .of_but (N := fun b => b = C) (fun b o hb e => hs'.extBut b o hb e) fun b o' hb e => by
      subst hb; rw [ho] at e; cases e; exact .inl ⟨es, ep, hd⟩
  refine q a n items _ ?_ (none_down gr.heap na) ((lk' TP).1 _ _ _ ((lk TP).1 _ _ _ hl trivial) trivial) ((hr.keep (fun _ h => h) (lk _)).keep (fun _ h => h) (lk' _))
  have st' := st.pre gr'
  have nsC : ∀ {a m}, a ≠ C → s₃.heap.Ns a m → h'.Ns a m := fun ha x => x.sameBut hs' ha
  have hLC : ∀ {m}, s.heap.Ns env.locals m → env.locals ≠ C := fun hm q => by obtain ⟨o, _, _, ho, _⟩ := hm; rw [q, nC'] at ho; cases ho
  refine ⟨⟨fun b o hb e => hs'.extBut b o (fun q => by rw [q, nC'] at e; cases e) (st'.off.heap b o hb e), st'.off.gens, st'.off.bare, st'.off.os⟩, ?_, ?_, fun m hm => ?_⟩
  · obtain ⟨x1, x2⟩ := st.holds
    refine ⟨x1, ?_⟩
    rcases t with ⟨t1, rfl, _⟩ | ⟨t1, t2, _⟩
    · rcases x2 with ⟨y1, m', y2, y3⟩ | ⟨y1, _⟩
      · exact .inl ⟨y1, m', nsC htC y2, y3⟩
      · rw [t1] at y1; rcases y1 with y1 | y1 <;> cases y1
    · rcases x2 with ⟨y1, _⟩ | ⟨y1, c, y2, y3⟩
      · rw [t1] at y1; cases y1
      · rw [t2] at y2; cases y2
        exact .inr ⟨y1, tb, t2, y3.sameBut hs' htC⟩
  · rcases st.tgt with ⟨t1, t2, m', t3⟩ | ⟨t1, t2, v, t3⟩
    · exact .inl ⟨t1, t2, m', nsC (by rw [← t2]; exact htC) t3⟩
    · exact .inr ⟨t1, t2, v, t3.sameBut hs' htC⟩
  · obtain ⟨m', a1, a2⟩ := st'.ns m hm
    exact ⟨m', nsC (hLC hm) a1, a2⟩
end
section
variable {K : Cx} {n : Nat} {σ σ' : Sg} {H H' : Hp} {O O' : Oc → Prop}
theorem totF_un {α β : Type} (f : α → D) (xs : List α) (hinj : ∀ x ∈ xs, ∀ y ∈ xs, f x = f y → x = y) (f2 : β → D) (ya : α → List β) (hinj2 : ∀ a ∈ xs, ∀ x ∈ ya a, ∀ y ∈ ya a, f2 x = f2 y → x = y) (ga : α → β → D) :
    ∃ (ys : D → List D) (g : D → D → D), (∀ x ∈ xs, ys (f x) = (ya x).map f2) ∧ (∀ x ∈ xs, ∀ y ∈ ya x, g (f x) (f2 y) = ga x y) := by
  obtain ⟨ys, hy⟩ := unmap f xs hinj (fun a => (ya a).map f2) []
  have key : ∀ a, a ∈ xs → ∃ g' : D → D, ∀ y ∈ ya a, g' (f2 y) = ga a y := fun a ha => unmap f2 (ya a) (hinj2 a ha) (ga a) .none
  obtain ⟨G, hG⟩ : ∃ G : α → D → D, ∀ a ∈ xs, ∀ y ∈ ya a, G a (f2 y) = ga a y := by
    classical
    refine ⟨fun a => if h : a ∈ xs then Classical.choose (key a h) else fun _ => .none, fun a ha y hy => ?_⟩
    dsimp only
    rw [dif_pos ha]
    exact Classical.choose_spec (key a ha) y hy
  obtain ⟨g, hg⟩ := unmap f xs hinj G fun _ => .none
  exact ⟨ys, g, hy, fun x hx y hy => by rw [hg x hx]; exact hG x hx y hy⟩
theorem totF_eq {α β : Type} {f : α → D} {f2 : β → D} {ya : α → List β} {ga : α → β → D} {ys : D → List D} {g : D → D → D} : ∀ {xs : List α}, (∀ x ∈ xs, ys (f x) = (ya x).map f2) → (∀ x ∈ xs, ∀ y ∈ ya x, g (f x) (f2 y) = ga x y) →
    totF ys g (xs.map f) = xs.flatMap fun x => (ya x).map (ga x)
  | [], _, _ => rfl
  | x :: xs, h1, h2 => by
    have ih := totF_eq (xs := xs) (fun z hz => h1 z (List.mem_cons_of_mem _ hz)) fun z hz => h2 z (List.mem_cons_of_mem _ hz)
    unfold totF at ih ⊢
    rw [List.map_cons, List.flatMap_cons, List.flatMap_cons, ih, h1 x (List.mem_cons_self ..), List.map_map]
    congr 1
    exact List.map_congr_left fun y hy => h2 x (List.mem_cons_self ..) y hy
/-- a comprehension with two generators, assigned on its own line to a plain local -/
theorem Blk.assignU2 {α β : Type} {x x2 y : PySem.Str} {px px2 py pos spos : Pos} {elt iter iter2 : Expr} {scope : Scope} {fr : List PySem.Str} {rest : List Stmt} (f : α → D) (xs : List α) (f2 : β → D) (ya : α → List β) (ga : α → β → D)
    (hi : EvIS K n (dv σ) iter (xs.map f)) (hinj : ∀ x ∈ xs, ∀ y ∈ xs, f x = f y → x = y) (hinj2 : ∀ a ∈ xs, ∀ x ∈ ya a, ∀ y ∈ ya a, f2 x = f2 y → x = y) (hok : compOk scope x = true) (hfr : (scope.names.filter fun y => y.2 == NameKind.free).map (·.1) = fr) (hc : ∀ h, (∀ x d, dv σ x = some d → LV K.env h x d) → AllC K.env fr)
    (hz : (xs.flatMap fun x => (ya x).map (ga x)).length ≤ sizeLine) (hx1 : scope.names.lookup x = some .local) (hx2 : scope.names.lookup x2 = some .local) (hxy : x ≠ x2)
    (inner : ∀ (A : Around) (h : Heap), GA A n → Wd K.mg K.mb K.ds h → (∀ x d, dv σ x = some d → LV K.env h x d) → ∀ (cenv : Env) (h₃ : Heap) (a : α), CE K.env scope cenv → Ext h h₃ → a ∈ xs → LV cenv h₃ x (f a) → EvI K.prog K.w A cenv h₃ iter2 ((ya a).map f2))
    (body : ∀ (A : Around) (h : Heap), GA A n → Wd K.mg K.mb K.ds h → (∀ x d, dv σ x = some d → LV K.env h x d) → ∀ (cenv : Env) (h₃ : Heap) (a : α) (b : β), CE K.env scope cenv → Ext h h₃ → a ∈ xs → b ∈ ya a → LV cenv h₃ x (f a) → LV cenv h₃ x2 (f2 b) → Ev K.prog K.w A cenv h₃ elt (ga a b))
    (hx : KO K y) (z : Blk K n rest ((y, .dat (.list (xs.flatMap fun x => (ya x).map (ga x)))) :: σ) H O)
    (hsw : swapsWith (.ListComp elt [⟨.Name x px, iter, [], 0⟩, ⟨.Name x2 px2, iter2, [], 0⟩] scope pos) (some (.Name y py)) spos.line K.env = pure true)
    (hs : ∀ x, foldedSetIterable iter K.env x = pure x := by intro _; rfl) (hs2 : ∀ cenv x, foldedSetIterable iter2 cenv x = pure x := by intro _ _; rfl) :
    Blk K n (.Assign [.Name y py] (.ListComp elt [⟨.Name x px, iter, [], 0⟩, ⟨.Name x2 px2, iter2, [], 0⟩] scope pos) spos :: rest) σ H O := .seq (fun O' q A B P φ s E G S => by
  obtain ⟨tb, t⟩ := S.tgt K.F hx
  obtain ⟨ys, g, hys, hg⟩ := totF_un f xs hinj f2 ya hinj2 ga
  have htot : totF ys g (xs.map f) = xs.flatMap fun x => (ya x).map (ga x) := totF_eq hys hg
  have hzi : ∀ i, (totF ys g ((xs.map f).take i)).length ≤ sizeLine := fun i => by
    have e : totF ys g (xs.map f) = totF ys g ((xs.map f).take i) ++ totF ys g ((xs.map f).drop i) := by
      unfold totF
      rw [← List.flatMap_append, List.take_append_drop]
    rw [htot] at e
    rw [e, List.length_append] at hz
    omega
  have get : ∀ {i : Nat} {d : D}, (xs.map f)[i]? = some d → ∃ a, a ∈ xs ∧ f a = d := fun {i d} hd => by
    rw [List.getElem?_map, Option.map_eq_some_iff] at hd
    obtain ⟨a, ha, rfl⟩ := hd
    exact ⟨a, List.mem_of_getElem? ha, rfl⟩
  refine wp_assignU2 (h := hideL (PP P φ) s.heap) (P := PP P φ) ys g (by rw [K.F.scope]; exact K.F.kind) t hideL_ext hideL_hp S.nwp (hi A _ G (hideL_wd S.wds) S.dlv) hok hfr (hc _ S.dlv) hzi hx1 hx2 hxy (fun cenv h₃ i d ce k hd lv => ?_) (fun cenv h₃ i j d e ce k hd he lv lv2 => ?_) (fun a m items s' st fr l r => ?_) hsw hs hs2
  · obtain ⟨a, ha, rfl⟩ := get hd
    rw [hys a ha]
    exact inner A _ G (hideL_wd S.wds) S.dlv cenv h₃ a ce k ha lv
  · obtain ⟨a, ha, rfl⟩ := get hd
    rw [hys a ha, List.getElem?_map, Option.map_eq_some_iff] at he
    obtain ⟨b, hb, rfl⟩ := he
    have hm := List.mem_of_getElem? hb
    rw [hg a ha b hm]
    exact body A _ G (hideL_wd S.wds) S.dlv cenv h₃ a b ce k ha hm lv lv2
  · rw [htot] at r
    have hlk : ∀ {b o}, b ≠ tb → s.heap.get? b = some o → s'.heap.get? b = some o := fun hb e => st.off.heap _ _ (by simpa using hb) e
    refine ⟨φ, _, _, q, ?_⟩
    have nsq := t.noseq
    have lk : ∀ P, LK P s.heap s'.heap := fun P => .of_but (N := fun b => b = tb) (fun b o hb e => hlk hb e) fun b o hb e => by
      subst hb; obtain ⟨o', e', z⟩ := nsq; rw [e] at e'; cases e'; exact z
    exact S.stored' K.F (hx.imp K.F.kindOf K.F.kindOf) t st lk (vv := .dat _) (.list (S.nwp a fr) l (r.keep (fun _ h => h.1) (.of_ext Ext.rf)))) z
end
/-! ## _law_trips -/
noncomputable def insT (k : Int) (t : List Int) (p : Nat) : List Int := t.take p ++ [k] ++ t.drop p
noncomputable def tripsG : List Nat → List (List Int) → List (List Int)
  | [], ts => ts
  | k :: ks, ts => tripsG ks (ts.flatMap fun t => (List.range' 1 k).map fun p => insT k t p)
noncomputable def tripsF : List (List Int) := tripsG [3, 4] [[0, 1, 2]]
noncomputable def d_trips : DefRec := dAt 18
theorem trips_ok : DOk d_trips [] where
  kind := rfl
  co := rfl
  nodup := by decide
  kinds := by decide
  bind := fun pm code doc vals h => by
    obtain rfl := len_0 h
    rfl
noncomputable def σTr (ts : List (List Int)) : Sg := [("trips", .dat (dLL ts))]
section
variable {prog : Program} {w : World} {mg mb : PySem.Str → Option Value} {ds : List DefRec}
theorem dLL_flat (ts : List (List Int)) (ks : List Nat) (k : Int) : (ts.flatMap fun t => ks.map fun p => dI (insT k t p)) = (ts.flatMap fun t => ks.map fun p => insT k t p).map dI := by
  rw [List.map_flatMap]
  simp only [List.map_map]
  rfl
set_option maxHeartbeats 8000000 in
theorem trips_fn (bi : Bi mg mb) {n : Nat} : Fn prog w mg mb ds (n + 1) d_trips [] (dLL tripsF) := Fn.of trips_ok rfl rfl fun env F => by
  have hz : sizeLine = 16777216 := rfl
  conv => arg 3; whnf
  refine Blk.assign (d := dLL [[0, 1, 2]]) (.dat fun A h G W V => .list (.cons (.list (.cons .cInt (.cons .cInt (.cons .cInt .nil))) (by decide)) .nil) (by decide)) (by first | exact Or.inl (by rfl) | exact Or.inr (by rfl)) ?_
  refine Blk.weak (σ' := σTr [[0, 1, 2]]) ?_ (.cons rfl .nil)
  refine Blk.cons ?_
  refine Stm.for_ (dl := [3, 4].map nD) (.dat fun A h G W V => EvI.tup G.hand (.tup (.cons .cInt (.cons .cInt .nil)) (by decide)))
    (fun r σ H => ∃ (ks : List Nat) (ts : List (List Int)), r = ks.map nD ∧ (∀ k ∈ ks, k ≤ 4) ∧ tripsG ks ts = tripsF ∧ ts.length * 4 ^ ks.length ≤ 16 ∧ (∀ t ∈ ts, t.length + ks.length ≤ 5) ∧ Sub (σTr ts) σ ∧ H = []) ⟨[3, 4], _, rfl, by decide, rfl, by decide, by decide, .refl, rfl⟩ ?_ ?_
  · rintro d r σ H ⟨ks, ts, hr, hk4, hR, hl, ht, hσ, rfl⟩
    cases ks with
    | nil => cases hr
    | cons k ks =>
      rw [List.map_cons] at hr
      injection hr with hr1 hr2
      subst hr1 hr2
      have hk := hk4 k (List.mem_cons_self ..)
      refine ⟨_, .name (by first | exact Or.inl (by rfl) | exact Or.inr (by rfl)), ?_⟩
      have hw : Sub (("stop", .dat (nD k)) :: σTr ts) (([("stop", VV.dat (nD k))] : Sg) ++ σ) := .cons rfl (.cons (hσ "trips" _ rfl) .nil)
      refine Blk.weak ?_ hw
      have hlen : (ts.flatMap fun t => (List.range' 1 k).map fun p => insT k t p).length ≤ ts.length * 4 := by
        clear hR hl ht hσ hw
        induction ts with
        | nil => simp
        | cons t ts ih => simp only [List.flatMap_cons, List.length_append, List.length_map, List.length_range', List.length_cons] at ih ⊢; omega
      have hts : ts.length ≤ 16 := by
        have : ts.length * 1 ≤ ts.length * 4 ^ (k :: ks).length := Nat.mul_le_mul_left _ (Nat.pow_pos (by decide))
        omega
      refine Blk.assignU2 (fr := ["stop"]) dI ts nD (fun _ => List.range' 1 k) (fun t p => dI (insT k t p)) (fun A h G W V => EvI.list G.hand (.name (V "trips" _ rfl))) dI_inj (fun _ _ => nD_inj) rfl rfl (fun h V => .cons (CV.of_lv (V "stop" _ rfl) (F.kindOf rfl)) .nil) ?_ rfl rfl (by decide) (fun A h G W V cenv h₃ t ce x ht' lv => ?_) (fun A h G W V cenv h₃ t p ce x ht' hp lv lv2 => ?_) (by first | exact Or.inl (by rfl) | exact Or.inr (by rfl)) ?_ (by
        unfold swapsWith
        show pure (env.blockKind == .function && env.scope.names.lookup _ == some .local && _ && _) = _
        rw [F.block, F.scope]; rfl)
      · rw [dLL_flat, List.length_map, hz]; omega
      · have c := (CV.of_lv (V "stop" _ rfl) (F.kindOf rfl)).inner ce x rfl rfl
        have := EvI.range2 (prog := prog) (w := w) (x := "range") (p := ⟨153, 73, 153, 78⟩) (pos := ⟨153, 73, 153, 91⟩) (a := 1) (b := k + 1) bi (W.up x) G.hand (ce.ge F.ge rfl) (ce.kind rfl) rfl (Ev.cInt (i := 1) (k := 0) (p := ⟨153, 79, 153, 80⟩)) (.bin (p := ⟨153, 82, 153, 90⟩) o_add_int (.name (p := ⟨153, 82, 153, 86⟩) c.lv) (Ev.cInt (i := 1) (k := 0) (p := ⟨153, 89, 153, 90⟩))) (by omega)
        exact this
      · have c := (CV.of_lv (V "stop" _ rfl) (F.kindOf rfl)).inner ce x rfl rfl
        have htl := ht t ht'
        simp only [List.length_cons] at htl
        exact .addL (.addL (.upto (.name lv) (.name lv2) (by omega)) (.list (.cons (.name c.lv) .nil) (by show 1 ≤ 16777216; omega)) (by simp; omega)) (.from (.name lv) (.name lv2) (by omega)) (by simp; omega)
      · rw [dLL_flat]
        refine Blk.nil (σ' := σTr (ts.flatMap fun t => (List.range' 1 k).map fun p => insT k t p)) ?_ (.cons rfl .nil)
        refine ⟨ks, _, rfl, fun z hz => hk4 z (List.mem_cons_of_mem _ hz), hR, ?_, ?_, .refl, rfl⟩
        · rw [List.length_cons, Nat.pow_succ] at hl
          have : (ts.flatMap fun t => (List.range' 1 k).map fun p => insT k t p).length * 4 ^ ks.length ≤ ts.length * 4 * 4 ^ ks.length := Nat.mul_le_mul_right _ hlen
          have e : ts.length * 4 * 4 ^ ks.length = ts.length * (4 ^ ks.length * 4) := by rw [Nat.mul_assoc, Nat.mul_comm 4]
          omega
        · intro t hm
          rw [List.mem_flatMap] at hm
          obtain ⟨t', ht', hm⟩ := hm
          rw [List.mem_map] at hm
          obtain ⟨p, _, rfl⟩ := hm
          have := ht t' ht'
          simp only [List.length_cons] at this
          unfold insT
          simp only [List.length_append, List.length_take, List.length_drop, List.length_cons, List.length_nil]
          omega
  · rintro σ H ⟨ks, ts, hr, hk4, hR, hl, ht, hσ, rfl⟩
    cases ks with
    | cons => cases hr
    | nil =>
      refine Blk.nil (σ' := σTr ts) ?_ hσ
      refine Blk.ret (d := dLL ts) (.dat fun A h G W V => .name (V "trips" _ rfl)) ?_
      show dLL ts = dLL tripsF
      rw [← hR, tripsG]
end
end Mine
namespace Mine
section
variable {K : Cx} {n : Nat} {σ σ' : Sg} {H H' : Hp} {O : Oc → Prop}
/-- an assignment to a pair of names -/
theorem Blk.assignT {ts : List Expr} {k : Nat} {tpos pos : Pos} {e : Expr} {d : D} {bs : Sg} {rest : List Stmt} (t : AsT K.sc (.Tuple ts k tpos) d bs) (z : EvA K n σ H e d) (r : Blk K n rest (bs ++ σ) H O)
    (hw : swappedStores [.Tuple ts k tpos] e K.env = pure none := by rfl) (hs : swapsWithSole [.Tuple ts k tpos] e pos.line K.env = pure false := by rfl) : Blk K n (.Assign [.Tuple ts k tpos] e pos :: rest) σ H O := .seq (fun O' q A B P φ s E G S => by
  refine wpAny_Assign_stores (z A B P φ s G S _ _ fun v s₁ g rv => ?_) hs hw
  show wpAny _ A (PySem.assign (.Tuple ts k tpos) K.env v) _ E s₁
  exact wp_assignT (S.up g) G.hand t rv fun s' S' => ⟨φ, _, _, q, S'⟩) r
end
section
variable {prog : Program} {w : World} {A : Around} {env : Env} {h : Heap} {mg mb : PySem.Str → Option Value} {ds : List DefRec}
/-! ## what is laid within lists -/
theorem canLay_LL : ∀ xs : List (List Int), PyData.canLayAll0 (pys (xs.map dI)) = true
  | [] => rfl
  | x :: xs => by
    rw [List.map_cons, pys, PyData.canLayAll0, canLay_LL xs, Bool.and_true]
    show PyData.canLayAll0 (pys (x.map .int)) = true
    exact canLay_ints x
theorem canLay_bools : ∀ xs : List Bool, PyData.canLayAll0 (pys (xs.map .bool)) = true
  | [] => rfl
  | x :: xs => by rw [List.map_cons, pys, PyData.canLayAll0, canLay_bools xs]; rfl
theorem depth_ints : ∀ xs : List Int, PyData.depthAll (pys (xs.map .int)) = 0
  | [] => by rw [List.map_nil, pys, PyData.depthAll]
  | x :: xs => by rw [List.map_cons, pys, PyData.depthAll, depth_ints xs]; rfl
theorem depth_LL : ∀ xs : List (List Int), PyData.depthAll (pys (xs.map dI)) ≤ 1
  | [] => by rw [List.map_nil, pys, PyData.depthAll]; omega
  | x :: xs => by
    rw [List.map_cons, pys, PyData.depthAll]
    have h1 := depth_LL xs
    have h2 : (dI x).py.depth = 1 := by
      show PyData.depthAll (pys (x.map .int)) + 1 = 1
      rw [depth_ints]
    omega
theorem eqv_same {d : D} (hd : d.py.canLay0 = true) : PyData.eqv d.py d.py = true := PySem.SeqAt.eqv_refl _ hd
theorem nL_dI (xs : List Nat) : nL xs = dI (xs.map fun x : Nat => (x : Int)) := by unfold nL dI; rw [List.map_map]; rfl
theorem nLL_dLL (xs : List (List Nat)) : D.list (xs.map nL) = dLL (xs.map fun r => r.map fun x : Nat => (x : Int)) := by
  unfold dLL
  rw [List.map_map]
  congr 1
  exact List.map_congr_left fun r _ => nL_dI r
theorem o_in_nat {n : Nat} (G : GA A n) (hn : 1 ≤ n) {k : Nat} {xs : List Nat} : OpY prog w A (compareOp .In) (nD k) (nL xs) (.bool (xs.any (· == k))) := by
  have := o_in_int (prog := prog) (w := w) G hn (k := (k : Int)) (xs := xs.map fun x : Nat => (x : Int))
  rw [List.any_map, ← nL_dI] at this
  have e : xs.any ((fun x => x == (k : Int)) ∘ fun x : Nat => (x : Int)) = xs.any (· == k) := by
    congr 1
    funext x
    show ((x : Int) == (k : Int)) = (x == k)
    by_cases q : x = k
    · subst q; simp
    · rw [beq_eq_false_iff_ne.mpr q, beq_eq_false_iff_ne.mpr (by omega)]
  rw [e] at this
  exact this
theorem o_ne_nil {n : Nat} (G : GA A n) (hn : 1 ≤ n) {xs : List Nat} : OpY prog w A (compareOp .NotEq) (nL xs) (.list []) (.bool (xs != [])) := by
  have := o_ne_any (prog := prog) (w := w) (A := A) (a := nL xs) (b := .list []) (by rw [nL_dI]; exact canLay_ints _) rfl (by
    have := G.units
    have h2 : (D.list []).py.depth = 1 := rfl
    rw [h2]
    omega)
  have e : (!PyData.eqv (nL xs).py (D.list []).py) = (xs != []) := by
    cases xs with
    | nil => rfl
    | cons x xs => rfl
  rw [e] at this
  exact this
theorem o_eq_LL {n : Nat} (G : GA A n) (hn : 1 ≤ n) {xs : List (List Int)} : OpY prog w A (compareOp .Eq) (dLL xs) (dLL xs) (.bool true) := by
  have c : (dLL xs).py.canLay0 = true := canLay_LL xs
  have := o_eq_any (prog := prog) (w := w) (A := A) (a := dLL xs) (b := dLL xs) c c (by
    have := G.units
    have h1 := depth_LL xs
    have h2 : (dLL xs).py.depth = PyData.depthAll (pys (xs.map dI)) + 1 := rfl
    omega)
  rw [eqv_same c] at this
  exact this
theorem o_notIn_true {n : Nat} (G : GA A n) (hn : 1 ≤ n) {xs : List Bool} : OpY prog w A (compareOp .NotIn) (.bool true) (.list (xs.map .bool)) (.bool (!xs.any id)) := by
  have := o_notIn_any (prog := prog) (w := w) (A := A) (x := .bool true) (xs := xs.map .bool) (canLay_bools _) rfl (by
    have := G.units
    have h2 : (D.bool true).py.depth = 0 := rfl
    rw [h2]
    omega)
  rw [List.any_map] at this
  have e : xs.any ((fun y : D => PyData.eqv y.py (D.bool true).py) ∘ D.bool) = xs.any id := by
    congr 1
    funext b
    cases b <;> rfl
  rw [e] at this
  exact this
end
/-! ## law -/
noncomputable def heldF (within : List (List Nat)) : List Nat := (List.range 5).map fun node => (within.filter fun row => row.any (· == node)).length
noncomputable def pP (held : List Nat) (node : Nat) : Bool := decide ((0 : Int) < ((held.getD node 0 : Nat) : Int)) && decide (((held.getD node 0 : Nat) : Int) < 5)
noncomputable def partedF (held : List Nat) : List Nat := (List.range' 1 4).filter (pP held)
noncomputable def namesL : List PySem.Str := ["OPTIMIZED", "NEWLOCALS", "VARARGS", "VARKEYWORDS", "NESTED", "GENERATOR", "NOFREE", "COROUTINE", "ITERABLE_COROUTINE", "ASYNC_GENERATOR", "0x400", "0x800"]
noncomputable def dueF (sh : Nat) (parted : List Nat) : PySem.Str := if parted != [] then Txt.join ", " (parted.map fun node => namesL.getD (sh + node - 1) "") else "0x0"
noncomputable def mI (ms : List Nat) (k : Nat) : Int := ((ms.getD k 0 : Nat) : Int)
noncomputable def someF (ms : List Nat) : Int := Builtin.bitOr (Builtin.bitOr (Builtin.bitOr (Builtin.bitOr (mI ms 0) (mI ms 1)) (mI ms 2)) (mI ms 3)) (mI ms 4)
noncomputable def eachF (ms : List Nat) : Int := Builtin.bitAnd (Builtin.bitAnd (Builtin.bitAnd (Builtin.bitAnd (mI ms 0) (mI ms 1)) (mI ms 2)) (mI ms 3)) (mI ms 4)
noncomputable def stepT (far : List (List Int)) (trip : List Int) (k : Nat) : Int := at' (at' far [] (at' trip 0 ((k : Int) - 1))) 0 (at' trip 0 k)
noncomputable def lenT (far : List (List Int)) (trip : List Int) : Int := ((List.range 5).map (stepT far trip)).sum
noncomputable def lengthsF (far : List (List Int)) : List Int := tripsF.map (lenT far)
noncomputable def shortF (far : List (List Int)) (least : Int) : List (List Int) := ((List.range 12).filter fun k => (lengthsF far).getD k 0 == least).map fun k => tripsF.getD k []
noncomputable def intL (within : List (List Nat)) : List (List Int) := within.map fun r => r.map fun x : Nat => (x : Int)
noncomputable def calmF (within : List (List Nat)) (parted : List Nat) : List (List Int) := tripsF.filter fun trip => !((parted.map fun node : Nat => torn trip (intL within) node).any id)
structure LawOk (script : List Int) (ns : List Int) (st : List PySem.Str) (sh : Nat) (ms : List Nat) (far : List (List Int)) (above : List Nat) (within : List (List Nat)) (held parted : List Nat) : Prop where
  hns : numbersF script = ns
  hnl : ns.length = 10
  hst : stepsF ns = st
  hsok : ∀ s ∈ st, StepOk s
  hsl : st.length ≤ 100
  hsh : ((sh : Nat) : Int) = (ns.getD 0 0).fmod 9
  hsh8 : sh ≤ 8
  hck : ∀ i j, i ≤ j → j ≤ st.length → GoodX (mkS (segF st i j ++ [41]))
  hms : masksL st sh 0 st [] [0, 0, 0, 0, 0] = ms
  hml : ms.length = 5
  hfar : farF (ms.map (wordF sh)) = far
  hfl : far.length = 5
  hfr : ∀ r ∈ far, r.length = 5
  hhung : hungF st [0] 0 [[], [], [], [], []] = (above, within)
  hal : above.length = 5
  hwl : within.length = 5
  hwr : ∀ r ∈ within, r.length ≤ 5
  hheld : heldF within = held
  hparted : partedF held = parted
  hflag : flagsH (Builtin.bitXor (someF ms) (eachF ms)) = true
  hdue : flagsF (Builtin.bitXor (someF ms) (eachF ms)) = dueF sh parted
  hmin : (2 * (parted.length : Int)) ∈ lengthsF far
  hle : ∀ a ∈ lengthsF far, 2 * (parted.length : Int) ≤ a
  hcount : (shortF far (2 * (parted.length : Int))).length = countF above within held
  hcalm : shortF far (2 * (parted.length : Int)) = calmF within parted
theorem trips12 : tripsF.length = 12 ∧ ∀ t ∈ tripsF, t.length = 5 ∧ ∀ s ∈ t, 0 ≤ s ∧ s < 5 := by decide +kernel
noncomputable def d_law : DefRec := dAt 22
theorem law_ok : DOk d_law ["script"] where
  kind := rfl
  co := rfl
  nodup := by decide
  kinds := by decide
  bind := fun pm code doc vals h => by
    obtain ⟨a, rfl⟩ := len_1 h
    rfl
theorem at_mem {α : Type} {xs : List α} {d : α} {i : Int} (h0 : 0 ≤ i) (h1 : i < xs.length) : at' xs d i ∈ xs := by
  have e : seqIndex? i xs.length = some i.toNat := by
    unfold seqIndex?
    simp only [show ¬ i < 0 by omega, if_false]
    rw [if_pos (by simp; omega)]
  have hl : i.toNat < xs.length := by omega
  simp [at', e, hl]
theorem at_mem' {α : Type} {xs : List α} {d : α} {i : Int} (h0 : i < 0) (h1 : -(xs.length : Int) ≤ i) : at' xs d i ∈ xs := by
  have e : seqIndex? i xs.length = some (i + xs.length).toNat := by
    unfold seqIndex?
    simp only [h0, if_true]
    rw [if_pos (by simp; omega)]
  have hl : (i + xs.length).toNat < xs.length := by omega
  simp [at', e, hl]
theorem names_len (k : Nat) : (namesL.getD k "").length ≤ 20 := by
  have key : ∀ x ∈ namesL, x.length ≤ 20 := by decide
  rw [List.getD_eq_getElem?_getD]
  cases h : namesL[k]? with
  | none => decide
  | some x => exact key x (List.mem_of_getElem? h)
structure Defs (ds : List DefRec) : Prop where
  iter : d_iter ∈ ds
  strip : d_strip ∈ ds
  chk : d_chk ∈ ds
  flags : d_flags ∈ ds
  sub : d_sub ∈ ds
  lev : d_lev ∈ ds
  num : d_num ∈ ds
  steps : d_steps ∈ ds
  masks : d_masks ∈ ds
  far : d_far ∈ ds
  trips : d_trips ∈ ds
  hung : d_hung ∈ ds
  count : d_count ∈ ds
  torn : d_torn ∈ ds
section
variable {prog : Program} {w : World} {mg mb : PySem.Str → Option Value} {ds : List DefRec}
set_option maxHeartbeats 16000000 in
theorem law_fn (bi : Bi mg mb) (co : Co mg) (dd : Defs ds) {n : Nat} (hn : 8 ≤ n) {script : List Int} (hs : script.length ≤ 63) {ns : List Int} {st : List PySem.Str} {sh : Nat} {ms : List Nat} {far : List (List Int)} {above : List Nat} {within : List (List Nat)} {held parted : List Nat}
    (L : LawOk script ns st sh ms far above within held parted) : Fn prog w mg mb ds (n + 1) d_law [dI script] (.bool true) := Fn.of law_ok rfl rfl fun env F => by
  have hz : sizeLine = 16777216 := rfl
  obtain ⟨hns, hnl, hst, hsok, hsl, hsh, hsh8, hck, hms, hml, hfar, hfl, hfr, hhung, hal, hwl, hwr, hheld, hparted, hflag, hdue, hmin, hle, hcount, hcalm⟩ := L
  have hhl : held.length = 5 := by rw [← hheld]; simp [heldF]
  have hpr : ∀ p ∈ parted, 1 ≤ p ∧ p < 5 := fun p hp => by
    rw [← hparted] at hp
    have := (List.mem_filter.mp hp).1
    simp at this
    omega
  have hpl : parted.length ≤ 4 := by
    rw [← hparted]
    exact Nat.le_trans (List.length_filter_le _ _) (by simp)
  obtain ⟨t12, tok⟩ := trips12
  conv => arg 3; whnf
  refine Blk.assign (d := dI ns) (.dat fun A h G W V => hns ▸ .callF (num_fn bi (n := 3) hs) (G.mono (by omega)) W dd.num F.ge (F.kindOf rfl) rfl (.cons (.name (V "script" _ rfl)) .nil)) (by first | exact Or.inl (by rfl) | exact Or.inr (by rfl)) ?_
  refine Blk.assign (d := dS st) (.dat fun A h G W V => hst ▸ .callF (steps_fn bi (n := 3) hnl) (G.mono (by omega)) W dd.steps F.ge (F.kindOf rfl) rfl (.cons (.name (V "numbers" _ rfl)) .nil)) (by first | exact Or.inl (by rfl) | exact Or.inr (by rfl)) ?_
  refine Blk.assign (d := .int sh) (.dat fun A h G W V => hsh ▸ .bin (o_mod_int (by decide)) (.atL (f := D.int) (d := 0) (i := 0) (.name (V "numbers" _ rfl)) .cInt (by omega) (by omega)) .cInt) (by first | exact Or.inl (by rfl) | exact Or.inr (by rfl)) ?_
  refine Blk.assign (d := nL ms) (.dat fun A h G W V => hms ▸ .callF (masks_fn bi dd.iter dd.strip dd.chk (n := 4) (by omega) hsok hsl (by omega) hck) (G.mono (by omega)) W dd.masks F.ge (F.kindOf rfl) rfl (.cons (.name (V "steps" _ rfl)) (.cons (.name (V "shift" _ rfl)) .nil))) (by first | exact Or.inl (by rfl) | exact Or.inr (by rfl)) ?_
  refine Blk.assign (d := dLL far) (.dat fun A h G W V => hfar ▸ .callF (far_fn bi co dd.lev dd.sub (n := 4) (by omega) hml hsh8) (G.mono (by omega)) W dd.far F.ge (F.kindOf rfl) rfl (.cons (.name (V "masks" _ rfl)) (.cons (.name (V "shift" _ rfl)) .nil))) (by first | exact Or.inl (by rfl) | exact Or.inr (by rfl)) ?_
  refine Blk.assignT (.pair (d := nL above) (e := .list (within.map nL)) (by first | exact Or.inl (by rfl) | exact Or.inr (by rfl)) (by first | exact Or.inl (by rfl) | exact Or.inr (by rfl))) (.dat fun A h G W V => ?_) ?_
  · have := Ev.callF (p := ⟨192, 20, 192, 29⟩) (pos := ⟨192, 20, 192, 36⟩) (x := "_law_hung") (hung_fn (prog := prog) (w := w) (mg := mg) (mb := mb) (ds := ds) bi (n := 3) hsok (by omega)) (G.mono (by omega)) W dd.hung F.ge (F.kindOf rfl) rfl (.cons (.name (p := ⟨192, 30, 192, 35⟩) (V "steps" _ rfl)) .nil)
    rw [hhung] at this
    exact this
  -- held
  refine Blk.assign (d := nL held) (.dat fun A h G W V => ?_) (by first | exact Or.inl (by rfl) | exact Or.inr (by rfl)) ?_ (swaps_comp F rfl)
  · have c1 := CV.of_lv (V "within" _ rfl) (F.kindOf rfl)
    rw [← hheld, show nL (heldF within) = .list ((List.range 5).map fun node => nD (within.filter fun row => row.any (· == node)).length) by unfold nL heldF; rw [List.map_map]; rfl]
    refine EvN.ev ?_
    refine EvN.compA (fr := ["within"]) nD (List.range 5) _ (EvI.range0 bi W G.hand F.ge (F.kindOf rfl) rfl .cInt (by omega)) nD_inj rfl rfl (.cons c1 .nil) (by simp; omega) fun cenv h₃ node ce k m lv => ?_
    have cn := CV.of_lv lv (ce.kind rfl)
    have hfl : (within.filter fun row => row.any (· == node)).length ≤ 5 := Nat.le_trans (List.length_filter_le _ _) (by omega)
    refine Ev.len (xs := (within.filter fun row => row.any (· == node)).map nL) bi (W.up k) (ce.ge F.ge rfl) (ce.kind rfl) rfl (EvN.ev ?_) (by simp) (by omega)
    refine EvN.compM (fr := ["node"]) nL within _ nL (EvI.list G.hand (.name (c1.inner ce k rfl rfl).lv)) nL_inj rfl rfl (.cons cn .nil) (by omega) fun cenv2 h₄ row ce2 k2 m2 lv2 => ⟨.one ?_, fun _ => .name lv2⟩
    exact .cmp (o_in_nat G (by omega)) (.name (cn.inner ce2 k2 rfl rfl).lv) (.name lv2)
  -- parted
  refine Blk.assign (d := nL parted) (.dat fun A h G W V => ?_) (by first | exact Or.inl (by rfl) | exact Or.inr (by rfl)) ?_ (swaps_comp F rfl)
  · have c1 := CV.of_lv (V "held" _ rfl) (F.kindOf rfl)
    rw [← hparted]
    refine EvN.ev ?_
    refine EvN.compM (fr := ["held"]) nD (List.range' 1 4) (pP held) nD (EvI.range2 bi W G.hand F.ge (F.kindOf rfl) rfl (a := 1) (b := 5) .cInt .cInt (by omega)) nD_inj rfl rfl (.cons c1 .nil) (by simp; omega) fun cenv h₃ node ce k m lv => ⟨.one ?_, fun _ => .name lv⟩
    simp at m
    exact .chain o_lt_int o_lt_int .cInt (.atL (f := nD) (d := 0) (.name (c1.inner ce k rfl rfl).lv) (.name lv) (by omega) (by omega)) .cInt
  -- names
  refine Blk.assign (d := dS ["OPTIMIZED", "NEWLOCALS", "VARARGS", "VARKEYWORDS", "NESTED", "GENERATOR", "NOFREE"]) (.dat fun A h G W V => .list (EvL.cStrs [("OPTIMIZED", _), ("NEWLOCALS", _), ("VARARGS", _), ("VARKEYWORDS", _), ("NESTED", _), ("GENERATOR", _), ("NOFREE", _)]) (by decide)) (by first | exact Or.inl (by rfl) | exact Or.inr (by rfl)) ?_
  refine Blk.assign (d := dS namesL) (.dat fun A h G W V => .addL (f := D.str) (xs := ["OPTIMIZED", "NEWLOCALS", "VARARGS", "VARKEYWORDS", "NESTED", "GENERATOR", "NOFREE"]) (ys := ["COROUTINE", "ITERABLE_COROUTINE", "ASYNC_GENERATOR", "0x400", "0x800"]) (.name (V "names" _ rfl)) (.list (EvL.cStrs [("COROUTINE", _), ("ITERABLE_COROUTINE", _), ("ASYNC_GENERATOR", _), ("0x400", _), ("0x800", _)]) (by decide)) (by decide)) (by first | exact Or.inl (by rfl) | exact Or.inr (by rfl)) ?_
  -- due
  refine Blk.assign (d := .str (dueF sh parted)) (.dat fun A h G W V => ?_) (by first | exact Or.inl (by rfl) | exact Or.inr (by rfl)) ?_
  · refine Ev.ite (c := parted != []) (.cmp (o_ne_nil G (by omega)) (.name (V "parted" _ rfl)) (.list .nil (by decide))) (fun hc => ?_) (fun hc => ?_)
    · have c1 := CV.of_lv (V "names" _ rfl) (F.kindOf rfl)
      have c2 := CV.of_lv (V "shift" _ rfl) (F.kindOf rfl)
      have mj := m_join (prog := prog) (w := w) (A := A) (x := ", ") (ys := parted.map fun node => namesL.getD (sh + node - 1) "") (by
        rw [show Str.length ", " = 2 from rfl]
        have := sum_le (parted.map fun node => namesL.getD (sh + node - 1) "") 20 (fun y hy => by
          obtain ⟨k, _, rfl⟩ := List.mem_map.mp hy
          exact names_len _)
        rw [List.length_map] at this ⊢
        omega)
      unfold dueF
      rw [if_pos hc]
      refine .meth mj .cStr (.cons (EvN.ev ?_) .nil)
      rw [show ((parted.map fun node => namesL.getD (sh + node - 1) "").map D.str) = parted.map fun node => D.str (namesL.getD (sh + node - 1) "") by rw [List.map_map]; rfl]
      refine EvN.compA (fr := ["names", "shift"]) nD parted _ (EvI.list G.hand (.name (V "parted" _ rfl))) nD_inj rfl rfl (.cons c1 (.cons c2 .nil)) (by omega) fun cenv h₃ node ce k m lv => ?_
      have hp := hpr node m
      exact .atL' (f := D.str) (xs := namesL) (d := "") (i := sh + node - 1) (.name (c1.inner ce k rfl rfl).lv) (.bin o_sub_int (.bin o_add_int (.name (c2.inner ce k rfl rfl).lv) (.name lv)) .cInt) (by omega) (by show _ < 12; omega) (by decide)
    · unfold dueF
      rw [if_neg (by rw [hc]; decide)]
      exact .cStr
  -- some, each
  refine Blk.assign (d := .int (someF ms)) (.dat fun A h G W V => ?_) (by first | exact Or.inl (by rfl) | exact Or.inr (by rfl)) ?_
  · have v := V "masks" _ rfl
    have at_ : ∀ (k : Nat) (p q r : Pos), k < 5 → Ev prog w A env h (.Subscript (.Name "masks" p) (.Constant (.int k) 0 q) r) (.int (mI ms k)) := fun k p q r hk => .atL (f := nD) (d := 0) (.name v) .cInt (by omega) (by omega)
    exact .bin o_or_int (.bin o_or_int (.bin o_or_int (.bin o_or_int (at_ 0 _ _ _ (by omega)) (at_ 1 _ _ _ (by omega))) (at_ 2 _ _ _ (by omega))) (at_ 3 _ _ _ (by omega))) (at_ 4 _ _ _ (by omega))
  refine Blk.assign (d := .int (eachF ms)) (.dat fun A h G W V => ?_) (by first | exact Or.inl (by rfl) | exact Or.inr (by rfl)) ?_
  · have v := V "masks" _ rfl
    have at_ : ∀ (k : Nat) (p q r : Pos), k < 5 → Ev prog w A env h (.Subscript (.Name "masks" p) (.Constant (.int k) 0 q) r) (.int (mI ms k)) := fun k p q r hk => .atL (f := nD) (d := 0) (.name v) .cInt (by omega) (by omega)
    exact .bin o_and_int (.bin o_and_int (.bin o_and_int (.bin o_and_int (at_ 0 _ _ _ (by omega)) (at_ 1 _ _ _ (by omega))) (at_ 2 _ _ _ (by omega))) (at_ 3 _ _ _ (by omega))) (at_ 4 _ _ _ (by omega))
  refine Blk.if_ (b := flagsF (Builtin.bitXor (someF ms) (eachF ms)) != dueF sh parted) (.of fun A h G W V => .cmp o_ne_str (.callF (flags_fn bi (n := 3) (by omega) hflag) (G.mono (by omega)) W dd.flags F.ge (F.kindOf rfl) rfl (.cons (.bin o_xor_int (.name (V "some" _ rfl)) (.name (V "each" _ rfl))) .nil)) (.name (V "due" _ rfl))) (fun hc => ?_) (fun _ => ?_)
  · rw [hdue] at hc
    simp at hc
  refine Blk.nil ?_ .refl
  -- trips, lengths, least
  refine Blk.assign (d := dLL tripsF) (.dat fun A h G W V => .callF0 (trips_fn bi (n := 3)) (G.mono (by omega)) W dd.trips F.ge (F.kindOf rfl) rfl) (by first | exact Or.inl (by rfl) | exact Or.inr (by rfl)) ?_
  refine Blk.assign (d := dI (lengthsF far)) (.dat fun A h G W V => ?_) (by first | exact Or.inl (by rfl) | exact Or.inr (by rfl)) ?_ (swaps_comp F rfl)
  · have c1 := CV.of_lv (V "far" _ rfl) (F.kindOf rfl)
    rw [show dI (lengthsF far) = .list (tripsF.map fun t => D.int (lenT far t)) by unfold dI lengthsF; rw [List.map_map]; rfl]
    refine EvN.ev ?_
    refine EvN.compA (fr := ["far"]) dI tripsF _ (EvI.list G.hand (.name (V "trips" _ rfl))) dI_inj rfl rfl (.cons c1 .nil) (by omega) fun cenv h₃ trip ce k m lv => ?_
    obtain ⟨tl, tr⟩ := tok trip m
    have ct := CV.of_lv lv (ce.kind rfl)
    have cf := c1.inner ce k rfl rfl
    refine Ev.callB (W.up k) (GN.bi (ce.ge F.ge rfl) (ce.kind rfl) bi.sum) (.cons (EvN.ev ?_) .nil) (c_sum (ns := (List.range 5).map (stepT far trip)) G.hand)
    rw [show ((List.range 5).map (stepT far trip)).map D.int = (List.range 5).map fun k => D.int (stepT far trip k) by rw [List.map_map]; rfl]
    refine EvN.compA (fr := ["far", "trip"]) nD (List.range 5) _ (EvI.range0 bi (W.up k) G.hand (ce.ge F.ge rfl) (ce.kind rfl) rfl .cInt (by omega)) nD_inj rfl rfl (.cons cf (.cons ct .nil)) (by simp; omega) fun cenv2 h₄ j ce2 k2 m2 lv2 => ?_
    rw [List.mem_range] at m2
    have vt := (ct.inner ce2 k2 rfl rfl).lv
    have vf := (cf.inner ce2 k2 rfl rfl).lv
    obtain ⟨⟨j1, e1, e1'⟩, r1⟩ : (∃ j1, seqIndex? ((j : Int) - 1) (trip.map D.int).length = some j1 ∧ (trip.map D.int)[j1]? = some (.int (at' trip 0 ((j : Int) - 1)))) ∧ at' trip 0 ((j : Int) - 1) ∈ trip := by
      by_cases hj : j = 0
      · exact ⟨at_ss' (by omega) (by omega) _, at_mem' (by omega) (by omega)⟩
      · exact ⟨at_ss (by omega) (by omega) _, at_mem (by omega) (by omega)⟩
    obtain ⟨j2, e2, e2'⟩ := at_ss (xs := trip) (d := 0) (i := j) (by omega) (by omega) D.int
    have r2 : at' trip 0 (j : Int) ∈ trip := at_mem (by omega) (by omega)
    have b1 := tr _ r1
    have b2 := tr _ r2
    obtain ⟨j3, e3, e3'⟩ := at_ss (xs := far) (d := []) (i := at' trip 0 ((j : Int) - 1)) (by omega) (by omega) dI
    have hrl := hfr _ (at_mem (xs := far) (d := []) (i := at' trip 0 ((j : Int) - 1)) (by omega) (by omega))
    obtain ⟨j4, e4, e4'⟩ := at_ss (xs := at' far [] (at' trip 0 ((j : Int) - 1))) (d := 0) (i := at' trip 0 (j : Int)) (by omega) (by omega) D.int
    exact .sub (ss_list e4 e4' (by simp; omega)) (.sub (ss_list e3 e3' (by simp; omega)) (.name vf) (.sub (ss_list e1 e1' (by simp; omega)) (.name vt) (.bin o_sub_int (.name lv2) .cInt))) (.sub (ss_list e2 e2' (by simp; omega)) (.name vt) (.name lv2))
  generalize hll : lengthsF far = ll at *
  have hll12 : ll.length = 12 := by rw [← hll]; unfold lengthsF; rw [List.length_map]; exact t12
  generalize hLe : 2 * (parted.length : Int) = least at *
  refine Blk.assign (d := .int least) (.dat fun A h G W V => Ev.callB W (GN.bi F.ge (F.kindOf rfl) bi.min) (.cons (.name (V "lengths" _ rfl)) .nil) (c_min G.hand hmin hle)) (by first | exact Or.inl (by rfl) | exact Or.inr (by rfl)) ?_
  -- short
  refine Blk.assignU (fr := ["least", "lengths", "trips"]) nD (List.range 12) (fun k => ll.getD k 0 == least) (fun k => dI (tripsF.getD k [])) (fun A h G W V => EvI.range0 bi W G.hand F.ge (F.kindOf rfl) rfl .cInt (by omega)) nD_inj rfl rfl (fun h V => .cons (CV.of_lv (V "least" _ rfl) (F.kindOf rfl)) (.cons (CV.of_lv (V "lengths" _ rfl) (F.kindOf rfl)) (.cons (CV.of_lv (V "trips" _ rfl) (F.kindOf rfl)) .nil))) (by simp; omega) (fun A h G W V cenv h₃ k ce x m lv => ?_) (by first | exact Or.inl (by rfl) | exact Or.inr (by rfl)) ?_ (swaps_comp F rfl)
  · rw [List.mem_range] at m
    have c1 := CV.of_lv (V "least" _ rfl) (F.kindOf rfl)
    have c2 := CV.of_lv (V "lengths" _ rfl) (F.kindOf rfl)
    have c3 := CV.of_lv (V "trips" _ rfl) (F.kindOf rfl)
    exact ⟨.one (.cmp o_eq_int (.atL (f := D.int) (d := 0) (.name (c2.inner ce x rfl rfl).lv) (.name lv) (by omega) (by omega)) (.name (c1.inner ce x rfl rfl).lv)), fun _ => .atL (f := dI) (d := []) (.name (c3.inner ce x rfl rfl).lv) (.name lv) (by omega) (by omega)⟩
  rw [show D.list (((List.range 12).filter fun k => ll.getD k 0 == least).map fun k => dI (tripsF.getD k [])) = dLL (shortF far least) by unfold shortF dLL; rw [hll, List.map_map]; rfl]
  have hsl12 : (shortF far least).length ≤ 12 := by
    unfold shortF
    rw [List.length_map]
    exact Nat.le_trans (List.length_filter_le _ _) (by simp)
  refine Blk.if_ (b := (least != 2 * (parted.length : Int)) || (((shortF far least).length : Int) != (countF above within held : Nat) || false)) (.of fun A h G W V => .boolOp (.or (.cmp o_ne_int (.name (V "least" _ rfl)) (.bin (o_mul_int (.of_right (PySem.intBits_le_64 (by omega) (by omega)))) .cInt (Ev.len (xs := parted.map nD) bi W F.ge (F.kindOf rfl) rfl (.name (V "parted" _ rfl)) (by simp) (by omega)))) fun _ => .or (.cmp o_ne_int (Ev.len (xs := (shortF far least).map dI) bi W F.ge (F.kindOf rfl) rfl (.name (V "short" _ rfl)) (by simp) (by omega)) (.callF (count_fn bi (n := 3) hal hwl hhl hwr) (G.mono (by omega)) W dd.count F.ge (F.kindOf rfl) rfl (.cons (.name (V "above" _ rfl)) (.cons (.name (V "within" _ rfl)) (.cons (.name (V "held" _ rfl)) .nil))))) fun _ => .orNil)) (fun hc => ?_) (fun _ => ?_)
  · rw [hLe, hcount] at hc
    simp at hc
  refine Blk.nil ?_ .refl
  rw [hcalm]
  refine Blk.ret (d := .bool true) (.dat fun A h G W V => ?_) rfl
  have c1 := CV.of_lv (V "parted" _ rfl) (F.kindOf rfl)
  have c2 := CV.of_lv (V "within" _ rfl) (F.kindOf rfl)
  rw [nLL_dLL] at c2
  refine Ev.cmp (o_eq_LL (xs := calmF within parted) G (by omega)) (.name (V "short" _ rfl)) (EvN.ev ?_)
  refine EvN.compM (fr := ["parted", "within"]) dI tripsF (fun trip => !((parted.map fun node : Nat => torn trip (intL within) node).any id)) dI (EvI.list G.hand (.name (V "trips" _ rfl))) dI_inj rfl rfl (.cons c1 (.cons c2 .nil)) (by omega) fun cenv h₃ trip ce k m lv => ⟨.one ?_, fun _ => .name lv⟩
  obtain ⟨tl, tr⟩ := tok trip m
  have ct := CV.of_lv lv (ce.kind rfl)
  have cw := c2.inner ce k rfl rfl
  refine .cmp (o_notIn_true G (by omega)) .cBool (EvN.ev ?_)
  rw [show (parted.map fun node : Nat => torn trip (intL within) node).map D.bool = parted.map fun node : Nat => D.bool (torn trip (intL within) node) by rw [List.map_map]; rfl]
  refine EvN.compA (fr := ["trip", "within"]) nD parted _ (EvI.list G.hand (.name (c1.inner ce k rfl rfl).lv)) nD_inj rfl rfl (.cons ct (.cons cw .nil)) (by omega) fun cenv2 h₄ node ce2 k2 m2 lv2 => ?_
  have hil : (intL within).length = 5 := by unfold intL; rw [List.length_map]; exact hwl
  exact .callF (torn_fn bi (n := 3) (by omega) tl (by rw [hil]; exact tr) (by rw [hil]; omega)) (G.mono (by omega)) ((W.up k).up k2) dd.torn (ce2.ge (ce.ge F.ge rfl) rfl) (ce2.kind rfl) rfl (.cons (.name (ct.inner ce2 k2 rfl rfl).lv) (.cons (.name (cw.inner ce2 k2 rfl rfl).lv) (.cons (.name lv2) .nil)))
end
end Mine
namespace Mine
noncomputable def flE : List DictEntry := [⟨1, .int 1 223, .str "OPTIMIZED" 224⟩, ⟨2, .int 2 225, .str "NEWLOCALS" 226⟩, ⟨4, .int 4 227, .str "VARARGS" 228⟩, ⟨8, .int 8 229, .str "VARKEYWORDS" 230⟩, ⟨16, .int 16 231, .str "NESTED" 232⟩, ⟨32, .int 32 233, .str "GENERATOR" 234⟩, ⟨64, .int 64 235, .str "NOFREE" 236⟩, ⟨128, .int 128 237, .str "COROUTINE" 238⟩, ⟨256, .int 256 239, .str "ITERABLE_COROUTINE" 240⟩, ⟨512, .int 512 241, .str "ASYNC_GENERATOR" 242⟩]
noncomputable def flO : Obj := { cls := .type "dict", dict := none, data := .dict flE.toArray 10, slots := #[] }
noncomputable def flH : Hook where
  α := Bool × Option Value × Option Obj
  obs := fun s => (s.heap.isNs mainGlobals, s.heap.nsMap mainGlobals "COMPILER_FLAG_NAMES", s.heap.get? 36)
  val := fun _ => (true, some (.ref 36), some flO)
  says := fun _ h => (∃ m, h.Ns mainGlobals m ∧ m "COMPILER_FLAG_NAMES" = some (.ref 36)) ∧ h.get? 36 = some flO
  of := fun w s e => by
    injection e with e1 e2
    injection e2 with e2 e3
    exact ⟨⟨_, .of_isNs e1, e2⟩, e3⟩
  keeps := fun w h h' ⟨⟨m, a, b⟩, c⟩ k => ⟨⟨m, a.keeps k, b⟩, k _ _ c⟩
noncomputable def pickA : List Stmt → List Nat → List Stmt
  | _, [] => []
  | b, i :: is => match b[i]? with | some s => s :: pickA b is | none => pickA b is
noncomputable def vw : Program := { Challenge.pw_rw0050_01 with main := { Challenge.pw_rw0050_01.main with body := pickA Challenge.pw_rw0050_01.main.body [1, 2, 3, 6, 8, 9, 10, 11, 12, 14, 15, 16, 17, 18, 19, 20, 21, 22] } }
noncomputable def lsN : List PySem.Str := ["COMPILER_FLAG_NAMES"]
theorem left_vw : LeftO Challenge.pw_rw0050_01 vw lsN (fun s => xlAt vw [] s && recOk [] s) flH.obs flH.val 1462 true :=
  LeftO.of_split "special-get-raises" fun w => by kernel_rfl
theorem said_law : Challenge.rw_rw0050_01.wellSaid = true := by kernel_rfl
end Mine
namespace Mine
/-! ## the ground -/
theorem flO_ok : FlagObj 36 flO := by
  refine ⟨⟨_, _, rfl⟩, fun prog w h e => ?_⟩
  refine PyProof.Rows.TabAt.ofObj (kvs := flE.map fun e => ((match e.key with | .int i _ => i | _ => 0), e.val)) rfl e ⟨flE.toArray, 10, ⟨rfl, rfl, rfl⟩, rfl, fun e he => ?_, ?_, by decide⟩ ?_
  · simp only [flE, List.mem_toArray, List.mem_cons, List.not_mem_nil, or_false] at he
    rcases he with rfl | rfl | rfl | rfl | rfl | rfl | rfl | rfl | rfl | rfl <;> exact ⟨_, intKind_is prog w _ _, by rfl⟩
  · have k := fun i t => intKind_is prog w i t
    exact .cons (k _ _) rfl (.cons (k _ _) rfl (.cons (k _ _) rfl (.cons (k _ _) rfl (.cons (k _ _) rfl (.cons (k _ _) rfl (.cons (k _ _) rfl (.cons (k _ _) rfl (.cons (k _ _) rfl (.cons (k _ _) rfl .nil)))))))))
  · have f := fun x t => PyProof.V.Flat.str x t
    exact .cons (f _ _) (.cons (f _ _) (.cons (f _ _) (.cons (f _ _) (.cons (f _ _) (.cons (f _ _) (.cons (f _ _) (.cons (f _ _) (.cons (f _ _) (.cons (f _ _) .nil)))))))))
section
variable {w : World} {mg mb : PySem.Str → Option Value} {h : Heap} {loose : List PySem.Str} {mean : ExcName → Option Value}
theorem ns_same {h : Heap} {a : Addr} {m m' : PySem.Str → Option Value} (x : h.Ns a m) (y : h.Ns a m') : m = m' := by
  obtain ⟨o, es, ep, ho, hd, _, hm⟩ := x
  obtain ⟨o', es', ep', ho', hd', _, hm'⟩ := y
  rw [ho] at ho'; cases ho'
  rw [hd] at hd'; cases hd'
  funext z
  rw [← hm z, ← hm' z]
theorem wd_of (Y : flH.says w h) (T : Top vw loose mean mg mb h) : Wd mg mb (recsOf vw) h := by
  obtain ⟨⟨m, h1, h2⟩, h3⟩ := Y
  rw [ns_same h1 T.g] at h2
  exact ⟨T.g, T.b, T.nolimit, fun d hd => ⟨T.fn d hd⟩, 36, flO, h2, h3, flO_ok⟩
theorem co_of (T : Top vw loose mean mg mb h) : Co mg := by
  have key : ∀ (x : PySem.Str) (i : Int), valOf vw x = some (.int i) → ∃ t, mg x = some (.int i t) := fun x i e => by
    obtain ⟨v, h1, h2⟩ := T.const x _ e
    obtain ⟨t, rfl⟩ := PyProof.V.Flat.int_inv h2
    exact ⟨t, h1⟩
  exact ⟨key _ _ rfl, key _ _ rfl, key _ _ rfl⟩
theorem bi_of (T : Top vw (looseW vw lsN) mean mg mb h) : Bi mg mb := by
  have key : ∀ (x : PySem.Str) (v : Value), (decide (x ∉ startupNames) && decide (x ∉ looseW vw lsN) && decide (x ∉ (recsOf vw).map (·.name)) && decide (x ∉ (litsOf vw).map (·.1)) && decide (x ∉ (clssOf vw (looseW vw lsN)).map (·.name)) && decide (x ≠ "__name__")) = true → bootBuiltins x = some v → mg x = none ∧ mb x = some v := fun x v e hb => by
    simp only [Bool.and_eq_true, decide_eq_true_eq] at e
    obtain ⟨⟨⟨⟨⟨e1, e2⟩, e3⟩, e4⟩, e5⟩, e6⟩ := e
    exact ⟨T.free x e1 e2 e3 e4 e5, (T.builtins x e6).trans hb⟩
  exact ⟨key _ _ (by decide +kernel) rfl, key _ _ (by decide +kernel) rfl, key _ _ (by decide +kernel) rfl, key _ _ (by decide +kernel) rfl, key _ _ (by decide +kernel) rfl, key _ _ (by decide +kernel) rfl, key _ _ (by decide +kernel) rfl⟩
end
theorem defs_of : Defs (recsOf vw) := by
  have at_ : ∀ (i : Nat) (d : DefRec), (recsOf vw)[i]? = some d → d ∈ recsOf vw := fun i d e => List.mem_of_getElem? e
  exact ⟨at_ 0 _ rfl, at_ 1 _ rfl, at_ 2 _ rfl, at_ 3 _ rfl, at_ 4 _ rfl, at_ 5 _ rfl, at_ 6 _ rfl, at_ 7 _ rfl, at_ 8 _ rfl, at_ 9 _ rfl, at_ 10 _ rfl, at_ 11 _ rfl, at_ 12 _ rfl, at_ 13 _ rfl⟩
theorem law_in : d_law ∈ recsOf vw := List.mem_of_getElem? (i := 14) rfl
end Mine
namespace Mine
theorem wellAll_ints {P : Params} {h : Heap} : ∀ {vs : List Value} {ns : List Int}, WellAll P h vs (ofPys (ns.map PyData.int)) → RdL TP h vs (ns.map D.int)
  | _, [], r => by
    rw [List.map_nil, ofPys] at r
    cases r; exact .nil
  | _, n :: ns, r => by
    rw [List.map_cons, ofPys] at r
    cases r with
    | cons r1 r2 =>
      rw [ofPy] at r1
      cases r1
      exact .cons (.int _ _) (wellAll_ints r2)
theorem well_ints {P : Params} {h : Heap} {v : Value} {ns : List Int} (r : Well P h v (ofPy (.list (ns.map PyData.int)))) : Rd TP h v (dI ns) := by
  rw [ofPy] at r
  cases r with
  | list e r => exact .list trivial e (wellAll_ints r)
theorem post_true (args after : List WData) : Challenge.rw_rw0050_01.row.claim.post args (.bool true) after = true := by
  show (WShape.has [] (.bool true) .bool && WTm.holds [] (.eq .res (.lit (.bool true))) { args := args, res := some (.bool true), after := after }) = true
  have h1 : WShape.has [] (.bool true) .bool = true := by first | rfl | decide | (simp [WShape.has, WShape.arms])
  have h2 : WTm.holds [] (.eq .res (.lit (.bool true))) { args := args, res := some (.bool true), after := after } = true := by simp [WTm.holds, WTm.value, PySem.W.same]
  rw [h1, h2]; rfl
theorem ga_caller : GA callerA 10 := ⟨rfl, by decide, by decide⟩
theorem holds_of (lawT : ∀ script : List Int, ∃ ns st sh ms far above within held parted, LawOk script ns st sh ms far above within held parted) : PySem.Challenge.rw_rw0050_01.Holds := by
  w_on
  refine holds_law said_law fun said => ?_
  refine holds_open (d := d_law) (kwd := []) (q := vw) (loose := lsN) (Xt := fun s => xlAt vw [] s && recOk [] s) (XP := XL vw []) (Yf := flH.obs) (Ya := flH.val) (YP := flH.says) (N := 1462) left_vw flH.of flH.keeps (fun s e => xl_of s (Bool.and_eq_true_iff.mp e).1) XL.keeps (by rfl) (by rfl) (by rfl) (fun s e => recFacts_of (Bool.and_eq_true_iff.mp e).2) (by rfl) said (by decide +kernel) ⟨rfl, rfl, rfl, rfl, rfl, by decide +kernel⟩ ?hw ?hc
  case hw => w_witness2
  case hc =>
  intro w s₀ s₁ mg mb G Y fa o pm cd doc dV kV ho hd hcd hD hmg hg args vals as hpre hlay hrd hwl hlo
  refine Ground.open G ?_
  intro T B D TE TW
  wrow_args hpre hlay hrd hwl hlo
  clear ho hd hcd hD
  rename_i zs hs' hlay0 hL1 hr1 hl2 w4 w3 a vs wl hL ra w1 r0 hI hr hc1 hc2
  obtain ⟨a', o', pm', code', doc', h1, h2, h3, h4⟩ := T.fn d_law law_in
  have e : a' = fa := by
    have := h1.symm.trans (show mg d_law.name = _ from hmg)
    exact Value.ref.inj (Option.some.inj this)
  subst e
  obtain ⟨ns, st, sh, ms, far, above, within, held, parted, L⟩ := lawT zs
  have F := law_fn (prog := Challenge.rw_rw0050_01.row.prog) (w := w) (bi_of T) (co_of T) defs_of (n := 9) (by omega) (script := zs) (by omega) L
  refine F callerA TP s₁ a' o' pm' code' doc' [.ref a] ga_caller (wd_of Y T) h2 h3 h4 .tp (.cons (well_ints w1) .nil) _ _ fun v s' gr rv => ?_
  rw [rv.bool_inv]
  exact ⟨.inl ⟨.bool true, .bool true, [], rfl, fun cls => rfl, .bool true, post_true _ _, fun _ => ⟨List.nodup_nil, fun a ha => (nomatch ha)⟩⟩, .of_keep gr.heap, gr.os, gr.bare (.of_eq hg)⟩
end Mine
namespace Mine
/-! ## the count, by tables -/
noncomputable def tblT : Nat := 39402006196354303757790136626745257772498344983717084569379865039506329364565530733427759180395865770014471845052415
noncomputable def tblF : Nat := 583125739290929964870561654521462234434460867063335527723081662465
noncomputable def tT (s : Nat) : Nat := Nat.mod (Nat.shiftRight tblT (Nat.mul 12 s)) 4096
noncomputable def tF (w : Nat) : Nat := Nat.mod (Nat.shiftRight tblF (Nat.mul 20 w)) 1048576
noncomputable def pop12 (t : Nat) : Nat := Nat.mod (Nat.land (Nat.mul t 0x200040008001) 0x111111111111111) 15
noncomputable def all5 (p : Nat → Bool) : Bool := (p 0).and ((p 1).and ((p 2).and ((p 3).and (p 4))))
noncomputable def nz (s : Nat) : Nat := Nat.div (Nat.add s 31) 32
noncomputable def nf (s : Nat) : Nat := Nat.sub 1 (Nat.div (Nat.add s 1) 32)
noncomputable def inB (ab : List Nat) (i v : Nat) : Bool := (chainF ab v v).any (· == i)
noncomputable def bB (ab : List Nat) (i v : Nat) : Nat := if inB ab i v then 1 else 0
noncomputable def eE (n v : Nat) : Nat := if v = n then 1 else 0
/-- the set of the stops within node i, as a number; as the kernel reckons it -/
noncomputable def sR (ab : List Nat) (i a b c d e : Nat) : Nat := Nat.add (bB ab i a) (Nat.add (Nat.mul 2 (bB ab i b)) (Nat.add (Nat.mul 4 (bB ab i c)) (Nat.add (Nat.mul 8 (bB ab i d)) (Nat.mul 16 (bB ab i e)))))
noncomputable def sS (ab : List Nat) (i a b c d e : Nat) : Nat := bB ab i a + (2 * bB ab i b + (4 * bB ab i c + (8 * bB ab i d + 16 * bB ab i e)))
/-- the ways at node n -/
noncomputable def wR (ab : List Nat) (n a b c d e : Nat) : Nat := Nat.add (Nat.add (eE n a) (Nat.add (eE n b) (Nat.add (eE n c) (Nat.add (eE n d) (eE n e)))))
  (Nat.add (Nat.add (Nat.mul (nz (sR ab 1 a b c d e)) (eE n (ab.getD 1 0))) (Nat.add (Nat.mul (nz (sR ab 2 a b c d e)) (eE n (ab.getD 2 0))) (Nat.add (Nat.mul (nz (sR ab 3 a b c d e)) (eE n (ab.getD 3 0))) (Nat.mul (nz (sR ab 4 a b c d e)) (eE n (ab.getD 4 0))))))
  (if 0 < n then nf (sR ab n a b c d e) else 0))
noncomputable def wW (ab : List Nat) (n a b c d e : Nat) : Nat := (eE n a + (eE n b + (eE n c + (eE n d + eE n e))))
  + ((nz (sS ab 1 a b c d e) * eE n (ab.getD 1 0) + (nz (sS ab 2 a b c d e) * eE n (ab.getD 2 0) + (nz (sS ab 3 a b c d e) * eE n (ab.getD 3 0) + nz (sS ab 4 a b c d e) * eE n (ab.getD 4 0))))
  + (if 0 < n then nf (sS ab n a b c d e) else 0))
noncomputable def tAll (ab : List Nat) (a b c d e : Nat) : Nat := Nat.land (Nat.land (tT (sR ab 1 a b c d e)) (tT (sR ab 2 a b c d e))) (Nat.land (tT (sR ab 3 a b c d e)) (tT (sR ab 4 a b c d e)))
noncomputable def leaf (ab : List Nat) (a b c d e : Nat) : Bool :=
  (Nat.beq (pop12 (tAll ab a b c d e)) (Nat.div (Nat.mul (tF (wR ab 0 a b c d e)) (Nat.mul (tF (wR ab 1 a b c d e)) (Nat.mul (tF (wR ab 2 a b c d e)) (Nat.mul (tF (wR ab 3 a b c d e)) (tF (wR ab 4 a b c d e)))))) 2)).and (Nat.ble 1 (pop12 (tAll ab a b c d e)))
noncomputable def chkT (ab : List Nat) : Bool := all5 fun a => all5 fun b => all5 fun c => all5 fun d => all5 fun e => leaf ab a b c d e
theorem tree000 : chkT [0, 0, 0, 0, 0] = true := by decide +kernel
theorem tree001 : chkT [0, 0, 0, 0, 1] = true := by decide +kernel
theorem tree002 : chkT [0, 0, 0, 0, 2] = true := by decide +kernel
theorem tree003 : chkT [0, 0, 0, 0, 3] = true := by decide +kernel
theorem tree010 : chkT [0, 0, 0, 1, 0] = true := by decide +kernel
theorem tree011 : chkT [0, 0, 0, 1, 1] = true := by decide +kernel
theorem tree012 : chkT [0, 0, 0, 1, 2] = true := by decide +kernel
theorem tree013 : chkT [0, 0, 0, 1, 3] = true := by decide +kernel
theorem tree020 : chkT [0, 0, 0, 2, 0] = true := by decide +kernel
theorem tree021 : chkT [0, 0, 0, 2, 1] = true := by decide +kernel
theorem tree022 : chkT [0, 0, 0, 2, 2] = true := by decide +kernel
theorem tree023 : chkT [0, 0, 0, 2, 3] = true := by decide +kernel
theorem tree100 : chkT [0, 0, 1, 0, 0] = true := by decide +kernel
theorem tree101 : chkT [0, 0, 1, 0, 1] = true := by decide +kernel
theorem tree102 : chkT [0, 0, 1, 0, 2] = true := by decide +kernel
theorem tree103 : chkT [0, 0, 1, 0, 3] = true := by decide +kernel
theorem tree110 : chkT [0, 0, 1, 1, 0] = true := by decide +kernel
theorem tree111 : chkT [0, 0, 1, 1, 1] = true := by decide +kernel
theorem tree112 : chkT [0, 0, 1, 1, 2] = true := by decide +kernel
theorem tree113 : chkT [0, 0, 1, 1, 3] = true := by decide +kernel
theorem tree120 : chkT [0, 0, 1, 2, 0] = true := by decide +kernel
theorem tree121 : chkT [0, 0, 1, 2, 1] = true := by decide +kernel
theorem tree122 : chkT [0, 0, 1, 2, 2] = true := by decide +kernel
theorem tree123 : chkT [0, 0, 1, 2, 3] = true := by decide +kernel
theorem lt2 {P : Nat → Prop} {x : Nat} (h : x < 2) (h0 : P 0) (h1 : P 1) : P x := by
  rcases (by omega : x = 0 ∨ x = 1) with rfl | rfl
  · exact h0
  · exact h1
theorem lt3 {P : Nat → Prop} {x : Nat} (h : x < 3) (h0 : P 0) (h1 : P 1) (h2 : P 2) : P x := by
  rcases (by omega : x = 0 ∨ x = 1 ∨ x = 2) with rfl | rfl | rfl
  · exact h0
  · exact h1
  · exact h2
theorem lt4 {P : Nat → Prop} {x : Nat} (h : x < 4) (h0 : P 0) (h1 : P 1) (h2 : P 2) (h3 : P 3) : P x := by
  rcases (by omega : x = 0 ∨ x = 1 ∨ x = 2 ∨ x = 3) with rfl | rfl | rfl | rfl
  · exact h0
  · exact h1
  · exact h2
  · exact h3
theorem lt5 {P : Nat → Prop} {x : Nat} (h : x < 5) (h0 : P 0) (h1 : P 1) (h2 : P 2) (h3 : P 3) (h4 : P 4) : P x := by
  rcases (by omega : x = 4 ∨ x < 4) with rfl | h
  · exact h4
  · exact lt4 h h0 h1 h2 h3
theorem chk_trees (a2 a3 a4 : Nat) (h2 : a2 < 2) (h3 : a3 < 3) (h4 : a4 < 4) : chkT [0, 0, a2, a3, a4] = true :=
  lt2 (P := fun x => chkT [0, 0, x, a3, a4] = true) h2
    (lt3 (P := fun y => chkT [0, 0, 0, y, a4] = true) h3 (lt4 (P := fun z => chkT [0, 0, 0, 0, z] = true) h4 tree000 tree001 tree002 tree003) (lt4 (P := fun z => chkT [0, 0, 0, 1, z] = true) h4 tree010 tree011 tree012 tree013) (lt4 (P := fun z => chkT [0, 0, 0, 2, z] = true) h4 tree020 tree021 tree022 tree023))
    (lt3 (P := fun y => chkT [0, 0, 1, y, a4] = true) h3 (lt4 (P := fun z => chkT [0, 0, 1, 0, z] = true) h4 tree100 tree101 tree102 tree103) (lt4 (P := fun z => chkT [0, 0, 1, 1, z] = true) h4 tree110 tree111 tree112 tree113) (lt4 (P := fun z => chkT [0, 0, 1, 2, z] = true) h4 tree120 tree121 tree122 tree123))
theorem all5_at {p : Nat → Bool} (h : all5 p = true) {v : Nat} (hv : v < 5) : p v = true := by
  unfold all5 at h
  simp only [Bool.and_eq_true] at h
  obtain ⟨h0, h1, h2, h3, h4⟩ := h
  exact lt5 (P := fun v => p v = true) hv h0 h1 h2 h3 h4
theorem bB_le (ab : List Nat) (i v : Nat) : bB ab i v ≤ 1 := by unfold bB; split <;> omega
theorem eE_le (n v : Nat) : eE n v ≤ 1 := by unfold eE; split <;> omega
theorem nz_le (ab : List Nat) (i a b c d e : Nat) : nz (sS ab i a b c d e) ≤ 1 := by
  have := bB_le ab i a; have := bB_le ab i b; have := bB_le ab i c; have := bB_le ab i d; have := bB_le ab i e
  show (sS ab i a b c d e + 31) / 32 ≤ 1
  unfold sS; omega
theorem nf_le (s : Nat) : nf s ≤ 1 := by show 1 - (s + 1) / 32 ≤ 1; omega
theorem wW_le (ab : List Nat) (n a b c d e : Nat) : wW ab n a b c d e ≤ 10 := by
  have h : ∀ x y : Nat, x ≤ 1 → y ≤ 1 → x * y ≤ 1 := fun x y hx hy => Nat.mul_le_mul hx hy
  have z : ∀ i, nz (sS ab i a b c d e) * eE n (ab.getD i 0) ≤ 1 := fun i => h _ _ (nz_le ab i a b c d e) (eE_le ..)
  have y : (if 0 < n then nf (sS ab n a b c d e) else 0) ≤ 1 := by
    split
    · exact nf_le _
    · exact Nat.zero_le _
  have ee := eE_le n
  exact Nat.add_le_add (Nat.add_le_add (ee a) (Nat.add_le_add (ee b) (Nat.add_le_add (ee c) (Nat.add_le_add (ee d) (ee e))))) (Nat.add_le_add (Nat.add_le_add (z 1) (Nat.add_le_add (z 2) (Nat.add_le_add (z 3) (z 4)))) y)
theorem leaf_of {ab : List Nat} (h : chkT ab = true) {a b c d e : Nat} (ha : a < 5) (hb : b < 5) (hc : c < 5) (hd : d < 5) (he : e < 5) :
    pop12 (tAll ab a b c d e) = tF (wW ab 0 a b c d e) * (tF (wW ab 1 a b c d e) * (tF (wW ab 2 a b c d e) * (tF (wW ab 3 a b c d e) * tF (wW ab 4 a b c d e)))) / 2 ∧ 1 ≤ pop12 (tAll ab a b c d e) := by
  have q := all5_at (all5_at (all5_at (all5_at (all5_at h ha) hb) hc) hd) he
  unfold leaf at q
  rw [Bool.and_eq_true] at q
  exact ⟨Nat.eq_of_beq_eq_true q.1, Nat.le_of_ble_eq_true q.2⟩
end Mine
namespace Mine
/-! ## the count, linked -/
theorem flen {α : Type} (p : α → Bool) : ∀ l : List α, (l.filter p).length = (l.map fun x => if p x then 1 else 0).sum
  | [] => rfl
  | x :: l => by
    have ih := flen p l
    rw [List.filter_cons, List.map_cons, List.sum_cons, ← ih]
    split
    · rw [List.length_cons]; omega
    · omega
noncomputable def chW (ab : List Nat) (a b c d e : Nat) : List (List Nat) := [a, b, c, d, e].map fun v => chainF ab v v
theorem chW_eq (ab : List Nat) (a b c d e : Nat) : chW ab a b c d e = [chainF ab a a, chainF ab b b, chainF ab c c, chainF ab d d, chainF ab e e] := rfl
noncomputable def cnt (ab : List Nat) (n a b c d e : Nat) : Nat := bB ab n a + bB ab n b + bB ab n c + bB ab n d + bB ab n e
theorem held_at (ab : List Nat) {n : Nat} (hn : n < 5) (a b c d e : Nat) : (heldF (chW ab a b c d e)).getD n 0 = cnt ab n a b c d e := by
  have key : ∀ m : Nat, ((chW ab a b c d e).filter fun row => row.any (· == m)).length = cnt ab m a b c d e := fun m => by
    rw [flen, chW_eq]
    simp only [List.map_cons, List.map_nil, List.sum_cons, List.sum_nil]
    show (if inB ab m a then 1 else 0) + ((if inB ab m b then 1 else 0) + ((if inB ab m c then 1 else 0) + ((if inB ab m d then 1 else 0) + ((if inB ab m e then 1 else 0) + 0)))) = _
    unfold cnt bB
    omega
  unfold heldF
  rw [List.getD_eq_getElem?_getD, List.getElem?_map, List.getElem?_range hn]
  exact key n
theorem head_ch (ab : List Nat) (v : Nat) : (chainF ab v v ++ [0]).getD 0 0 = v := by
  cases v with
  | zero => rfl
  | succ v => rw [chainF, if_neg (by omega)]; rfl
theorem nz_cnt (ab : List Nat) (n a b c d e : Nat) : nz (sS ab n a b c d e) = if 0 < cnt ab n a b c d e then 1 else 0 := by
  have := bB_le ab n a; have := bB_le ab n b; have := bB_le ab n c; have := bB_le ab n d; have := bB_le ab n e
  show (sS ab n a b c d e + 31) / 32 = _
  unfold sS cnt
  split <;> omega
theorem nf_cnt (ab : List Nat) (n a b c d e : Nat) : nf (sS ab n a b c d e) = if cnt ab n a b c d e < 5 then 1 else 0 := by
  have := bB_le ab n a; have := bB_le ab n b; have := bB_le ab n c; have := bB_le ab n d; have := bB_le ab n e
  show 1 - (sS ab n a b c d e + 1) / 32 = _
  unfold sS cnt
  split <;> omega
theorem castEq (a b : Nat) : (((a : Nat) : Int) == (b : Int)) = (a == b) := by
  by_cases q : a = b
  · subst q; simp
  · rw [beq_eq_false_iff_ne.mpr q, beq_eq_false_iff_ne.mpr (by omega)]
theorem posC (n : Nat) : decide ((0 : Int) < (n : Int)) = decide (0 < n) := decide_eq_decide.mpr Int.natCast_pos
theorem ltC (n : Nat) : decide ((n : Int) < 5) = decide (n < 5) := decide_eq_decide.mpr (by omega)
theorem ways_eq (ab : List Nat) {n : Nat} (hn : n < 5) (a b c d e : Nat) : waysF ab (chW ab a b c d e) (heldF (chW ab a b c d e)) n = wW ab n a b c d e := by
  unfold waysF
  have h1 : ((chW ab a b c d e).filter (p1F n)).length = eE n a + (eE n b + (eE n c + (eE n d + eE n e))) := by
    have key : ∀ v, (if p1F n (chainF ab v v) then 1 else 0) = eE n v := fun v => by
      unfold p1F
      rw [head_ch, castEq]
      unfold eE
      by_cases q : v = n <;> simp [q]
    rw [flen, chW_eq]
    simp only [List.map_cons, List.map_nil, List.sum_cons, List.sum_nil, key]
    rfl
  have h2 : ((List.range' 1 4).filter (p2F ab (heldF (chW ab a b c d e)) n)).length = nz (sS ab 1 a b c d e) * eE n (ab.getD 1 0) + (nz (sS ab 2 a b c d e) * eE n (ab.getD 2 0) + (nz (sS ab 3 a b c d e) * eE n (ab.getD 3 0) + nz (sS ab 4 a b c d e) * eE n (ab.getD 4 0))) := by
    have key : ∀ m, m < 5 → (if p2F ab (heldF (chW ab a b c d e)) n m then 1 else 0) = nz (sS ab m a b c d e) * eE n (ab.getD m 0) := fun m hm => by
      unfold p2F
      rw [held_at ab hm, castEq, nz_cnt, Bool.and_true, posC]
      unfold eE
      generalize ab.getD m 0 = x
      by_cases q : x = n
      · by_cases q2 : 0 < cnt ab m a b c d e <;> simp [q, q2]
      · rw [beq_eq_false_iff_ne.mpr q]; simp [q]
    rw [flen, show List.range' 1 4 = [1, 2, 3, 4] from rfl]
    simp only [List.map_cons, List.map_nil, List.sum_cons, List.sum_nil]
    rw [key 1 (by decide), key 2 (by decide), key 3 (by decide), key 4 (by decide)]
    rfl
  have h3 : (if (decide ((0 : Int) < (n : Int)) && (decide (((cnt ab n a b c d e : Nat) : Int) < 5) && true)) = true then 1 else 0) = if 0 < n then nf (sS ab n a b c d e) else 0 := by
    rw [nf_cnt, posC, ltC, Bool.and_true]
    by_cases q : 0 < n
    · by_cases q2 : cnt ab n a b c d e < 5 <;> simp [q, q2]
    · simp [q]
  rw [h1, h2, held_at ab hn, h3]
  exact Nat.add_assoc _ _ _
theorem mul_tF {w : Nat} (hw : w ≤ 10) (c : Nat) : mulF (List.range' 2 (w - 2)) c = c * tF w := by
  match w, hw with
  | 0, _ => show c = c * 1; omega
  | 1, _ => show c = c * 1; omega
  | 2, _ => show c = c * 1; omega
  | 3, _ => show c * 2 = c * 2; rfl
  | 4, _ => show c * 2 * 3 = c * 6; omega
  | 5, _ => show c * 2 * 3 * 4 = c * 24; omega
  | 6, _ => show c * 2 * 3 * 4 * 5 = c * 120; omega
  | 7, _ => show c * 2 * 3 * 4 * 5 * 6 = c * 720; omega
  | 8, _ => show c * 2 * 3 * 4 * 5 * 6 * 7 = c * 5040; omega
  | 9, _ => show c * 2 * 3 * 4 * 5 * 6 * 7 * 8 = c * 40320; omega
  | 10, _ => show c * 2 * 3 * 4 * 5 * 6 * 7 * 8 * 9 = c * 362880; omega
theorem count_eq (ab : List Nat) (a b c d e : Nat) : countF ab (chW ab a b c d e) (heldF (chW ab a b c d e)) =
    tF (wW ab 0 a b c d e) * (tF (wW ab 1 a b c d e) * (tF (wW ab 2 a b c d e) * (tF (wW ab 3 a b c d e) * tF (wW ab 4 a b c d e)))) / 2 := by
  unfold countF
  congr 1
  simp only [countL]
  rw [ways_eq ab (by omega), ways_eq ab (by omega), ways_eq ab (by omega), ways_eq ab (by omega), ways_eq ab (by omega), mul_tF (wW_le ..), mul_tF (wW_le ..), mul_tF (wW_le ..), mul_tF (wW_le ..), mul_tF (wW_le ..), Nat.one_mul]
  simp only [Nat.mul_assoc]
/-! ## the calm trips -/
noncomputable def tornV (v : List Bool) (trip : List Int) : Bool :=
  let inside := trip.map fun s => at' v false s
  decide (2 < (((List.range 5).filter fun k : Nat => at' inside false ((k : Int) - 1) != at' inside false k).length : Int))
noncomputable def vB (ab : List Nat) (n a b c d e : Nat) : List Bool := [inB ab n a, inB ab n b, inB ab n c, inB ab n d, inB ab n e]
theorem any_cast (n : Nat) (l : List Nat) : (l.map fun x : Nat => (x : Int)).any (· == (n : Int)) = l.any (· == n) := by
  rw [List.any_map]
  congr 1
  funext x
  exact castEq x n
theorem torn_eq (ab : List Nat) (n a b c d e : Nat) {trip : List Int} (ht : ∀ s ∈ trip, 0 ≤ s ∧ s < 5) : torn trip (intL (chW ab a b c d e)) n = tornV (vB ab n a b c d e) trip := by
  have key : ∀ s : Int, 0 ≤ s ∧ s < 5 → tornIn (intL (chW ab a b c d e)) n s = at' (vB ab n a b c d e) false s := fun s hs => by
    obtain ⟨k, rfl⟩ := Int.eq_ofNat_of_zero_le hs.1
    have hk : k < 5 := by omega
    unfold tornIn
    match k, hk with
    | 0, _ => exact any_cast n (chainF ab a a)
    | 1, _ => exact any_cast n (chainF ab b b)
    | 2, _ => exact any_cast n (chainF ab c c)
    | 3, _ => exact any_cast n (chainF ab d d)
    | 4, _ => exact any_cast n (chainF ab e e)
  unfold torn tornV
  rw [List.map_congr_left fun s hs => key s (ht s hs)]
noncomputable def cod (b0 b1 b2 b3 b4 : Bool) : Nat := (if b0 then 1 else 0) + (2 * (if b1 then 1 else 0) + (4 * (if b2 then 1 else 0) + (8 * (if b3 then 1 else 0) + 16 * (if b4 then 1 else 0))))
noncomputable def num5 (b0 b1 b2 b3 b4 : Bool) : Nat := (if b0 then 1 else 0) + (if b1 then 1 else 0) + (if b2 then 1 else 0) + (if b3 then 1 else 0) + (if b4 then 1 else 0)
theorem tornV_tab : ∀ b0 b1 b2 b3 b4 : Bool, ∀ i, i < 12 → tornV [b0, b1, b2, b3, b4] (tripsF.getD i []) = !(tT (cod b0 b1 b2 b3 b4)).testBit i := by decide +kernel
theorem tornV_all : ∀ b0 b1 b2 b3 b4 : Bool, ∀ i, i < 12 → (num5 b0 b1 b2 b3 b4 = 0 ∨ 5 ≤ num5 b0 b1 b2 b3 b4) → tornV [b0, b1, b2, b3, b4] (tripsF.getD i []) = false := by decide +kernel
noncomputable def bitN (t k : Nat) : Nat := Nat.mod (Nat.shiftRight t k) 2
noncomputable def popS (t : Nat) : Nat := Nat.add (bitN t 0) (Nat.add (bitN t 1) (Nat.add (bitN t 2) (Nat.add (bitN t 3) (Nat.add (bitN t 4) (Nat.add (bitN t 5) (Nat.add (bitN t 6) (Nat.add (bitN t 7) (Nat.add (bitN t 8) (Nat.add (bitN t 9) (Nat.add (bitN t 10) (bitN t 11)))))))))))
noncomputable def allTo : Nat → (Nat → Bool) → Bool
  | 0, _ => true
  | n + 1, p => (p n).and (allTo n p)
theorem allTo_at {p : Nat → Bool} : ∀ {n : Nat}, allTo n p = true → ∀ {i : Nat}, i < n → p i = true
  | n + 1, h, i, hi => by
    rw [allTo, Bool.and_eq_true] at h
    by_cases q : i = n
    · rw [q]; exact h.1
    · exact allTo_at h.2 (by omega)
theorem pop_tab : (allTo 64 fun i => allTo 64 fun j => Nat.beq (pop12 (Nat.add (Nat.mul 64 i) j)) (popS (Nat.add (Nat.mul 64 i) j))) = true := by decide +kernel
theorem pop_eq {t : Nat} (ht : t < 4096) : pop12 t = ((List.range 12).map fun k => if t.testBit k then 1 else 0).sum := by
  have h := Nat.eq_of_beq_eq_true (allTo_at (allTo_at pop_tab (i := t / 64) (by omega)) (i := t % 64) (by omega))
  rw [show Nat.add (Nat.mul 64 (t / 64)) (t % 64) = t from Nat.div_add_mod t 64] at h
  have e : ∀ k, (if t.testBit k then 1 else 0) = bitN t k := fun k => by
    rw [Nat.testBit_eq_decide_div_mod_eq]
    show _ = (t >>> k) % 2
    rw [Nat.shiftRight_eq_div_pow]
    by_cases q : t / 2 ^ k % 2 = 1
    · rw [decide_eq_true q, if_pos rfl, q]
    · rw [decide_eq_false q, if_neg (by decide)]; omega
  rw [h, show List.range 12 = [0, 1, 2, 3, 4, 5, 6, 7, 8, 9, 10, 11] from rfl]
  simp only [List.map_cons, List.map_nil, List.sum_cons, List.sum_nil, e]
  rfl
theorem trips_map : tripsF = (List.range 12).map fun i => tripsF.getD i [] := by decide +kernel
theorem pP_at (ab : List Nat) {n : Nat} (hn : n < 5) (a b c d e : Nat) : pP (heldF (chW ab a b c d e)) n = (decide (0 < cnt ab n a b c d e) && decide (cnt ab n a b c d e < 5)) := by
  unfold pP
  rw [held_at ab hn, posC, ltC]
theorem calm_at (ab : List Nat) (a b c d e : Nat) {i : Nat} (hi : i < 12) :
    (!(((partedF (heldF (chW ab a b c d e))).map fun node : Nat => torn (tripsF.getD i []) (intL (chW ab a b c d e)) node).any id)) = (tAll ab a b c d e).testBit i := by
  have ht : ∀ s ∈ tripsF.getD i [], 0 ≤ s ∧ s < 5 := by
    obtain ⟨t12, tok⟩ := trips12
    have hl : i < tripsF.length := by omega
    have : tripsF.getD i [] ∈ tripsF := by
      rw [List.getD_eq_getElem?_getD, List.getElem?_eq_getElem hl]; exact List.getElem_mem hl
    exact (tok _ this).2
  have key : ∀ n, n < 5 → (pP (heldF (chW ab a b c d e)) n && torn (tripsF.getD i []) (intL (chW ab a b c d e)) n) = !(tT (sS ab n a b c d e)).testBit i := fun n hn => by
    rw [torn_eq ab n a b c d e ht, pP_at ab hn]
    have e1 : tornV (vB ab n a b c d e) (tripsF.getD i []) = !(tT (sS ab n a b c d e)).testBit i := tornV_tab _ _ _ _ _ i hi
    rw [← e1]
    by_cases q : 0 < cnt ab n a b c d e ∧ cnt ab n a b c d e < 5
    · rw [decide_eq_true q.1, decide_eq_true q.2]; rfl
    · have e2 : tornV (vB ab n a b c d e) (tripsF.getD i []) = false := tornV_all _ _ _ _ _ i hi (by
        show cnt ab n a b c d e = 0 ∨ 5 ≤ cnt ab n a b c d e
        omega)
      rw [e2, Bool.and_false]
  unfold partedF
  rw [List.any_map, List.any_filter, show List.range' 1 4 = [1, 2, 3, 4] from rfl]
  simp only [List.any_cons, List.any_nil, Bool.or_false, Function.comp, id]
  rw [key 1 (by omega), key 2 (by omega), key 3 (by omega), key 4 (by omega)]
  unfold tAll
  show (_ : Bool) = ((tT (sS ab 1 a b c d e) &&& tT (sS ab 2 a b c d e)) &&& (tT (sS ab 3 a b c d e) &&& tT (sS ab 4 a b c d e))).testBit i
  rw [Nat.testBit_and, Nat.testBit_and, Nat.testBit_and]
  cases (tT (sS ab 1 a b c d e)).testBit i <;> cases (tT (sS ab 2 a b c d e)).testBit i <;> cases (tT (sS ab 3 a b c d e)).testBit i <;> cases (tT (sS ab 4 a b c d e)).testBit i <;> rfl
theorem tAll_lt (ab : List Nat) (a b c d e : Nat) : tAll ab a b c d e < 4096 := by
  have h : tT (sS ab 1 a b c d e) < 4096 := Nat.mod_lt _ (by decide)
  show ((tT (sS ab 1 a b c d e) &&& tT (sS ab 2 a b c d e)) &&& (tT (sS ab 3 a b c d e) &&& tT (sS ab 4 a b c d e))) < 4096
  exact Nat.lt_of_le_of_lt (Nat.le_trans Nat.and_le_left Nat.and_le_left) h
theorem calm_len (ab : List Nat) (a b c d e : Nat) : (calmF (chW ab a b c d e) (partedF (heldF (chW ab a b c d e)))).length = pop12 (tAll ab a b c d e) := by
  rw [pop_eq (tAll_lt ..)]
  unfold calmF
  rw [flen]
  conv => lhs; arg 1; arg 2; rw [trips_map]
  rw [List.map_map]
  congr 1
  refine List.map_congr_left fun i hi => ?_
  rw [List.mem_range] at hi
  show (if (!(((partedF (heldF (chW ab a b c d e))).map fun node : Nat => torn (tripsF.getD i []) (intL (chW ab a b c d e)) node).any id)) = true then 1 else 0) = _
  rw [calm_at ab a b c d e hi]
theorem tree_of {ab : List Nat} (hl : ab.length = 5) (hf : Falls ab) : ∃ x y z, x < 2 ∧ y < 3 ∧ z < 4 ∧ ab = [0, 0, x, y, z] := by
  match ab, hl with
  | [x0, x1, x2, x3, x4], _ =>
    have h0 := (hf 0 (by simp)).1
    have h1 := (hf 1 (by simp)).2 (by decide)
    have h2 := (hf 2 (by simp)).2 (by decide)
    have h3 := (hf 3 (by simp)).2 (by decide)
    have h4 := (hf 4 (by simp)).2 (by decide)
    simp at h0 h1 h2 h3 h4
    subst h0 h1
    exact ⟨x2, x3, x4, h2, h3, h4, rfl⟩
theorem calm_count {ab : List Nat} (hl : ab.length = 5) (hf : Falls ab) {a b c d e : Nat} (ha : a < 5) (hb : b < 5) (hc : c < 5) (hd : d < 5) (he : e < 5) :
    (calmF (chW ab a b c d e) (partedF (heldF (chW ab a b c d e)))).length = countF ab (chW ab a b c d e) (heldF (chW ab a b c d e)) ∧ 1 ≤ (calmF (chW ab a b c d e) (partedF (heldF (chW ab a b c d e)))).length := by
  have hchk : chkT ab = true := by
    obtain ⟨x, y, z, hx, hy, hz, rfl⟩ := tree_of hl hf
    exact chk_trees x y z hx hy hz
  obtain ⟨q1, q2⟩ := leaf_of hchk ha hb hc hd he
  rw [calm_len, count_eq]
  exact ⟨q1, q2⟩
end Mine
namespace Mine
/-! ## bits of the masks -/
noncomputable def b1 (x : Bool) : Nat := if x then 1 else 0
noncomputable def mm (p q r s : Bool) : Nat := b1 p + 2 * (b1 q + 2 * (b1 r + 2 * (b1 s + 2 * 0)))
theorem or_bit (x y : Bool) (u v : Nat) : (b1 x + 2 * u) ||| (b1 y + 2 * v) = b1 (x || y) + 2 * (u ||| v) := by
  apply Nat.eq_of_testBit_eq
  intro i
  rw [Nat.testBit_or]
  cases i with
  | zero => simp only [Nat.testBit_zero]; cases x <;> cases y <;> simp [b1] <;> omega
  | succ i =>
    have e : ∀ (z : Bool) (t : Nat), (b1 z + 2 * t) / 2 = t := fun z t => by cases z <;> simp [b1] <;> omega
    simp only [Nat.testBit_succ, e, Nat.testBit_or]
theorem and_bit (x y : Bool) (u v : Nat) : (b1 x + 2 * u) &&& (b1 y + 2 * v) = b1 (x && y) + 2 * (u &&& v) := by
  apply Nat.eq_of_testBit_eq
  intro i
  rw [Nat.testBit_and]
  cases i with
  | zero => simp only [Nat.testBit_zero]; cases x <;> cases y <;> simp [b1] <;> omega
  | succ i =>
    have e : ∀ (z : Bool) (t : Nat), (b1 z + 2 * t) / 2 = t := fun z t => by cases z <;> simp [b1] <;> omega
    simp only [Nat.testBit_succ, e, Nat.testBit_and]
theorem or_pow (n u v : Nat) : 2 ^ n * u ||| 2 ^ n * v = 2 ^ n * (u ||| v) := by
  induction n with
  | zero => simp
  | succ n ih =>
    have e : ∀ t, 2 ^ (n + 1) * t = b1 false + 2 * (2 ^ n * t) := fun t => by rw [Nat.pow_succ, Nat.mul_comm (2 ^ n) 2, Nat.mul_assoc]; simp [b1]
    rw [e, e, e, or_bit, ih]; rfl
theorem and_pow (n u v : Nat) : 2 ^ n * u &&& 2 ^ n * v = 2 ^ n * (u &&& v) := by
  induction n with
  | zero => simp
  | succ n ih =>
    have e : ∀ t, 2 ^ (n + 1) * t = b1 false + 2 * (2 ^ n * t) := fun t => by rw [Nat.pow_succ, Nat.mul_comm (2 ^ n) 2, Nat.mul_assoc]; simp [b1]
    rw [e, e, e, and_bit, ih]; rfl
theorem or_mm (p q r s p' q' r' s' : Bool) : mm p q r s ||| mm p' q' r' s' = mm (p || p') (q || q') (r || r') (s || s') := by
  unfold mm; rw [or_bit, or_bit, or_bit, or_bit]; rfl
theorem and_mm (p q r s p' q' r' s' : Bool) : mm p q r s &&& mm p' q' r' s' = mm (p && p') (q && q') (r && r') (s && s') := by
  unfold mm; rw [and_bit, and_bit, and_bit, and_bit]; rfl
theorem bitAnd_nat (x y : Nat) : Builtin.bitAnd (x : Int) (y : Int) = ((x &&& y : Nat) : Int) := by
  rw [bitAnd_pp (by omega) (by omega)]; rfl
theorem bitOr_nat (x y : Nat) : Builtin.bitOr (x : Int) (y : Int) = ((x ||| y : Nat) : Int) := by
  have e : ∀ z : Nat, (Builtin.bitNot (Builtin.bitNot (z : Int))) = z := fun z => by unfold Builtin.bitNot; omega
  have n : ∀ z : Nat, ¬ 0 ≤ Builtin.bitNot (z : Int) := fun z => by unfold Builtin.bitNot; omega
  unfold Builtin.bitOr
  rw [bitAnd_nn (n x) (n y), e, e, e]; rfl
/-! ## masks -/
noncomputable def maskV (sh : Nat) (ab : List Nat) (v : Nat) : Nat := ((chainF ab v v).map fun n => 2 ^ (sh + n - 1)).sum
theorem tree_chain : ∀ x, x < 2 → ∀ y, y < 3 → ∀ z, z < 4 → ∀ v, v < 5 →
    (((chainF [0, 0, x, y, z] v v).map fun n => 2 ^ (n - 1)).sum = mm (inB [0, 0, x, y, z] 1 v) (inB [0, 0, x, y, z] 2 v) (inB [0, 0, x, y, z] 3 v) (inB [0, 0, x, y, z] 4 v)) ∧
    (∀ n ∈ chainF [0, 0, x, y, z] v v, 1 ≤ n) ∧ (chainF [0, 0, x, y, z] v v).length ≤ 5 := by decide +kernel
theorem sum_pow (sh : Nat) : ∀ l : List Nat, (∀ n ∈ l, 1 ≤ n) → (l.map fun n => 2 ^ (sh + n - 1)).sum = 2 ^ sh * (l.map fun n => 2 ^ (n - 1)).sum
  | [], _ => by simp
  | n :: l, h => by
    have h1 := h n (List.mem_cons_self ..)
    have ih := sum_pow sh l fun z hz => h z (List.mem_cons_of_mem _ hz)
    rw [List.map_cons, List.map_cons, List.sum_cons, List.sum_cons, ih, Nat.mul_add, ← Nat.pow_add, show sh + n - 1 = sh + (n - 1) by omega]
theorem mask_eq {ab : List Nat} (hl : ab.length = 5) (hf : Falls ab) (sh : Nat) {v : Nat} (hv : v < 5) : maskV sh ab v = 2 ^ sh * mm (inB ab 1 v) (inB ab 2 v) (inB ab 3 v) (inB ab 4 v) := by
  obtain ⟨x, y, z, hx, hy, hz, rfl⟩ := tree_of hl hf
  obtain ⟨q1, q2, _⟩ := tree_chain x hx y hy z hz v hv
  unfold maskV
  rw [sum_pow sh _ q2, q1]
/-! ## words -/
noncomputable def wordB (p q r s : Bool) : List Nat := [if p then 65 else 97, if q then 66 else 98, if r then 67 else 99, if s then 68 else 100]
theorem bit_eq (sh m p : Nat) : bitF sh (2 ^ sh * m) p = (m / 2 ^ p % 2 == 1) := by
  unfold bitF
  have e1 : ((sh : Int) + (p : Nat)).toNat = sh + p := by omega
  rw [e1, show ((2 : Int) ^ (sh + p)) = ((2 ^ (sh + p) : Nat) : Int) by simp, Int.fdiv_eq_ediv_of_nonneg _ (Int.natCast_nonneg _), Int.fmod_eq_emod_of_nonneg _ (by decide)]
  rw [show (((2 ^ sh * m : Nat) : Int) / ((2 ^ (sh + p) : Nat) : Int) % 2) = ((2 ^ sh * m / 2 ^ (sh + p) % 2 : Nat) : Int) by simp, Nat.pow_add, Nat.mul_div_mul_left _ _ (Nat.pow_pos (by decide))]
  exact castEq _ 1
theorem word_eq (sh : Nat) (p q r s : Bool) : wordF sh (2 ^ sh * mm p q r s) = wordB p q r s := by
  unfold wordF
  rw [show List.range 4 = [0, 1, 2, 3] from rfl]
  simp only [List.map_cons, List.map_nil, wordC, bit_eq]
  cases p <;> cases q <;> cases r <;> cases s <;> rfl
noncomputable def dN (x y : Bool) : Nat := if x != y then 1 else 0
theorem lev_tab : ∀ p q r s p' q' r' s' : Bool, levF (wordB p q r s) (wordB p' q' r' s') 8 = ((dN p p' + dN q q' + dN r r' + dN s s' : Nat) : Int) := by decide +kernel
end Mine
namespace Mine
/-! ## the distances -/
theorem far5 (u v w x y : List Nat) : farF [u, v, w, x, y] =
    [[0, levF v u 8, levF w u 8, levF x u 8, levF y u 8], [levF v u 8, 0, levF w v 8, levF x v 8, levF y v 8], [levF w u 8, levF w v 8, 0, levF x w 8, levF y w 8],
     [levF x u 8, levF x v 8, levF x w 8, 0, levF y x 8], [levF y u 8, levF y v 8, levF y w 8, levF y x 8, 0]] := by
  simp [farF, farI, farJ, List.range, List.range.loop, List.replicate]
noncomputable def wB (ab : List Nat) (v : Nat) : List Nat := wordB (inB ab 1 v) (inB ab 2 v) (inB ab 3 v) (inB ab 4 v)
noncomputable def dW (ab : List Nat) (u v : Nat) : Nat := dN (inB ab 1 u) (inB ab 1 v) + dN (inB ab 2 u) (inB ab 2 v) + dN (inB ab 3 u) (inB ab 3 v) + dN (inB ab 4 u) (inB ab 4 v)
theorem lev_w (ab : List Nat) (u v : Nat) : levF (wB ab u) (wB ab v) 8 = ((dW ab u v : Nat) : Int) := lev_tab ..
theorem dN_comm (x y : Bool) : dN x y = dN y x := by cases x <;> cases y <;> rfl
theorem dN_self (x : Bool) : dN x x = 0 := by cases x <;> rfl
theorem dW_comm (ab : List Nat) (u v : Nat) : dW ab u v = dW ab v u := by
  unfold dW
  rw [dN_comm (inB ab 1 u), dN_comm (inB ab 2 u), dN_comm (inB ab 3 u), dN_comm (inB ab 4 u)]
theorem dW_self (ab : List Nat) (u : Nat) : dW ab u u = 0 := by unfold dW; simp only [dN_self]
noncomputable def farW (ab : List Nat) (a b c d e : Nat) : List (List Int) := farF [wB ab a, wB ab b, wB ab c, wB ab d, wB ab e]
theorem at_nat5 {α : Type} (x0 x1 x2 x3 x4 z : α) (k : Nat) (hk : k < 5) : at' [x0, x1, x2, x3, x4] z (k : Int) = [x0, x1, x2, x3, x4].getD k z := by
  match k, hk with
  | 0, _ => rfl
  | 1, _ => rfl
  | 2, _ => rfl
  | 3, _ => rfl
  | 4, _ => rfl
theorem far_at5 (ab : List Nat) (a b c d e : Nat) {i j : Int} (hi : 0 ≤ i ∧ i < 5) (hj : 0 ≤ j ∧ j < 5) :
    at' (at' (farW ab a b c d e) [] i) 0 j = ((dN (at' (vB ab 1 a b c d e) false i) (at' (vB ab 1 a b c d e) false j) + dN (at' (vB ab 2 a b c d e) false i) (at' (vB ab 2 a b c d e) false j)
      + dN (at' (vB ab 3 a b c d e) false i) (at' (vB ab 3 a b c d e) false j) + dN (at' (vB ab 4 a b c d e) false i) (at' (vB ab 4 a b c d e) false j) : Nat) : Int) := by
  obtain ⟨k, rfl⟩ := Int.eq_ofNat_of_zero_le hi.1
  obtain ⟨l, rfl⟩ := Int.eq_ofNat_of_zero_le hj.1
  have hk : k < 5 := by omega
  have hl : l < 5 := by omega
  have e1 : at' (at' (farW ab a b c d e) [] (k : Int)) 0 (l : Int) = ((dW ab ([a, b, c, d, e].getD k 0) ([a, b, c, d, e].getD l 0) : Nat) : Int) := by
    unfold farW
    rw [far5]
    simp only [lev_w]
    rw [at_nat5 _ _ _ _ _ _ k hk]
    have z : ∀ u, (0 : Int) = ((dW ab u u : Nat) : Int) := fun u => by rw [dW_self]; rfl
    match k, hk with
    | 0, _ => 
      show at' [_, _, _, _, _] 0 (l : Int) = _
      rw [at_nat5 _ _ _ _ _ _ l hl]
      match l, hl with
      | 0, _ => exact z a
      | 1, _ => exact congrArg (fun n : Nat => (n : Int)) (dW_comm ab _ _)
      | 2, _ => exact congrArg (fun n : Nat => (n : Int)) (dW_comm ab _ _)
      | 3, _ => exact congrArg (fun n : Nat => (n : Int)) (dW_comm ab _ _)
      | 4, _ => exact congrArg (fun n : Nat => (n : Int)) (dW_comm ab _ _)
    | 1, _ => 
      show at' [_, _, _, _, _] 0 (l : Int) = _
      rw [at_nat5 _ _ _ _ _ _ l hl]
      match l, hl with
      | 0, _ => rfl
      | 1, _ => exact z b
      | 2, _ => exact congrArg (fun n : Nat => (n : Int)) (dW_comm ab _ _)
      | 3, _ => exact congrArg (fun n : Nat => (n : Int)) (dW_comm ab _ _)
      | 4, _ => exact congrArg (fun n : Nat => (n : Int)) (dW_comm ab _ _)
    | 2, _ => 
      show at' [_, _, _, _, _] 0 (l : Int) = _
      rw [at_nat5 _ _ _ _ _ _ l hl]
      match l, hl with
      | 0, _ => rfl
      | 1, _ => rfl
      | 2, _ => exact z c
      | 3, _ => exact congrArg (fun n : Nat => (n : Int)) (dW_comm ab _ _)
      | 4, _ => exact congrArg (fun n : Nat => (n : Int)) (dW_comm ab _ _)
    | 3, _ => 
      show at' [_, _, _, _, _] 0 (l : Int) = _
      rw [at_nat5 _ _ _ _ _ _ l hl]
      match l, hl with
      | 0, _ => rfl
      | 1, _ => rfl
      | 2, _ => rfl
      | 3, _ => exact z d
      | 4, _ => exact congrArg (fun n : Nat => (n : Int)) (dW_comm ab _ _)
    | 4, _ => 
      show at' [_, _, _, _, _] 0 (l : Int) = _
      rw [at_nat5 _ _ _ _ _ _ l hl]
      match l, hl with
      | 0, _ => rfl
      | 1, _ => rfl
      | 2, _ => rfl
      | 3, _ => rfl
      | 4, _ => exact z e
  rw [e1]
  have e2 : ∀ (n m : Nat), m < 5 → at' (vB ab n a b c d e) false (m : Int) = inB ab n ([a, b, c, d, e].getD m 0) := fun n m hm => by
    unfold vB
    rw [at_nat5 _ _ _ _ _ _ m hm]
    match m, hm with
    | 0, _ => rfl
    | 1, _ => rfl
    | 2, _ => rfl
    | 3, _ => rfl
    | 4, _ => rfl
  rw [e2 1 k hk, e2 2 k hk, e2 3 k hk, e2 4 k hk, e2 1 l hl, e2 2 l hl, e2 3 l hl, e2 4 l hl]
  rfl
theorem farW_ok (ab : List Nat) (a b c d e : Nat) : (farW ab a b c d e).length = 5 ∧ ∀ r ∈ farW ab a b c d e, r.length = 5 := by
  unfold farW
  rw [far5]
  refine ⟨rfl, fun r hr => ?_⟩
  simp only [List.mem_cons, List.not_mem_nil, or_false] at hr
  rcases hr with rfl | rfl | rfl | rfl | rfl <;> rfl
/-! ## lengths as cuts -/
noncomputable def cutV (v : List Bool) (trip : List Int) : Nat :=
  let inside := trip.map fun s => at' v false s
  ((List.range 5).filter fun k : Nat => at' inside false ((k : Int) - 1) != at' inside false k).length
theorem tornV_cut (v : List Bool) (trip : List Int) : tornV v trip = decide (2 < cutV v trip) := by
  unfold tornV cutV
  by_cases h : 2 < ((List.range 5).filter fun k : Nat => at' (trip.map fun s => at' v false s) false ((k : Int) - 1) != at' (trip.map fun s => at' v false s) false k).length
  · rw [decide_eq_true h]; exact decide_eq_true (by omega)
  · rw [decide_eq_false h]; exact decide_eq_false (by omega)
theorem len_cuts (ab : List Nat) (a b c d e : Nat) {t0 t1 t2 t3 t4 : Int} (ht : ∀ s ∈ [t0, t1, t2, t3, t4], 0 ≤ s ∧ s < 5) :
    lenT (farW ab a b c d e) [t0, t1, t2, t3, t4] = ((cutV (vB ab 1 a b c d e) [t0, t1, t2, t3, t4] + cutV (vB ab 2 a b c d e) [t0, t1, t2, t3, t4] + cutV (vB ab 3 a b c d e) [t0, t1, t2, t3, t4] + cutV (vB ab 4 a b c d e) [t0, t1, t2, t3, t4] : Nat) : Int) := by
  have h0 := ht t0 (by simp); have h1 := ht t1 (by simp); have h2 := ht t2 (by simp); have h3 := ht t3 (by simp); have h4 := ht t4 (by simp)
  have hc : ∀ v : List Bool, cutV v [t0, t1, t2, t3, t4] = dN (at' v false t4) (at' v false t0) + dN (at' v false t0) (at' v false t1) + dN (at' v false t1) (at' v false t2) + dN (at' v false t2) (at' v false t3) + dN (at' v false t3) (at' v false t4) := fun v => by
    unfold cutV
    rw [flen]
    show (if (at' v false t4 != at' v false t0) = true then 1 else 0) + ((if (at' v false t0 != at' v false t1) = true then 1 else 0) + ((if (at' v false t1 != at' v false t2) = true then 1 else 0) + ((if (at' v false t2 != at' v false t3) = true then 1 else 0) + ((if (at' v false t3 != at' v false t4) = true then 1 else 0) + 0)))) = _
    unfold dN
    omega
  rw [hc, hc, hc, hc]
  show at' (at' (farW ab a b c d e) [] t4) 0 t0 + (at' (at' (farW ab a b c d e) [] t0) 0 t1 + (at' (at' (farW ab a b c d e) [] t1) 0 t2 + (at' (at' (farW ab a b c d e) [] t2) 0 t3 + (at' (at' (farW ab a b c d e) [] t3) 0 t4 + 0)))) = _
  rw [far_at5 ab a b c d e h4 h0, far_at5 ab a b c d e h0 h1, far_at5 ab a b c d e h1 h2, far_at5 ab a b c d e h2 h3, far_at5 ab a b c d e h3 h4]
  omega
theorem cut_tab : ∀ b0 b1 b2 b3 b4 : Bool, ∀ i, i < 12 → (if 0 < num5 b0 b1 b2 b3 b4 ∧ num5 b0 b1 b2 b3 b4 < 5 then 2 ≤ cutV [b0, b1, b2, b3, b4] (tripsF.getD i []) else cutV [b0, b1, b2, b3, b4] (tripsF.getD i []) = 0) := by decide +kernel
end Mine
namespace Mine
/-! ## the shortest trips -/
noncomputable def p1 (b : Bool) : Nat := if b then 1 else 0
theorem parted_len (f : Nat → Bool) : ((List.range' 1 4).filter f).length = p1 (f 1) + p1 (f 2) + p1 (f 3) + p1 (f 4) := by
  rw [flen, show List.range' 1 4 = [1, 2, 3, 4] from rfl]
  simp only [List.map_cons, List.map_nil, List.sum_cons, List.sum_nil]
  unfold p1
  omega
theorem trip_fact (ab : List Nat) (a b c d e : Nat) {i : Nat} (hi : i < 12) : ∃ c1 c2 c3 c4 : Nat, lenT (farW ab a b c d e) (tripsF.getD i []) = ((c1 + c2 + c3 + c4 : Nat) : Int) ∧
    ((if pP (heldF (chW ab a b c d e)) 1 then 2 ≤ c1 else c1 = 0) ∧ (if pP (heldF (chW ab a b c d e)) 2 then 2 ≤ c2 else c2 = 0) ∧ (if pP (heldF (chW ab a b c d e)) 3 then 2 ≤ c3 else c3 = 0) ∧ (if pP (heldF (chW ab a b c d e)) 4 then 2 ≤ c4 else c4 = 0)) ∧
    (!(((partedF (heldF (chW ab a b c d e))).map fun node : Nat => torn (tripsF.getD i []) (intL (chW ab a b c d e)) node).any id)) =
      !((pP (heldF (chW ab a b c d e)) 1 && decide (2 < c1)) || (pP (heldF (chW ab a b c d e)) 2 && decide (2 < c2)) || (pP (heldF (chW ab a b c d e)) 3 && decide (2 < c3)) || (pP (heldF (chW ab a b c d e)) 4 && decide (2 < c4))) := by
  obtain ⟨t12, tok⟩ := trips12
  have hl : i < tripsF.length := by omega
  have hm : tripsF.getD i [] ∈ tripsF := by
    rw [List.getD_eq_getElem?_getD, List.getElem?_eq_getElem hl]; exact List.getElem_mem hl
  obtain ⟨tl, tr⟩ := tok _ hm
  have cf : ∀ n, n < 5 → (if pP (heldF (chW ab a b c d e)) n then 2 ≤ cutV (vB ab n a b c d e) (tripsF.getD i []) else cutV (vB ab n a b c d e) (tripsF.getD i []) = 0) := fun n hn => by
    have := cut_tab (inB ab n a) (inB ab n b) (inB ab n c) (inB ab n d) (inB ab n e) i hi
    rw [pP_at ab hn, ← Bool.decide_and]
    simp only [decide_eq_true_eq]
    exact this
  refine ⟨cutV (vB ab 1 a b c d e) (tripsF.getD i []), cutV (vB ab 2 a b c d e) (tripsF.getD i []), cutV (vB ab 3 a b c d e) (tripsF.getD i []), cutV (vB ab 4 a b c d e) (tripsF.getD i []), ?_, ⟨cf 1 (by omega), cf 2 (by omega), cf 3 (by omega), cf 4 (by omega)⟩, ?_⟩
  · generalize tripsF.getD i [] = t at *
    match t, tl with
    | [t0, t1, t2, t3, t4], _ => exact len_cuts ab a b c d e tr
  · unfold partedF
    rw [List.any_map, List.any_filter, show List.range' 1 4 = [1, 2, 3, 4] from rfl]
    simp only [List.any_cons, List.any_nil, Bool.or_false, Function.comp, id]
    rw [torn_eq ab 1 a b c d e tr, torn_eq ab 2 a b c d e tr, torn_eq ab 3 a b c d e tr, torn_eq ab 4 a b c d e tr, tornV_cut, tornV_cut, tornV_cut, tornV_cut]
    simp only [Bool.or_assoc]
theorem len_calm (ab : List Nat) (a b c d e : Nat) {i : Nat} (hi : i < 12) :
    2 * ((partedF (heldF (chW ab a b c d e))).length : Int) ≤ lenT (farW ab a b c d e) (tripsF.getD i []) ∧
    (lenT (farW ab a b c d e) (tripsF.getD i []) == 2 * ((partedF (heldF (chW ab a b c d e))).length : Int)) = (!(((partedF (heldF (chW ab a b c d e))).map fun node : Nat => torn (tripsF.getD i []) (intL (chW ab a b c d e)) node).any id)) := by
  obtain ⟨c1, c2, c3, c4, h1, ⟨g1, g2, g3, g4⟩, h2⟩ := trip_fact ab a b c d e hi
  rw [h2, h1]
  have hp : (partedF (heldF (chW ab a b c d e))).length = p1 (pP (heldF (chW ab a b c d e)) 1) + p1 (pP (heldF (chW ab a b c d e)) 2) + p1 (pP (heldF (chW ab a b c d e)) 3) + p1 (pP (heldF (chW ab a b c d e)) 4) := parted_len _
  rw [hp]
  generalize pP (heldF (chW ab a b c d e)) 1 = q1 at *
  generalize pP (heldF (chW ab a b c d e)) 2 = q2 at *
  generalize pP (heldF (chW ab a b c d e)) 3 = q3 at *
  generalize pP (heldF (chW ab a b c d e)) 4 = q4 at *
  have s : ∀ (q : Bool) (c : Nat), (if q then 2 ≤ c else c = 0) → 2 * p1 q ≤ c ∧ (c = 2 * p1 q ↔ (q && decide (2 < c)) = false) := fun q c h => by
    cases q
    · simp at h; subst h; simp [p1]
    · simp at h
      refine ⟨by simp [p1]; omega, ?_⟩
      rw [Bool.true_and, decide_eq_false_iff_not]
      simp [p1]
      omega
  obtain ⟨l1, e1⟩ := s _ _ g1
  obtain ⟨l2, e2⟩ := s _ _ g2
  obtain ⟨l3, e3⟩ := s _ _ g3
  obtain ⟨l4, e4⟩ := s _ _ g4
  refine ⟨by omega, ?_⟩
  rw [Bool.eq_iff_iff, beq_iff_eq, Bool.not_eq_true', Bool.or_eq_false_iff, Bool.or_eq_false_iff, Bool.or_eq_false_iff, ← e1, ← e2, ← e3, ← e4]
  omega
theorem lens_map (ab : List Nat) (a b c d e : Nat) : lengthsF (farW ab a b c d e) = (List.range 12).map fun i => lenT (farW ab a b c d e) (tripsF.getD i []) := by
  unfold lengthsF
  conv => lhs; rw [trips_map]
  rw [List.map_map]
  rfl
theorem getD_map12 {α : Type} (f : Nat → α) (z : α) {i : Nat} (hi : i < 12) : ((List.range 12).map f).getD i z = f i := by
  rw [List.getD_eq_getElem?_getD, List.getElem?_map, List.getElem?_range hi]; rfl
theorem len_at (ab : List Nat) (a b c d e : Nat) {i : Nat} (hi : i < 12) : (lengthsF (farW ab a b c d e)).getD i 0 = lenT (farW ab a b c d e) (tripsF.getD i []) := by
  rw [lens_map]
  exact getD_map12 (fun i => lenT (farW ab a b c d e) (tripsF.getD i [])) 0 hi
theorem filter_map' {α β : Type} (g : α → β) (q : β → Bool) (l : List α) : (l.map g).filter q = (l.filter fun x => q (g x)).map g := List.filter_map
theorem law_lens {ab : List Nat} (hl : ab.length = 5) (hf : Falls ab) {a b c d e : Nat} (ha : a < 5) (hb : b < 5) (hc : c < 5) (hd : d < 5) (he : e < 5) :
    (2 * ((partedF (heldF (chW ab a b c d e))).length : Int)) ∈ lengthsF (farW ab a b c d e) ∧
    (∀ x ∈ lengthsF (farW ab a b c d e), 2 * ((partedF (heldF (chW ab a b c d e))).length : Int) ≤ x) ∧
    (shortF (farW ab a b c d e) (2 * ((partedF (heldF (chW ab a b c d e))).length : Int))).length = countF ab (chW ab a b c d e) (heldF (chW ab a b c d e)) ∧
    shortF (farW ab a b c d e) (2 * ((partedF (heldF (chW ab a b c d e))).length : Int)) = calmF (chW ab a b c d e) (partedF (heldF (chW ab a b c d e))) := by
  have hls := lens_map ab a b c d e
  have hsc : shortF (farW ab a b c d e) (2 * ((partedF (heldF (chW ab a b c d e))).length : Int)) = calmF (chW ab a b c d e) (partedF (heldF (chW ab a b c d e))) := by
    unfold shortF calmF
    conv => rhs; rw [trips_map]
    rw [filter_map']
    refine congrArg (List.map fun k => tripsF.getD k []) (List.filter_congr fun i hi => ?_)
    rw [List.mem_range] at hi
    rw [len_at ab a b c d e hi]
    exact (len_calm ab a b c d e hi).2
  obtain ⟨q1, q2⟩ := calm_count hl hf ha hb hc hd he
  refine ⟨?_, fun x hx => ?_, (congrArg List.length hsc).trans q1, hsc⟩
  · rw [← hsc] at q2
    unfold shortF at q2
    rw [List.length_map] at q2
    obtain ⟨i, hi⟩ := List.exists_mem_of_length_pos q2
    obtain ⟨h1, h2⟩ := List.mem_filter.mp hi
    rw [List.mem_range] at h1
    rw [len_at ab a b c d e h1] at h2
    rw [hls]
    refine List.mem_map.mpr ⟨i, List.mem_range.mpr h1, ?_⟩
    exact eq_of_beq h2
  · rw [hls] at hx
    obtain ⟨i, h1, rfl⟩ := List.mem_map.mp hx
    rw [List.mem_range] at h1
    exact (len_calm ab a b c d e h1).1
/-! ## the flags -/
noncomputable def sel (p q r s : Bool) : List Nat := (if p then [1] else []) ++ (if q then [2] else []) ++ (if r then [3] else []) ++ (if s then [4] else [])
theorem flag_list : ∀ sh, sh < 9 → ∀ p q r s : Bool, flagsL r32 ((2 ^ sh * mm p q r s : Nat) : Int) [] = if (sel p q r s != []) then (sel p q r s).map (fun node => namesL.getD (sh + node - 1) "") else ["0x0"] := by decide +kernel
theorem flag_fit : ∀ sh, sh < 9 → ∀ p q r s : Bool, flagsH ((2 ^ sh * mm p q r s : Nat) : Int) = true := by decide +kernel
theorem join_0x0 : Txt.join ", " ["0x0"] = "0x0" := by decide +kernel
theorem flag_tab (sh : Nat) (hs : sh < 9) (p q r s : Bool) : flagsH ((2 ^ sh * mm p q r s : Nat) : Int) = true ∧ flagsF ((2 ^ sh * mm p q r s : Nat) : Int) = dueF sh (sel p q r s) := by
  refine ⟨flag_fit sh hs p q r s, ?_⟩
  unfold flagsF dueF
  rw [flag_list sh hs p q r s]
  by_cases z : (sel p q r s != []) = true
  · rw [if_pos z, if_pos z]
  · rw [if_neg z, if_neg z]; exact join_0x0
theorem or_xor : ∀ b0 b1 b2 b3 b4 : Bool, (decide (0 < num5 b0 b1 b2 b3 b4) && decide (num5 b0 b1 b2 b3 b4 < 5)) = ((b0 || b1 || b2 || b3 || b4) ^^ (b0 && b1 && b2 && b3 && b4)) := by decide
theorem mm_xor : ∀ p q r s p' q' r' s' : Bool, mm (p || p') (q || q') (r || r') (s || s') = mm (p && p') (q && q') (r && r') (s && s') + mm (p ^^ p') (q ^^ q') (r ^^ r') (s ^^ s') := by decide
theorem parted_sel (f : Nat → Bool) : (List.range' 1 4).filter f = sel (f 1) (f 2) (f 3) (f 4) := by
  rw [show List.range' 1 4 = [1, 2, 3, 4] from rfl]
  simp only [List.filter_cons, List.filter_nil]
  unfold sel
  cases f 1 <;> cases f 2 <;> cases f 3 <;> cases f 4 <;> rfl
noncomputable def msF (sh : Nat) (ab : List Nat) (a b c d e : Nat) : List Nat := [a, b, c, d, e].map (maskV sh ab)
theorem law_flags {ab : List Nat} (hl : ab.length = 5) (hf : Falls ab) {a b c d e : Nat} (ha : a < 5) (hb : b < 5) (hc : c < 5) (hd : d < 5) (he : e < 5) {sh : Nat} (hs : sh ≤ 8) :
    flagsH (Builtin.bitXor (someF (msF sh ab a b c d e)) (eachF (msF sh ab a b c d e))) = true ∧
    flagsF (Builtin.bitXor (someF (msF sh ab a b c d e)) (eachF (msF sh ab a b c d e))) = dueF sh (partedF (heldF (chW ab a b c d e))) := by
  have m0 : mI (msF sh ab a b c d e) 0 = ((2 ^ sh * mm (inB ab 1 a) (inB ab 2 a) (inB ab 3 a) (inB ab 4 a) : Nat) : Int) := by rw [← mask_eq hl hf sh ha]; rfl
  have m1 : mI (msF sh ab a b c d e) 1 = ((2 ^ sh * mm (inB ab 1 b) (inB ab 2 b) (inB ab 3 b) (inB ab 4 b) : Nat) : Int) := by rw [← mask_eq hl hf sh hb]; rfl
  have m2 : mI (msF sh ab a b c d e) 2 = ((2 ^ sh * mm (inB ab 1 c) (inB ab 2 c) (inB ab 3 c) (inB ab 4 c) : Nat) : Int) := by rw [← mask_eq hl hf sh hc]; rfl
  have m3 : mI (msF sh ab a b c d e) 3 = ((2 ^ sh * mm (inB ab 1 d) (inB ab 2 d) (inB ab 3 d) (inB ab 4 d) : Nat) : Int) := by rw [← mask_eq hl hf sh hd]; rfl
  have m4 : mI (msF sh ab a b c d e) 4 = ((2 ^ sh * mm (inB ab 1 e) (inB ab 2 e) (inB ab 3 e) (inB ab 4 e) : Nat) : Int) := by rw [← mask_eq hl hf sh he]; rfl
  have hX : Builtin.bitXor (someF (msF sh ab a b c d e)) (eachF (msF sh ab a b c d e)) = ((2 ^ sh * mm (pP (heldF (chW ab a b c d e)) 1) (pP (heldF (chW ab a b c d e)) 2) (pP (heldF (chW ab a b c d e)) 3) (pP (heldF (chW ab a b c d e)) 4) : Nat) : Int) := by
    unfold someF eachF
    rw [m0, m1, m2, m3, m4]
    simp only [bitOr_nat, bitAnd_nat, or_pow, and_pow, or_mm, and_mm]
    unfold Builtin.bitXor
    rw [bitOr_nat, bitAnd_nat, or_pow, and_pow, or_mm, and_mm, mm_xor, Nat.mul_add]
    rw [pP_at ab (by omega), pP_at ab (by omega), pP_at ab (by omega), pP_at ab (by omega)]
    have o : ∀ n, (decide (0 < cnt ab n a b c d e) && decide (cnt ab n a b c d e < 5)) = ((inB ab n a || inB ab n b || inB ab n c || inB ab n d || inB ab n e) ^^ (inB ab n a && inB ab n b && inB ab n c && inB ab n d && inB ab n e)) := fun n => or_xor _ _ _ _ _
    rw [o 1, o 2, o 3, o 4]
    omega
  rw [hX]
  have := flag_tab sh (by omega) (pP (heldF (chW ab a b c d e)) 1) (pP (heldF (chW ab a b c d e)) 2) (pP (heldF (chW ab a b c d e)) 3) (pP (heldF (chW ab a b c d e)) 4)
  unfold partedF
  rw [parted_sel]
  exact this
end Mine
namespace Mine
/-! ## chains -/
noncomputable abbrev ch (ab : List Nat) (v : Nat) : List Nat := chainF ab v v
theorem ch0 (ab : List Nat) (f : Nat) : chainF ab f 0 = [] := by cases f <;> simp [chainF]
theorem fuel {ab : List Nat} (hf : Falls ab) (v : Nat) : ∀ f g, v ≤ f → v ≤ g → v < ab.length → chainF ab f v = chainF ab g v := by
  induction v using Nat.strongRecOn with
  | ind v ih =>
    intro f g h1 h2 hv
    by_cases q : v = 0
    · subst q; rw [ch0, ch0]
    · obtain ⟨f, rfl⟩ : ∃ f', f = f' + 1 := ⟨f - 1, by omega⟩
      obtain ⟨g, rfl⟩ : ∃ g', g = g' + 1 := ⟨g - 1, by omega⟩
      have hd := (hf v hv).2 (by omega)
      rw [chainF, chainF, if_neg q, if_neg q, ih _ hd f g (by omega) (by omega) (by omega)]
theorem ch_cons {ab : List Nat} (hf : Falls ab) {v : Nat} (h0 : 0 < v) (hv : v < ab.length) : ch ab v = v :: ch ab (ab.getD v 0) := by
  obtain ⟨u, rfl⟩ : ∃ u, v = u + 1 := ⟨v - 1, by omega⟩
  have hd := (hf (u + 1) hv).2 h0
  unfold ch
  rw [chainF, if_neg (by omega), fuel hf _ u (ab.getD (u + 1) 0) (by omega) (Nat.le_refl _) (by omega)]
theorem ch_le {ab : List Nat} (hf : Falls ab) (v : Nat) : v < ab.length → ∀ n ∈ ch ab v, 1 ≤ n ∧ n ≤ v := by
  induction v using Nat.strongRecOn with
  | ind v ih =>
    intro hv n hn
    by_cases q : v = 0
    · subst q; rw [show ch ab 0 = [] from ch0 ab 0] at hn; cases hn
    · have hd := (hf v hv).2 (by omega)
      rw [ch_cons hf (by omega) hv] at hn
      rcases List.mem_cons.mp hn with h | h
      · omega
      · have := ih _ hd (by omega) n h; omega
theorem getD_app {ab : List Nat} {h i : Nat} (hi : i < ab.length) : (ab ++ [h]).getD i 0 = ab.getD i 0 := by
  rw [List.getD_eq_getElem?_getD, List.getElem?_append_left hi, ← List.getD_eq_getElem?_getD]
theorem falls_app {ab : List Nat} (hf : Falls ab) {h : Nat} (hh : h < ab.length) : Falls (ab ++ [h]) := fun i hi => by
  by_cases q : i < ab.length
  · rw [getD_app q]; exact hf i q
  · have : i = ab.length := by simp at hi; omega
    subst this
    rw [List.getD_eq_getElem?_getD, List.getElem?_append_right (Nat.le_refl _)]
    simp
    omega
theorem ch_app {ab : List Nat} (hf : Falls ab) {h : Nat} (v : Nat) : v < ab.length → h < ab.length → ch (ab ++ [h]) v = ch ab v := by
  induction v using Nat.strongRecOn with
  | ind v ih =>
    intro hv hh
    by_cases q : v = 0
    · subst q; unfold ch; rw [ch0, ch0]
    · have hd := (hf v hv).2 (by omega)
      rw [ch_cons (falls_app hf hh) (by omega) (by simp; omega), ch_cons hf (by omega) hv, getD_app hv, ih _ hd (by omega) hh]
theorem ch_new {ab : List Nat} (hf : Falls ab) {h : Nat} (hh : h < ab.length) (h0 : 0 < ab.length) : ch (ab ++ [h]) ab.length = ab.length :: ch ab h := by
  rw [ch_cons (falls_app hf hh) h0 (by simp)]
  rw [show (ab ++ [h]).getD ab.length 0 = h by rw [List.getD_eq_getElem?_getD, List.getElem?_append_right (Nat.le_refl _)]; simp, ch_app hf h hh hh]
/-- the nodes of the chain from k on -/
noncomputable def cnS (ab : List Nat) (here k : Nat) : Nat := ((ch ab here).filter fun n => decide (k ≤ n)).length
theorem cnS_high {ab : List Nat} (hf : Falls ab) {here k : Nat} (hh : here < ab.length) (hk : here < k) : cnS ab here k = 0 := by
  unfold cnS
  rw [List.length_eq_zero_iff, List.filter_eq_nil_iff]
  intro n hn
  have := ch_le hf here hh n hn
  simp; omega
theorem cnS_self {ab : List Nat} (hf : Falls ab) {here : Nat} (h0 : 0 < here) (hh : here < ab.length) : cnS ab here here = 1 := by
  have hd := (hf here hh).2 h0
  have := cnS_high hf (here := ab.getD here 0) (k := here) (by omega) hd
  unfold cnS at this ⊢
  rw [ch_cons hf h0 hh, List.filter_cons, if_pos (by simp), List.length_cons, this]
theorem cnS_pop {ab : List Nat} (hf : Falls ab) {here k : Nat} (h0 : 0 < here) (hh : here < ab.length) : cnS ab here k = (if k ≤ here then 1 else 0) + cnS ab (ab.getD here 0) k := by
  unfold cnS
  rw [ch_cons hf h0 hh, List.filter_cons]
  by_cases q : k ≤ here
  · rw [if_pos (by simpa using q), if_pos q, List.length_cons]; omega
  · rw [if_neg (by simpa using q), if_neg q]; omega
theorem cnS_push {ab : List Nat} (hf : Falls ab) {here k : Nat} (hh : here < ab.length) (hk : k ≤ ab.length) : cnS (ab ++ [here]) ab.length k = 1 + cnS ab here k := by
  unfold cnS
  rw [ch_new hf hh (by omega), List.filter_cons, if_pos (by simpa using hk), List.length_cons]; omega
theorem mask_app {ab : List Nat} (hf : Falls ab) {h : Nat} (sh : Nat) {v : Nat} (hv : v < ab.length) (hh : h < ab.length) : maskV sh (ab ++ [h]) v = maskV sh ab v := by
  unfold maskV
  rw [show chainF (ab ++ [h]) v v = chainF ab v v from ch_app hf v hv hh]
theorem mask_new {ab : List Nat} (hf : Falls ab) {h : Nat} (sh : Nat) (hh : h < ab.length) (h0 : 0 < ab.length) : maskV sh (ab ++ [h]) ab.length = maskV sh ab h + 2 ^ (sh + ab.length - 1) := by
  unfold maskV
  rw [show chainF (ab ++ [h]) ab.length ab.length = ab.length :: chainF ab h h from ch_new hf hh h0, List.map_cons, List.sum_cons]
  omega
/-! ## symbols -/
inductive Sy where
  | o | c | x (k p : Nat)
noncomputable def preC : Nat → List Nat
  | 0 => [34, 40, 34]
  | 1 => [92]
  | 2 => [34, 41, 34]
  | 3 => [34, 92, 34, 41, 34]
  | _ => []
noncomputable def cpS : Sy → List Nat
  | .o => [40]
  | .c => [41]
  | .x k p => preC p ++ [65 + k]
noncomputable def stS (s : Sy) : PySem.Str := mkS (cpS s)
noncomputable def stp : Sy → Nat → Option Nat
  | .o, d => some (d + 1)
  | .c, 0 => none
  | .c, d + 1 => some d
  | .x _ _, d => some d
noncomputable def run : List Sy → Nat → Option Nat
  | [], d => some d
  | s :: r, d => (stp s d).bind (run r)
theorem run_app : ∀ (l r : List Sy) (d : Nat), run (l ++ r) d = (run l d).bind (run r)
  | [], r, d => rfl
  | s :: l, r, d => by
    show (stp s d).bind (run (l ++ r)) = ((stp s d).bind (run l)).bind (run r)
    cases stp s d with
    | none => rfl
    | some e => exact run_app l r e
theorem run_snoc (l : List Sy) (s : Sy) (d : Nat) : run (l ++ [s]) d = (run l d).bind (stp s) := by
  rw [run_app]
  cases run l d with
  | none => rfl
  | some e =>
    show (stp s e).bind (run []) = stp s e
    cases stp s e <;> rfl
noncomputable def sg (l : List Sy) (i j : Nat) : List Sy := (l.drop i).take (j - i)
theorem sg_succ {l : List Sy} {i j : Nat} {s : Sy} (hi : i ≤ j) (hs : l[j]? = some s) : sg l i (j + 1) = sg l i j ++ [s] := by
  unfold sg
  rw [show j + 1 - i = (j - i) + 1 by omega, List.take_add_one, List.getElem?_drop, show i + (j - i) = j by omega, hs]; rfl
theorem take_snoc {l : List Sy} {j : Nat} {s : Sy} (hs : l[j]? = some s) : l.take (j + 1) = l.take j ++ [s] := by
  rw [List.take_add_one, hs]; rfl
end Mine
namespace Mine
/-! ## the two readings of the steps -/
theorem stS_o : stS .o = "(" := by decide
theorem stS_c : stS .c = ")" := by decide
theorem stS_x {k p : Nat} (hk : k < 5) : (stS (.x k p) == "(") = false ∧ (stS (.x k p) == ")") = false ∧ lastC (stS (.x k p)) = 65 + k := by
  have hl : lastC (stS (.x k p)) = 65 + k := by
    unfold lastC stS cpS
    simp [List.getLastD_eq_getLast?]
  refine ⟨?_, ?_, hl⟩
  · rw [beq_eq_false_iff_ne]
    intro e
    rw [e] at hl
    have : lastC "(" = 40 := by decide
    omega
  · rw [beq_eq_false_iff_ne]
    intro e
    rw [e] at hl
    have : lastC ")" = 41 := by decide
    omega
structure Inv (sh : Nat) (l : List Sy) (j : Nat) (op : List (Nat × Nat)) (ab : List Nat) (here : Nat) : Prop where
  len : ab.length = op.length + 1
  falls : Falls ab
  hlt : here < ab.length
  dep : run (l.take j) 0 = some (ch ab here).length
  pos : ∀ (k : Nat) (p : Nat × Nat), op[k]? = some p → p.1 ≤ j
  i1 : ∀ (k : Nat) (p : Nat × Nat) (t : Nat), op[k]? = some p → run (sg l p.1 j) 0 = some t → t = cnS ab here (k + 1)
  i2 : ∀ (k : Nat) (p : Nat × Nat), op[k]? = some p → k + 1 ∈ ch ab here → run (sg l p.1 j) 0 = some (cnS ab here (k + 1))
  i3 : ∀ (k : Nat) (p : Nat × Nat), op[k]? = some p → p.2 = maskV sh ab (k + 1)
section
variable {sh : Nat} {l : List Sy} {st : List PySem.Str}
theorem find_eq (hck : ∀ i j, i ≤ j → j ≤ l.length → checkF (mkS (segF st i j ++ [41])) = decide (run (sg l i j) 0 = some 1)) {j : Nat} {op : List (Nat × Nat)} {ab : List Nat} {here : Nat} (V : Inv sh l j op ab here) (hj : j ≤ l.length) :
    ∀ m, m ≤ op.length → here ≤ m → findM st j (op.take m).reverse = maskV sh ab here := by
  intro m
  induction m with
  | zero =>
    intro _ h
    have : here = 0 := by omega
    subst this
    unfold maskV
    rw [ch0]; rfl
  | succ m ih =>
    intro hm h
    have hlt : m < op.length := by omega
    have hg : op[m]? = some op[m] := List.getElem?_eq_getElem hlt
    rw [List.take_add_one, hg, List.reverse_append]
    show findM st j (op[m] :: (op.take m).reverse) = _
    rcases hp : op[m] with ⟨i, inner⟩
    rw [hp] at hg
    have hpos := V.pos m _ hg
    rw [findM, hck i j hpos hj]
    by_cases q : here = m + 1
    · have hmem : m + 1 ∈ ch ab here := by rw [ch_cons V.falls (by omega) V.hlt, q]; exact List.mem_cons_self ..
      have := V.i2 m _ hg hmem
      rw [show cnS ab here (m + 1) = 1 by rw [← q]; exact cnS_self V.falls (by omega) V.hlt] at this
      rw [if_pos (by rw [this]; exact decide_eq_true rfl), q]
      exact V.i3 m _ hg
    · rw [if_neg]
      · exact ih (by omega) (by omega)
      · intro e
        have e2 := V.i1 m _ 1 hg (of_decide_eq_true e)
        rw [cnS_high V.falls V.hlt (by omega)] at e2
        cases e2
theorem Inv.push {j : Nat} {op : List (Nat × Nat)} {ab : List Nat} {here : Nat} (V : Inv sh l j op ab here) (hs : l[j]? = some .o) : Inv sh l (j + 1) (op ++ [(j, maskV sh ab here + 2 ^ (sh + op.length))]) (ab ++ [here]) ab.length := by
  have hl := V.len
  have h0 : 0 < ab.length := by omega
  have get : ∀ (k : Nat) (p : Nat × Nat), (op ++ [(j, maskV sh ab here + 2 ^ (sh + op.length))])[k]? = some p → op[k]? = some p ∨ (k = op.length ∧ p = (j, maskV sh ab here + 2 ^ (sh + op.length))) := fun k p h => by
    rw [List.getElem?_append] at h
    split at h
    · exact .inl h
    · rename_i q
      have : k - op.length = 0 := by
        by_cases z : k - op.length = 0
        · exact z
        · rw [List.getElem?_eq_none (by simp; omega)] at h; cases h
      rw [this] at h
      simp at h
      exact .inr ⟨by omega, h.symm⟩
  have lt : ∀ (k : Nat) (p : Nat × Nat), op[k]? = some p → k < op.length := fun k p h => (List.getElem?_eq_some_iff.mp h).1
  have self : run (sg l j (j + 1)) 0 = some 1 := by
    rw [sg_succ (Nat.le_refl _) hs]
    unfold sg
    rw [Nat.sub_self, List.take_zero]; rfl
  have cself : cnS (ab ++ [here]) ab.length (op.length + 1) = 1 := by
    rw [← hl]; exact cnS_self (falls_app V.falls V.hlt) h0 (by simp)
  refine ⟨by simp [hl], falls_app V.falls V.hlt, by simp, ?_, fun k p h => ?_, fun k p t h ht => ?_, fun k p h hm => ?_, fun k p h => ?_⟩
  · rw [take_snoc hs, run_snoc, V.dep, ch_new V.falls V.hlt h0]; rfl
  · rcases get k p h with h | ⟨_, rfl⟩
    · exact Nat.le_succ_of_le (V.pos k p h)
    · exact Nat.le_succ _
  · rcases get k p h with h | ⟨rfl, rfl⟩
    · rw [sg_succ (V.pos k p h) hs, run_snoc] at ht
      cases e : run (sg l p.1 j) 0 with
      | none => rw [e] at ht; cases ht
      | some u =>
        rw [e] at ht
        have : u + 1 = t := Option.some.inj ht
        rw [cnS_push V.falls V.hlt (by have := lt k p h; omega), ← V.i1 k p u h e]
        omega
    · have : (1 : Nat) = t := Option.some.inj (self.symm.trans ht)
      rw [cself, this]
  · rcases get k p h with h | ⟨rfl, rfl⟩
    · rw [sg_succ (V.pos k p h) hs, run_snoc]
      rw [ch_new V.falls V.hlt h0] at hm
      rcases List.mem_cons.mp hm with hm | hm
      · have := lt k p h; omega
      · rw [V.i2 k p h hm, cnS_push V.falls V.hlt (by have := lt k p h; omega)]
        show some (_ + 1) = some _
        congr 1; omega
    · rw [cself]; exact self
  · rcases get k p h with h | ⟨rfl, rfl⟩
    · rw [mask_app V.falls sh (by have := lt k p h; omega) V.hlt]
      exact V.i3 k p h
    · rw [← hl, mask_new V.falls sh V.hlt h0, hl]; rfl
theorem Inv.pop {j : Nat} {op : List (Nat × Nat)} {ab : List Nat} {here : Nat} (V : Inv sh l j op ab here) (hs : l[j]? = some .c) (h0 : 0 < here) : Inv sh l (j + 1) op ab (ab.getD here 0) := by
  have hd := (V.falls here V.hlt).2 h0
  have hh : ab.getD here 0 < ab.length := Nat.lt_trans hd V.hlt
  refine ⟨V.len, V.falls, hh, ?_, fun k p h => Nat.le_succ_of_le (V.pos k p h), fun k p t h ht => ?_, fun k p h hm => ?_, V.i3⟩
  · rw [take_snoc hs, run_snoc, V.dep, ch_cons V.falls h0 V.hlt]; rfl
  · rw [sg_succ (V.pos k p h) hs, run_snoc] at ht
    cases e : run (sg l p.1 j) 0 with
    | none => rw [e] at ht; cases ht
    | some u =>
      rw [e] at ht
      have hu := V.i1 k p u h e
      cases u with
      | zero => cases ht
      | succ u =>
        have : u = t := Option.some.inj ht
        subst this
        rw [cnS_pop V.falls h0 V.hlt] at hu
        by_cases q : k + 1 ≤ here
        · rw [if_pos q] at hu; omega
        · rw [if_neg q, cnS_high V.falls hh (by omega)] at hu; omega
  · have hk := ch_le V.falls _ hh _ hm
    have hm' : k + 1 ∈ ch ab here := by rw [ch_cons V.falls h0 V.hlt]; exact List.mem_cons_of_mem _ hm
    rw [sg_succ (V.pos k p h) hs, run_snoc, V.i2 k p h hm', cnS_pop V.falls h0 V.hlt, if_pos (by omega), Nat.add_comm]
    rfl
theorem Inv.stay {j k p : Nat} {op : List (Nat × Nat)} {ab : List Nat} {here : Nat} (V : Inv sh l j op ab here) (hs : l[j]? = some (.x k p)) : Inv sh l (j + 1) op ab here := by
  have e : ∀ q : Nat × Nat, q.1 ≤ j → run (sg l q.1 (j + 1)) 0 = run (sg l q.1 j) 0 := fun q hq => by
    rw [sg_succ hq hs, run_snoc]
    cases run (sg l q.1 j) 0 <;> rfl
  refine ⟨V.len, V.falls, V.hlt, ?_, fun k p h => Nat.le_succ_of_le (V.pos k p h), fun k p t h ht => ?_, fun k p h hm => ?_, V.i3⟩
  · rw [take_snoc hs, run_snoc, V.dep]; rfl
  · rw [e p (V.pos k p h)] at ht; exact V.i1 k p t h ht
  · rw [e p (V.pos k p h)]; exact V.i2 k p h hm
noncomputable def cntO : List Sy → Nat
  | [] => 0
  | .o :: r => cntO r + 1
  | .c :: r => cntO r
  | .x _ _ :: r => cntO r
theorem machine (hck : ∀ i j, i ≤ j → j ≤ l.length → checkF (mkS (segF st i j ++ [41])) = decide (run (sg l i j) 0 = some 1)) (hk : ∀ k p, Sy.x k p ∈ l → k < 5) (hb : run l 0 ≠ none) :
    ∀ (ss : List Sy) (j : Nat) (op : List (Nat × Nat)) (ab : List Nat) (here : Nat) (nd : List Nat), l.drop j = ss → j ≤ l.length → Inv sh l j op ab here → nd.length = 5 → (∀ v ∈ nd, v < ab.length) →
    ∃ ab' nd' : List Nat, masksL st sh j (ss.map stS) op (nd.map (maskV sh ab)) = nd'.map (maskV sh ab') ∧ hungF (ss.map stS) ab here (nd.map (ch ab)) = (ab', nd'.map (ch ab')) ∧ Falls ab' ∧ ab'.length = ab.length + cntO ss ∧ nd'.length = 5 ∧ ∀ v ∈ nd', v < ab'.length := by
  intro ss
  induction ss with
  | nil =>
    intro j op ab here nd _ _ V hn hv
    exact ⟨ab, nd, rfl, rfl, V.falls, rfl, hn, hv⟩
  | cons s ss ih =>
    intro j op ab here nd hd hj V hn hv
    have hjl : j < l.length := by
      by_cases q : j < l.length
      · exact q
      · rw [List.drop_eq_nil_of_le (by omega)] at hd; cases hd
    have hs : l[j]? = some s := by
      have := congrArg (fun r => r[0]?) hd
      simpa using this
    have hd' : l.drop (j + 1) = ss := by
      have := congrArg (List.drop 1) hd
      rw [List.drop_drop] at this
      exact this
    have hfind : findM st j op.reverse = maskV sh ab here := by
      have := find_eq hck V hj op.length (Nat.le_refl _) (by have := V.hlt; have := V.len; omega)
      rwa [List.take_length] at this
    cases s with
    | o =>
      have e1 : ("(" != ")") = true := by decide
      have e2 : (("(" : PySem.Str) == "(") = true := by decide
      have V' := V.push hs
      have hm : nd.map (maskV sh ab) = nd.map (maskV sh (ab ++ [here])) := List.map_congr_left fun v h => (mask_app V.falls sh (hv v h) V.hlt).symm
      have hc : nd.map (ch ab) = nd.map (ch (ab ++ [here])) := List.map_congr_left fun v h => (ch_app V.falls v (hv v h) V.hlt).symm
      obtain ⟨ab', nd', q1, q2, q3, q4, q5, q6⟩ := ih (j + 1) _ _ _ nd hd' hjl V' hn fun v h => by have := hv v h; simp; omega
      refine ⟨ab', nd', ?_, ?_, q3, by rw [q4, cntO]; simp; omega, q5, q6⟩
      · rw [List.map_cons, stS_o, masksL, if_pos (by decide), if_pos (by decide), hfind, hm]; exact q1
      · rw [List.map_cons, stS_o, hungF, if_pos (by decide), hc]; exact q2
    | c =>
      have h0 : 0 < here := by
        by_cases q : here = 0
        · exfalso
          subst q
          apply hb
          have e : l = l.take (j + 1) ++ l.drop (j + 1) := (List.take_append_drop ..).symm
          rw [e, run_app, take_snoc hs, run_snoc, V.dep, show ch ab 0 = [] from ch0 ab 0]; rfl
        · omega
      obtain ⟨ab', nd', q1, q2, q3, q4, q5, q6⟩ := ih (j + 1) _ _ _ nd hd' hjl (V.pop hs h0) hn hv
      refine ⟨ab', nd', ?_, ?_, q3, by rw [q4, cntO], q5, q6⟩
      · rw [List.map_cons, stS_c, masksL, if_neg (by decide)]; exact q1
      · rw [List.map_cons, stS_c, hungF, if_neg (by decide), if_pos (by decide)]; exact q2
    | x k p =>
      have hk5 := hk k p (List.mem_of_getElem? hs)
      obtain ⟨z1, z2, z3⟩ := stS_x (p := p) hk5
      obtain ⟨ab', nd', q1, q2, q3, q4, q5, q6⟩ := ih (j + 1) op ab here (nd.set k here) hd' hjl (V.stay hs) (by simp [hn]) fun v h => by
        rcases List.mem_or_eq_of_mem_set h with h | h
        · exact hv v h
        · rw [h]; exact V.hlt
      refine ⟨ab', nd', ?_, ?_, q3, by rw [q4, cntO], q5, q6⟩
      · rw [List.map_cons, masksL, if_pos (by rw [bne, z2]; rfl), if_neg (by rw [z1]; decide), hfind, z3, show 65 + k - 65 = k by omega, ← List.map_set]; exact q1
      · rw [List.map_cons, hungF, if_neg (by rw [z1]; decide), if_neg (by rw [z2]; decide), z3, show 65 + k - 65 = k by omega, show chainF ab here here = ch ab here from rfl, ← List.map_set]; exact q2
end
end Mine
namespace Mine
/-! ## texts of symbols -/
noncomputable def tx (l : List Sy) : List Nat := (l.map cpS).flatten
noncomputable def cpQ : Sy → List Nat
  | .o => [40]
  | .c => [41]
  | .x k p => if p = 1 then [92, 65 + k] else [65 + k]
noncomputable def tq (l : List Sy) : List Nat := (l.map cpQ).flatten
theorem cpQ4 (k p : Nat) : cpQ (.x k (p + 4)) = [65 + k] := by
  show (if p + 4 = 1 then [92, 65 + k] else [65 + k]) = _
  exact if_neg (by omega)
theorem tx_cons (s : Sy) (l : List Sy) : tx (s :: l) = cpS s ++ tx l := rfl
theorem tq_cons (s : Sy) (l : List Sy) : tq (s :: l) = cpQ s ++ tq l := rfl
theorem jn_st (l : List Sy) : jn (l.map stS) = tx l := by
  unfold jn tx
  rw [List.map_map]
  rfl
noncomputable def OkL (l : List Sy) : Prop := ∀ k p, Sy.x k p ∈ l → k < 5
theorem mkS_one (a b : Nat) : (mkS [a] == (mkS [b])) = decide (a = b) := by
  rw [mkS_eq]
  by_cases q : a = b
  · subst q; simp
  · simp [q]
theorem q34 : ("\"" : PySem.Str) = mkS [34] := by decide
theorem q40 : ("(" : PySem.Str) = mkS [40] := by decide
theorem q41 : (")" : PySem.Str) = mkS [41] := by decide
theorem two_ne (a b c : Nat) : (mkS [a, b] == mkS [c]) = false := by rw [mkS_eq]; simp
/-! ## the scan -/
theorem chk_scan : ∀ (l : List Sy), OkL l → ∀ (i pos n : Nat), chkL (escF (tq l) i pos false) (n : Int) = decide (run l n = some 0)
  | [], _, i, pos, n => by
    show ((n : Int) == 0) = decide (some n = some 0)
    cases n with
    | zero => rfl
    | succ n => rw [beq_eq_false_iff_ne.mpr (by omega), decide_eq_false (by simp)]
  | s :: l, h, i, pos, n => by
    have hl : OkL l := fun k p m => h k p (List.mem_cons_of_mem _ m)
    have ih := chk_scan l hl
    cases s with
    | o =>
      show chkL ((i, [40]) :: escF (tq l) (i + 1) i false) n = decide (run l (n + 1) = some 0)
      rw [chkL_o (by rw [q40, mkS_one]; rfl)]
      exact ih (i + 1) i (n + 1)
    | c =>
      show chkL ((i, [41]) :: escF (tq l) (i + 1) i false) n = _
      rw [chkL_c (by rw [q40, mkS_one]; rfl) (by rw [q41, mkS_one]; rfl)]
      cases n with
      | zero => rfl
      | succ n =>
        rw [if_neg (by omega), show ((n + 1 : Nat) : Int) - 1 = (n : Int) by omega]
        exact ih (i + 1) i n
    | x k p =>
      have hk := h k p (List.mem_cons_self ..)
      have hr : run (.x k p :: l) n = run l n := rfl
      rw [hr]
      by_cases q : p = 1
      · subst q
        show chkL ((i + 1, [92, 65 + k]) :: escF (tq l) (i + 1 + 1) (i + 1) false) n = _
        rw [chkL_n (by rw [q40]; exact two_ne ..) (by rw [q41]; exact two_ne ..)]
        exact ih _ _ n
      · have e : escF (tq (.x k p :: l)) i pos false = (i, [65 + k]) :: escF (tq l) (i + 1) i false := by
          rw [tq_cons]
          show escF ((if p = 1 then [92, 65 + k] else [65 + k]) ++ tq l) i pos false = _
          rw [if_neg q]
          show (if 65 + k = 92 then _ else _) = _
          rw [if_neg (by omega)]
          rfl
        rw [e, chkL_n (by rw [q40, mkS_one]; exact decide_eq_false (by omega)) (by rw [q41, mkS_one]; exact decide_eq_false (by omega))]
        exact ih _ _ n
/-! ## stripping -/
theorem cut_to (X : List Nat) {a b : Nat} (ha : a ≤ b) (hb : b ≤ X.length) : cutS (mkS X) a (some b) = mkS ((X.drop a).take (b - a)) := by
  show mkS (pySl (some ((a : Nat) : Int)) (some ((b : Nat) : Int)) X) = _
  unfold pySl
  simp only [Option.elim, clip_nat]
  rw [Nat.min_eq_left hb, Nat.min_eq_left (by omega)]
theorem cut_from (X : List Nat) (a : Nat) : cutS (mkS X) a none = mkS (X.drop a) := by
  show mkS (pySl (some ((a : Nat) : Int)) none X) = _
  rw [pySl_dn]
theorem jn_snoc (acc : List PySem.Str) (w : List Nat) : jn (acc ++ [mkS w]) = jn acc ++ w := by
  rw [jn_append]; simp [jn]
theorem grow {X pre w r : List Nat} (hX : X = pre ++ (w ++ r)) {st : Nat} (hs : st ≤ pre.length) : (X.drop st).take (pre.length + w.length - st) = (X.drop st).take (pre.length - st) ++ w := by
  subst hX
  rw [List.drop_append_of_le_length hs]
  have h1 : (pre.drop st).length = pre.length - st := List.length_drop
  rw [List.take_left' h1, ← List.append_assoc, List.take_left' (by rw [List.length_append, h1]; omega)]
/-- behind a quoted part -/
theorem quoted {X pre w r : List Nat} (hX : X = pre ++ (w ++ r)) {st : Nat} (hs : st ≤ pre.length) {acc : List PySem.Str} {Y : List Nat} (hY : jn acc ++ (X.drop st).take (pre.length - st) = Y) :
    jn (if (st : Int) != (pre.length : Nat) then acc ++ [cutS (mkS X) st (some pre.length)] else acc) = Y := by
  have hl : pre.length ≤ X.length := by rw [hX, List.length_append]; omega
  by_cases q : st = pre.length
  · rw [if_neg (by rw [q]; simp)]
    rw [← hY, q, Nat.sub_self, List.take_zero, List.append_nil]
  · rw [if_pos (by rw [bne_iff_ne]; omega), cut_to X hs hl, jn_snoc]
    exact hY
theorem strip_run (X : List Nat) : ∀ (l : List Sy), OkL l → ∀ (pre Y : List Nat) (st p' : Nat) (acc : List PySem.Str), X = pre ++ tx l → st ≤ pre.length → jn acc ++ (X.drop st).take (pre.length - st) = Y →
    jn (stripL (mkS X) (escF (tx l) pre.length p' false) st none acc).2 ++ X.drop (stripL (mkS X) (escF (tx l) pre.length p' false) st none acc).1 = Y ++ tq l
  | [], _, pre, Y, st, p', acc, hX, hs, hY => by
    show jn acc ++ X.drop st = Y ++ []
    have : X.length = pre.length := by rw [hX]; simp [tx]
    rw [List.append_nil, ← hY, List.take_of_length_le (by rw [List.length_drop]; omega)]
  | s :: l, h, pre, Y, st, p', acc, hX, hs, hY => by
    have hl : OkL l := fun k p m => h k p (List.mem_cons_of_mem _ m)
    have ih := strip_run X l hl
    rw [tx_cons] at hX
    have plain : ∀ (w : List Nat) (q : Nat), w = cpS s → w = cpQ s → jn (stripL (mkS X) (escF (tx l) (pre.length + w.length) q false) st none acc).2 ++ X.drop (stripL (mkS X) (escF (tx l) (pre.length + w.length) q false) st none acc).1 = Y ++ tq (s :: l) := fun w q h1 h2 => by
      have := ih (pre ++ w) (Y ++ w) st q acc (by rw [hX, ← h1, List.append_assoc]) (by rw [List.length_append]; omega) (by
        rw [List.length_append, grow (r := tx l) (by rw [hX, ← h1]) hs, ← List.append_assoc, hY])
      rw [List.length_append] at this
      rw [this, tq_cons, ← h2, List.append_assoc]
    cases s with
    | o =>
      show jn (stripL (mkS X) ((pre.length, [40]) :: escF (tx l) (pre.length + 1) pre.length false) st none acc).2 ++ X.drop (stripL (mkS X) ((pre.length, [40]) :: escF (tx l) (pre.length + 1) pre.length false) st none acc).1 = _
      rw [stripL_n (by rw [q34, mkS_one]; rfl)]
      exact plain [40] _ rfl rfl
    | c =>
      show jn (stripL (mkS X) ((pre.length, [41]) :: escF (tx l) (pre.length + 1) pre.length false) st none acc).2 ++ X.drop (stripL (mkS X) ((pre.length, [41]) :: escF (tx l) (pre.length + 1) pre.length false) st none acc).1 = _
      rw [stripL_n (by rw [q34, mkS_one]; rfl)]
      exact plain [41] _ rfl rfl
    | x k p =>
      have hk := h k p (List.mem_cons_self ..)
      have e92 : ∀ (r : List Nat) (i q : Nat), escF ((65 + k) :: r) i q false = (i, [65 + k]) :: escF r (i + 1) i false := fun r i q => by
        show (if 65 + k = 92 then _ else _) = _
        rw [if_neg (by omega)]
      have n65 : (mkS [65 + k] == "\"") = false := by rw [q34, mkS_one]; exact decide_eq_false (by omega)
      -- after the quoted part w only the letter counts
      have letter : ∀ (w : List Nat) (acc' : List PySem.Str) (q : Nat), cpS (.x k p) = w ++ [65 + k] → cpQ (.x k p) = [65 + k] → jn acc' = Y →
          jn (stripL (mkS X) (escF (tx l) (pre.length + w.length + 1) q false) (pre.length + w.length) none acc').2 ++ X.drop (stripL (mkS X) (escF (tx l) (pre.length + w.length + 1) q false) (pre.length + w.length) none acc').1 = Y ++ tq (.x k p :: l) := fun w acc' q h1 h2 h3 => by
        have := ih (pre ++ (w ++ [65 + k])) (Y ++ [65 + k]) (pre.length + w.length) q acc' (by rw [hX, h1]; simp only [List.append_assoc]) (by rw [List.length_append, List.length_append]; omega) (by
          have e1 : X.drop (pre.length + w.length) = [65 + k] ++ tx l := by
            rw [hX, h1, show pre ++ (w ++ [65 + k] ++ tx l) = (pre ++ w) ++ ([65 + k] ++ tx l) by simp]
            exact List.drop_left' (by rw [List.length_append])
          rw [h3, e1, show (pre ++ (w ++ [65 + k])).length - (pre.length + w.length) = 1 by simp only [List.length_append, List.length_cons, List.length_nil]; omega]
          rfl)
        rw [show (pre ++ (w ++ [65 + k])).length = pre.length + w.length + 1 by simp only [List.length_append, List.length_cons, List.length_nil]; omega] at this
        rw [this, tq_cons, h2, List.append_assoc]
      match p with
      | 0 =>
        have hq := quoted (w := cpS (.x k 0)) hX hs hY
        show jn (stripL (mkS X) ((pre.length, [34]) :: (pre.length + 1, [40]) :: (pre.length + 1 + 1, [34]) :: escF ((65 + k) :: tx l) (pre.length + 1 + 1 + 1) (pre.length + 1 + 1) false) st none acc).2 ++ X.drop (stripL (mkS X) ((pre.length, [34]) :: (pre.length + 1, [40]) :: (pre.length + 1 + 1, [34]) :: escF ((65 + k) :: tx l) (pre.length + 1 + 1 + 1) (pre.length + 1 + 1) false) st none acc).1 = _
        rw [e92, stripL_q0 (by rw [q34, mkS_one]; rfl), stripL_n (by rw [q34, mkS_one]; rfl), stripL_q1 (by rw [q34, mkS_one]; rfl), stripL_n n65]
        exact letter [34, 40, 34] _ _ rfl rfl hq
      | 1 =>
        show jn (stripL (mkS X) ((pre.length + 1, [92, 65 + k]) :: escF (tx l) (pre.length + 1 + 1) (pre.length + 1) false) st none acc).2 ++ X.drop (stripL (mkS X) ((pre.length + 1, [92, 65 + k]) :: escF (tx l) (pre.length + 1 + 1) (pre.length + 1) false) st none acc).1 = _
        rw [stripL_n (by rw [q34]; exact two_ne ..)]
        exact plain [92, 65 + k] _ rfl rfl
      | 2 =>
        have hq := quoted (w := cpS (.x k 2)) hX hs hY
        show jn (stripL (mkS X) ((pre.length, [34]) :: (pre.length + 1, [41]) :: (pre.length + 1 + 1, [34]) :: escF ((65 + k) :: tx l) (pre.length + 1 + 1 + 1) (pre.length + 1 + 1) false) st none acc).2 ++ X.drop (stripL (mkS X) ((pre.length, [34]) :: (pre.length + 1, [41]) :: (pre.length + 1 + 1, [34]) :: escF ((65 + k) :: tx l) (pre.length + 1 + 1 + 1) (pre.length + 1 + 1) false) st none acc).1 = _
        rw [e92, stripL_q0 (by rw [q34, mkS_one]; rfl), stripL_n (by rw [q34, mkS_one]; rfl), stripL_q1 (by rw [q34, mkS_one]; rfl), stripL_n n65]
        exact letter [34, 41, 34] _ _ rfl rfl hq
      | 3 =>
        have hq := quoted (w := cpS (.x k 3)) hX hs hY
        show jn (stripL (mkS X) ((pre.length, [34]) :: (pre.length + 1 + 1, [92, 34]) :: (pre.length + 1 + 1 + 1, [41]) :: (pre.length + 1 + 1 + 1 + 1, [34]) :: escF ((65 + k) :: tx l) (pre.length + 1 + 1 + 1 + 1 + 1) (pre.length + 1 + 1 + 1 + 1) false) st none acc).2 ++ X.drop (stripL (mkS X) ((pre.length, [34]) :: (pre.length + 1 + 1, [92, 34]) :: (pre.length + 1 + 1 + 1, [41]) :: (pre.length + 1 + 1 + 1 + 1, [34]) :: escF ((65 + k) :: tx l) (pre.length + 1 + 1 + 1 + 1 + 1) (pre.length + 1 + 1 + 1 + 1) false) st none acc).1 = _
        rw [e92, stripL_q0 (by rw [q34, mkS_one]; rfl), stripL_n (by rw [q34]; exact two_ne ..), stripL_n (by rw [q34, mkS_one]; rfl), stripL_q1 (by rw [q34, mkS_one]; rfl), stripL_n n65]
        exact letter [34, 92, 34, 41, 34] _ _ rfl rfl hq
      | p + 4 =>
        show jn (stripL (mkS X) (escF ((65 + k) :: tx l) pre.length p' false) st none acc).2 ++ X.drop (stripL (mkS X) (escF ((65 + k) :: tx l) pre.length p' false) st none acc).1 = _
        rw [e92, stripL_n n65]
        exact plain [65 + k] _ rfl (cpQ4 k p).symm
theorem no_quote : ∀ l : List Sy, 34 ∉ tx l → tx l = tq l
  | [], _ => rfl
  | s :: l, h => by
    rw [tx_cons, List.mem_append, not_or] at h
    rw [tx_cons, tq_cons, no_quote l h.2]
    congr 1
    match s, h.1 with
    | .o, _ => rfl
    | .c, _ => rfl
    | .x k 0, q => exact absurd (List.mem_cons_self ..) q
    | .x k 1, _ => rfl
    | .x k 2, q => exact absurd (List.mem_cons_self ..) q
    | .x k 3, q => exact absurd (List.mem_cons_self ..) q
    | .x k (p + 4), _ => exact (cpQ4 k p).symm
theorem strip_eq (l : List Sy) (h : OkL l) : stripF (mkS (tx l)) = mkS (tq l) := by
  unfold stripF
  have hq : hasQ (mkS (tx l)) = decide (34 ∈ tx l) := by
    unfold hasQ
    rw [q34]
    exact PySem.StrLaws.found_one (mkS (tx l)) 34
  rw [hq]
  by_cases q : 34 ∈ tx l
  · rw [if_pos (decide_eq_true q)]
    have key := strip_run (tx l) l h [] [] 0 0 [] rfl (Nat.le_refl _) rfl
    rw [List.nil_append] at key
    have hj : ∀ ys : List PySem.Str, Txt.join "" ys = mkS (jn ys) := fun ys => (PySem.StrLaws.glued_eq_join "" ys).trans (join_jn ys)
    dsimp only
    rw [hj, ← key]
    show mkS (jn (if ((stripL (mkS (tx l)) (escF (tx l) 0 0 false) 0 none []).1 : Int) < ((tx l).length : Nat) then _ else _)) = _
    congr 1
    show (jn _) = jn (stripL (mkS (tx l)) (escF (tx l) 0 0 false) 0 none []).2 ++ (tx l).drop (stripL (mkS (tx l)) (escF (tx l) 0 0 false) 0 none []).1
    generalize stripL (mkS (tx l)) (escF (tx l) 0 0 false) 0 none [] = r
    by_cases z : (r.1 : Int) < ((tx l).length : Nat)
    · rw [if_pos z, cut_from, jn_snoc]
    · rw [if_neg z, List.drop_eq_nil_of_le (by omega), List.append_nil]
  · rw [if_neg (by rw [decide_eq_false q]; decide), no_quote l q]
theorem check_eq (l : List Sy) (h : OkL l) : checkF (mkS (tx l)) = decide (run l 0 = some 0) := by
  unfold checkF
  rw [strip_eq l h]
  exact chk_scan l h 0 0 0
theorem check_seg (l : List Sy) (h : OkL l) : checkF (mkS (tx l ++ [41])) = decide (run l 0 = some 1) := by
  have e : tx l ++ [41] = tx (l ++ [.c]) := by unfold tx; rw [List.map_append, List.flatten_append]; rfl
  rw [e, check_eq _ (fun k p m => by
    rcases List.mem_append.mp m with m | m
    · exact h k p m
    · rw [List.mem_singleton] at m; cases m), run_snoc]
  cases run l 0 with
  | none => rfl
  | some d =>
    match d with
    | 0 => rfl
    | 1 => rfl
    | d + 2 =>
      show decide (some (d + 1) = some 0) = decide (some (d + 2) = some 1)
      rw [decide_eq_false (by simp), decide_eq_false (by simp)]
end Mine
namespace Mine
/-! ## the steps as symbols -/
noncomputable def insY (xs : List Sy) (n : Int) (ys : List Sy) : List Sy := xs.take (n.fmod ((xs.length : Int) + 1)).toNat ++ ys ++ xs.drop (n.fmod ((xs.length : Int) + 1)).toNat
theorem insY_map (xs : List Sy) (n : Int) (ys : List Sy) : insS (xs.map stS) n (ys.map stS) = (insY xs n ys).map stS := by
  unfold insS insY spotF
  simp only [List.length_map, List.map_append, List.map_take, List.map_drop]
noncomputable def brkY : List Int → List Sy → List Sy
  | [], st => st
  | n :: ns, st => brkY ns (insY st n [.o, .c])
noncomputable def stopY (ns : List Int) (k : Nat) : Sy := .x k (if (ns.getD 9 0).fmod 5 == (k : Int) then (((ns.getD 9 0).fdiv 5).fmod 4).toNat else 4)
noncomputable def stopsY (ns : List Int) : List Nat → List Sy → List Sy
  | [], st => st
  | k :: ks, st => stopsY ns ks (insY st (ns.getD (4 + k) 0) [stopY ns k])
noncomputable def symsF (ns : List Int) : List Sy := stopsY ns [0, 1, 2, 3, 4] (brkY (ns.take 4) [])
theorem brk_map : ∀ (ns : List Int) (xs : List Sy), brkF ns (xs.map stS) = (brkY ns xs).map stS
  | [], xs => rfl
  | n :: ns, xs => by
    have e : (["(", ")"] : List PySem.Str) = ([.o, .c] : List Sy).map stS := by rw [List.map_cons, List.map_cons, List.map_nil, stS_o, stS_c]
    rw [brkF, brkY, e, insY_map, brk_map ns]
theorem stop_map (ns : List Int) {k : Nat} (hk : k < 5) : stopS ns k = stS (stopY ns k) := by
  have hl : (mkS [[65, 66, 67, 68, 69].getD k 0] : PySem.Str) = mkS [65 + k] := by
    match k, hk with
    | 0, _ => rfl
    | 1, _ => rfl
    | 2, _ => rfl
    | 3, _ => rfl
    | 4, _ => rfl
  unfold stopS stopY
  rw [hl]
  by_cases q : ((ns.getD 9 0).fmod 5 == (k : Int)) = true
  · rw [if_pos q, if_pos q]
    have h1 := Int.fmod_nonneg_of_pos ((ns.getD 9 0).fdiv 5) (show (0 : Int) < 4 by decide)
    have h2 := Int.fmod_lt_of_pos ((ns.getD 9 0).fdiv 5) (show (0 : Int) < 4 by decide)
    have hm : (((ns.getD 9 0).fdiv 5).fmod 4).toNat < 4 := by omega
    generalize (((ns.getD 9 0).fdiv 5).fmod 4).toNat = m at hm
    have e : ∀ m, m < 4 → preL.getD m "" = mkS (preC m) := by decide
    rw [e m hm, str_append]
    rfl
  · rw [if_neg q, if_neg q]
    rfl
theorem stops_map (ns : List Int) : ∀ (ks : List Nat), (∀ k ∈ ks, k < 5) → ∀ xs : List Sy, stopsF ns ks (xs.map stS) = (stopsY ns ks xs).map stS
  | [], _, xs => rfl
  | k :: ks, h, xs => by
    have e : [stopS ns k] = [stopY ns k].map stS := by rw [stop_map ns (h k (List.mem_cons_self ..))]; rfl
    rw [stopsF, stopsY, e, insY_map, stops_map ns ks fun z hz => h z (List.mem_cons_of_mem _ hz)]
theorem steps_map (ns : List Int) : stepsF ns = (symsF ns).map stS := by
  have := brk_map (ns.take 4) []
  unfold stepsF symsF
  rw [← stops_map ns _ (by decide), ← this]; rfl
theorem cntO_app : ∀ a b : List Sy, cntO (a ++ b) = cntO a + cntO b
  | [], b => by show cntO b = 0 + cntO b; omega
  | .o :: a, b => by show cntO (a ++ b) + 1 = cntO a + 1 + cntO b; rw [cntO_app a b]; omega
  | .c :: a, b => cntO_app a b
  | .x _ _ :: a, b => cntO_app a b
theorem ins_facts (xs : List Sy) (n : Int) (ys : List Sy) (hy : ∀ d, run ys d = some d) (ho : OkL ys) (hx : OkL xs) :
    run (insY xs n ys) 0 = run xs 0 ∧ cntO (insY xs n ys) = cntO xs + cntO ys ∧ (insY xs n ys).length = xs.length + ys.length ∧ OkL (insY xs n ys) := by
  unfold insY
  generalize (n.fmod ((xs.length : Int) + 1)).toNat = s
  refine ⟨?_, ?_, ?_, fun k p m => ?_⟩
  · conv => rhs; rw [← List.take_append_drop s xs]
    rw [run_app, run_app, run_app]
    cases run (xs.take s) 0 with
    | none => rfl
    | some d =>
      show (run ys d).bind _ = _
      rw [hy d]
      try rfl
  · conv => rhs; rw [← List.take_append_drop s xs]
    rw [cntO_app, cntO_app, cntO_app]; omega
  · conv => rhs; rw [← List.take_append_drop s xs]
    rw [List.length_append, List.length_append, List.length_append]; omega
  · rcases List.mem_append.mp m with m | m
    · rcases List.mem_append.mp m with m | m
      · exact hx k p (List.mem_of_mem_take m)
      · exact ho k p m
    · exact hx k p (List.mem_of_mem_drop m)
theorem brk_facts : ∀ (ns : List Int) (xs : List Sy), OkL xs → run (brkY ns xs) 0 = run xs 0 ∧ cntO (brkY ns xs) = cntO xs + ns.length ∧ (brkY ns xs).length = xs.length + 2 * ns.length ∧ OkL (brkY ns xs)
  | [], xs, h => ⟨rfl, rfl, rfl, h⟩
  | n :: ns, xs, h => by
    obtain ⟨a, b, c, d⟩ := ins_facts xs n [.o, .c] (fun d => rfl) (fun k p m => by simp at m) h
    obtain ⟨a', b', c', d'⟩ := brk_facts ns _ d
    refine ⟨a'.trans a, ?_, ?_, d'⟩
    · rw [brkY, b', b]; simp only [cntO, List.length_cons]; omega
    · rw [brkY, c', c]; simp only [List.length_cons, List.length_nil]; omega
theorem stops_facts (ns : List Int) : ∀ (ks : List Nat), (∀ k ∈ ks, k < 5) → ∀ xs : List Sy, OkL xs → run (stopsY ns ks xs) 0 = run xs 0 ∧ cntO (stopsY ns ks xs) = cntO xs ∧ (stopsY ns ks xs).length = xs.length + ks.length ∧ OkL (stopsY ns ks xs)
  | [], _, xs, h => ⟨rfl, rfl, rfl, h⟩
  | k :: ks, hk, xs, h => by
    obtain ⟨a, b, c, d⟩ := ins_facts xs (ns.getD (4 + k) 0) [stopY ns k] (fun d => rfl) (fun k' p m => by
      rw [List.mem_singleton] at m
      unfold stopY at m
      injection m with m1 m2
      rw [m1]; exact hk k (List.mem_cons_self ..)) h
    obtain ⟨a', b', c', d'⟩ := stops_facts ns ks (fun z hz => hk z (List.mem_cons_of_mem _ hz)) _ d
    refine ⟨a'.trans a, ?_, ?_, d'⟩
    · rw [stopsY, b', b]; rfl
    · rw [stopsY, c', c]; simp only [List.length_cons, List.length_nil]; omega
theorem syms_facts (ns : List Int) (hn : ns.length = 10) : run (symsF ns) 0 = some 0 ∧ cntO (symsF ns) = 4 ∧ (symsF ns).length = 13 ∧ OkL (symsF ns) := by
  obtain ⟨a, b, c, d⟩ := brk_facts (ns.take 4) [] (fun k p m => by cases m)
  obtain ⟨a', b', c', d'⟩ := stops_facts ns [0, 1, 2, 3, 4] (by decide) _ d
  have h4 : (ns.take 4).length = 4 := by rw [List.length_take, hn]; rfl
  refine ⟨a'.trans (a.trans rfl), ?_, ?_, d'⟩
  · show cntO (stopsY ns [0, 1, 2, 3, 4] (brkY (ns.take 4) [])) = 4
    rw [b', b, h4]; rfl
  · show (stopsY ns [0, 1, 2, 3, 4] (brkY (ns.take 4) [])).length = 13
    rw [c', c, h4]; rfl
/-! ## good texts -/
theorem esc_tx : ∀ l : List Sy, OkL l → escE (tx l) false = false
  | [], _ => rfl
  | s :: l, h => by
    have ih := esc_tx l fun k p m => h k p (List.mem_cons_of_mem _ m)
    rw [tx_cons]
    have d : ∀ k, k < 5 → decide (65 + k = 92) = false := fun k hk => decide_eq_false (by omega)
    match s, h with
    | .o, _ => exact ih
    | .c, _ => exact ih
    | .x k 0, h => show escE (tx l) (decide (65 + k = 92)) = false; rw [d k (h k 0 (List.mem_cons_self ..))]; exact ih
    | .x k 1, h => exact ih
    | .x k 2, h => show escE (tx l) (decide (65 + k = 92)) = false; rw [d k (h k 2 (List.mem_cons_self ..))]; exact ih
    | .x k 3, h => show escE (tx l) (decide (65 + k = 92)) = false; rw [d k (h k 3 (List.mem_cons_self ..))]; exact ih
    | .x k (p + 4), h => show escE (tx l) (decide (65 + k = 92)) = false; rw [d k (h k (p + 4) (List.mem_cons_self ..))]; exact ih
theorem esc_tq : ∀ l : List Sy, OkL l → escE (tq l) false = false
  | [], _ => rfl
  | s :: l, h => by
    have ih := esc_tq l fun k p m => h k p (List.mem_cons_of_mem _ m)
    rw [tq_cons]
    match s, h with
    | .o, _ => exact ih
    | .c, _ => exact ih
    | .x k p, h =>
      have hk := h k p (List.mem_cons_self ..)
      show escE ((if p = 1 then [92, 65 + k] else [65 + k]) ++ tq l) false = false
      by_cases q : p = 1
      · rw [if_pos q]; exact ih
      · rw [if_neg q]
        show escE (tq l) (decide (65 + k = 92)) = false
        rw [decide_eq_false (by omega)]; exact ih
theorem len_tx : ∀ l : List Sy, (tx l).length ≤ 6 * l.length
  | [] => Nat.le_refl _
  | s :: l => by
    have ih := len_tx l
    have h : (cpS s).length ≤ 6 := by
      match s with
      | .o => decide
      | .c => decide
      | .x k 0 => show 4 ≤ 6; omega
      | .x k 1 => show 2 ≤ 6; omega
      | .x k 2 => show 4 ≤ 6; omega
      | .x k 3 => show 6 ≤ 6; omega
      | .x k (p + 4) => show 1 ≤ 6; omega
    rw [tx_cons, List.length_append, List.length_cons]; omega
theorem len_tq : ∀ l : List Sy, (tq l).length ≤ 2 * l.length
  | [] => Nat.le_refl _
  | s :: l => by
    have ih := len_tq l
    have h : (cpQ s).length ≤ 2 := by
      match s with
      | .o => decide
      | .c => decide
      | .x k p => unfold cpQ; by_cases q : p = 1 <;> simp [q]
    rw [tq_cons, List.length_append, List.length_cons]; omega
theorem good_tx (l : List Sy) (h : OkL l) (hl : l.length ≤ 100) : GoodX (mkS (tx l)) := by
  have h1 := len_tx l
  have h2 := len_tq l
  refine ⟨?_, esc_tx l h, ?_, ?_⟩
  · show (tx l).length ≤ 1000; omega
  · rw [strip_eq l h]; show (tq l).length ≤ 1000; omega
  · rw [strip_eq l h]; exact esc_tq l h
theorem seg_tx (l : List Sy) (i j : Nat) : segF (l.map stS) i j = tx (sg l i j) := by
  unfold segF sg
  rw [← List.map_drop, ← List.map_take, jn_st]
theorem okL_sg {l : List Sy} (h : OkL l) (i j : Nat) : OkL (sg l i j) := fun k p m => h k p (List.mem_of_mem_drop (List.mem_of_mem_take m))
theorem stepOk (s : Sy) (h : ∀ k p, s = .x k p → k < 5) : StepOk (stS s) := by
  match s, h with
  | .o, _ => exact .inl stS_o
  | .c, _ => exact .inr (.inl stS_c)
  | .x k p, h =>
    have hk := h k p rfl
    obtain ⟨z1, z2, z3⟩ := stS_x (p := p) hk
    refine .inr (.inr ⟨beq_eq_false_iff_ne.mp z1, beq_eq_false_iff_ne.mp z2, ?_, ?_, ?_, ?_⟩)
    · have := len_tx [.x k p]
      show (cpS (.x k p)).length ≤ 20
      have e : (tx [.x k p]).length = (cpS (.x k p)).length := by rw [tx_cons]; simp [tx]
      simp only [List.length_cons, List.length_nil] at this
      omega
    · show cpS (.x k p) ≠ []
      unfold cpS
      simp
    · rw [z3]; omega
    · rw [z3]; omega
theorem words_eq {ab : List Nat} (hl : ab.length = 5) (hf : Falls ab) (sh : Nat) {a b c d e : Nat} (ha : a < 5) (hb : b < 5) (hc : c < 5) (hd : d < 5) (he : e < 5) : (msF sh ab a b c d e).map (wordF sh) = [wB ab a, wB ab b, wB ab c, wB ab d, wB ab e] := by
  have key : ∀ v, v < 5 → wordF sh (maskV sh ab v) = wB ab v := fun v hv => by rw [mask_eq hl hf sh hv, word_eq]; rfl
  show [wordF sh (maskV sh ab a), wordF sh (maskV sh ab b), wordF sh (maskV sh ab c), wordF sh (maskV sh ab d), wordF sh (maskV sh ab e)] = _
  rw [key a ha, key b hb, key c hc, key d hd, key e he]
/-! ## the law, in plain Lean -/
theorem lawT (script : List Int) : ∃ ns st sh ms far above within held parted, LawOk script ns st sh ms far above within held parted := by
  have hnl : (numbersF script).length = 10 := by
    unfold numbersF
    rw [List.length_append, List.length_drop, List.length_map, List.length_take]
    show min 10 script.length + (10 - min 10 script.length) = 10
    omega
  generalize hns : numbersF script = ns at hnl
  obtain ⟨hrun, hcnt, hlen, hok⟩ := syms_facts ns hnl
  have hmap := steps_map ns
  generalize symsF ns = l at *
  generalize hst : stepsF ns = st at *
  have hstl : st.length = 13 := by rw [hmap, List.length_map, hlen]
  have hm9 := Int.fmod_nonneg_of_pos (ns.getD 0 0) (show (0 : Int) < 9 by decide)
  have hl9 := Int.fmod_lt_of_pos (ns.getD 0 0) (show (0 : Int) < 9 by decide)
  obtain ⟨sh, hsh⟩ := Int.eq_ofNat_of_zero_le hm9
  have hck : ∀ i j, i ≤ j → j ≤ l.length → checkF (mkS (segF st i j ++ [41])) = decide (run (sg l i j) 0 = some 1) := fun i j _ _ => by
    rw [hmap, seg_tx]
    exact check_seg _ (okL_sg hok i j)
  have V : Inv sh l 0 [] [0] 0 := by
    refine ⟨rfl, fun i hi => ?_, by decide, rfl, fun k p h => by simp at h, fun k p t h => by simp at h, fun k p h => by simp at h, fun k p h => by simp at h⟩
    have : i = 0 := by simp at hi; exact hi
    subst this
    decide
  obtain ⟨ab, nd, q1, q2, q3, q4, q5, q6⟩ := machine (st := st) hck (fun k p m => hok k p m) (by rw [hrun]; simp) l 0 [] [0] 0 [0, 0, 0, 0, 0] rfl (Nat.zero_le _) V rfl (by decide)
  rw [hcnt] at q4
  have habl : ab.length = 5 := q4
  match nd, q5 with
  | [a, b, c, d, e], _ =>
    have ha : a < 5 := habl ▸ q6 a (by simp)
    have hb : b < 5 := habl ▸ q6 b (by simp)
    have hc : c < 5 := habl ▸ q6 c (by simp)
    have hd : d < 5 := habl ▸ q6 d (by simp)
    have he : e < 5 := habl ▸ q6 e (by simp)
    rw [← hmap] at q1 q2
    have hsh8 : sh ≤ 8 := by omega
    obtain ⟨l1, l2, l3, l4⟩ := law_lens habl q3 ha hb hc hd he
    obtain ⟨f1, f2⟩ := law_flags habl q3 ha hb hc hd he hsh8
    refine ⟨ns, st, sh, msF sh ab a b c d e, farW ab a b c d e, ab, chW ab a b c d e, heldF (chW ab a b c d e), partedF (heldF (chW ab a b c d e)),
      ⟨hns, hnl, hst, fun s hs => ?_, by omega, hsh.symm, hsh8, fun i j h1 h2 => ?_, q1, rfl, ?_, (farW_ok ab a b c d e).1, (farW_ok ab a b c d e).2, q2, habl, rfl, fun r hr => ?_, rfl, rfl, f1, f2, l1, l2, l3, l4⟩⟩
    · rw [hmap] at hs
      obtain ⟨y, hy, rfl⟩ := List.mem_map.mp hs
      exact stepOk y fun k p e => hok k p (e ▸ hy)
    · rw [hmap, seg_tx]
      have e1 : tx (sg l i j) ++ [41] = tx (sg l i j ++ [.c]) := by unfold tx; rw [List.map_append, List.flatten_append]; rfl
      rw [e1]
      refine good_tx _ (fun k p m => ?_) ?_
      · rcases List.mem_append.mp m with m | m
        · exact okL_sg hok i j k p m
        · rw [List.mem_singleton] at m; cases m
      · have : (sg l i j).length ≤ l.length := by unfold sg; rw [List.length_take, List.length_drop]; omega
        rw [List.length_append, List.length_singleton]; omega
    · rw [words_eq habl q3 sh ha hb hc hd he]; rfl
    · obtain ⟨x, y, z, hx, hy, hz, rfl⟩ := tree_of habl q3
      have key : ∀ v, v < 5 → (chainF [0, 0, x, y, z] v v).length ≤ 5 := fun v hv => (tree_chain x hx y hy z hz v hv).2.2
      rw [chW_eq] at hr
      simp only [List.mem_cons, List.not_mem_nil, or_false] at hr
      rcases hr with rfl | rfl | rfl | rfl | rfl
      · exact key _ ha
      · exact key _ hb
      · exact key _ hc
      · exact key _ hd
      · exact key _ he
end Mine
theorem PySem.Challenge.cw_rw0050_01_holds : PySem.Challenge.rw_rw0050_01.Holds :=
  Mine.holds_of Mine.lawT
