import PyProof.Rows.All
import Wide.All
import OpenK.AllK
import Wide.FinOn
import PySem.Challenge.RW_rs0022_01
set_option Elab.async false
set_option maxRecDepth 100000
set_option linter.unusedVariables false

namespace Mine
open PySem

abbrev pr : Program := PySem.Challenge.pw_rs0022_01

/-! heaps that grow -/
def Ext (h h' : Heap) : Prop := ∀ b o, h.get? b = some o → h'.get? b = some o
theorem Ext.refl (h : Heap) : Ext h h := fun _ _ e => e
theorem Ext.trans {a b c : Heap} (x : Ext a b) (y : Ext b c) : Ext a c := fun _ _ e => y _ _ (x _ _ e)
theorem Ext.push (h : Heap) (o : Obj) : Ext h (h.push o) := fun _ _ e => Heap.get?_push_of_some _ e
theorem kRefl (s : Shared) : Keeps s s := ⟨s.heap, s.toks, rfl, fun _ _ e => e⟩
theorem kTok (s : Shared) (t : Nat) : Keeps s { s with toks := t } := ⟨s.heap, t, rfl, fun _ _ e => e⟩
theorem kHeap (s : Shared) (h : Heap) (t : Nat) (x : Ext s.heap h) : Keeps s { s with heap := h, toks := t } := ⟨h, t, rfl, x⟩
theorem kExt {s s' : Shared} (x : Keeps s s') : Ext s.heap s'.heap := by
  obtain ⟨h, t, rfl, k⟩ := x; exact k
theorem kTrans {a b c : Shared} (x : Keeps a b) (y : Keeps b c) : Keeps a c := by
  obtain ⟨h, t, rfl, k⟩ := x
  obtain ⟨h', t', rfl, k'⟩ := y
  exact ⟨h', t', rfl, fun _ _ e => k' _ _ (k _ _ e)⟩

/-! plain data, and how the heap bears it -/
inductive PV where
  | none
  | bool (b : Bool)
  | int (i : Int)
  | flt (x : UInt64)
  | str (x : Str)
  | list (l : List PV)
  | raw (vs : List Value)
  | val (u : Value)

mutual
def ValIs (h : Heap) : PV → Value → Prop
  | .none, v => v = .none
  | .bool b, v => v = .bool b
  | .int i, v => ∃ t, v = .int i t
  | .flt x, v => ∃ t, v = .float x t
  | .str x, v => ∃ t, v = .str x t
  | .list l, v => ∃ a vs, v = .ref a ∧ h.PlainList a (List.toArray vs) ∧ ValsAre h l vs
  | .raw vs, v => ∃ a, v = .ref a ∧ h.PlainList a (List.toArray vs)
  | .val u, v => v = u
def ValsAre (h : Heap) : List PV → List Value → Prop
  | [], vs => vs = []
  | d :: l, vs => ∃ v vs', vs = v :: vs' ∧ ValIs h d v ∧ ValsAre h l vs'
end

theorem isList_ext {h h' : Heap} {a : Addr} {vs : Array Value} (x : Ext h h') (e : h.PlainList a vs) : h'.PlainList a vs := by
  obtain ⟨o, ho⟩ := e
  exact ⟨o, x _ _ ho⟩

mutual
theorem ValIs.ext {h h' : Heap} (x : Ext h h') : ∀ {d : PV} {v : Value}, ValIs h d v → ValIs h' d v
  | .none, _, e => by simpa [ValIs] using e
  | .bool _, _, e => by simpa [ValIs] using e
  | .val _, _, e => by simpa [ValIs] using e
  | .int _, _, e => by simpa [ValIs] using e
  | .flt _, _, e => by simpa [ValIs] using e
  | .str _, _, e => by simpa [ValIs] using e
  | .list l, v, e => by
    simp only [ValIs] at e ⊢
    obtain ⟨a, vs, rfl, hl, hv⟩ := e
    exact ⟨a, vs, rfl, isList_ext x hl, ValsAre.ext x hv⟩
  | .raw vs, v, e => by
    simp only [ValIs] at e ⊢
    obtain ⟨a, rfl, hl⟩ := e
    exact ⟨a, rfl, isList_ext x hl⟩
theorem ValsAre.ext {h h' : Heap} (x : Ext h h') : ∀ {l : List PV} {vs : List Value}, ValsAre h l vs → ValsAre h' l vs
  | [], _, e => by simpa [ValsAre] using e
  | d :: l, vs, e => by
    simp only [ValsAre] at e ⊢
    obtain ⟨v, vs', rfl, hv, hr⟩ := e
    exact ⟨v, vs', rfl, ValIs.ext x hv, ValsAre.ext x hr⟩
end

/-- the frame of a change: only addresses that bear no list are turned -/
def ExtOff (P : Addr → Prop) (h h' : Heap) : Prop := ∀ b o, ¬ P b → h.get? b = some o → h'.get? b = some o
def NoLists (P : Addr → Prop) (h : Heap) : Prop := ∀ a vs, h.PlainList a vs → ¬ P a
theorem isList_off {P : Addr → Prop} {h h' : Heap} {a : Addr} {vs : Array Value} (x : ExtOff P h h') (n : NoLists P h) (e : h.PlainList a vs) : h'.PlainList a vs := by
  have hn := n a vs e
  obtain ⟨o, ho⟩ := e
  exact ⟨o, x _ _ hn ho⟩
mutual
theorem ValIs.off {P : Addr → Prop} {h h' : Heap} (x : ExtOff P h h') (n : NoLists P h) : ∀ {d : PV} {v : Value}, ValIs h d v → ValIs h' d v
  | .none, _, e => by simpa [ValIs] using e
  | .bool _, _, e => by simpa [ValIs] using e
  | .val _, _, e => by simpa [ValIs] using e
  | .int _, _, e => by simpa [ValIs] using e
  | .flt _, _, e => by simpa [ValIs] using e
  | .str _, _, e => by simpa [ValIs] using e
  | .list l, v, e => by
    simp only [ValIs] at e ⊢
    obtain ⟨a, vs, rfl, hl, hv⟩ := e
    exact ⟨a, vs, rfl, isList_off x n hl, ValsAre.off x n hv⟩
  | .raw vs, v, e => by
    simp only [ValIs] at e ⊢
    obtain ⟨a, rfl, hl⟩ := e
    exact ⟨a, rfl, isList_off x n hl⟩
theorem ValsAre.off {P : Addr → Prop} {h h' : Heap} (x : ExtOff P h h') (n : NoLists P h) : ∀ {l : List PV} {vs : List Value}, ValsAre h l vs → ValsAre h' l vs
  | [], _, e => by simpa [ValsAre] using e
  | d :: l, vs, e => by
    simp only [ValsAre] at e ⊢
    obtain ⟨v, vs', rfl, hv, hr⟩ := e
    exact ⟨v, vs', rfl, ValIs.off x n hv, ValsAre.off x n hr⟩
end

theorem ValsAre.length {h : Heap} : ∀ {l : List PV} {vs : List Value}, ValsAre h l vs → vs.length = l.length
  | [], _, e => by simp only [ValsAre] at e; subst e; rfl
  | d :: l, vs, e => by
    simp only [ValsAre] at e
    obtain ⟨v, vs', rfl, _, hr⟩ := e
    simp [ValsAre.length hr]
theorem ValsAre.get {h : Heap} : ∀ {l : List PV} {vs : List Value}, ValsAre h l vs → ∀ {i : Nat} {d : PV}, l[i]? = some d → ∃ v, vs[i]? = some v ∧ ValIs h d v
  | [], _, _, i, d, q => by simp at q
  | d :: l, vs, e, i, d', q => by
    simp only [ValsAre] at e
    obtain ⟨v, vs', rfl, hv, hr⟩ := e
    cases i with
    | zero => simp at q; subst q; exact ⟨v, by simp, hv⟩
    | succ i => simp at q; obtain ⟨u, hu, hd⟩ := ValsAre.get hr q; exact ⟨u, by simpa using hu, hd⟩
theorem ValsAre.append {h : Heap} : ∀ {l l' : List PV} {vs vs' : List Value}, ValsAre h l vs → ValsAre h l' vs' → ValsAre h (l ++ l') (vs ++ vs')
  | [], _, _, _, e, e' => by simp only [ValsAre] at e; subst e; simpa using e'
  | d :: l, l', vs, vs', e, e' => by
    simp only [ValsAre] at e
    obtain ⟨v, vs1, rfl, hv, hr⟩ := e
    simp only [List.cons_append, ValsAre]
    exact ⟨v, _, rfl, hv, ValsAre.append hr e'⟩
theorem ValsAre.cons {h : Heap} {d : PV} {v : Value} {l : List PV} {vs : List Value} (a : ValIs h d v) (b : ValsAre h l vs) : ValsAre h (d :: l) (v :: vs) := by
  simp only [ValsAre]; exact ⟨v, vs, rfl, a, b⟩
theorem ValsAre.nil {h : Heap} : ValsAre h [] [] := by simp only [ValsAre]
theorem ValsAre.take {h : Heap} : ∀ (n : Nat) {l : List PV} {vs : List Value}, ValsAre h l vs → ValsAre h (l.take n) (vs.take n)
  | 0, _, _, _ => by simp [ValsAre]
  | n + 1, [], _, e => by simp only [ValsAre] at e; subst e; simp [ValsAre]
  | n + 1, d :: l, vs, e => by
    simp only [ValsAre] at e
    obtain ⟨v, vs', rfl, hv, hr⟩ := e
    simp only [List.take_succ_cons]
    exact ValsAre.cons hv (ValsAre.take n hr)
theorem ValsAre.drop {h : Heap} : ∀ (n : Nat) {l : List PV} {vs : List Value}, ValsAre h l vs → ValsAre h (l.drop n) (vs.drop n)
  | 0, _, _, e => by simpa using e
  | n + 1, [], _, e => by simp only [ValsAre] at e; subst e; simp [ValsAre]
  | n + 1, d :: l, vs, e => by
    simp only [ValsAre] at e
    obtain ⟨v, vs', rfl, hv, hr⟩ := e
    simp only [List.drop_succ_cons]
    exact ValsAre.drop n hr
end Mine

namespace Mine
open PySem

/-! evaluation told as data -/
section
variable (w : World) (A : Around) (env : Env) (P : Heap → Prop)
def Good (d : PV) (s : Shared) : Value → Shared → Prop := fun v s' => ValIs s'.heap d v ∧ Keeps s s'
def Ev (e : Expr) (d : PV) : Prop := ∀ (s : Shared) (E : Value → Shared → Prop), P s.heap → wpAny (model pr w) A (eval e env) (Good d s) E s
def Tr (e : Expr) (b : Bool) : Prop := ∀ (s : Shared) (E : Value → Shared → Prop), P s.heap → wpAny (model pr w) A (isTrue e env (eval e env)) (fun x s' => x = b ∧ Keeps s s') E s
def Sta : Prop := ∀ h h', Ext h h' → P h → P h'
def Op2 (op : Operator) (d1 d2 d : PV) : Prop := ∀ (s : Shared) (E : Value → Shared → Prop) v1 v2, ValIs s.heap d1 v1 → ValIs s.heap d2 v2 → wpAny (model pr w) A (binaryOp op v1 v2) (Good d s) E s
def Cm2 (op : CmpOp) (d1 d2 d : PV) : Prop := ∀ (s : Shared) (E : Value → Shared → Prop) v1 v2, ValIs s.heap d1 v1 → ValIs s.heap d2 v2 → wpAny (model pr w) A (compareOp op v1 v2) (Good d s) E s
/-- two expressions one after the other, the second's value and the first's at the end -/
def Evs (es : List Expr) (ds : List PV) : Prop := ∀ (s : Shared) (E : Value → Shared → Prop) pos, P s.heap → wpAny (model pr w) A (spliced (backTo pos (starEach es env))) (fun vs s' => ValsAre s'.heap ds vs ∧ Keeps s s') E s
end

theorem Good.mono {d : PV} {s s₁ : Shared} {v : Value} {s₂ : Shared} (k : Keeps s s₁) (g : Good d s₁ v s₂) : Good d s v s₂ := ⟨g.1, kTrans k g.2⟩

section
variable {w : World} {A : Around} {env : Env} {P : Heap → Prop}

theorem Ev.at {e : Expr} {d : PV} {s : Shared} {E : Value → Shared → Prop} {Q : Value → Shared → Prop} (x : Ev w A env P e d) (hp : P s.heap) (h : ∀ v s', ValIs s'.heap d v → Keeps s s' → Q v s') : wpAny (model pr w) A (eval e env) Q E s :=
  wpAny_mono (x s E hp) (fun v s' g => h v s' g.1 g.2) fun _ _ e => e
theorem Tr.at {e : Expr} {b : Bool} {s : Shared} {E : Value → Shared → Prop} {Q : Bool → Shared → Prop} (x : Tr w A env P e b) (hp : P s.heap) (h : ∀ s', Keeps s s' → Q b s') : wpAny (model pr w) A (isTrue e env (eval e env)) Q E s :=
  wpAny_mono (x s E hp) (fun v s' g => by obtain ⟨rfl, k⟩ := g; exact h s' k) fun _ _ e => e

theorem Ev.int (i : Int) (k : Nat) (pos : Pos) : Ev w A env P (.Constant (.int i) k pos) (.int i) := fun s E _ => wpAny_Constant_int ⟨by simp only [ValIs]; exact ⟨_, rfl⟩, kTok s _⟩
theorem Ev.str (x : Str) (k : Nat) (pos : Pos) : Ev w A env P (.Constant (.str x) k pos) (.str x) := fun s E _ => wpAny_Constant_str ⟨by simp only [ValIs]; exact ⟨_, rfl⟩, kTok s _⟩
theorem Ev.bool (b : Bool) (k : Nat) (pos : Pos) : Ev w A env P (.Constant (.bool b) k pos) (.bool b) := fun s E _ => wpAny_Constant_bool ⟨by simp only [ValIs], kRefl s⟩
theorem Ev.none (k : Nat) (pos : Pos) : Ev w A env P (.Constant .none k pos) .none := fun s E _ => wpAny_Constant_none ⟨by simp only [ValIs], kRefl s⟩

theorem eI {i : Int} {k : Nat} {pos : Pos} : Ev w A env P (.Constant (.int i) k pos) (.int i) := Ev.int i k pos
theorem eS {x : Str} {k : Nat} {pos : Pos} : Ev w A env P (.Constant (.str x) k pos) (.str x) := Ev.str x k pos
theorem eB {b : Bool} {k : Nat} {pos : Pos} : Ev w A env P (.Constant (.bool b) k pos) (.bool b) := Ev.bool b k pos
theorem eN {k : Nat} {pos : Pos} : Ev w A env P (.Constant .none k pos) .none := Ev.none k pos

theorem Ev.bin {l r : Expr} {op : Operator} {pos : Pos} {d1 d2 d : PV} (hP : Sta P) (h1 : Ev w A env P l d1) (h2 : Ev w A env P r d2) (ho : Op2 w A op d1 d2 d) : Ev w A env P (.BinOp l op r pos) d := fun s E hp =>
  wpAny_BinOp (h1.at hp fun v1 s1 g1 k1 => h2.at (hP _ _ (kExt k1) hp) fun v2 s2 g2 k2 =>
    wpAny_mono (ho s2 E v1 v2 (g1.ext (kExt k2)) g2) (fun v s3 g => g.mono (kTrans k1 k2)) fun _ _ e => e)
theorem Ev.cmp {l r : Expr} {op : CmpOp} {pos : Pos} {d1 d2 d : PV} (hP : Sta P) (h1 : Ev w A env P l d1) (h2 : Ev w A env P r d2) (ho : Cm2 w A op d1 d2 d) (hm : behindInMarks op r = false := by with_unfolding_all rfl) :
    Ev w A env P (.Compare l [op] [r] pos) d := fun s E hp =>
  wpAny_Compare1 (h1.at hp fun v1 s1 g1 k1 => h2.at (hP _ _ (kExt k1) hp) fun v2 s2 g2 k2 =>
    wpAny_mono (ho s2 E v1 v2 (g1.ext (kExt k2)) g2) (fun v s3 g => g.mono (kTrans k1 k2)) fun _ _ e => e) hm
theorem Tr.cmp {l r : Expr} {op : CmpOp} {pos : Pos} {d1 d2 : PV} {b : Bool} (hP : Sta P) (h1 : Ev w A env P l d1) (h2 : Ev w A env P r d2) (ho : Cm2 w A op d1 d2 (.bool b)) (hm : behindInMarks op r = false := by with_unfolding_all rfl) :
    Tr w A env P (.Compare l [op] [r] pos) b := fun s E hp =>
  wpAny_isTrue_Compare1 (h1.at hp fun v1 s1 g1 k1 => h2.at (hP _ _ (kExt k1) hp) fun v2 s2 g2 k2 =>
    wpAny_mono (ho s2 E v1 v2 (g1.ext (kExt k2)) g2) (fun v s3 g => by
      obtain ⟨hv, k⟩ := g
      simp only [ValIs] at hv
      subst hv
      exact wpAny_truthy_bool ⟨rfl, kTrans (kTrans k1 k2) k⟩) fun _ _ e => e) hm
theorem Tr.not {x : Expr} {pos : Pos} {b : Bool} (h : Tr w A env P x b) : Tr w A env P (.UnaryOp .Not x pos) (!b) := fun s E hp =>
  wpAny_isTrue_Not (h.at hp fun s' k => ⟨rfl, k⟩)
theorem Tr.or2 {x y : Expr} {pos : Pos} {a b : Bool} (hP : Sta P) (h1 : Tr w A env P x a) (h2 : a = false → Tr w A env P y b) (hb : a = true → b = true) : Tr w A env P (.BoolOp .Or [x, y] pos) b := fun s E hp => by
  refine wpAny_isTrue_BoolOp (wpAny_allTrue_Or_cons (h1.at hp fun s1 k1 => ?_))
  cases a with
  | true => simp only [if_true]; rw [hb rfl]; exact ⟨by first | rfl | trivial, k1⟩
  | false =>
    simp only [Bool.false_eq_true, if_false]
    refine wpAny_allTrue_Or_cons ((h2 rfl).at (hP _ _ (kExt k1) hp) fun s2 k2 => ?_)
    cases b with
    | true => simp only [if_true]; exact ⟨by first | rfl | trivial, kTrans k1 k2⟩
    | false => simp only [Bool.false_eq_true, if_false]; exact wpAny_allTrue_Or_nil ⟨by first | rfl | trivial, kTrans k1 k2⟩
theorem Tr.and2 {x y : Expr} {pos : Pos} {a b : Bool} (hP : Sta P) (h1 : Tr w A env P x a) (h2 : a = true → Tr w A env P y b) (hb : a = false → b = false) : Tr w A env P (.BoolOp .And [x, y] pos) b := fun s E hp => by
  refine wpAny_isTrue_BoolOp (wpAny_allTrue_And_cons (h1.at hp fun s1 k1 => ?_))
  cases a with
  | false => simp only [Bool.false_eq_true, if_false]; rw [hb rfl]; exact ⟨by first | rfl | trivial, k1⟩
  | true =>
    simp only [if_true]
    refine wpAny_allTrue_And_cons ((h2 rfl).at (hP _ _ (kExt k1) hp) fun s2 k2 => ?_)
    cases b with
    | false => simp only [Bool.false_eq_true, if_false]; exact ⟨by first | rfl | trivial, kTrans k1 k2⟩
    | true => simp only [if_true]; exact wpAny_allTrue_And_nil ⟨by first | rfl | trivial, kTrans k1 k2⟩

/-! ints -/
theorem vInt {h : Heap} {i : Int} {v : Value} (x : ValIs h (.int i) v) : ∃ t, v = .int i t := by simpa only [ValIs] using x
theorem vBool {h : Heap} {b : Bool} {v : Value} (x : ValIs h (.bool b) v) : v = .bool b := by simpa only [ValIs] using x
theorem vStr {h : Heap} {x : Str} {v : Value} (e : ValIs h (.str x) v) : ∃ t, v = .str x t := by simpa only [ValIs] using e
theorem vFlt {h : Heap} {x : UInt64} {v : Value} (e : ValIs h (.flt x) v) : ∃ t, v = .float x t := by simpa only [ValIs] using e
theorem vList {h : Heap} {l : List PV} {v : Value} (e : ValIs h (.list l) v) : ∃ a vs, v = .ref a ∧ h.PlainList a (List.toArray vs) ∧ ValsAre h l vs := by simpa only [ValIs] using e
theorem gInt (s : Shared) (i : Int) (t k : Nat) : Good (.int i) s (.int i t) { s with toks := k } := ⟨by simp only [ValIs]; exact ⟨_, rfl⟩, kTok s _⟩
theorem gBool (s : Shared) (b : Bool) : Good (.bool b) s (.bool b) s := ⟨by simp only [ValIs], kRefl s⟩
theorem gFlt (s : Shared) (x : UInt64) (t k : Nat) : Good (.flt x) s (.float x t) { s with toks := k } := ⟨by simp only [ValIs]; exact ⟨_, rfl⟩, kTok s _⟩
theorem gStr (s : Shared) (x : Str) (t k : Nat) : Good (.str x) s (.str x t) { s with toks := k } := ⟨by simp only [ValIs]; exact ⟨_, rfl⟩, kTok s _⟩

theorem op_add (a b : Int) : Op2 w A .Add (.int a) (.int b) (.int (a + b)) := fun s E v1 v2 h1 h2 => by
  obtain ⟨t, rfl⟩ := vInt h1; obtain ⟨u, rfl⟩ := vInt h2
  exact P.add_int (gInt ..)
theorem op_sub (a b : Int) : Op2 w A .Sub (.int a) (.int b) (.int (a - b)) := fun s E v1 v2 h1 h2 => by
  obtain ⟨t, rfl⟩ := vInt h1; obtain ⟨u, rfl⟩ := vInt h2
  exact P.sub_int (gInt ..)
theorem op_mul (a b : Int) (hm : IntMulOk a b) : Op2 w A .Mult (.int a) (.int b) (.int (a * b)) := fun s E v1 v2 h1 h2 => by
  obtain ⟨t, rfl⟩ := vInt h1; obtain ⟨u, rfl⟩ := vInt h2
  exact P.mul_int (gInt ..) hm
theorem op_mod (a b : Int) (hb : b ≠ 0) : Op2 w A .Mod (.int a) (.int b) (.int (a.fmod b)) := fun s E v1 v2 h1 h2 => by
  obtain ⟨t, rfl⟩ := vInt h1; obtain ⟨u, rfl⟩ := vInt h2
  exact PyProof.Rows.mod_int' hb (gInt ..)
theorem cm_eq (a b : Int) : Cm2 w A .Eq (.int a) (.int b) (.bool (a == b)) := fun s E v1 v2 h1 h2 => by
  obtain ⟨t, rfl⟩ := vInt h1; obtain ⟨u, rfl⟩ := vInt h2
  exact P.eq_int (gBool ..)
theorem cm_ne (a b : Int) : Cm2 w A .NotEq (.int a) (.int b) (.bool (a != b)) := fun s E v1 v2 h1 h2 => by
  obtain ⟨t, rfl⟩ := vInt h1; obtain ⟨u, rfl⟩ := vInt h2
  exact P.ne_int (gBool ..)
theorem cm_lt (a b : Int) : Cm2 w A .Lt (.int a) (.int b) (.bool (decide (a < b))) := fun s E v1 v2 h1 h2 => by
  obtain ⟨t, rfl⟩ := vInt h1; obtain ⟨u, rfl⟩ := vInt h2
  exact P.lt_int (gBool ..)
theorem Ev.neg {x : Expr} {pos : Pos} {i : Int} (h : Ev w A env P x (.int i)) : Ev w A env P (.UnaryOp .USub x pos) (.int (-i)) := fun s E hp =>
  wpAny_UnaryOp (h.at hp fun v s1 g k => by
    obtain ⟨t, rfl⟩ := vInt g
    exact PySem.P.neg_int ((gInt ..).mono k))

/-! lists -/
theorem Evs.nil : Evs w A env P [] [] := fun s E pos _ => wpAny_items_nil ⟨ValsAre.nil, kRefl s⟩
theorem Evs.cons {e : Expr} {es : List Expr} {d : PV} {ds : List PV} (hP : Sta P) (h : Ev w A env P e d) (hs : Evs w A env P es ds) (hn : ∀ x p, e ≠ .Starred x p := by intro _ _ h; cases h) : Evs w A env P (e :: es) (d :: ds) := fun s E pos hp => by
  have key : wpAny (model pr w) A (eval e env) (fun v s₁ => wpAny (model pr w) A (spliced (backTo pos (starEach es env))) (fun vs s₂ => ValsAre s₂.heap (d :: ds) (v :: vs) ∧ Keeps s s₂) E s₁) E s :=
    h.at hp fun v s1 g k => wpAny_mono (hs s1 E pos (hP _ _ (kExt k) hp)) (fun vs s2 g2 => ⟨ValsAre.cons (g.ext (kExt g2.2)) g2.1, kTrans k g2.2⟩) fun _ _ e => e
  cases e <;> first | exact absurd rfl (hn _ _) | exact wpAny_items_cons key
theorem Ev.list {es : List Expr} {ds : List PV} {pos : Pos} (h : Evs w A env P es ds) (hz : ds.length ≤ sizeLine := by decide) : Ev w A env P (.List es pos) (.list ds) := fun s E hp =>
  wpAny_List (wpAny_mono (h s E pos hp) (fun vs s1 g => by
    refine ⟨by rw [g.1.length]; exact hz, ?_, kTrans g.2 (kHeap s1 _ _ (Ext.push _ _))⟩
    simp only [ValIs]
    exact ⟨_, vs, rfl, ⟨_, Heap.get?_push_size _ rfl⟩, g.1.ext (Ext.push _ _)⟩) fun _ _ e => e)
end
end Mine

namespace Mine
open PySem

section
variable {w : World} {A : Around} {env : Env} {P : Heap → Prop}

theorem gList {s s1 : Shared} {l : List PV} {vs : List Value} {n : Nat} {tk : Nat} (k : Keeps s s1) (g : ValsAre s1.heap l vs) :
    Good (.list l) s (.ref s1.heap.objs.size) { s1 with heap := s1.heap.push { cls := .type "list", data := .seq vs.toArray n }, toks := tk } :=
  ⟨by simp only [ValIs]; exact ⟨_, vs, rfl, ⟨_, Heap.get?_push_size _ rfl⟩, g.ext (Ext.push _ _)⟩, kTrans k (kHeap s1 _ _ (Ext.push _ _))⟩

/-! an item of a list -/
theorem item_at {s : Shared} {E : Value → Shared → Prop} {Q : Value → Shared → Prop} {value slice : Expr} {l : List PV} {v : Value} {i : Int} {t : Tok} {d : PV} (hv : ValIs s.heap (.list l) v) (h0 : 0 ≤ i) (hf : i < 2 ^ 63) (hi : l[i.toNat]? = some d)
    (h : ∀ u, ValIs s.heap d u → Q u s)
    (hs : ∀ o, subscripted slice false o (.int i t) = operate [o, .int i t] (getItem o (.int i t))) :
    wpAny (model pr w) A (PyProof.Rows.subscriptTail value slice v (.int i t)) Q E s := by
  obtain ⟨a, vs, rfl, hl, hd⟩ := vList hv
  obtain ⟨u, hu, hud⟩ := hd.get hi
  exact PyProof.Rows.tail_any hl.isList.typeIs slot_list_getitem.lookup (wpAny_getItem_list hl.isList h0 hf (by simpa using hu) (h u hud)) (hs _)
theorem item_neg {s : Shared} {E : Value → Shared → Prop} {Q : Value → Shared → Prop} {value slice : Expr} {l : List PV} {v : Value} {i : Int} {t : Tok} {d : PV} (hv : ValIs s.heap (.list l) v) (h0 : i < 0) (h1 : -(l.length : Int) ≤ i) (hf : -(2 ^ 63) ≤ i) (hi : l[(i + l.length).toNat]? = some d)
    (h : ∀ u, ValIs s.heap d u → Q u s)
    (hs : ∀ o, subscripted slice false o (.int i t) = operate [o, .int i t] (getItem o (.int i t))) :
    wpAny (model pr w) A (PyProof.Rows.subscriptTail value slice v (.int i t)) Q E s := by
  obtain ⟨a, vs, rfl, hl, hd⟩ := vList hv
  obtain ⟨u, hu, hud⟩ := hd.get hi
  have hn := hd.length
  exact PyProof.Rows.tail_any hl.isList.typeIs slot_list_getitem.lookup (wpAny_getItem_list_neg hl.isList h0 (by simpa [hn] using h1) hf (by simpa [hn] using hu) (h u hud)) (hs _)
theorem Ev.item {value slice : Expr} {pos : Pos} {l : List PV} {i : Int} {d : PV} (hP : Sta P) (h1 : Ev w A env P value (.list l)) (h2 : Ev w A env P slice (.int i)) (h0 : 0 ≤ i) (hf : i < 2 ^ 63) (hi : l[i.toNat]? = some d)
    (hs : ∀ o t, subscripted slice false o (.int i t) = operate [o, .int i t] (getItem o (.int i t)) := by intro _ _; with_unfolding_all rfl) : Ev w A env P (.Subscript value slice pos) d := fun s E hp =>
  PyProof.Rows.Subscript_ (h1.at hp fun v1 s1 g1 k1 => h2.at (hP _ _ (kExt k1) hp) fun v2 s2 g2 k2 => by
    obtain ⟨t, rfl⟩ := vInt g2
    exact item_at (g1.ext (kExt k2)) h0 hf hi (fun u hu => ⟨hu, kTrans k1 k2⟩) fun o => hs o t)
theorem Ev.itemNeg {value slice : Expr} {pos : Pos} {l : List PV} {i : Int} {d : PV} (hP : Sta P) (h1 : Ev w A env P value (.list l)) (h2 : Ev w A env P slice (.int i)) (h0 : i < 0) (hn : -(l.length : Int) ≤ i) (hf : -(2 ^ 63) ≤ i) (hi : l[(i + l.length).toNat]? = some d)
    (hs : ∀ o t, subscripted slice false o (.int i t) = operate [o, .int i t] (getItem o (.int i t)) := by intro _ _; with_unfolding_all rfl) : Ev w A env P (.Subscript value slice pos) d := fun s E hp =>
  PyProof.Rows.Subscript_ (h1.at hp fun v1 s1 g1 k1 => h2.at (hP _ _ (kExt k1) hp) fun v2 s2 g2 k2 => by
    obtain ⟨t, rfl⟩ := vInt g2
    exact item_neg (g1.ext (kExt k2)) h0 hn hf hi (fun u hu => ⟨hu, kTrans k1 k2⟩) fun o => hs o t)

/-! lists joined, repeated -/
theorem op_cat (l l' : List PV) (hz : l.length + l'.length ≤ sizeLine) : Op2 w A .Add (.list l) (.list l') (.list (l ++ l')) := fun s E v1 v2 h1 h2 => by
  obtain ⟨a, vs, rfl, ⟨n, hl⟩, hd⟩ := vList h1
  obtain ⟨b, vs', rfl, ⟨n', hl'⟩, hd'⟩ := vList h2
  refine PySem.P.add_list hl hl' ?_ (by simpa [hd.length, hd'.length] using hz)
  have e : vs.toArray ++ vs'.toArray = (vs ++ vs').toArray := by simp
  rw [e]
  exact gList (kRefl s) (hd.append hd')

theorem vRaw {h : Heap} {vs : List Value} {v : Value} (e : ValIs h (.raw vs) v) : ∃ a, v = .ref a ∧ h.PlainList a (List.toArray vs) := by simpa only [ValIs] using e
theorem raw_list {h : Heap} {l : List PV} {vs : List Value} {v : Value} (e : ValIs h (.raw vs) v) (d : ValsAre h l vs) : ValIs h (.list l) v := by
  obtain ⟨a, rfl, hl⟩ := vRaw e
  simp only [ValIs]; exact ⟨a, vs, rfl, hl, d⟩
theorem list_raw {h : Heap} {l : List PV} {v : Value} (e : ValIs h (.list l) v) : ∃ vs, ValIs h (.raw vs) v ∧ ValsAre h l vs := by
  obtain ⟨a, vs, rfl, hl, d⟩ := vList e
  exact ⟨vs, by simp only [ValIs]; exact ⟨a, rfl, hl⟩, d⟩

/-! slices -/
theorem gRaw {s s1 : Shared} {vs : List Value} {o1 : Obj} {n : Nat} (k : Keeps s s1) :
    Good (.raw vs) s (.ref (s1.heap.objs.size + 1)) { s1 with heap := (s1.heap.push o1).push { cls := .type "list", data := .seq vs.toArray n } } :=
  ⟨by
    simp only [ValIs]
    refine ⟨_, rfl, n, ?_⟩
    have := Heap.get?_push_size (s1.heap.push o1) (o := { cls := .type "list", data := .seq vs.toArray n }) rfl
    rw [Heap.size_push] at this
    exact this, kTrans k (kHeap s1 _ s1.toks ((Ext.push _ _).trans (Ext.push _ _)))⟩
theorem ev_upto {value up : Expr} {p pos : Pos} {l : List PV} {b : Nat} (hP : Sta P) (h1 : Ev w A env P value (.list l)) (h2 : Ev w A env P up (.int b)) (hz : l.length ≤ sizeLine)
    (ht : ∀ o r, letTemporaryGo value o r = pure () := by intro _ _; rfl) : Ev w A env P (.Subscript value (.Slice none (some up) none p) pos) (.list (l.take b)) := fun s E hp =>
  wpAny_Subscript_list_slice (h1.at hp fun v1 s1 g1 k1 => by
    rw [evalPart_none]
    refine wpAny_pure ?_
    rw [evalPart_some]
    refine h2.at (hP _ _ (kExt k1) hp) fun v2 s2 g2 k2 => ?_
    obtain ⟨t, rfl⟩ := vInt g2
    obtain ⟨a, vs, rfl, hl, hd⟩ := vList (g1.ext (kExt k2))
    refine ⟨a, _, none, some (b : Int), rfl, hl.isList, by simpa [hd.length] using hz, .none, .int _ _, ?_⟩
    rw [slicePick_upto']
    have g := gRaw (s := s) (s1 := s2) (vs := vs.take b) (o1 := { cls := .type "slice", data := .fields #[.none, .int b t, .none] }) (n := 0) (kTrans k1 k2)
    refine ⟨raw_list (by simpa using g.1) ((hd.take b).ext ?_), by simpa using g.2⟩
    exact (Ext.push _ _).trans (Ext.push _ _)) ht
theorem ev_from {value lo : Expr} {p pos : Pos} {l : List PV} {b : Nat} (hP : Sta P) (h1 : Ev w A env P value (.list l)) (h2 : Ev w A env P lo (.int b)) (hz : l.length ≤ sizeLine)
    (ht : ∀ o r, letTemporaryGo value o r = pure () := by intro _ _; rfl) : Ev w A env P (.Subscript value (.Slice (some lo) none none p) pos) (.list (l.drop b)) := fun s E hp =>
  wpAny_Subscript_list_slice (h1.at hp fun v1 s1 g1 k1 => by
    rw [evalPart_some]
    refine h2.at (hP _ _ (kExt k1) hp) fun v2 s2 g2 k2 => ?_
    rw [evalPart_none]
    refine wpAny_pure ?_
    obtain ⟨t, rfl⟩ := vInt g2
    obtain ⟨a, vs, rfl, hl, hd⟩ := vList (g1.ext (kExt k2))
    refine ⟨a, _, some (b : Int), none, rfl, hl.isList, by simpa [hd.length] using hz, .int _ _, .none, ?_⟩
    rw [slicePick_from']
    have g := gRaw (s := s) (s1 := s2) (vs := vs.drop b) (o1 := { cls := .type "slice", data := .fields #[.int b t, .none, .none] }) (n := 0) (kTrans k1 k2)
    refine ⟨raw_list (by simpa using g.1) ((hd.drop b).ext ?_), by simpa using g.2⟩
    exact (Ext.push _ _).trans (Ext.push _ _)) ht
theorem ev_copy {value : Expr} {p pos : Pos} {vs : List Value} (h1 : Ev w A env P value (.raw vs)) (hz : vs.length ≤ sizeLine)
    (ht : ∀ o r, letTemporaryGo value o r = pure () := by intro _ _; rfl) : Ev w A env P (.Subscript value (.Slice none none none p) pos) (.raw vs) := fun s E hp =>
  wpAny_Subscript_list_slice (h1.at hp fun v1 s1 g1 k1 => by
    rw [evalPart_none]
    refine wpAny_pure (wpAny_pure ?_)
    obtain ⟨a, rfl, hl⟩ := vRaw g1
    refine ⟨a, _, none, none, rfl, hl.isList, by simpa using hz, .none, .none, ?_⟩
    rw [slicePick_all]
    exact gRaw k1) ht

/-! the same data is equal -/
mutual
def PV.ok : PV → Bool
  | .flt _ => false
  | .list l => PV.oks l
  | _ => true
def PV.oks : List PV → Bool
  | [] => true
  | d :: l => PV.ok d && PV.oks l
end
mutual
def PV.deep : PV → Nat
  | .list l => PV.deeps l + 1
  | .raw _ => 1
  | _ => 0
def PV.deeps : List PV → Nat
  | [] => 0
  | d :: l => max (PV.deep d) (PV.deeps l)
end
open PySem.SeqAt in
theorem eq_raws {s : Shared} {a b : Addr} {vs vs' : List Value} (ha : s.heap.PlainList a vs.toArray) (hb : s.heap.PlainList b vs'.toArray) (hl : vs.length = vs'.length) (hu : A.units < cLine)
    (he : ∀ (j : Nat) u u', vs[j]? = some u → vs'[j]? = some u' → EqAt A.in1 s u u' true) : RcAt A s (.ref a) (.ref b) true := by
  have h := RcAt.lists (A := A) (s := s) (e := fun _ => true) ha.isList hb.isList (by simpa using hl) hu (fun j h1 h2 => he j _ _ (by simp at h1 ⊢) (by simp at h2 ⊢))
  have e : ((List.range vs.toArray.size).all fun _ => true) = true := by simp
  rw [e] at h
  exact h
open PySem.SeqAt in
theorem ne_raws {s : Shared} {a b : Addr} {vs vs' : List Value} (ha : s.heap.PlainList a vs.toArray) (hb : s.heap.PlainList b vs'.toArray) (hl : vs.length = vs'.length) (hu : A.units < cLine)
    (he : ∀ (j : Nat) u u', vs[j]? = some u → vs'[j]? = some u' → EqAt A.in1 s u u' true) : RcNeAt A s (.ref a) (.ref b) false := by
  have h := RcNeAt.lists (A := A) (s := s) (e := fun _ => true) ha.isList hb.isList (by simpa using hl) hu (fun j h1 h2 => he j _ _ (by simp at h1 ⊢) (by simp at h2 ⊢))
  have e : (!(List.range vs.toArray.size).all fun _ => true) = false := by simp
  rw [e] at h
  exact h
open PySem.SeqAt in
theorem eq_refs {s : Shared} {a b : Addr} (h : RcAt A s (.ref a) (.ref b) true) : EqAt A s (.ref a) (.ref b) true := by
  by_cases e : a = b
  · subst e; exact EqAt.same _
  · exact EqAt.of_refs e h
open PySem.SeqAt in
mutual
theorem eqSame {s : Shared} : ∀ {d : PV} {A : Around} {v v' : Value}, d.ok = true → A.units + d.deep < cLine → ValIs s.heap d v → ValIs s.heap d v' → EqAt A s v v' true
  | .none, A, v, v', _, _, h1, h2 => by simp only [ValIs] at h1 h2; subst h1; subst h2; exact EqAt.same _
  | .bool b, A, v, v', _, _, h1, h2 => by simp only [ValIs] at h1 h2; subst h1; subst h2; exact EqAt.same _
  | .val b, A, v, v', _, _, h1, h2 => by simp only [ValIs] at h1 h2; subst h1; subst h2; exact EqAt.same _
  | .int i, A, v, v', _, _, h1, h2 => by
    obtain ⟨t, rfl⟩ := vInt h1; obtain ⟨u, rfl⟩ := vInt h2
    have := EqAt.int_int (A := A) (s := s) i t i u
    simpa using this
  | .str x, A, v, v', _, _, h1, h2 => by
    obtain ⟨t, rfl⟩ := vStr h1; obtain ⟨u, rfl⟩ := vStr h2
    have := EqAt.str_str (A := A) (s := s) x t x u
    simpa using this
  | .flt x, A, v, v', ho, _, _, _ => by simp [PV.ok] at ho
  | .raw vs, A, v, v', _, hu, h1, h2 => by
    obtain ⟨a, rfl, ha⟩ := vRaw h1; obtain ⟨b, rfl, hb⟩ := vRaw h2
    refine eq_refs (eq_raws ha hb rfl (by simp only [PV.deep] at hu; omega) fun j u u' e e' => ?_)
    rw [e] at e'; cases e'; exact EqAt.same _
  | .list l, A, v, v', ho, hu, h1, h2 => by
    obtain ⟨a, vs, rfl, ha, hd⟩ := vList h1; obtain ⟨b, vs', rfl, hb, hd'⟩ := vList h2
    simp only [PV.deep] at hu
    simp only [PV.ok] at ho
    refine eq_refs (eq_raws ha hb (by rw [hd.length, hd'.length]) (by omega) ?_)
    exact eqSames ho (by simp only [] ; omega) hd hd'
theorem eqSames {s : Shared} : ∀ {l : List PV} {A : Around} {vs vs' : List Value}, PV.oks l = true → A.units + PV.deeps l < cLine → ValsAre s.heap l vs → ValsAre s.heap l vs' → ∀ (j : Nat) u u', vs[j]? = some u → vs'[j]? = some u' → EqAt A s u u' true
  | [], A, vs, vs', _, _, h1, h2, j, u, u', e, e' => by simp only [ValsAre] at h1; subst h1; simp at e
  | d :: l, A, vs, vs', ho, hu, h1, h2, j, u, u', e, e' => by
    simp only [ValsAre] at h1 h2
    obtain ⟨v, r, rfl, hv, hr⟩ := h1
    obtain ⟨v', r', rfl, hv', hr'⟩ := h2
    simp only [PV.oks, Bool.and_eq_true] at ho
    simp only [PV.deeps] at hu
    cases j with
    | zero => simp at e e'; subst e; subst e'; exact eqSame ho.1 (by omega) hv hv'
    | succ j => simp at e e'; exact eqSames ho.2 (by omega) hr hr' j u u' e e'
end
open PySem.SeqAt in
theorem cm_eqSame (l : List PV) (ho : PV.oks l = true) (hu : A.units + PV.deeps l + 1 < cLine) : Cm2 w A .Eq (.list l) (.list l) (.bool true) := fun s E v1 v2 h1 h2 => by
  obtain ⟨a, vs, rfl, ha, hd⟩ := vList h1; obtain ⟨b, vs', rfl, hb, hd'⟩ := vList h2
  exact eq_raws ha hb (by rw [hd.length, hd'.length]) (by omega) (eqSames ho (by simp only [] ; omega) hd hd') pr w E _ (gBool s true)
open PySem.SeqAt in
theorem cm_neSame (l : List PV) (ho : PV.oks l = true) (hu : A.units + PV.deeps l + 1 < cLine) : Cm2 w A .NotEq (.list l) (.list l) (.bool false) := fun s E v1 v2 h1 h2 => by
  obtain ⟨a, vs, rfl, ha, hd⟩ := vList h1; obtain ⟨b, vs', rfl, hb, hd'⟩ := vList h2
  exact ne_raws ha hb (by rw [hd.length, hd'.length]) (by omega) (eqSames ho (by simp only [] ; omega) hd hd') pr w E _ (gBool s false)
end
end Mine

namespace Mine
open PySem

/-! frames -/
def lookV (env : Env) (m cm : Str → Option Value) (x : Str) : Option Value := match env.kindOf x with
  | some .local => m x
  | some .cell => cm x
  | _ => Option.none
def upd {α : Type} (γ : Str → Option α) (x : Str) (d : α) : Str → Option α := fun y => if y = x then some d else γ y

structure EnvOk (h₀ : Heap) (env : Env) : Prop where
  kind : env.scope.kind = .function
  apart : env.cells.Pairwise fun x y => x.2 ≠ y.2
  off : ∀ n c, (n, c) ∈ env.cells → c ≠ env.locals
  freshL : h₀.get? env.locals = Option.none
  freshC : ∀ n c, (n, c) ∈ env.cells → h₀.get? c = Option.none

/-- what stood stands, but for some addresses -/
def Grd (h₀ : Heap) (X : Addr → Prop) (h : Heap) : Prop := ∀ b o, ¬ X b → h₀.get? b = some o → h.get? b = some o
theorem Grd.ext {h₀ h h' : Heap} {X : Addr → Prop} (g : Grd h₀ X h) (x : Ext h h') : Grd h₀ X h' := fun b o hb e => x _ _ (g b o hb e)
theorem Grd.off {h₀ h h' : Heap} {X P : Addr → Prop} (g : Grd h₀ X h) (x : ExtOff P h h') (hn : ∀ b, P b → h₀.get? b = Option.none) : Grd h₀ X h' := fun b o hb e =>
  x _ _ (fun hp => by rw [hn b hp] at e; cases e) (g b o hb e)

structure Fm (h₀ : Heap) (X : Addr → Prop) (env : Env) (γ : Str → Option PV) (h : Heap) : Prop where
  g : Grd h₀ X h
  ex : ∃ m cm, h.Ns env.locals m ∧ (∀ n c, env.cells.lookup n = some c → h.IsCell c (cm n)) ∧ ∀ x d, γ x = some d → ∃ v, lookV env m cm x = some v ∧ ValIs h d v

section
variable {w : World} {A : Around} {env : Env} {h₀ : Heap} {X : Addr → Prop} {γ : Str → Option PV}

theorem fm_sta : Sta (Fm h₀ X env γ) := fun h h' x F => by
  obtain ⟨m, cm, hn, hc, hv⟩ := F.ex
  exact ⟨F.g.ext x, m, cm, hn.keeps x, fun n c e => (hc n c e).keeps x, fun y d e => let ⟨v, h1, h2⟩ := hv y d e; ⟨v, h1, h2.ext x⟩⟩
theorem Fm.weaken {γ' : Str → Option PV} {h : Heap} (F : Fm h₀ X env γ h) (hw : ∀ x d, γ' x = some d → γ x = some d) : Fm h₀ X env γ' h := by
  obtain ⟨m, cm, hn, hc, hv⟩ := F.ex
  exact ⟨F.g, m, cm, hn, hc, fun y d e => hv y d (hw y d e)⟩

theorem noLists_ns {h : Heap} {L : Addr} {m : Str → Option Value} (hn : h.Ns L m) : NoLists (fun b => b = L) h := fun a vs hl e => by
  subst e
  obtain ⟨o, es, ep, ho, hd, _⟩ := hn
  obtain ⟨n, hl⟩ := hl
  rw [ho] at hl; cases hl; cases hd
theorem noLists_cell {h : Heap} {c : Addr} {v : Option Value} (hn : h.IsCell c v) : NoLists (fun b => b = c) h := fun a vs hl e => by
  subst e
  obtain ⟨o, ho, hd⟩ := hn
  obtain ⟨n, hl⟩ := hl
  rw [ho] at hl; cases hl; cases hd
theorem sameBut_off {a : Addr} {h h' : Heap} (x : Heap.SameBut a h h') : ExtOff (fun b => b = a) h h' := fun b o hb e => x.extBut b o hb e

/-- a local name is stored -/
theorem store_local {x : Str} {v : Value} {d : PV} {s : Shared} {Q : Unit → Shared → Prop} {E : Value → Shared → Prop} (ok : EnvOk h₀ env) (F : Fm h₀ X env γ s.heap) (hk : env.kindOf x = some .local) (hv : ValIs s.heap d v)
    (hQ : ∀ h' tk, Fm h₀ X env (upd γ x d) h' → Heap.SameBut env.locals s.heap h' → Q () { s with heap := h', toks := tk }) : wpAny (model pr w) A (storeName env x v) Q E s := by
  obtain ⟨m, cm, hn, hc, hl⟩ := F.ex
  refine wpAny_storeName_local hk hn (fun h' hn' hs' => hQ h' _ ⟨?_, fun y => if y = x then some v else m y, cm, hn', fun n c e => ?_, fun y d' e => ?_⟩ hs') (by rw [ok.kind]; rfl)
  · exact F.g.off (sameBut_off hs') fun b hb => by rw [hb]; exact ok.freshL
  · exact (hc n c e).sameBut hs' (ok.off n c (mem_of_lookup e))
  · have up : ∀ {d : PV} {v : Value}, ValIs s.heap d v → ValIs h' d v := fun z => z.off (sameBut_off hs') (noLists_ns hn)
    unfold upd at e
    by_cases hy : y = x
    · subst hy
      rw [if_pos rfl] at e
      cases e
      exact ⟨v, by unfold lookV; rw [hk]; simp, up hv⟩
    · rw [if_neg hy] at e
      obtain ⟨u, h1, h2⟩ := hl y d' e
      refine ⟨u, ?_, up h2⟩
      have e2 : lookV env (fun z => if z = x then some v else m z) cm y = lookV env m cm y := by unfold lookV; simp only [if_neg hy]
      rw [e2]; exact h1
/-- a name that a cell holds is stored -/
theorem store_cell {x : Str} {c : Addr} {v : Value} {d : PV} {s : Shared} {Q : Unit → Shared → Prop} {E : Value → Shared → Prop} (ok : EnvOk h₀ env) (F : Fm h₀ X env γ s.heap) (hk : env.kindOf x = some .cell) (hc : env.cells.lookup x = some c) (hv : ValIs s.heap d v)
    (hQ : ∀ h' tk, Fm h₀ X env (upd γ x d) h' → Q () { s with heap := h', toks := tk }) : wpAny (model pr w) A (storeName env x v) Q E s := by
  obtain ⟨m, cm, hn, hcs, hl⟩ := F.ex
  refine wpAny_storeName_cell ok.kind hk hc (hcs x c hc) fun h' hc' hs' => hQ h' s.toks ⟨?_, m, fun y => if y = x then some v else cm y, hn.sameBut hs' (Ne.symm (ok.off x c (mem_of_lookup hc))), fun n c' e => ?_, fun y d' e => ?_⟩
  · exact F.g.off (sameBut_off hs') fun b hb => by rw [hb]; exact ok.freshC x c (mem_of_lookup hc)
  · by_cases hy : n = x
    · subst hy
      rw [hc] at e; cases e
      simpa using hc'
    · simp only [if_neg hy]
      exact (hcs n c' e).sameBut hs' fun z => hy (name_of_addr ok.apart (mem_of_lookup e) (z ▸ mem_of_lookup hc))
  · have up : ∀ {d : PV} {v : Value}, ValIs s.heap d v → ValIs h' d v := fun z => z.off (sameBut_off hs') (noLists_cell (hcs x c hc))
    unfold upd at e
    by_cases hy : y = x
    · subst hy
      rw [if_pos rfl] at e
      cases e
      exact ⟨v, by unfold lookV; rw [hk]; simp, up hv⟩
    · rw [if_neg hy] at e
      obtain ⟨u, h1, h2⟩ := hl y d' e
      refine ⟨u, ?_, up h2⟩
      have e2 : lookV env m (fun z => if z = x then some v else cm z) y = lookV env m cm y := by unfold lookV; simp only [if_neg hy]
      rw [e2]; exact h1

theorem ev_local {P : Heap → Prop} {x : Str} {pos : Pos} {d : PV} (hF : ∀ h, P h → Fm h₀ X env γ h) (hkd : env.scope.kind = .function) (hk : env.kindOf x = some .local) (hx : γ x = some d) (hd : (x == ("__debug__" : Str)) = false := by decide) :
    Ev w A env P (.Name x pos) d := fun s E hp => by
  obtain ⟨m, cm, hn, hc, hv⟩ := (hF _ hp).ex
  obtain ⟨v, h1, h2⟩ := hv x d hx
  unfold lookV at h1
  rw [hk] at h1
  exact wpAny_Name (wpAny_loadName_local hkd hk hn h1 ⟨h2, kRefl s⟩) hd
theorem ev_cell {P : Heap → Prop} {x : Str} {pos : Pos} {d : PV} {c : Addr} (hF : ∀ h, P h → Fm h₀ X env γ h) (hkd : env.scope.kind = .function) (hk : env.kindOf x = some .cell) (hc : env.cells.lookup x = some c) (hx : γ x = some d) (hd : (x == ("__debug__" : Str)) = false := by decide) :
    Ev w A env P (.Name x pos) d := fun s E hp => by
  obtain ⟨m, cm, hn, hcs, hv⟩ := (hF _ hp).ex
  obtain ⟨v, h1, h2⟩ := hv x d hx
  unfold lookV at h1
  rw [hk] at h1
  have h1' : cm x = some v := h1
  exact wpAny_Name (wpAny_loadName_cell hkd hk hc (h1' ▸ hcs x c hc) ⟨h2, kRefl s⟩) hd
end
end Mine

namespace Mine
open PySem

/-! the text's defs, by their place -/
def sName : Stmt → Str
  | .FunctionDef n _ _ _ _ _ _ _ _ _ => n
  | _ => Str.ofString ""
def sParams : Stmt → Arguments
  | .FunctionDef _ p _ _ _ _ _ _ _ _ => p
  | _ => default
def sBody : Stmt → List Stmt
  | .FunctionDef _ _ b _ _ _ _ _ _ _ => b
  | _ => []
def sScope : Stmt → Scope
  | .FunctionDef _ _ _ _ _ _ s _ _ _ => s
  | _ => default
def top (i : Nat) : Stmt := pr.main.body.getD i (.Pass ⟨0, 0, 0, 0⟩)
abbrev fdOf (st : Stmt) (pm code doc : Value) : FuncData := Calls.docDef (sName st) (sParams st) (sBody st) (sScope st) pm code doc

def FnAt (mg : Str → Option Value) (h : Heap) (st : Stmt) (a : Addr) : Prop :=
  ∃ o pm code doc, mg (sName st) = some (.ref a) ∧ h.get? a = some o ∧ o.data = .func (fdOf st pm code doc) ∧ h.CodeRec code (sName st)

section
variable {w : World} {A : Around} {env : Env} {P : Heap → Prop}

theorem star_cons {e : Expr} {es : List Expr} (hn : ∀ x p, e ≠ .Starred x p) : starEach (e :: es) env = (false, eval e env) :: starEach es env := by
  cases e <;> first | exact absurd rfl (hn _ _) | rfl
/-- none of the arguments is starred -/
def noStar (es : List Expr) : Bool := es.all fun e => match e with | .Starred .. => false | _ => true
theorem noStar_any : ∀ {es : List Expr} {pos : Pos}, noStar es = true → (backTo pos (starEach es env)).any (·.1) = false
  | [], _, _ => rfl
  | e :: es, pos, h => by
    simp only [noStar, List.all_cons, Bool.and_eq_true] at h
    have hn : ∀ x p, e ≠ .Starred x p := by rintro x p rfl; simp at h
    rw [star_cons hn]
    show (false || (backTo pos (starEach es env)).any (·.1)) = false
    rw [noStar_any (by simpa [noStar] using h.2)]; rfl

theorem args_at {f : Value} {e : Expr} {es : List Expr} {pos : Pos} {ds : List PV} {s : Shared} {E : Value → Shared → Prop} {Q : Args → Shared → Prop} (hn : noStar (e :: es) = true) (h : Evs w A env P (e :: es) ds) (hp : P s.heap)
    (hQ : ∀ vs s', ValsAre s'.heap ds vs → Keeps s s' → Q ⟨vs, []⟩ s') : wpAny (model pr w) A (evalArgs f true (backTo pos (starEach (e :: es) env)) []) Q E s := by
  simp only [noStar, List.all_cons, Bool.and_eq_true] at hn
  have hn' : ∀ x p, e ≠ .Starred x p := by rintro x p rfl; simp at hn
  have key := h s E pos hp
  rw [star_cons hn'] at key ⊢
  exact Calls.evalArgs_plain (wpAny_mono key (fun vs s' g => hQ vs s' g.1 g.2) fun _ _ e => e)

theorem ev_callB {f : Str} {id : String} {p pos : Pos} {e : Expr} {es : List Expr} {ds : List PV} {d : PV} {mg mb : Str → Option Value} (hP : Sta P) (hkd : env.scope.kind = .function) (hk : env.kindOf f = some .globalImplicit)
    (hg : ∀ h, P h → h.Ns env.globals mg) (hb : ∀ h, P h → h.Ns env.builtins mb) (hm : mg f = Option.none) (hv : mb f = some (.builtin id)) (hn : noStar (e :: es) = true) (h : Evs w A env P (e :: es) ds)
    (hc : ∀ (s : Shared) (E : Value → Shared → Prop) vs, P s.heap → ValsAre s.heap ds vs → wpAny (model pr w) A (call (.builtin id) vs) (Good d s) E s) (hd : (f == ("__debug__" : Str)) = false := by decide) :
    Ev w A env P (.Call (.Name f p) (e :: es) [] pos) d := fun s E hp =>
  wpAny_Call_Name_kw (Calls.Name_function_global hkd hk (Calls.loadGlobal_builtin (hg _ hp) hm (hb _ hp) hv
    (Calls.callWith_builtin (noStar_any hn) (args_at hn h hp fun vs s' g k => wpAny_mono (hc s' E vs (hP _ _ (kExt k) hp) g) (fun v s'' q => q.mono k) fun _ _ e => e))) hd)
/-- a built-in that a global name holds -/
theorem ev_callG {f : Str} {id : String} {p pos : Pos} {e : Expr} {es : List Expr} {ds : List PV} {d : PV} {mg : Str → Option Value} (hP : Sta P) (hkd : env.scope.kind = .function) (hk : env.kindOf f = some .globalImplicit)
    (hg : ∀ h, P h → h.Ns env.globals mg) (hv : mg f = some (.builtin id)) (hn : noStar (e :: es) = true) (h : Evs w A env P (e :: es) ds)
    (hc : ∀ (s : Shared) (E : Value → Shared → Prop) vs, P s.heap → ValsAre s.heap ds vs → wpAny (model pr w) A (call (.builtin id) vs) (Good d s) E s) (hd : (f == ("__debug__" : Str)) = false := by decide) :
    Ev w A env P (.Call (.Name f p) (e :: es) [] pos) d := fun s E hp =>
  wpAny_Call_Name_kw (Calls.Name_function_global hkd hk (Calls.loadGlobal_global (hg _ hp) hv
    (Calls.callWith_builtin (noStar_any hn) (args_at hn h hp fun vs s' g k => wpAny_mono (hc s' E vs (hP _ _ (kExt k) hp) g) (fun v s'' q => q.mono k) fun _ _ e => e))) hd)
theorem ev_callT {f : Str} {T : String} {p pos : Pos} {e : Expr} {es : List Expr} {ds : List PV} {d : PV} {mg mb : Str → Option Value} (hP : Sta P) (hkd : env.scope.kind = .function) (hk : env.kindOf f = some .globalImplicit)
    (hg : ∀ h, P h → h.Ns env.globals mg) (hb : ∀ h, P h → h.Ns env.builtins mb) (hm : mg f = Option.none) (hv : mb f = some (.type T)) (hn : noStar (e :: es) = true) (h : Evs w A env P (e :: es) ds)
    (hc : ∀ (s : Shared) (E : Value → Shared → Prop) vs, P s.heap → ValsAre s.heap ds vs → wpAny (model pr w) A (call (.type T) vs) (Good d s) E s) (hd : (f == ("__debug__" : Str)) = false := by decide) :
    Ev w A env P (.Call (.Name f p) (e :: es) [] pos) d := fun s E hp =>
  wpAny_Call_Name_kw (Calls.Name_function_global hkd hk (Calls.loadGlobal_builtin (hg _ hp) hm (hb _ hp) hv
    (PyProof.Rows.callWith_type (noStar_any hn) (args_at hn h hp fun vs s' g k => wpAny_mono (hc s' E vs (hP _ _ (kExt k) hp) g) (fun v s'' q => q.mono k) fun _ _ e => e))) hd)
theorem ev_callF {f : Str} {a : Addr} {fd : FuncData} {p pos : Pos} {e : Expr} {es : List Expr} {ds : List PV} {d : PV} {mg : Str → Option Value} (hP : Sta P) (hkd : env.scope.kind = .function) (hk : env.kindOf f = some .globalImplicit)
    (hg : ∀ h, P h → h.Ns env.globals mg) (hv : mg f = some (.ref a)) (ho : ∀ h, P h → ∃ o, h.get? a = some o ∧ o.data = .func fd) (hn : noStar (e :: es) = true) (h : Evs w A env P (e :: es) ds)
    (hc : ∀ (s : Shared) (E : Value → Shared → Prop) vs, P s.heap → ValsAre s.heap ds vs → wpAny (model pr w) A (call (.ref a) vs) (Good d s) E s) (hd : (f == ("__debug__" : Str)) = false := by decide) :
    Ev w A env P (.Call (.Name f p) (e :: es) [] pos) d := fun s E hp => by
  obtain ⟨o, ho1, ho2⟩ := ho _ hp
  exact wpAny_Call_Name_kw (Calls.Name_function_global hkd hk (Calls.loadGlobal_global (hg _ hp) hv
    (Calls.callWith_function (o := o) (fd := fd) (args_at hn h hp fun vs s' g k => ⟨⟨kExt k _ _ ho1, ho2⟩, wpAny_mono (hc s' E vs (hP _ _ (kExt k) hp) g) (fun v s'' q => q.mono k) fun _ _ e => e⟩))) hd)

/-! a plain def is called -/
def noCells (sc : Scope) : Bool := sc.names.all fun x => x.2 != .cell
def allLocal (sc : Scope) (xs : List Str) : Bool := xs.all fun x => sc.names.lookup x == some .local
theorem call_fn {s : Shared} {E : Value → Shared → Prop} {Q : Value → Shared → Prop} {st : Stmt} {a : Addr} {o : Obj} {pm code doc : Value} {vs : List Value} {binds : List (Str × Value)} {γ : Str → Option PV}
    (ho : s.heap.get? a = some o) (hd : o.data = .func (fdOf st pm code doc)) (hcd : s.heap.CodeRec code (sName st)) (hlim : s.heap.NoLimit) (hroom : A.depth < recursionLimit)
    (hbind : bindArgs (fdOf st pm code doc) ⟨vs, []⟩ = pure binds) (hnc : noCells (sScope st) = true) (hal : allLocal (sScope st) (binds.map (·.1)) = true)
    (hk : (sScope st).kind = .function) (hco : (sScope st).isCoroutine = false) (hgen : (sScope st).isGenerator = false)
    (hγ : ∀ x d, γ x = some d → (sScope st).names.lookup x = some .local ∧ ∃ v, binds.reverse.lookup x = some v ∧ ValIs s.heap d v)
    (h : ∀ h₁ tk E', EnvOk s.heap (callEnv (fdOf st pm code doc) s.heap.objs.size a) → Fm s.heap (fun _ => False) (callEnv (fdOf st pm code doc) s.heap.objs.size a) γ h₁ →
      wpAny (model pr w) (A.deeper (callEnv (fdOf st pm code doc) s.heap.objs.size a)) (execs (sBody st) (callEnv (fdOf st pm code doc) s.heap.objs.size a))
        (fun f s' => Q (match f with | .ret v => v | _ => .none) s') E' { s with heap := h₁, toks := tk }) :
    wpAny (model pr w) A (call (.ref a) vs) Q E s := by
  refine wpAny_call (codeAny_call_def hroom ho hd hlim hcd rfl (BindsTo.of_eq hbind) ?_ ?_ (fun h₁ hns hkp => ?_) hco hgen hk)
  · intro x hx
    have := List.all_eq_true.mp hnc x hx
    simpa using this
  · intro x hx
    have := List.all_eq_true.mp hal x.1 (List.mem_map_of_mem hx)
    show (sScope st).names.lookup x.1 = some .local
    simpa using this
  · have fresh : s.heap.get? s.heap.objs.size = Option.none := by
      cases e : s.heap.get? s.heap.objs.size with
      | none => rfl
      | some o' => exact absurd (Heap.lt_size e) (Nat.lt_irrefl _)
    refine wpAny_mono (h h₁ _ _ ⟨hk, ?_, ?_, fresh, ?_⟩ ⟨fun b o' _ e => hkp b o' e, _, fun _ => Option.none, hns, fun n c e => ?_, fun x d e => ?_⟩) (fun f s' q => q) fun _ _ e => e
    · exact List.Pairwise.nil
    · intro n c hm; cases hm
    · intro n c hm; cases hm
    · cases e
    · obtain ⟨h1, v, h2, h3⟩ := hγ x d e
      refine ⟨v, ?_, h3.ext hkp⟩
      unfold lookV
      have : (callEnv (fdOf st pm code doc) s.heap.objs.size a).kindOf x = some .local := h1
      rw [this]; exact h2
end
end Mine

namespace Mine
open PySem

/-- how two texts stand -/
def scI (x y : Str) : Int := PyProof.Rows.b2i (decide (y.cps.toList < x.cps.toList)) - PyProof.Rows.b2i (decide (x.cps.toList < y.cps.toList))

section
variable {w : World} {A : Around}
theorem cm_gtS (x y : Str) : Cm2 w A .Gt (.str x) (.str y) (.bool (decide (y.cps.toList < x.cps.toList))) := fun s E v1 v2 h1 h2 => by
  obtain ⟨t, rfl⟩ := vStr h1; obtain ⟨u, rfl⟩ := vStr h2
  exact P.gt_str (gBool ..)
theorem cm_ltS (x y : Str) : Cm2 w A .Lt (.str x) (.str y) (.bool (decide (x.cps.toList < y.cps.toList))) := fun s E v1 v2 h1 h2 => by
  obtain ⟨t, rfl⟩ := vStr h1; obtain ⟨u, rfl⟩ := vStr h2
  exact P.lt_str (gBool ..)
theorem op_subB (p q : Bool) : Op2 w A .Sub (.bool p) (.bool q) (.int (PyProof.Rows.b2i p - PyProof.Rows.b2i q)) := fun s E v1 v2 h1 h2 => by
  have e1 := vBool h1; have e2 := vBool h2
  subst e1; subst e2
  exact PyProof.Rows.sub_bool (gInt ..)

theorem kEnd {s : Shared} {env : Env} {γ : Str → Option PV} {h : Heap} {tk : Nat} (F : Fm s.heap (fun _ => False) env γ h) : Keeps s { s with heap := h, toks := tk } := kHeap s h tk fun b o e => F.g b o id e
theorem kFm {s s' : Shared} {h : Heap} {tk : Nat} (x : Ext s.heap h) (k : Keeps { s with heap := h, toks := tk } s') : Keeps s s' := by
  obtain ⟨h', t', rfl, k'⟩ := k
  exact ⟨h', t', rfl, fun _ _ e => k' _ _ (x _ _ e)⟩

theorem strcoll_ok {s : Shared} {E : Value → Shared → Prop} {mg : Str → Option Value} {a : Addr} {vs : List Value} {x y : Str} (fa : FnAt mg s.heap (top 5) a) (hlim : s.heap.NoLimit) (hroom : A.depth < recursionLimit)
    (hv : ValsAre s.heap [.str x, .str y] vs) : wpAny (model pr w) A (call (.ref a) vs) (Good (.int (scI x y)) s) E s := by
  obtain ⟨o, pm, code, doc, hm, ho, hd, hc⟩ := fa
  simp only [ValsAre] at hv
  obtain ⟨v1, _, rfl, h1, v2, _, rfl, h2, rfl⟩ := hv
  refine call_fn (γ := upd (upd (fun _ => Option.none) (Str.ofString "a") (.str x)) (Str.ofString "b") (.str y)) (binds := [(Str.ofString "a", v1), (Str.ofString "b", v2)]) ho hd hc hlim hroom rfl rfl rfl rfl rfl rfl (fun z d e => ?_) (fun h₁ tk E' ok F => ?_)
  · unfold upd at e
    by_cases hb : z = Str.ofString "b"
    · subst hb; rw [if_pos rfl] at e; cases e; exact ⟨rfl, v2, rfl, h2⟩
    · rw [if_neg hb] at e
      by_cases ha : z = Str.ofString "a"
      · subst ha; rw [if_pos rfl] at e; cases e; exact ⟨rfl, v1, rfl, h1⟩
      · rw [if_neg ha] at e; cases e
  · refine wpAny_execs_cons (wpAny_Return_some ?_)
    refine Ev.at (P := Fm s.heap (fun _ => False) _ _) (Ev.bin fm_sta (Ev.cmp fm_sta (ev_local (fun _ h => h) rfl rfl rfl) (ev_local (fun _ h => h) rfl rfl rfl) (cm_gtS x y)) (Ev.cmp fm_sta (ev_local (fun _ h => h) rfl rfl rfl) (ev_local (fun _ h => h) rfl rfl rfl) (cm_ltS x y)) (op_subB _ _)) F fun v s' g k => ?_
    exact ⟨g, kFm (kExt (kEnd (tk := tk) F)) k⟩
end
end Mine

namespace Mine
open PySem

section
variable {w : World} {A : Around} {env : Env} {h₀ : Heap} {X : Addr → Prop} {γ : Str → Option PV} {P : Heap → Prop} {s : Shared} {E : Value → Shared → Prop} {Q : Flow → Shared → Prop} {rest : List Stmt}

theorem xs_assign {x : Str} {p pos : Pos} {value : Expr} {d : PV} (ok : EnvOk h₀ env) (F : Fm h₀ X env γ s.heap) (hv : Ev w A env (Fm h₀ X env γ) value d) (hk : env.kindOf x = some .local)
    (h : ∀ h' tk, Fm h₀ X env (upd γ x d) h' → wpAny (model pr w) A (execs rest env) Q E { s with heap := h', toks := tk })
    (hs : swapsWith value (some (.Name x p)) pos.line env = pure false := by rfl) :
    wpAny (model pr w) A (execs (.Assign [.Name x p] value pos :: rest) env) Q E s :=
  wpAny_execs_cons (wpAny_Assign_Name (hv.at F fun v s' g k => by
    obtain ⟨h1, t1, rfl, ke⟩ := k
    exact store_local ok (fm_sta _ _ ke F) hk g fun h' tk F' _ => h h' tk F') hs)
theorem xs_assignC {x : Str} {c : Addr} {p pos : Pos} {value : Expr} {d : PV} (ok : EnvOk h₀ env) (F : Fm h₀ X env γ s.heap) (hv : Ev w A env (Fm h₀ X env γ) value d) (hk : env.kindOf x = some .cell) (hc : env.cells.lookup x = some c)
    (h : ∀ h' tk, Fm h₀ X env (upd γ x d) h' → wpAny (model pr w) A (execs rest env) Q E { s with heap := h', toks := tk })
    (hs : swapsWith value (some (.Name x p)) pos.line env = pure false := by rfl) :
    wpAny (model pr w) A (execs (.Assign [.Name x p] value pos :: rest) env) Q E s :=
  wpAny_execs_cons (wpAny_Assign_Name (hv.at F fun v s' g k => by
    obtain ⟨h1, t1, rfl, ke⟩ := k
    exact store_cell ok (fm_sta _ _ ke F) hk hc g fun h' tk F' => h h' tk F') hs)
theorem xs_if_no {test : Expr} {body : List Stmt} {pos : Pos} (hp : P s.heap) (ht : Tr w A env P test false)
    (h : ∀ h' tk, Ext s.heap h' → wpAny (model pr w) A (execs rest env) Q E { s with heap := h', toks := tk }) : wpAny (model pr w) A (execs (.If test body [] pos :: rest) env) Q E s :=
  wpAny_execs_cons (wpAny_If (ht.at hp fun s' k => by
    obtain ⟨h1, t1, rfl, ke⟩ := k
    simp only [Bool.false_eq_true, if_false]
    exact wpAny_execs_nil (h h1 t1 ke)))
theorem xs_if_yes {test : Expr} {body orelse : List Stmt} {pos : Pos} (hp : P s.heap) (ht : Tr w A env P test true)
    (h : ∀ h' tk, Ext s.heap h' → wpAny (model pr w) A (execs body env) (fun f s' => match f with | .next => wpAny (model pr w) A (execs rest env) Q E s' | f => Q f s') E { s with heap := h', toks := tk }) :
    wpAny (model pr w) A (execs (.If test body orelse pos :: rest) env) Q E s :=
  wpAny_execs_cons (wpAny_If (ht.at hp fun s' k => by
    obtain ⟨h1, t1, rfl, ke⟩ := k
    simp only [if_true]
    exact h h1 t1 ke))
theorem xs_return {e : Expr} {pos : Pos} {d : PV} (hp : P s.heap) (hv : Ev w A env P e d)
    (h : ∀ v h' tk, Ext s.heap h' → ValIs h' d v → Q (.ret v) { s with heap := h', toks := tk }) : wpAny (model pr w) A (execs (.Return (some e) pos :: rest) env) Q E s :=
  wpAny_execs_cons (wpAny_Return_some (hv.at hp fun v s' g k => by
    obtain ⟨h1, t1, rfl, ke⟩ := k
    exact h v h1 t1 ke g))

/-! small ints -/
theorem mulL {a b : Int} (h1 : -(2 ^ 64) < a) (h2 : a < 2 ^ 64) : IntMulOk a b := IntMulOk.of_left (intBits_le_64 h1 h2)
theorem mulR {a b : Int} (h1 : -(2 ^ 64) < b) (h2 : b < 2 ^ 64) : IntMulOk a b := IntMulOk.of_right (intBits_le_64 h1 h2)
theorem op_fdiv (a b : Int) (hb : b ≠ 0) (hs : b.natAbs < 1073741824) : Op2 w A .FloorDiv (.int a) (.int b) (.int (a.fdiv b)) := fun s E v1 v2 h1 h2 => by
  obtain ⟨t, rfl⟩ := vInt h1; obtain ⟨u, rfl⟩ := vInt h2
  exact PyProof.Rows.floordiv_int hb (gInt ..) (Or.inl (PyProof.noPylong_small hs))
theorem Tr.congr {e : Expr} {b b' : Bool} (h : Tr w A env P e b) (hb : b = b') : Tr w A env P e b' := hb ▸ h
theorem Ev.congr {e : Expr} {d d' : PV} (h : Ev w A env P e d) (hb : d = d') : Ev w A env P e d' := hb ▸ h
theorem Ev.imp {P' : Heap → Prop} {e : Expr} {d : PV} (h : Ev w A env P e d) (hi : ∀ x, P' x → P x) : Ev w A env P' e d := fun s E hp => h s E (hi _ hp)

/-! what the ground bears -/
structure Gd (mg mb : Str → Option Value) (h : Heap) : Prop where
  g : h.Ns mainGlobals mg
  b : h.Ns builtinsNs mb
  nolimit : h.NoLimit
theorem Gd.ext {mg mb : Str → Option Value} {h h' : Heap} (G : Gd mg mb h) (x : Ext h h') : Gd mg mb h' := ⟨G.g.keeps x, G.b.keeps x, G.nolimit.keeps x⟩
theorem FnAt.ext {mg : Str → Option Value} {h h' : Heap} {st : Stmt} {a : Addr} (f : FnAt mg h st a) (x : Ext h h') : FnAt mg h' st a := by
  obtain ⟨o, pm, code, doc, h1, h2, h3, h4⟩ := f
  exact ⟨o, pm, code, doc, h1, x _ _ h2, h3, h4.keeps x⟩
theorem Fm.toExt {h : Heap} (F : Fm h₀ (fun _ => False) env γ h) : Ext h₀ h := fun b o e => F.g b o id e
end

/-! Euclid -/
def eu : Nat → Int → Int → Int → Int
  | 0, _, _, _ => 0
  | n + 1, st, ri, sh => if st = 0 then 0 else (st * st + ri * ri + sh * sh - 3 * st * ri - ri * eu n (ri.fmod st) st sh).fdiv st

theorem euclid_ok {w : World} {mg mb : Str → Option Value} {a : Addr} {sh : Int} (hsh : 0 ≤ sh ∧ sh ≤ 100) : ∀ (n : Nat) {A : Around} {s : Shared} {E : Value → Shared → Prop} {vs : List Value} {st ri : Int},
    FnAt mg s.heap (top 12) a → Gd mg mb s.heap → A.depth + n < recursionLimit → 0 ≤ st → st < n → st ≤ 100 → 0 ≤ ri → ri ≤ 100 → ValsAre s.heap [.int st, .int ri, .int sh] vs →
    wpAny (model pr w) A (call (.ref a) vs) (Good (.int (eu n st ri sh)) s) E s
  | 0, A, s, E, vs, st, ri, _, _, _, h0, h1, _, _, _, _ => by omega
  | n + 1, A, s, E, vs, st, ri, fa, G, hroom, h0, h1, h100, hr0, hr1, hv => by
    obtain ⟨o, pm, code, doc, hm, ho, hd, hc⟩ := id fa
    simp only [ValsAre] at hv
    obtain ⟨v1, _, rfl, q1, v2, _, rfl, q2, v3, _, rfl, q3, rfl⟩ := hv
    refine call_fn (γ := upd (upd (upd (fun _ => Option.none) (Str.ofString "step") (.int st)) (Str.ofString "ring") (.int ri)) (Str.ofString "shared") (.int sh))
      (binds := [(Str.ofString "step", v1), (Str.ofString "ring", v2), (Str.ofString "shared", v3)]) ho hd hc G.nolimit (by omega) rfl rfl rfl rfl rfl rfl (fun z d e => ?_) (fun h₁ tk E' ok F => ?_)
    · unfold upd at e
      by_cases hb : z = Str.ofString "shared"
      · subst hb; rw [if_pos rfl] at e; cases e; exact ⟨rfl, v3, rfl, q3⟩
      · rw [if_neg hb] at e
        by_cases hc' : z = Str.ofString "ring"
        · subst hc'; rw [if_pos rfl] at e; cases e; exact ⟨rfl, v2, rfl, q2⟩
        · rw [if_neg hc'] at e
          by_cases ha : z = Str.ofString "step"
          · subst ha; rw [if_pos rfl] at e; cases e; exact ⟨rfl, v1, rfl, q1⟩
          · rw [if_neg ha] at e; cases e
    · by_cases hz : st = 0
      · subst hz
        refine xs_if_yes F (Tr.cmp fm_sta (ev_local (fun _ h => h) rfl rfl rfl) eI (cm_eq 0 0)) fun h' t' x => ?_
        refine xs_return (P := fun _ => True) trivial eI fun v h2 t2 x2 g => ?_
        have e : eu (n + 1) 0 ri sh = 0 := by simp [eu]
        rw [e]
        exact ⟨g, kHeap s h2 t2 (F.toExt.trans (x.trans x2))⟩
      · refine xs_if_no F ((Tr.cmp fm_sta (ev_local (fun _ h => h) rfl rfl rfl) eI (cm_eq st 0)).congr (by simpa using hz)) fun h' t' x => ?_
        have F1 := fm_sta _ _ x F
        refine xs_assign (d := .int (st * st + ri * ri + sh * sh - 3 * st * ri)) ok F1
          (Ev.bin fm_sta (Ev.bin fm_sta (Ev.bin fm_sta (Ev.bin fm_sta (ev_local (fun _ h => h) rfl rfl rfl) (ev_local (fun _ h => h) rfl rfl rfl) (op_mul _ _ (mulL (by omega) (by omega))))
            (Ev.bin fm_sta (ev_local (fun _ h => h) rfl rfl rfl) (ev_local (fun _ h => h) rfl rfl rfl) (op_mul _ _ (mulL (by omega) (by omega)))) (op_add _ _))
            (Ev.bin fm_sta (ev_local (fun _ h => h) rfl rfl rfl) (ev_local (fun _ h => h) rfl rfl rfl) (op_mul _ _ (mulL (by omega) (by omega)))) (op_add _ _))
            (Ev.bin fm_sta (Ev.bin fm_sta eI (ev_local (fun _ h => h) rfl rfl rfl) (op_mul _ _ (mulL (by omega) (by omega)))) (ev_local (fun _ h => h) rfl rfl rfl) (op_mul _ _ (mulL (by omega) (by omega)))) (op_sub _ _))
          rfl fun h2 t2 F2 => ?_
        have hmod : 0 ≤ ri.fmod st ∧ ri.fmod st < st := by
          have := Int.fmod_nonneg hr0 h0
          exact ⟨this, Int.fmod_lt_of_pos ri (by omega)⟩
        refine xs_return F2 (d := .int (eu (n + 1) st ri sh)) ?_ fun v h3 t3 x3 g => ⟨g, kHeap s h3 t3 (F2.toExt.trans x3)⟩
        refine Ev.congr (Ev.bin fm_sta (Ev.bin fm_sta (ev_local (fun _ h => h) rfl rfl rfl) (Ev.bin fm_sta (ev_local (fun _ h => h) rfl rfl rfl)
          (ev_callF (mg := mg) (fd := fdOf (top 12) pm code doc) fm_sta rfl rfl (fun _ F => (G.ext F.toExt).g) hm (fun _ F => ⟨o, F.toExt _ _ ho, hd⟩) rfl
            (Evs.cons fm_sta (Ev.bin fm_sta (ev_local (fun _ h => h) rfl rfl rfl) (ev_local (fun _ h => h) rfl rfl rfl) (op_mod ri st (by omega))) (Evs.cons fm_sta (ev_local (fun _ h => h) rfl rfl rfl) (Evs.cons fm_sta (ev_local (fun _ h => h) rfl rfl rfl) Evs.nil)))
            fun s4 E4 vs4 F4 hv4 => euclid_ok hsh n (fa.ext F4.toExt) (G.ext F4.toExt) (by simp only [Around.deeper]; omega) hmod.1 (by omega) (by omega) h0 h100 hv4)
          (op_mul _ _ (mulL (by omega) (by omega)))) (op_sub _ _)) (ev_local (fun _ h => h) rfl rfl rfl) (op_fdiv _ st hz (by omega))) ?_
        simp [eu, hz]
end Mine

namespace Mine
open PySem PySem.W.X

section
variable {w : World} {A : Around} {c : Code} {fs : List Frame} {s : Shared} {P : End → Shared → Prop} {env : Env} {K : Flow → Sem Fin} {H : Value → Sem Fin} {gd : Bool → Bool} {lv : List Value → List Value}

theorem sx_wrap {α : Type} {m : Sem α} {K : α → Sem Fin} {H : Value → Sem Fin} {gd : Bool → Bool} {lv : List Value → List Value} (h : wpAny (model pr w) (A.over c fs) m (fun a s' => SegX (model pr w) A c (K a) fs s' P) (fun x s' => SegX (model pr w) A c (H x) fs s' P) s) :
    SegX (model pr w) A c (m.wrap K H gd lv) fs s P := by
  rintro Γ p rfl hΓ
  obtain ⟨e, s', hr, hq⟩ := runs_wrap_of_wp (Φ := fun e s' => e.quiet = true ∧ P e s') K H gd lv m (h (Γ.over fs) p (hΓ.over fs)) (fun a p' s' h' => h' Γ p' rfl hΓ) (fun x p' s' h' => h' Γ p' rfl hΓ)
  exact ⟨e, s', hr, hq⟩
theorem sx_bw {α β : Type} {m : Sem α} {K : α → Sem β} {K' : β → Sem Fin} {H' : Value → Sem Fin} {gd : Bool → Bool} {lv : List Value → List Value}
    (h : wpAny (model pr w) (A.over c fs) m (fun a s' => SegX (model pr w) A c ((K a).wrap K' H' gd lv) fs s' P) (fun x s' => SegX (model pr w) A c (H' x) fs s' P) s) : SegX (model pr w) A c ((m >>= K).wrap K' H' gd lv) fs s P := by
  rw [Sem.bind_eq_wrap', Sem.wrap_wrap]; exact sx_wrap h
theorem sx_at {p' : Pos} {k : Unit → Sem Fin} (h : SegX (model pr w) A c (k ()) fs s P) : SegX (model pr w) A c (.at p' k) fs s P :=
  sx_wrap (m := standAt p') (K := k) (H := .raise) (gd := id) (lv := id) (wpAny_standAt h)
theorem sx_point {l : List Value} {k : Unit → Sem Fin} (h : SegX (model pr w) A c (k ()) fs s P) : SegX (model pr w) A c (.point l k) fs s P :=
  sx_wrap (m := point) (K := k) (H := .raise) (gd := id) (lv := fun _ => l) (wpAny_point h)
theorem sx_nil (h : SegX (model pr w) A c (K .next) fs s P) : SegX (model pr w) A c ((execs [] env).wrap K H gd lv) fs s P := h
theorem sx_cons {st : Stmt} {rest : List Stmt} (h : SegX (model pr w) A c ((exec st env).wrap (fun f => match f with | .next => (execs rest env).wrap K H gd lv | f => K f) H gd lv) fs s P) :
    SegX (model pr w) A c ((execs (st :: rest) env).wrap K H gd lv) fs s P := by rw [execs_cons_wrap]; exact h
theorem sx_If {test : Expr} {body orelse : List Stmt} {pos : Pos} (h : wpAny (model pr w) (A.over c fs) (isTrue test env (eval test env)) (fun b s' => SegX (model pr w) A c ((if b = true then execs body env else execs orelse env).wrap K H gd lv) fs s' P) (fun x s' => SegX (model pr w) A c (H x) fs s' P) s) :
    SegX (model pr w) A c ((exec (.If test body orelse pos) env).wrap K H gd lv) fs s P := by
  rw [exec_If]
  refine sx_bw (wpAny_standAt ?_)
  exact sx_bw h
theorem sx_Yield {e : Expr} {ypos pos : Pos} (hfs : splitAtGen fs = none) (hgd : gd false = false) (hfg : fs.any Frame.guarded = false) (hco : env.scope.isCoroutine = false) (hi : interactive env = false)
    (h : wpAny (model pr w) (A.over c fs) (eval e env) (fun v s' => ∀ p l k, k (.send .none) = K .next → P (.susp v false l k c p fs) s') (fun x s' => SegX (model pr w) A c (H x) fs s' P) s) :
    SegX (model pr w) A c ((exec (.Expr (.Yield (some e) ypos) pos) env).wrap K H gd lv) fs s P := by
  rw [exec_Expr env _ pos hi rfl]
  refine sx_bw (wpAny_standAt ?_)
  have ey : eval (.Yield (some e) ypos) env = (eval e env >>= fun v => (standAt ypos >>= fun _ => yieldOut env v)) := rfl
  rw [ey]
  have hy : ∀ v, yieldOut env v = yieldValue v := fun v => by simp only [yieldOut, hco, Bool.false_eq_true, if_false]
  simp only [hy]
  rw [Sem.bind_eq_wrap', Sem.bind_eq_wrap', Sem.wrap_wrap, Sem.wrap_wrap]
  refine sx_wrap (wpAny_mono h (fun v s' h' => ?_) fun _ _ x => x)
  refine sx_at ?_
  show SegX (model pr w) A c (.yield v (gd false) _ _) fs s' P
  rw [hgd]
  refine s_yield pr w A c fs P s' v _ _ hfs hfg fun p => h' p _ _ ?_
  rfl
/-- how a loop's end goes on -/
abbrev loopK (env : Env) (K : Flow → Sem Fin) (H : Value → Sem Fin) (gd : Bool → Bool) (lv : List Value → List Value) : Result → Sem Fin := fun r =>
  ((match r with | .ok f => (.pure f : Sem Flow) | .error e => .raise e).onRaise fun (x : Value) => do
        if (← field x 1) == Value.none then unsupported "frame.own-activation:exception-without-traceback"
        setFlight x env.frame).wrap K H gd lv
theorem sx_While {test : Expr} {body orelse : List Stmt} {pos : Pos}
    (h : ∀ p, SegX (model pr w) A (.whileLoop test body orelse env) ((model pr w).den (.whileLoop test body orelse env)) (.ret (loopK env K H gd lv) none (gd false) (lv []) c p [] :: fs) s P) :
    SegX (model pr w) A c ((exec (.While test body orelse pos) env).wrap K H gd lv) fs s P :=
  sx_at (s_call pr w A c fs P s _ _ _ _ _ h)
theorem sx_For {target iter : Expr} {body orelse : List Stmt} {pos : Pos}
    (h : wpAny (model pr w) (A.over c fs) (eval iter env) (fun x s₁ => wpAny (model pr w) (A.over c fs) (pyIter x) (fun it s₂ => ∀ p, SegX (model pr w) A (.forLoop target it body orelse env) ((model pr w).den (.forLoop target it body orelse env)) (.ret (loopK env K H gd lv) none (gd false) (lv []) c p [] :: fs) s₂ P)
      (fun x s' => SegX (model pr w) A c (H x) fs s' P) s₁) (fun x s' => SegX (model pr w) A c (H x) fs s' P) s)
    (hs : ∀ x, foldedSetIterable iter env x = pure x := by intro _; rfl) :
    SegX (model pr w) A c ((exec (.For target iter body orelse pos) env).wrap K H gd lv) fs s P := by
  rw [exec_For]
  refine sx_bw (wpAny_standAt ?_)
  refine sx_bw (wpAny_mono h (fun x s₁ h₁ => ?_) fun _ _ e => e)
  refine sx_bw (wpAny_of_eq (hs x) ?_)
  refine sx_bw (wpAny_standAt ?_)
  refine sx_bw (wpAny_holding (wpAny_mono h₁ (fun it s₂ h₂ => ?_) fun _ _ e => e))
  exact s_call pr w A c fs P s₂ _ _ _ _ _ h₂
/-- how a raise in a loop's turn goes on -/
abbrev turnH (env : Env) : Value → Sem Fin := fun e => (do noteFrame e env; theTreesLotGoes e : Sem Unit).wrap (fun _ => .raise e) .raise id id
abbrev turnK (c : Code) : Flow → Sem Fin := fun f => match f with
    | .next | .cont => .pure (.again c)
    | .brk => .pure (.done .next)
    | .ret v => .pure (.done (.ret v))
theorem sx_whileLoop {test : Expr} {body orelse : List Stmt}
    (h : wpAny (model pr w) (A.over (.whileLoop test body orelse env) fs) (isTrue test env (eval test env)) (fun b s' => b = true ∧
          SegX (model pr w) A (.whileLoop test body orelse env) ((execs body env).wrap (turnK (.whileLoop test body orelse env)) (turnH env) id id) fs s' P)
      (fun _ _ => False) s) :
    SegX (model pr w) A (.whileLoop test body orelse env) ((model pr w).den (.whileLoop test body orelse env)) fs s P := by
  show SegX _ A _ ((whileTurn test body orelse env).onRaise (fun x => do noteFrame x env; theTreesLotGoes x)) fs s P
  unfold whileTurn
  rw [Sem.onRaise_eq_wrap]
  refine sx_bw (wpAny_mono h (fun b s' hb => ?_) fun x s' hx => hx.elim)
  obtain ⟨rfl, hb⟩ := hb
  rw [if_pos rfl, Sem.bind_eq_wrap', Sem.wrap_wrap]
  rw [Sem.wrap_congr (execs body env) _ _ (K' := turnK (.whileLoop test body orelse env)) (H' := turnH env)
        (fun f => by cases f <;> rfl) (fun e => by first | exact Sem.bind_eq_wrap _ _ | (show (do noteFrame e env; theTreesLotGoes e : Sem Unit).bind (fun _ => .raise e) = _; rw [Sem.bind_eq_wrap]))]
  exact hb
theorem sx_forLoop {target : Expr} {it : Value} {body orelse : List Stmt}
    (h : wpAny (model pr w) (A.over (.forLoop target it body orelse env) fs) (pyNext it) (fun r s₁ => match r with
        | none => SegX (model pr w) A (.block orelse env) ((model pr w).den (.block orelse env)) fs s₁ P
        | some v => wpAny (model pr w) (A.over (.forLoop target it body orelse env) fs) (assign target env v) (fun _ s' => SegX (model pr w) A (.forLoop target it body orelse env) ((execs body env).wrap (turnK (.forLoop target it body orelse env)) (turnH env) id id) fs s' P) (fun _ _ => False) s₁)
      (fun _ _ => False) s) (ht : ∀ v, letOwnedTupleGo target it v = pure () := by intro _; rfl) :
    SegX (model pr w) A (.forLoop target it body orelse env) ((model pr w).den (.forLoop target it body orelse env)) fs s P := by
  show SegX _ A _ ((forTurn target it body orelse env).onRaise (fun x => do noteFrame x env; theTreesLotGoes x)) fs s P
  unfold forTurn
  rw [Sem.onRaise_eq_wrap]
  refine sx_bw (wpAny_standAt ?_)
  refine sx_bw (wpAny_onRaise (wpAny_mono h (fun r s' hb => ?_) fun x s' hx => hx.elim))
  cases r with
  | none => exact s_again pr w A _ fs P s' _ rfl hb
  | some v =>
    refine sx_bw (wpAny_of_eq (ht v) ?_)
    refine sx_bw (wpAny_mono hb (fun _ s₂ h₂ => ?_) fun x s' hx => hx.elim)
    rw [Sem.bind_eq_wrap', Sem.wrap_wrap]
    rw [Sem.wrap_congr (execs body env) _ _ (K' := turnK (.forLoop target it body orelse env)) (H' := turnH env)
        (fun f => by cases f <;> rfl) (fun e => by first | exact Sem.bind_eq_wrap _ _ | (show (do noteFrame e env; theTreesLotGoes e : Sem Unit).bind (fun _ => .raise e) = _; rw [Sem.bind_eq_wrap]))]
    exact h₂
theorem sx_block_nil (h : SegX (model pr w) A (.block [] env) (.pure (.done .next)) fs s P) : SegX (model pr w) A (.block [] env) ((model pr w).den (.block [] env)) fs s P := h
abbrev funcK : Flow → Sem Fin := fun f => .pure (.done (.ret (match f with | .ret v => v | _ => .none)))
abbrev funcH (env : Env) : Value → Sem Fin := fun e => (leaving env e).wrap (fun _ => .raise e) .raise id id
theorem sx_func {body : List Stmt} (h : SegX (model pr w) A (.func body env) ((execs body env).wrap funcK (funcH env) id id) fs s P) :
    SegX (model pr w) A (.func body env) ((model pr w).den (.func body env)) fs s P := by
  show SegX _ A _ (.point [] fun _ => ((execs body env).onRaise (leaving env)) >>= _) fs s P
  refine sx_point ?_
  rw [Sem.onRaise_eq_wrap, Sem.bind_eq_wrap', Sem.wrap_wrap]
  rw [Sem.wrap_congr (execs body env) _ _ (K' := funcK)
    (H' := funcH env) (fun f => by cases f <;> rfl)
    (fun e => by rw [Sem.bind_eq_wrap, Sem.wrap_wrap]; rfl)]
  exact h
end
end Mine

namespace Mine
open PySem PySem.W.X

def sFT : Stmt → Expr
  | .For t _ _ _ _ => t
  | _ => .Constant .none 0 ⟨0, 0, 0, 0⟩
def sFI : Stmt → Expr
  | .For _ t _ _ _ => t
  | _ => .Constant .none 0 ⟨0, 0, 0, 0⟩
def sFB : Stmt → List Stmt
  | .For _ _ b _ _ => b
  | _ => []
def sFO : Stmt → List Stmt
  | .For _ _ _ b _ => b
  | _ => []
def sWT : Stmt → Expr
  | .While t _ _ _ => t
  | _ => .Constant .none 0 ⟨0, 0, 0, 0⟩
def sWB : Stmt → List Stmt
  | .While _ b _ _ => b
  | _ => []
def sWO : Stmt → List Stmt
  | .While _ _ b _ => b
  | _ => []
def sIB : Stmt → List Stmt
  | .If _ b _ _ => b
  | _ => []
def nth (l : List Stmt) (i : Nat) : Stmt := l.getD i (.Pass ⟨0, 0, 0, 0⟩)
/-- the generator's loop -/
abbrev gFor : Stmt := nth (sBody (top 7)) 1
abbrev gWhile : Stmt := nth (sIB (nth (sFB gFor) 1)) 1

section
variable {w : World} {A : Around} {env : Env} {P : Heap → Prop}
theorem ev_locI {x : Str} {pos : Pos} {d : PV} {v : Value} (m : Str → Option Value) (hF : ∀ h, P h → h.Ns env.locals m) (hx : m x = some v) (hv : ∀ h, ValIs h d v) (hkd : env.scope.kind = .function) (hk : env.kindOf x = some .local) (hd : (x == ("__debug__" : Str)) = false := by decide) :
    Ev w A env P (.Name x pos) d := fun s E hp => wpAny_Name (wpAny_loadName_local hkd hk (hF _ hp) hx ⟨hv _, kRefl s⟩) hd
theorem ev_gloI {x : Str} {pos : Pos} {d : PV} {v : Value} (m : Str → Option Value) (hF : ∀ h, P h → h.Ns env.globals m) (hx : m x = some v) (hv : ∀ h, ValIs h d v) (hkd : env.scope.kind = .function) (hk : env.kindOf x = some .globalImplicit) (hd : (x == ("__debug__" : Str)) = false := by decide) :
    Ev w A env P (.Name x pos) d := fun s E hp => Calls.Name_function_global hkd hk (Calls.loadGlobal_global (hF _ hp) hx ⟨hv _, kRefl s⟩) hd
theorem cm_isNone (i : Int) : Cm2 w A .Is (.int i) .none (.bool false) := fun s E v1 v2 h1 h2 => by
  obtain ⟨t, rfl⟩ := vInt h1
  have e : v2 = .none := by simpa only [ValIs] using h2
  subst e
  exact PyProof.Rows.is_int_none (gBool ..)
theorem cm_isNone' : Cm2 w A .Is .none .none (.bool true) := fun s E v1 v2 h1 h2 => by
  have e1 : v1 = .none := by simpa only [ValIs] using h1
  have e : v2 = .none := by simpa only [ValIs] using h2
  subst e; subst e1
  exact wpAny_is_self rfl (gBool ..)
end

/-! what the generator tells -/
inductive GS where
  | sus (i : Nat) (x : Int)
  | rep (v : Int)
def look (xs : List Int) (i : Nat) (last : Option Int) : Option (Int × GS) := match xs[i]? with
  | none => none
  | some x => if x = 127 then none else if x = 0 then last.map (fun v => (v, .rep v)) else some (x, .sus (i + 1) x)
def GS.step (xs : List Int) : GS → Option (Int × GS)
  | .rep v => some (v, .rep v)
  | .sus i x => look xs i (some x)

section
variable (w : World) (L I R : Addr) (mg : Str → Option Value) (vs : List Value) (xs : List Int)
/-- what it needs to go on looking at place i -/
structure Rw (i : Nat) (h : Heap) : Prop where
  it : h.IsListIter I R i
  ls : h.PlainList R vs.toArray
  iv : ValsAre h (xs.map PV.int) vs
  g : h.Ns mainGlobals mg
def GOwn (st : GS) (h : Heap) : Prop := match st with
  | .sus i x => (∃ m t, h.Ns L m ∧ m (Str.ofString "interval") = some (.int x t)) ∧ Rw I R mg vs xs i h
  | .rep v => (∃ m t, h.Ns L m ∧ m (Str.ofString "last_interval") = some (.int v t)) ∧ ∃ ob us, h.get? I = some ob ∧ ob.data = .fields us
def GKeep (s s' : Shared) : Prop := ∃ h' tk, s' = { s with heap := h', toks := tk } ∧ ∀ b o, b ≠ L → b ≠ I → s.heap.get? b = some o → h'.get? b = some o
def GGo : Nat → GS → GenState → Prop
  | 0, _, _ => True
  | n + 1, st, gs => ∃ k l c p fs cl, gs = .suspended k l c p fs cl ∧ ∀ (A : Around) (s : Shared), A.handled = none → GOwn L I R mg vs xs st s.heap →
      SegX (model pr w) A c (k (.send .none)) fs s (fun e s' => GKeep L I s s' ∧ match st.step xs with
        | none => e = .ret (.ok (.ret .none))
        | some (v, st') => ∃ t, e.result = .yielded (.int v t) ∧ GOwn L I R mg vs xs st' s'.heap ∧ GGo n st' e.genState)
/-- the end of a turn -/
def GPost (n : Nat) (s : Shared) (o : Option (Int × GS)) : End → Shared → Prop := fun e s' => GKeep L I s s' ∧ match o with
        | none => e = .ret (.ok (.ret .none))
        | some (v, st') => ∃ t, e.result = .yielded (.int v t) ∧ GOwn L I R mg vs xs st' s'.heap ∧ GGo w L I R mg vs xs n st' e.genState
end

section
variable {w : World} {L I R : Addr} {mg : Str → Option Value} {vs : List Value} {xs : List Int}
theorem gkRefl (s : Shared) : GKeep L I s s := ⟨s.heap, s.toks, rfl, fun _ _ _ _ e => e⟩
theorem gkTrans {a b c : Shared} (x : GKeep L I a b) (y : GKeep L I b c) : GKeep L I a c := by
  obtain ⟨h, t, rfl, k⟩ := x
  obtain ⟨h', t', rfl, k'⟩ := y
  exact ⟨h', t', rfl, fun _ _ n1 n2 e => k' _ _ n1 n2 (k _ _ n1 n2 e)⟩
theorem gkKeeps {a b : Shared} (x : Keeps a b) : GKeep L I a b := by
  obtain ⟨h, t, rfl, k⟩ := x
  exact ⟨h, t, rfl, fun _ _ _ _ e => k _ _ e⟩
theorem gkBut {s : Shared} {h : Heap} {tk : Nat} (x : ∀ b o, b ≠ L → b ≠ I → s.heap.get? b = some o → h.get? b = some o) : GKeep L I s { s with heap := h, toks := tk } := ⟨h, tk, rfl, x⟩

theorem ns_ne_iter {h : Heap} {m : Str → Option Value} {i : Nat} (a : h.Ns L m) (b : h.IsListIter I R i) : L ≠ I := by
  rintro rfl
  obtain ⟨o, es, ep, ho, hd, _⟩ := a
  obtain ⟨o', ho', _, hd'⟩ := b
  rw [ho] at ho'; cases ho'; rw [hd] at hd'; cases hd'
theorem ns_ne_list {h : Heap} {m : Str → Option Value} {vs : Array Value} (a : h.Ns L m) (b : h.PlainList R vs) : R ≠ L := by
  rintro rfl
  obtain ⟨o, es, ep, ho, hd, _⟩ := a
  obtain ⟨n, ho'⟩ := b
  rw [ho] at ho'; cases ho'; cases hd
theorem iter_ne_list {h : Heap} {i : Nat} {vs : Array Value} (a : h.IsListIter I R i) (b : h.PlainList R vs) : R ≠ I := by
  rintro rfl
  obtain ⟨o, ho, _, hd⟩ := a
  obtain ⟨n, ho'⟩ := b
  rw [ho] at ho'; cases ho'; cases hd
/-- ints only: no heap is needed to read them -/
theorem intsAt {h h' : Heap} : ∀ {xs : List Int} {vs : List Value}, ValsAre h (xs.map PV.int) vs → ValsAre h' (xs.map PV.int) vs
  | [], _, e => by simpa [ValsAre] using e
  | x :: xs, vs, e => by
    simp only [List.map_cons, ValsAre] at e ⊢
    obtain ⟨v, vs', rfl, hv, hr⟩ := e
    exact ⟨v, vs', rfl, by simpa only [ValIs] using hv, intsAt hr⟩
theorem Rw.off {i : Nat} {h h' : Heap} (r : Rw I R mg vs xs i h) (hL : L ≠ mainGlobals) (hI : L ≠ I) (hR : R ≠ L) (x : ∀ b o, b ≠ L → h.get? b = some o → h'.get? b = some o) : Rw I R mg vs xs i h' := by
  obtain ⟨⟨o, ho, hc, hd⟩, ⟨n, hl⟩, iv, g⟩ := r
  exact ⟨⟨o, x _ _ hI.symm ho, hc, hd⟩, ⟨n, x _ _ hR hl⟩, intsAt iv, g.at' fun o e => x _ _ hL.symm e⟩
end

/-- the last one again and again -/
theorem rep_ok {w : World} {L I R a : Addr} {mg : Str → Option Value} {vs : List Value} {xs : List Int} {pm code doc : Value} {v : Int} {A : Around} {fs : List Frame} (hfs : splitAtGen fs = none) (hfg : fs.any Frame.guarded = false) :
    ∀ (n : Nat) (A : Around) (s₀ s : Shared), GKeep L I s₀ s → GOwn L I R mg vs xs (.rep v) s.heap →
      SegX (model pr w) A (.whileLoop (sWT gWhile) (sWB gWhile) (sWO gWhile) (callEnv (fdOf (top 7) pm code doc) L a))
        ((model pr w).den (.whileLoop (sWT gWhile) (sWB gWhile) (sWO gWhile) (callEnv (fdOf (top 7) pm code doc) L a))) fs s (GPost w L I R mg vs xs n s₀ (some (v, .rep v))) := by
  intro n
  induction n with
  | zero =>
    intro A s₀ s hk ⟨⟨m, t, hn, hv⟩, ob, us, hob, hdd⟩
    refine sx_whileLoop (wpAny_isTrue_value (wpAny_Constant_bool (wpAny_truthy_bool ⟨rfl, ?_⟩)) ?_)
    · refine sx_cons (sx_Yield hfs rfl hfg rfl rfl ?_)
      refine (ev_locI (P := fun h => h.Ns L m) (d := .int v) m (fun _ h => h) hv (fun h => by simp only [ValIs]; exact ⟨_, rfl⟩) rfl rfl).at hn fun u s1 g k p l kk hkk => ?_
      obtain ⟨t', rfl⟩ := vInt g
      exact ⟨gkTrans hk (gkKeeps k), t', rfl, ⟨⟨m, t, hn.keeps (kExt k), hv⟩, ob, us, kExt k _ _ hob, hdd⟩, trivial⟩
    all_goals rfl
  | succ n ih =>
    intro A s₀ s hk ⟨⟨m, t, hn, hv⟩, ob, us, hob, hdd⟩
    refine sx_whileLoop (wpAny_isTrue_value (wpAny_Constant_bool (wpAny_truthy_bool ⟨rfl, ?_⟩)) ?_)
    · refine sx_cons (sx_Yield hfs rfl hfg rfl rfl ?_)
      refine (ev_locI (P := fun h => h.Ns L m) (d := .int v) m (fun _ h => h) hv (fun h => by simp only [ValIs]; exact ⟨_, rfl⟩) rfl rfl).at hn fun u s1 g k p l kk hkk => ?_
      obtain ⟨t', rfl⟩ := vInt g
      refine ⟨gkTrans hk (gkKeeps k), t', rfl, ⟨⟨m, t, hn.keeps (kExt k), hv⟩, ob, us, kExt k _ _ hob, hdd⟩, _, _, _, _, _, _, rfl, fun A' s' hA ho => ?_⟩
      rw [hkk]
      exact s_again pr w A' _ fs _ s' _ rfl (ih A' s' s' (gkRefl _) ho)
    all_goals rfl
end Mine

namespace Mine
open PySem PySem.W.X

abbrev gK (env : Env) : Flow → Sem Fin := fun f => match f with | .next => (execs [] env).wrap funcK (funcH env) id id | f => funcK f
abbrev gFrame (env : Env) (p : Pos) : Frame := .ret (loopK env (gK env) (funcH env) id id) none false [] (.func (sBody (top 7)) env) p []
abbrev gCode (env : Env) (I : Addr) : Code := .forLoop (sFT gFor) (.ref I) (sFB gFor) (sFO gFor) env

def RowOk (w : World) (L I R a : Addr) (mg : Str → Option Value) (vs : List Value) (xs : List Int) (pm code doc : Value) (p : Pos) (n : Nat) : Prop :=
  ∀ (A : Around) (s₀ s : Shared) (i : Nat) (last : Option Int) (m : Str → Option Value) (lv : Value), A.handled = none → GKeep L I s₀ s → Rw I R mg vs xs i s.heap → s.heap.Ns L m → m (Str.ofString "last_interval") = some lv →
      (∀ x, last = some x → ∃ t, lv = .int x t) → (last = none → xs[i]? ≠ some 0) →
      SegX (model pr w) A (gCode (callEnv (fdOf (top 7) pm code doc) L a) I) ((model pr w).den (gCode (callEnv (fdOf (top 7) pm code doc) L a) I)) [gFrame (callEnv (fdOf (top 7) pm code doc) L a) p] s (GPost w L I R mg vs xs n s₀ (look xs i last))

theorem row_step {w : World} {L I R a : Addr} {mg : Str → Option Value} {vs : List Value} {xs : List Int} {pm code doc : Value} {p : Pos} {tc : Nat} (hL : L ≠ mainGlobals) (hcm : mg (Str.ofString "CHAR_MAX") = some (.int 127 tc))
    (n : Nat) (next : ∀ m, n = m + 1 → RowOk w L I R a mg vs xs pm code doc p m) : RowOk w L I R a mg vs xs pm code doc p n := by
  intro A s₀ s i last m lv hA hk rw_ hn hlv hlast h0
  have hLI := ns_ne_iter hn rw_.it
  have hRL := ns_ne_list hn rw_.ls
  have hRI := iter_ne_list rw_.it rw_.ls
  have hIg : I ≠ mainGlobals := fun e => by subst e; exact ns_ne_iter rw_.g rw_.it rfl
  cases hx : xs[i]? with
  | none =>
    have hvn : vs[i]? = none := by
      rw [List.getElem?_eq_none_iff] at hx ⊢
      have := rw_.iv.length
      rw [this]; simpa using hx
    refine sx_forLoop (wpAny_pyNext_list_end hA rw_.it rw_.ls.isList (by simpa using hvn) fun h' hx' => ?_)
    refine sx_block_nil (s_pop pr w A _ _ _ _ (.ok .next) _ rfl _ _ _ _ _ _ _ ?_)
    refine s_end pr w A _ _ _ (.ok (.ret .none)) _ rfl ?_
    refine ⟨gkTrans hk (gkBut (tk := s.toks) fun b o _ hb e => hx' b o hb e), ?_⟩
    unfold look; rw [hx]
  | some x =>
    obtain ⟨xv, hxv, hxd⟩ := rw_.iv.get (i := i) (d := .int x) (by simp [hx])
    obtain ⟨tx, rfl⟩ := vInt hxd
    refine sx_forLoop (wpAny_pyNext_list_item rw_.it rw_.ls.isList (by simpa using hxv) fun h1 hit1 hs1 => ?_)
    refine wpAny_assign_Name (wpAny_storeName_local (m := m) rfl (hn.sameBut hs1 hLI) (fun h2 hn2 hs2 => ?_) rfl)
    have rw2 : Rw I R mg vs xs (i + 1) h2 := by
      refine Rw.off (L := L) (h := h1) ⟨hit1, ?_, intsAt rw_.iv, ?_⟩ hL hLI hRL fun b o hb e => hs2.extBut b o hb e
      · obtain ⟨nn, hl⟩ := rw_.ls
        exact ⟨nn, hs1.extBut _ _ hRI hl⟩
      · exact rw_.g.sameBut hs1 hIg.symm
    have hk2 : ∀ tk, GKeep L I s₀ { s with heap := h2, toks := tk } := fun tk => gkTrans hk (gkBut fun b o hb hb' e => hs2.extBut b o hb (hs1.extBut b o hb' e))
    generalize hm2 : (fun y => if y = _ then some (Value.int x tx) else m y) = m2 at hn2
    have hmi : m2 (Str.ofString "interval") = some (.int x tx) := by rw [← hm2]; rfl
    have hml : m2 (Str.ofString "last_interval") = some lv := by rw [← hm2]; exact hlv
    have vx : ∀ h, ValIs h (.int x) (.int x tx) := fun h => by simp only [ValIs]; exact ⟨_, rfl⟩
    -- the first test
    refine sx_cons (sx_If ?_)
    refine (Tr.cmp (P := fun h => h.Ns L m2 ∧ h.Ns mainGlobals mg) (fun _ _ e x => ⟨x.1.keeps e, x.2.keeps e⟩) (ev_locI (d := .int x) m2 (fun _ h => h.1) hmi vx rfl rfl)
      (ev_gloI (d := .int 127) mg (fun _ h => h.2) hcm (fun h => by simp only [ValIs]; exact ⟨_, rfl⟩) rfl rfl) (cm_eq x 127)).at ⟨hn2, rw2.g⟩ fun s3 k3 => ?_
    by_cases h127 : x = 127
    · subst h127
      rw [if_pos (by rfl)]
      refine sx_cons (sx_wrap (wpAny_Return_none ?_))
      refine s_pop pr w A _ _ _ _ (.ok (.ret .none)) _ rfl _ _ _ _ _ _ _ ?_
      refine s_end pr w A _ _ _ (.ok (.ret .none)) _ rfl ?_
      refine ⟨gkTrans (hk2 _) (gkKeeps k3), ?_⟩
      unfold look; rw [hx]; simp
    · rw [if_neg (by simpa using h127)]
      refine sx_nil ?_
      have hn3 := hn2.keeps (kExt k3)
      refine sx_cons (sx_If ?_)
      refine (Tr.cmp (P := fun h => h.Ns L m2) (fun _ _ e x => x.keeps e) (ev_locI (d := .int x) m2 (fun _ h => h) hmi vx rfl rfl) eI (cm_eq x 0)).at hn3 fun s4 k4 => ?_
      have hn4 := hn3.keeps (kExt k4)
      by_cases hz : x = 0
      · subst hz
        rw [if_pos (by rfl)]
        obtain ⟨ℓ, rfl⟩ : ∃ ℓ, last = some ℓ := by
          cases last with
          | none => exact absurd hx (h0 rfl)
          | some ℓ => exact ⟨ℓ, rfl⟩
        obtain ⟨tl, rfl⟩ := hlast ℓ rfl
        refine sx_cons (sx_If ?_)
        refine (Tr.cmp (P := fun h => h.Ns L m2) (fun _ _ e x => x.keeps e) (ev_locI (d := .int ℓ) m2 (fun _ h => h) hml (fun h => by simp only [ValIs]; exact ⟨_, rfl⟩) rfl rfl) eN (cm_isNone ℓ)).at hn4 fun s5 k5 => ?_
        rw [if_neg (by simp)]
        refine sx_nil ?_
        refine sx_cons (sx_While fun p2 => ?_)
        have e : look xs i (some ℓ) = some (ℓ, .rep ℓ) := by unfold look; rw [hx]; rfl
        rw [e]
        obtain ⟨oi, hoi, _, hdi⟩ := rw2.it
        exact rep_ok (A := A) (w := w) (R := R) (mg := mg) (vs := vs) (xs := xs) rfl rfl n A s₀ s5 (gkTrans (hk2 _) (gkTrans (gkKeeps k3) (gkTrans (gkKeeps k4) (gkKeeps k5)))) ⟨⟨m2, tl, hn4.keeps (kExt k5), hml⟩, oi, _, kExt k5 _ _ (kExt k4 _ _ (kExt k3 _ _ hoi)), hdi⟩
      · rw [if_neg (by simpa using hz)]
        refine sx_nil ?_
        refine sx_cons (sx_Yield rfl rfl rfl rfl rfl ?_)
        refine (ev_locI (P := fun h => h.Ns L m2) (d := .int x) m2 (fun _ h => h) hmi vx rfl rfl).at hn4 fun u s5 g5 k5 p5 l5 kk hkk => ?_
        obtain ⟨t5, rfl⟩ := vInt g5
        have e : look xs i last = some (x, .sus (i + 1) x) := by unfold look; rw [hx]; simp [h127, hz]
        rw [e]
        have kk5 : Ext h2 s5.heap := (kExt k3).trans ((kExt k4).trans (kExt k5))
        refine ⟨gkTrans (hk2 _) (gkTrans (gkKeeps k3) (gkTrans (gkKeeps k4) (gkKeeps k5))), t5, rfl, ⟨⟨m2, tx, hn2.keeps kk5, hmi⟩, Rw.off rw2 hL hLI hRL fun b o _ e => kk5 _ _ e⟩, ?_⟩
        cases n with
        | zero => trivial
        | succ n =>
          refine ⟨_, _, _, _, _, _, rfl, fun A' s' hA' ho => ?_⟩
          obtain ⟨⟨m6, t6, hn6, hi6⟩, rw6⟩ := ho
          rw [hkk]
          refine sx_cons (sx_wrap (wpAny_Assign_Name ?_))
          refine (ev_locI (P := fun h => h.Ns L m6) (d := .int x) m6 (fun _ h => h) hi6 (fun h => by simp only [ValIs]; exact ⟨_, rfl⟩) rfl rfl).at hn6 fun u7 s7 g7 k7 => ?_
          obtain ⟨t7, rfl⟩ := vInt g7
          refine wpAny_storeName_local rfl (hn6.keeps (kExt k7)) (fun h8 hn8 hs8 => ?_) rfl
          refine sx_nil (s_again pr w A' _ _ _ _ _ rfl ?_)
          refine next n rfl A' s' _ (i + 1) (some x) _ _ hA' (gkTrans (gkKeeps k7) (gkBut fun b o hb _ e => hs8.extBut b o hb e)) ?_ hn8 (by rfl) (fun y hy => by cases hy; exact ⟨_, rfl⟩) (fun q => by cases q)
          exact Rw.off rw6 hL hLI hRL fun b o hb e => hs8.extBut b o hb (kExt k7 _ _ e)

theorem row_ok {w : World} {L I R a : Addr} {mg : Str → Option Value} {vs : List Value} {xs : List Int} {pm code doc : Value} {p : Pos} {tc : Nat} (hL : L ≠ mainGlobals) (hcm : mg (Str.ofString "CHAR_MAX") = some (.int 127 tc)) :
    ∀ (n : Nat), RowOk w L I R a mg vs xs pm code doc p n
  | 0 => row_step hL hcm 0 fun m e => by cases e
  | n + 1 => row_step hL hcm (n + 1) fun m e => by cases e; exact row_ok hL hcm n
end Mine

namespace Mine
open PySem PySem.W.X

section
variable {w : World} {A : Around} {E : Value → Shared → Prop} {s : Shared}
def GStart (gs : GenState) (c₀ : Code) (t₀ : Sem Fin) (fs₀ : List Frame) : Prop :=
  (gs = .fresh c₀ ∧ t₀ = denote table c₀ ∧ fs₀ = []) ∨ (∃ k₀ l₀ p₀ cl, gs = .suspended k₀ l₀ c₀ p₀ fs₀ cl ∧ t₀ = k₀ (.send .none))
theorem resumeX {α : Type} {Q : α → Shared → Prop} {g : Nat} {gs : GenState} {l : List Value} {k : GenResult → Sem α} {c₀ : Code} {t₀ : Sem Fin} {fs₀ : List Frame} (hg : s.gens[g]? = some gs) (hgs : GStart gs c₀ t₀ fs₀)
    (x : SegX (model pr w) A c₀ t₀ fs₀ (s.setGen g .running) (fun e s₁ => wpAny (model pr w) A (k e.result) Q E (s₁.setGen g e.genState))) : wpAny (model pr w) A (.resume g (.send .none) l k) Q E s := by
  intro Γ p hΓ
  refine wake_any α pr w hg ?_ (fun Γ => Γ.In A) (fun _ h => h) (x.mono fun e s h Γ p hC => h Γ p hC) Γ p hΓ
  rcases hgs with ⟨h1, h2, h3⟩ | h
  · exact .inl ⟨h1, rfl, h2, h3⟩
  · exact .inr h
def NextPost (Q : Option Value → Shared → Prop) (E : Value → Shared → Prop) (a : Addr) (g : Nat) (e : End) (s₁ : Shared) : Prop :=
  (∃ v, e.result = .yielded v ∧ Q (some v) (s₁.setGen g e.genState)) ∨
  (e = .ret (.ok (.ret .none)) ∧ ∀ h', Ext s₁.heap h' → Q none { s₁.setGen g .finished with heap := h' }) ∨
  (∃ x X, e = .ret (.error (.ref x)) ∧ s₁.TypeIs (.ref x) X ∧ isSubtype (.type X) (.type "StopIteration") = pure false ∧ s₁.heap.IsGen a g ∧ E (.ref x) (s₁.setGen g .finished))
theorem nextX {a : Addr} {g : Nat} {gs : GenState} {Q : Option Value → Shared → Prop} {c₀ : Code} {t₀ : Sem Fin} {fs₀ : List Frame} (hh : A.handled = none) (hl : s.heap.NoLimit) (hroom : A.depth < recursionLimit)
    (hg : s.heap.IsGen a g) (hgs : s.gens[g]? = some gs) (hst : GStart gs c₀ t₀ fs₀)
    (x : SegX (model pr w) A.in1 c₀ t₀ fs₀ (s.setGen g .running) (NextPost Q E a g)) : wpAny (model pr w) A (pyNext (.ref a)) Q E s := by
  unfold pyNext
  refine wpAny_bind (wpAny_attempt (wpAny_callSpecial?_slot (name := Str.ofString "__next__") hg.typeIs slot_gen_next
    (wpAny_call_entry slot_gen_next hg.typeIs entry_gen_next ?_ (args_gen_next _))))
  show wpAny _ _ (Builtin.Generator.genWake (.ref a) (.send .none)) _ _ s
  unfold Builtin.Generator.genWake
  refine wpAny_bind (wpAny_holding (wpAny_genNumber hg (wpAny_bind (wpAny_genState hgs ?_))))
  have hroom' : gs.status = .fresh ∨ gs.status = .suspended := by
    rcases hst with ⟨rfl, _⟩ | ⟨_, _, _, _, rfl, _⟩
    · exact .inl rfl
    · exact .inr rfl
  have key : wpAny (model pr w) A.in1 (.resume g (.send .none) [] .pure >>= fun r => (match r with
      | .yielded v => ret v
      | .returned v => do
        if v == .none then raiseNew (← newExc (.type "StopIteration") [])
        rule "generator.return-value"; throw (← newExc (.type "StopIteration") [v])
      | .raised e => Builtin.Generator.genLeft (.ref a) e
      | .running => do rule "generator.already-executing"; raiseError "ValueError" "generator already executing"
      | .justStarted => do rule "generator.send-to-fresh"; raiseError "TypeError" "can't send non-None value to a just-started generator"
      | .finished => do raiseNew (← newExc (.type "StopIteration") []) : Sem Fin))
      (fun fin s' => ∃ v, fin = .done (.ret v) ∧ wpAny (model pr w) A (pure (some v)) Q E s') (fun e s' => wpAny (model pr w) A (do if ← isInstance e (.type "StopIteration") then pure none else throw e) Q E s') s := by
    refine wpAny_bind (resumeX hgs hst (x.mono fun e s₁ h => ?_))
    rcases h with ⟨v, hv, hq⟩ | ⟨rfl, hq⟩ | ⟨x, X, rfl, hX, hsub, hgn, hE⟩
    · rw [hv]
      exact wpAny_pure (wpAny_pure ⟨v, rfl, wpAny_pure hq⟩)
    · show wpAny _ _ (Sem.pure (GenResult.returned .none)) _ _ _
      refine wpAny_pure ?_
      show wpAny _ _ (newExc (.type "StopIteration") [] >>= _) _ _ _
      refine wpAny_bind ?_
      simp only [newExc, newTuple]
      refine wpAny_bind (wpAny_newObj_type ?_ (by size_fits))
      refine wpAny_bind (m := firstArgMember _ _) (wpAny_of_eq (a := Value.none) (by first | rfl | (simp only [firstArgMember]; rfl)) ?_)
      refine wpAny_newObj_type ?_ (by size_fits)
      simp only [raiseNew]
      refine wpAny_bind (wpAny_bind (wpAny_handled ?_))
      rw [show A.in1.handled = none from hh]
      refine wpAny_throw ?_
      refine wpAny_bind (wpAny_isInstance (T := "StopIteration") (b := true) ⟨_, Heap.get?_push_size _ rfl, rfl⟩ isSubtype_stop ?_)
      exact wpAny_pure (hq _ ((Ext.push _ _).trans (Ext.push _ _)))
    · show wpAny _ _ (Sem.pure (GenResult.raised (.ref x))) _ _ _
      refine wpAny_pure ?_
      show wpAny _ _ (Builtin.Generator.genLeft (.ref a) (.ref x)) _ _ _
      unfold Builtin.Generator.genLeft
      have hX' : (s₁.setGen g GenState.finished).TypeIs (.ref x) X := hX
      obtain ⟨o, nm, qn, ho, hc, hd, hsl⟩ := hgn
      refine wpAny_bind (m := Builtin.Generator.madeByALambda (.ref a)) ?_
      unfold Builtin.Generator.madeByALambda
      refine wpAny_bind (wpAny_load (s := s₁.setGen g GenState.finished) ho ?_)
      rw [hd]
      refine wpAny_pure ?_
      refine wpAny_bind (wpAny_isInstance hX' hsub ?_)
      simp only [Bool.and_false, Bool.false_eq_true, if_false]
      unfold Builtin.Generator.genEscaped
      refine wpAny_bind (wpAny_isInstance hX' hsub ?_)
      simp only [Bool.not_false, if_true]
      refine wpAny_bind (wpAny_throw ?_)
      refine wpAny_bind (wpAny_isInstance hX' hsub ?_)
      simp only [Bool.false_eq_true, if_false]
      exact wpAny_throw hE
  rcases hroom' with e | e
  · rw [e]
    exact wpAny_bind (wpAny_roomToWake hl hroom key)
  · rw [e]
    exact wpAny_bind (wpAny_roomToWake hl hroom key)
end
end Mine

namespace Mine
open PySem PySem.W.X

section
variable {w : World} {A : Around} {E : Value → Shared → Prop} {s : Shared}
theorem gen_make {mg : Str → Option Value} {a : Addr} {v : Value} {Q : Value → Shared → Prop} (fa : FnAt mg s.heap (top 7) a) (hlim : s.heap.NoLimit) (hroom : A.depth < recursionLimit)
    (hQ : ∀ L G h' tk pm code doc m, Ext s.heap h' → s.heap.get? L = none → s.heap.get? G = none → h'.IsGen G s.gens.size → h'.Ns L m → m (Str.ofString "grouping") = some v →
      Q (.ref G) { s with heap := h', gens := s.gens.push (.fresh (.func (sBody (top 7)) (callEnv (fdOf (top 7) pm code doc) L a))), toks := tk }) : wpAny (model pr w) A (call (.ref a) [v]) Q E s := by
  obtain ⟨o, pm, code, doc, hm, ho, hd, hc⟩ := fa
  refine wpAny_call (codeAny_call_generator (body := sBody (top 7)) hroom ho hd rfl rfl rfl hc ?_)
  refine wpAny_of_eq (a := [(Str.ofString "grouping", v)]) rfl ?_
  refine wpAny_newFunctionEnv (fun x hx => by have := List.all_eq_true.mp (show noCells (sScope (top 7)) = true from rfl) x hx; simpa using this) (by intro x hx; simp at hx; subst hx; rfl) (fun h' hn hs => ⟨hlim.fresh _ hs, ?_⟩) rfl
  have fresh : s.heap.get? s.heap.objs.size = none := by
    cases e : s.heap.get? s.heap.objs.size with
    | none => rfl
    | some o' => exact absurd (Heap.lt_size e) (Nat.lt_irrefl _)
  have x1 : Ext s.heap h' := fun b o e => hs.extBut b o (Nat.ne_of_lt (Heap.lt_size e)) (Heap.get?_push_of_some _ e)
  refine hQ s.heap.objs.size h'.objs.size _ _ pm code doc _ (x1.trans (Ext.push _ _)) fresh ?_ ?_ (hn.keeps (Ext.push _ _)) rfl
  · cases e : s.heap.get? h'.objs.size with
    | none => rfl
    | some o' => exact absurd (Heap.lt_size (x1 _ _ e)) (Nat.lt_irrefl _)
  · exact ⟨_, _, _, Heap.get?_push_size _ rfl, rfl, rfl, rfl⟩

theorem fresh_ok {L R a : Addr} {mg : Str → Option Value} {vs : List Value} {xs : List Int} {pm code doc : Value} {tc : Nat} {m : Str → Option Value} (n : Nat) (hA : A.handled = none) (hL : L ≠ mainGlobals) (hcm : mg (Str.ofString "CHAR_MAX") = some (.int 127 tc))
    (hn : s.heap.Ns L m) (hm : m (Str.ofString "grouping") = some (.ref R)) (hl : s.heap.PlainList R vs.toArray) (hi : ValsAre s.heap (xs.map PV.int) vs) (hg : s.heap.Ns mainGlobals mg) (h0 : xs[0]? ≠ some 0) :
    ∃ I, s.heap.get? I = none ∧ SegX (model pr w) A (.func (sBody (top 7)) (callEnv (fdOf (top 7) pm code doc) L a)) (denote table (.func (sBody (top 7)) (callEnv (fdOf (top 7) pm code doc) L a))) [] s (GPost w L I R mg vs xs n s (look xs 0 none)) := by
  have hRL := ns_ne_list hn hl
  refine ⟨s.heap.objs.size, ?_, sx_func ?_⟩
  · cases e : s.heap.get? s.heap.objs.size with
    | none => rfl
    | some o' => exact absurd (Heap.lt_size e) (Nat.lt_irrefl _)
  refine sx_cons (sx_wrap (wpAny_Assign_Name (wpAny_Constant_none ?_)))
  refine wpAny_storeName_local rfl hn (fun h1 hn1 hs1 => ?_) rfl
  refine sx_cons (sx_For ?_)
  obtain ⟨nl, hl'⟩ := id hl
  have hl1 : h1.PlainList R vs.toArray := ⟨nl, hs1.extBut _ _ hRL hl'⟩
  refine wpAny_Name (wpAny_loadName_local rfl rfl hn1 (v := .ref R) (by rw [if_neg (by decide)]; exact hm) ?_)
  refine wpAny_pyIter_list (s := { s with heap := h1, toks := _ }) hl1.isList fun p => ?_
  have hsz : h1.objs.size = s.heap.objs.size := hs1.1
  have key := row_ok (w := w) (L := L) (I := h1.objs.size) (R := R) (a := a) (vs := vs) (xs := xs) (pm := pm) (code := code) (doc := doc) (p := p) hL hcm n A s
    { s with heap := h1.push { cls := .type "list_iterator", data := .fields #[.ref R, .int 0 0] }, toks := s.toks + 1 } 0 none _ .none hA ⟨_, _, rfl, fun b o hb _ e => Ext.push _ _ _ _ (hs1.extBut b o hb e)⟩
    ⟨⟨_, Heap.get?_push_size _ rfl, rfl, rfl⟩, isList_ext (Ext.push _ _) hl1, intsAt hi, (hg.sameBut hs1 hL.symm).keeps (Ext.push _ _)⟩ (hn1.keeps (Ext.push _ _)) (by rfl) (fun x e => by cases e) (fun _ => h0)
  rw [← hsz]
  exact key
end
end Mine

namespace Mine
open PySem PySem.W

theorem get_none_ge {h : Heap} {b : Addr} (hb : h.objs.size ≤ b) : h.get? b = none := by
  cases e : h.get? b with
  | none => rfl
  | some o' => exact absurd (Heap.lt_size e) (Nat.not_lt.mpr hb)

section
variable {w : World} {A : Around}
/-- a def whose names are partly held in cells is called -/
theorem call_fnC {s : Shared} {E : Value → Shared → Prop} {Q : Value → Shared → Prop} {st : Stmt} {a : Addr} {o : Obj} {pm code doc : Value} {vs : List Value} {binds : List (Str × Value)} {γ : Str → Option PV}
    (ho : s.heap.get? a = some o) (hd : o.data = .func (fdOf st pm code doc)) (hcd : s.heap.CodeRec code (sName st)) (hlim : s.heap.NoLimit) (hroom : A.depth < recursionLimit)
    (hbind : bindArgs (fdOf st pm code doc) ⟨vs, []⟩ = pure binds) (hal : allLocal (sScope st) (binds.map (·.1)) = true)
    (hk : (sScope st).kind = .function) (hco : (sScope st).isCoroutine = false) (hgen : (sScope st).isGenerator = false)
    (hγ : ∀ x d, γ x = some d → (sScope st).names.lookup x = some .local ∧ ∃ v, bindL (fun y => (sScope st).names.lookup y) binds (fun _ => none) x = some v ∧ ValIs s.heap d v)
    (h : ∀ h₁ tk, EnvOk s.heap (callEnvC (fdOf st pm code doc) s.heap.objs.size a) → Fm s.heap (fun _ => False) (callEnvC (fdOf st pm code doc) s.heap.objs.size a) γ h₁ →
      wpAny (model pr w) (A.deeper (callEnvC (fdOf st pm code doc) s.heap.objs.size a)) (execs (sBody st) (callEnvC (fdOf st pm code doc) s.heap.objs.size a))
        (fun f s' => Q (match f with | .ret v => v | _ => .none) s')
        (fun e s' => wpAny (model pr w) (A.deeper (callEnvC (fdOf st pm code doc) s.heap.objs.size a)) (leaving (callEnvC (fdOf st pm code doc) s.heap.objs.size a) e) (fun _ s'' => E e s'') (fun e' s'' => E e' s'') s') { s with heap := h₁, toks := tk }) :
    wpAny (model pr w) A (call (.ref a) vs) Q E s := by
  refine wpAny_call (codeAny_call_cells hroom ho hd hlim hcd rfl hbind rfl ?_ (fun s₁ x => ?_) hco hgen hk)
  · intro x hx
    have := List.all_eq_true.mp hal x.1 (List.mem_map_of_mem hx)
    left
    show (sScope st).names.lookup x.1 = some .local
    simpa using this
  · obtain ⟨h1, tk, rfl, hkp⟩ := x.done
    refine h h1 tk ⟨hk, x.apart, fun n c hm => Nat.ne_of_gt (x.above n c hm), get_none_ge (Nat.le_refl _), fun n c hm => get_none_ge (Nat.le_of_lt (x.above n c hm))⟩ ⟨fun b o' _ e => hkp b o' e, _, _, x.toInCall.ns, x.cell, fun y d e => ?_⟩
    obtain ⟨k1, v, k2, k3⟩ := hγ y d e
    refine ⟨v, ?_, k3.ext hkp⟩
    unfold lookV
    have : (callEnvC (fdOf st pm code doc) s.heap.objs.size a).kindOf y = some .local := k1
    rw [this]; exact k2
end

/-! frames and raises -/
def Frs (l : List Env) (h : Heap) : Prop := ∀ env ∈ l, env.scope.kind ≠ .module ∧ ∃ L m, env.frame = some L ∧ h.Ns L m
abbrev frA (l : List Env) : List Addr := l.filterMap (·.frame)
theorem ns_notFields {h : Heap} {L : Addr} {m : Str → Option Value} (n : h.Ns L m) : ∃ o, h.get? L = some o ∧ ∀ vs, o.data ≠ .fields vs := by
  obtain ⟨o, es, ep, ho, hd, _⟩ := n
  exact ⟨o, ho, fun vs e => by rw [hd] at e; cases e⟩
theorem Frs.fun_ {base h : Heap} : ∀ {l : List Env}, Frs l h → (∀ b ∈ frA l, base.get? b = none) → h.FunFrames base l
  | [], _, _ => trivial
  | env :: l, F, hb => by
    obtain ⟨hk, L, m, hf, hn⟩ := F env (.head _)
    obtain ⟨o, ho, hd⟩ := ns_notFields hn
    refine ⟨hk, ⟨L, o, hf, hb L ?_, ho, hd⟩, Frs.fun_ (fun e he => F e (.tail _ he)) fun b hbm => hb b ?_⟩
    · exact List.mem_filterMap.mpr ⟨env, .head _, hf⟩
    · obtain ⟨e, he, hf'⟩ := List.mem_filterMap.mp hbm
      exact List.mem_filterMap.mpr ⟨e, .tail _ he, hf'⟩
theorem Frs.ext {l : List Env} {h h' : Heap} (F : Frs l h) (x : Ext h h') : Frs l h' := fun e he => by
  obtain ⟨hk, L, m, hf, hn⟩ := F e he
  exact ⟨hk, L, m, hf, hn.keeps x⟩
theorem Frs.slots {l : List Env} {h h' : Heap} (F : Frs l h) (x : h.UpToSlots h') : Frs l h' := fun e he => by
  obtain ⟨hk, L, m, hf, hn⟩ := F e he
  exact ⟨hk, L, m, hf, x.ns hn⟩
theorem Frs.cons {l : List Env} {h : Heap} {env : Env} {L : Addr} {m : Str → Option Value} (F : Frs l h) (hk : env.scope.kind = .function) (hf : env.frame = some L) (hn : h.Ns L m) : Frs (env :: l) h := fun e he => by
  cases he with
  | head => exact ⟨by rw [hk]; decide, L, m, hf, hn⟩
  | tail _ he => exact F e he
theorem hide_stays (h : Heap) (l : List Addr) : (hideAll h l).StaysIn h := fun b o e => of_hideAll l e

/-- what a call leaves that raises and lands within: all but the frames' own slots -/
def Ks (F : List Addr) (s s' : Shared) : Prop := ∃ h' tk, s' = { s with heap := h', toks := tk } ∧ (hideAll s.heap F).StaysIn h' ∧ s.heap.UpToSlots h'
theorem Ks.trans_l {F : List Addr} {a b c : Shared} (x : Keeps a b) (y : Ks F b c) : Ks F a c := by
  obtain ⟨h, t, rfl, k⟩ := x
  obtain ⟨h', t', rfl, k1, k2⟩ := y
  refine ⟨h', t', rfl, fun b o e => k1 b o ?_, (Heap.UpToSlots.of_keeps k).trans k2⟩
  exact hideAll_get F (k b o (of_hideAll F e)) fun hm => by rw [hideAll_none F hm] at e; cases e
theorem Ks.trans {F : List Addr} {a b c : Shared} (x : Ks F a b) (y : Ks F b c) : Ks F a c := by
  obtain ⟨h, t, rfl, k, k'⟩ := x
  obtain ⟨h', t', rfl, k1, k2⟩ := y
  refine ⟨h', t', rfl, fun b o e => k1 b o ?_, k'.trans k2⟩
  exact hideAll_get F (k b o e) fun hm => by rw [hideAll_none F hm] at e; cases e
theorem Ks.of_keeps {F : List Addr} {a b : Shared} (x : Keeps a b) : Ks F a b := by
  obtain ⟨h, t, rfl, k⟩ := x
  exact ⟨h, t, rfl, fun b o e => k b o (of_hideAll F e), Heap.UpToSlots.of_keeps k⟩
theorem Ks.frs {F : List Addr} {l : List Env} {a b : Shared} (x : Ks F a b) (f : Frs l a.heap) : Frs l b.heap := by
  obtain ⟨h, t, rfl, k, k'⟩ := x
  exact f.slots k'
/-- a ground that knows none of the frames stays -/
theorem Ks.ground {F : List Addr} {a b : Shared} {g : Heap} (x : Ks F a b) (hg : Ext g a.heap) (hF : ∀ c ∈ F, g.get? c = none) : Ext g b.heap := by
  obtain ⟨h, t, rfl, k, k'⟩ := x
  exact fun c o e => k c o (hideAll_get F (hg c o e) fun hm => by rw [hF c hm] at e; cases e)
end Mine

namespace Mine
open PySem PySem.W

/-- the bases of StatisticsError -/
abbrev vbm : List Value := [.type "ValueError", .type "Exception", .type "BaseException", .type "object"]
structure OwnS (mg : Str → Option Value) (C : Addr) (h : Heap) : Prop where
  bound : mg (Str.ofString "StatisticsError") = some (.ref C)
  obj : ∃ N nm q bs hdct sn sub ab col dd k0 k1 k2 k3 k5 mN, h.get? C = some (excClassObj nm q C N bs vbm hdct sn sub ab col dd k0 k1 k2 k3 k5 "ValueError.__new__") ∧ h.Ns N mN ∧ mN (Str.ofString "__init__") = none ∧ mN (Str.ofString "__str__") = none
theorem OwnS.ext {mg : Str → Option Value} {C : Addr} {h h' : Heap} (o : OwnS mg C h) (x : Ext h h') : OwnS mg C h' := by
  obtain ⟨b, N, nm, q, bs, hdct, sn, sub, ab, col, dd, k0, k1, k2, k3, k5, mN, h1, h2, h3, h4⟩ := o
  exact ⟨b, N, nm, q, bs, hdct, sn, sub, ab, col, dd, k0, k1, k2, k3, k5, mN, x _ _ h1, h2.keeps x, h3, h4⟩

/-- an exception at an address, of some class, with one text -/
def ExcOf (h : Heap) (e : Addr) (cls : Value) (m : Str) : Prop := ∃ o vs t tk, h.get? e = some o ∧ o.cls = cls ∧ o.data = .fields vs ∧ vs[0]? = some (.ref t) ∧ h.TupAt t [.str m tk]
theorem ExcOf.off {h h' : Heap} {e : Addr} {cls : Value} {m : Str} {P : Addr → Prop} (x : ExcOf h e cls m) (k : ExtOff P h h') (hP : ∀ b o, P b → h.get? b = some o → (∃ es ep, o.data = .dict es ep)) : ExcOf h' e cls m := by
  obtain ⟨o, vs, t, tk, ho, hc, hd, h0, ot, n, hot, hcc, hdd⟩ := x
  refine ⟨o, vs, t, tk, k _ _ (fun hp => ?_) ho, hc, hd, h0, ot, n, k _ _ (fun hp => ?_) hot, hcc, hdd⟩
  · obtain ⟨es, ep, q⟩ := hP _ _ hp ho; rw [hd] at q; cases q
  · obtain ⟨es, ep, q⟩ := hP _ _ hp hot; rw [hdd] at q; cases q

section
variable {w : World} {A : Around} {E : Value → Shared → Prop} {s : Shared}
open Builtin Builtin.Str Builtin.BaseException Builtin.Exceptions in
theorem bexcStr_own {prog : Program} {e t0 : Addr} {o : Obj} {vs : Array Value} {m : Str} {tk : Tok} {Q : Fin → Shared → Prop} (ho : s.heap.get? e = some o) (hd : o.data = .fields vs) (h0 : vs[0]? = some (.ref t0)) (ht : s.heap.TupAt t0 [.str m tk]) (hq : Q (.done (.ret (.str m tk))) s) :
    wpAny (model prog w) A (Builtin.«BaseException.__str__» ⟨[.ref e], []⟩) Q E s := by
  have hb : ∀ {Q : Value × List Value → Shared → Prop}, Q (.ref t0, [.str m tk]) s → wpAny (model prog w) A (bexcArgs (.ref e)) Q E s := fun hq => by
    obtain ⟨ot, k, hto, _, htd⟩ := ht
    unfold bexcArgs
    exact wpAny_bind (wpAny_field ho hd h0 (wpAny_bind (wpAny_seqItems hto htd (wpAny_pure hq))))
  unfold Builtin.«BaseException.__str__»
  repeat (first | with_reducible refine hb ?_ | wp_step)
  exact hq

theorem call_bexcStr_own {prog : Program} {mg : Str → Option Value} {C e t0 : Addr} {o : Obj} {vs : Array Value} {m : Str} {tk : Tok} {Q : Value → Shared → Prop} (O : OwnS mg C s.heap) (ho : s.heap.get? e = some o) (hc : o.cls = .ref C) (hd : o.data = .fields vs) (h0 : vs[0]? = some (.ref t0)) (ht : s.heap.TupAt t0 [.str m tk]) (hq : Q (.str m tk) s) :
    wpAny (model prog w) A (call (.builtin "BaseException.__str__") [.ref e]) Q E s := by
  obtain ⟨b, N, nm, q, bs, hdct, sn, sub, ab, col, dd, k0, k1, k2, k3, k5, mN, h1, h2, h3, h4⟩ := O
  have hsplit : splitId "BaseException.__str__" = some ("BaseException", "__str__") := by decide +kernel
  have hkind : builtinKind "BaseException.__str__" = some .slot := by decide +kernel
  refine wpAny_call (codeAny_call_builtin (F.excStr_ValueError.str.plain) F.entry_bexc_str ?_)
  obtain ⟨hh, g, d, tks, os⟩ := s
  refine wpAny_mono (Q := fun _ s' => s' = ⟨hh, g, d, tks, os⟩) (E := fun _ _ => False) ?_ (fun _ s' e => ?_) fun _ _ e => e.elim
  · simp only [checkBuiltinCall, hkind, hsplit]
    unfold isInstance
    refine wpAny_bind (wpAny_bind (wpAny_typeOf_ref ho ?_))
    rw [hc]
    refine wpAny_isSubtype_exc h1 ?_
    have : ((Value.ref C :: vbm).contains (.type "BaseException")) = true := by simp
    rw [this]
    simp only [Bool.not_true, Bool.false_eq_true, if_false]
    have ha := F.args_bexc_str (.ref e)
    unfold argsOk at ha
    cases hsig : Manifest.signature? "BaseException.__str__" with
    | none => exact wpAny_pure rfl
    | some sig =>
      rw [hsig] at ha
      have h2' : Bind.checkArgs "BaseException.__str__" sig ⟨[.ref e], []⟩ = pure () := ha
      show wpAny (model prog w) _ (Bind.checkArgs "BaseException.__str__" sig ⟨[.ref e], []⟩) _ _ _
      rw [h2']; exact wpAny_pure rfl
  · subst e
    exact bexcStr_own ho hd h0 ht hq

theorem str_own {mg : Str → Option Value} {C e : Addr} {m : Str} {Q : Value → Shared → Prop} (O : OwnS mg C s.heap) (x : ExcOf s.heap e (.ref C) m) (hu : A.units + 2 < cLine) (hq : ∀ tk, Q (.str m tk) s) :
    wpAny (model pr w) A (call (.type "str") [.ref e]) Q E s := by
  obtain ⟨o, vs, t0, tk, ho, hc, hd, h0, ht⟩ := x
  refine callType_new F.called_str (by decide) (F.typeCall_str_1 _) (F.newCall_str_1 _) (fun obj => F.args_object_init_2 obj _) F.entry_str_new
    (meets_str_new (S := fun A' R s' => A'.units + 1 < cLine ∧ s' = s ∧ R (.ok (.ret (.str m tk))) s') fun prog w' A' R s' hq' => ?_)
    ⟨(show A.units + 1 + 1 < cLine from hu), rfl, typeIs_str _ _ _, hq tk⟩
  obtain ⟨hu', rfl, hR⟩ := hq'
  obtain ⟨b, N, nm, q, bs, hdct, sn, sub, ab, col, dd, k0, k1, k2, k3, k5, mN, h1, h2, h3, h4⟩ := id O
  have hcs : ∀ {Q' : Option Value → Shared → Prop} {E' : Value → Shared → Prop}, Q' (some (.str m tk)) s' → wpAny (model prog w') A'.in1 (callSpecial? (.ref e) (Str.ofString "__str__")) Q' E' s' := fun {Q' E'} hq => by
    simp only [callSpecial?, specialOf]
    refine wpAny_bind (wpAny_bind (wpAny_typeOf_ref ho ?_))
    rw [hc]
    have hL := F.excStr_ValueError.str.lookup
    obtain ⟨hh, g, d, tks, os⟩ := s'
    refine wpAny_typeLookup_exc (B := "ValueError") h1 h2 F.excBase_ValueError.mroIs hL ?_
    have h4' : mN (Str.ofString "__str__") = none := h4
    simp only [h4', F.excStr_ValueError.str.bind]
    exact wpAny_holding (wpAny_bind (wpAny_pure (wpAny_bind (wpAny_mono (call_bexcStr_own (E := fun _ _ => False) (Q := fun v s' => v = .str m tk ∧ s' = ⟨hh, g, d, tks, os⟩) O ho hc hd h0 ht ⟨rfl, rfl⟩) (fun v s' h' => by obtain ⟨rfl, rfl⟩ := h'; exact wpAny_pure hq) fun _ _ h' => h'.elim))))
  unfold Builtin.Str.strOf
  repeat (first | with_reducible refine wpAny_cRoomFor hu' ?_ | with_reducible refine hcs ?_ | wp_step)
  exact hR
end
end Mine

namespace Mine
open PySem PySem.W

structure Bi (mg mb : Str → Option Value) : Prop where
  len : mg (Str.ofString "len") = none ∧ mb (Str.ofString "len") = some (.builtin "len")
  min : mg (Str.ofString "min") = none ∧ mb (Str.ofString "min") = some (.builtin "min")
  max : mg (Str.ofString "max") = none ∧ mb (Str.ofString "max") = some (.builtin "max")
  range : mg (Str.ofString "range") = none ∧ mb (Str.ofString "range") = some (.type "range")
  enum : mg (Str.ofString "enumerate") = none ∧ mb (Str.ofString "enumerate") = some (.type "enumerate")
  type : mg (Str.ofString "type") = none ∧ mb (Str.ofString "type") = some (.type "type")
  str : mg (Str.ofString "str") = none ∧ mb (Str.ofString "str") = some (.type "str")
  int : mg (Str.ofString "int") = none ∧ mb (Str.ofString "int") = some (.type "int")
  flt : mg (Str.ofString "float") = none ∧ mb (Str.ofString "float") = some (.type "float")
  ve : mg (Str.ofString "ValueError") = none ∧ mb (Str.ofString "ValueError") = some (.type "ValueError")
  fsum : mg (Str.ofString "fsum") = some (.builtin "math.fsum")
  sumprod : mg (Str.ofString "sumprod") = some (.builtin "math.sumprod")
  cmax : ∃ t, mg (Str.ofString "CHAR_MAX") = some (.int 127 t)

abbrev mUnlike : Str := Str.ofString "covariance requires that both inputs have same number of data points"
abbrev mFew : Str := Str.ofString "covariance requires at least two data points"

section
variable {w : World} {A : Around} {env : Env} {P : Heap → Prop}
theorem len_at {s : Shared} {E : Value → Shared → Prop} {l : List PV} {vs : List Value} (hl : (l.length : Int) < 2 ^ 63) (hv : ValsAre s.heap [.list l] vs) : wpAny (model pr w) A (call (.builtin "len") vs) (Good (.int l.length) s) E s := by
  simp only [ValsAre] at hv
  obtain ⟨v, _, rfl, h1, rfl⟩ := hv
  obtain ⟨a, us, rfl, hp, hd⟩ := vList h1
  have e : (us.toArray.size : Int) = l.length := by simp [hd.length]
  refine Calls.call_len_list hp.isList (by rw [e]; exact hl) ?_
  rw [e]
  exact gInt ..
theorem ev_len {e : Expr} {p pos : Pos} {l : List PV} {mg mb : Str → Option Value} (B : Bi mg mb) (hP : Sta P) (hkd : env.scope.kind = .function) (hk : env.kindOf (Str.ofString "len") = some .globalImplicit)
    (hg : ∀ h, P h → h.Ns env.globals mg) (hb : ∀ h, P h → h.Ns env.builtins mb) (hn : noStar [e] = true) (h : Ev w A env P e (.list l)) (hl : (l.length : Int) < 2 ^ 63) (hnn : ∀ x p, e ≠ .Starred x p := by intro _ _ h; cases h) :
    Ev w A env P (.Call (.Name (Str.ofString "len") p) [e] [] pos) (.int l.length) :=
  ev_callB hP hkd hk hg hb B.len.1 B.len.2 hn (Evs.cons hP h Evs.nil hnn) fun s E vs _ hv => len_at hl hv
end

section
variable {w : World} {A : Around} {s : Shared} {mg mb : Str → Option Value} {g : Heap} {a C : Addr} {l : List Env}

/-- the raise in covariance leaves it -/
theorem raise_cov {env : Env} {h1 : Heap} {tk : Nat} {γ : Str → Option PV} {E : Value → Shared → Prop} {Q : Flow → Shared → Prop} {np cp kp pos : Pos} {kk : Nat} {msg : Str} {rest : List Stmt}
    (Gg : Gd mg mb g) (hx : Ext g s.heap) (O : OwnS mg C g) (hfr : A.frames = some l) (hF : Frs l s.heap) (hh : A.handled = none)
    (ok : EnvOk s.heap env) (F : Fm s.heap (fun _ => False) env γ h1) (hfL : env.frame = some env.locals) (hkd : env.scope.kind = .function) (hgl : env.globals = mainGlobals) (hk : env.kindOf (Str.ofString "StatisticsError") = some .globalImplicit)
    (hfr2 : (A.deeper env).frames = some (env :: l))
    (hE' : ∀ e t h' tk tm, Heap.FlyingW (hideAll s.heap (frA l)) l e (.ref C) (.ref t) h' → h'.TupAt t [.str msg tm] → s.heap.UpToSlots h' → E (.ref e) { s with heap := h', toks := tk }) :
    wpAny (model pr w) (A.deeper env) (execs (.Raise (some (.Call (.Name (Str.ofString "StatisticsError") np) [.Constant (.str msg) kk kp] [] cp)) none pos :: rest) env) Q
      (fun e s' => wpAny (model pr w) (A.deeper env) (leaving env e) (fun _ s'' => E e s'') (fun e' s'' => E e' s'') s') { s with heap := h1, toks := tk } := by
  obtain ⟨b, N, nm, q, bs, hdct, sn, sub, ab, col, dd, k0, k1, k2, k3, k5, mN, o1, o2, o3, o4⟩ := O
  have x1 : Ext g h1 := hx.trans F.toExt
  refine wpAny_execs_cons (wpAny_Raise_call_sub (C := C) (nm := nm) (q := q) (N := N) (bs := bs) (hdct := hdct) (sn := sn) (sub := sub) (ab := ab) (col := col) (dd := dd) (k0 := k0) (k1 := k1) (k2 := k2) (k3 := k3) (k5 := k5) PySem.F.excBase_ValueError (mN := mN) (by simpa [Around.deeper] using hh) (noStar_any rfl) o3 ?_)
  refine Calls.Name_function_global hkd hk (Calls.loadGlobal_global (mg := mg) (by rw [hgl]; exact Gg.g.keeps x1) b ⟨rfl, ?_⟩)
  refine args_at (P := fun h => Ext g h ∧ Ext h1 h) rfl (Evs.cons (fun _ _ e x => ⟨x.1.trans e, x.2.trans e⟩) eS Evs.nil) ⟨x1, Ext.refl _⟩ fun vs s2 hv k => ?_
  simp only [ValsAre] at hv
  obtain ⟨v, _, rfl, hv1, rfl⟩ := hv
  obtain ⟨tm, rfl⟩ := vStr hv1
  obtain ⟨h2, t2, rfl, ke⟩ := k
  refine ⟨rfl, (show (1 : Nat) ≤ sizeLine by decide), (x1.trans ke) _ _ o1, o2.keeps (x1.trans ke), fun h' e hm => ?_⟩
  obtain ⟨m, cm, hn, _, _⟩ := F.ex
  have nof : ∀ b ∈ frA (env :: l), (hideAll s.heap (frA l)).get? b = none := by
    intro b hb
    obtain ⟨ev, hev, hf⟩ := List.mem_filterMap.mp hb
    cases hev with
    | head =>
      rw [hfL] at hf; cases hf
      cases e1 : (hideAll s.heap (frA l)).get? env.locals with
      | none => rfl
      | some o => have := of_hideAll _ e1; rw [ok.freshL] at this; cases this
    | tail _ hev => exact hideAll_none _ (List.mem_filterMap.mpr ⟨ev, hev, hf⟩)
  refine wpAny_leaves_madeW (base := hideAll s.heap (frA l)) (h := h2) hfr2 hfL (fun b o e => ke _ _ (F.toExt _ _ (of_hideAll _ e)))
    (Frs.fun_ (Frs.cons (hF.ext (F.toExt.trans ke)) hkd hfL (hn.keeps ke)) nof) hm fun h'' t f1 f2 f3 f4 => ?_
  exact hE' e t h'' _ tm f1 f2 (((Heap.UpToSlots.of_keeps (F.toExt.trans ke)).trans (Heap.UpToSlots.of_keeps hm.keeps)).trans f4)

theorem cov_raise {E : Value → Shared → Prop} {Q : Value → Shared → Prop} {vs : List Value} {dx dy : List PV} {msg : Str} (B : Bi mg mb) (Gg : Gd mg mb g) (hx : Ext g s.heap) (fa : FnAt mg g (top 3) a) (O : OwnS mg C g) (hfr : A.frames = some l) (hF : Frs l s.heap) (hh : A.handled = none)
    (hroom : A.depth < recursionLimit) (hv : ValsAre s.heap [.list dx, .list dy] vs) (hlx : (dx.length : Int) < 2 ^ 63) (hly : (dy.length : Int) < 2 ^ 63) (hm : (dy.length ≠ dx.length ∧ msg = mUnlike) ∨ (dy.length = dx.length ∧ dx.length < 2 ∧ msg = mFew))
    (hE : ∀ e t h' tk tm, Heap.FlyingW (hideAll s.heap (frA l)) l e (.ref C) (.ref t) h' → h'.TupAt t [.str msg tm] → s.heap.UpToSlots h' → E (.ref e) { s with heap := h', toks := tk }) :
    wpAny (model pr w) A (call (.ref a) vs) Q E s := by
  obtain ⟨o, pm, code, doc, hmg, ho, hd, hc⟩ := id fa
  simp only [ValsAre] at hv
  obtain ⟨v1, _, rfl, q1, v2, _, rfl, q2, rfl⟩ := hv
  refine call_fnC (γ := upd (upd (fun _ => none) (Str.ofString "x") (.list dx)) (Str.ofString "y") (.list dy)) (binds := [(Str.ofString "x", v1), (Str.ofString "y", v2)]) (hx _ _ ho) hd (hc.keeps hx) (Gg.nolimit.keeps hx) hroom rfl rfl rfl rfl rfl (fun z d e => ?_) (fun h₁ tk ok F => ?_)
  · unfold upd at e
    by_cases hb : z = Str.ofString "y"
    · subst hb; rw [if_pos rfl] at e; cases e; exact ⟨rfl, v2, rfl, q2⟩
    · rw [if_neg hb] at e
      by_cases ha : z = Str.ofString "x"
      · subst ha; rw [if_pos rfl] at e; cases e; exact ⟨rfl, v1, rfl, q1⟩
      · rw [if_neg ha] at e; cases e
  · have Gk : ∀ {γ : Str → Option PV} h, Fm s.heap (fun _ => False) (callEnvC (fdOf (top 3) pm code doc) s.heap.objs.size a) γ h → Gd mg mb h := fun h F => Gg.ext (hx.trans F.toExt)
    refine xs_assign (d := .int dx.length) ok F (ev_len B fm_sta rfl rfl (fun h F => (Gk h F).g) (fun h F => (Gk h F).b) rfl (ev_local (fun _ h => h) rfl rfl rfl) hlx) rfl fun h2 t2 F2 => ?_
    rcases hm with ⟨hne, rfl⟩ | ⟨heq, hlt, rfl⟩
    · refine xs_if_yes F2 ((Tr.cmp fm_sta (ev_len B fm_sta rfl rfl (fun h F => (Gk h F).g) (fun h F => (Gk h F).b) rfl (ev_local (fun _ h => h) rfl rfl rfl) hly) (ev_local (fun _ h => h) rfl rfl rfl) (cm_ne dy.length dx.length)).congr (by simp; omega)) fun h3 t3 x3 => ?_
      exact raise_cov (s := s) (C := C) (mb := mb) Gg hx O hfr hF hh ok (fm_sta _ _ x3 F2) rfl rfl rfl rfl (Around.frames_deeper hfr) hE
    · refine xs_if_no F2 ((Tr.cmp fm_sta (ev_len B fm_sta rfl rfl (fun h F => (Gk h F).g) (fun h F => (Gk h F).b) rfl (ev_local (fun _ h => h) rfl rfl rfl) hly) (ev_local (fun _ h => h) rfl rfl rfl) (cm_ne dy.length dx.length)).congr (by simp [heq])) fun h3 t3 x3 => ?_
      refine xs_if_yes (fm_sta _ _ x3 F2) ((Tr.cmp fm_sta (ev_local (fun _ h => h) rfl rfl rfl) eI (cm_lt dx.length 2)).congr (by simp; omega)) fun h4 t4 x4 => ?_
      exact raise_cov (s := s) (C := C) (mb := mb) Gg hx O hfr hF hh ok (fm_sta _ _ (x3.trans x4) F2) rfl rfl rfl rfl (Around.frames_deeper hfr) hE
end
end Mine

namespace Mine
open PySem PySem.W PyProof.Rows

/-- a raise is caught by its clause, under a name -/
theorem caught_as {w : World} {A : Around} {env : Env} {l : List Env} {base g : Heap} {s' : Shared} {e t : Addr} {cls : Value} {msg : Str} {tm : Tok} {m : Str → Option Value} {n : Str} {te : Expr} {b₀ : Stmt} {suite : List Stmt} {pos : Pos} {rest : List ExceptHandler} {Q : Flow → Shared → Prop} {E : Value → Shared → Prop} {R : Flow → Prop}
    (hfr : A.frames = some (env :: l)) (hfL : env.frame = some env.locals) (hkd : env.scope.kind = .function) (hk : env.kindOf n = some .local) (hgb : Ext g base) (hLb : base.get? env.locals = none)
    (hfl : Heap.FlyingW base (env :: l) e cls (.ref t) s'.heap) (htup : s'.heap.TupAt t [.str msg tm]) (hn : s'.heap.Ns env.locals m)
    (hmatch : ∀ h₅ E', Ext g h₅ → (∃ oe, h₅.get? e = some oe ∧ oe.cls = cls) → wpAny (model pr w) (A.mark (some (.ref e))) (eval te env) (fun c s₁ => s₁ = { s' with heap := h₅ } ∧ ∀ Q' E', Q' true s₁ → wpAny (model pr w) (A.mark (some (.ref e))) (excMatches (.ref e) c) Q' E' s₁) E' { s' with heap := h₅ })
    (hsuite : ∀ h₇ tk m₇ E', h₇.Ns env.locals m₇ → m₇ n = some (.ref e) → ExcOf h₇ e cls msg → Ext g h₇ → wpAny (model pr w) (A.mark (some (.ref e))) (execs (b₀ :: suite) env) (fun f s₄ => R f ∧ Keeps { s' with heap := h₇, toks := tk } s₄) E' { s' with heap := h₇, toks := tk })
    (hQ : ∀ f h₉ tk, R f → (∀ b o, base.get? b = some o → h₉.get? b = some o) → (∀ b o, b ≠ env.locals → s'.heap.get? b = some o → (∀ vs, o.data ≠ .fields vs) → ∃ sl, h₉.get? b = some { o with slots := sl }) → Q f { s' with heap := h₉, toks := tk }) :
    wpAny (model pr w) A (noteFrame (.ref e) env) (fun _ s₂ => wpAny (model pr w) A (setFlight (.ref e) none) (fun _ s₃ => wpAny (model pr w) A (handleBy (.ref e) env (.ExceptHandler (some te) (some n) (b₀ :: suite) pos :: rest)) Q E s₃) E s₂) E s' := by
  refine wpAny_looks_onW hfr hfL hfl fun h₄ hheld₄ hsm₄ => ?_
  refine wpAny_landsW hheld₄ fun h₅ hheld hsm₅' => ?_
  have hsm₅ := hsm₄.trans hsm₅'
  refine wpAny_handleBy_cons (codeAny_handlers_test ?_) (by intro q; cases q)
  refine wpAny_mono (hmatch h₅ _ (fun b o q => hheld.1 _ _ (hgb _ _ q)) hheld.there) (fun c s₁ h₁ => ?_) fun _ _ x => x
  obtain ⟨rfl, hma⟩ := h₁
  refine hma _ _ (codeAny_handlers_suite_as ?_)
  refine lands_againW hheld fun h₆ hfl₆ hsm₆ => ?_
  have up6 : s'.heap.UpToSlots h₆ := hsm₅.trans hsm₆
  refine wpAny_storeName_local hk (up6.ns hn) (fun h₇ hn₇ hs₇ => ?_) (by rw [hkd]; rfl)
  have exc7 : ExcOf h₇ e cls msg := by
    obtain ⟨oe, ws, hoe, hoec, hoed, hoe0⟩ := hfl₆.first
    obtain ⟨on, es, ep, hon, hdn, _⟩ := up6.ns hn
    refine ExcOf.off (P := fun b => b = env.locals) ⟨oe, ws, t, tm, hoe, hoec, hoed, hoe0, htup.of_slots up6⟩ (sameBut_off hs₇) fun b o hb ho => ?_
    subst hb; rw [hon] at ho; cases ho; exact ⟨es, ep, hdn⟩
  have stay7 : ∀ b o, base.get? b = some o → h₇.get? b = some o := fun b o q => hs₇.extBut b o (fun hb => by rw [hb, hLb] at q; cases q) (hfl₆.1 _ _ q)
  refine wpAny_mono (hsuite h₇ _ _ _ hn₇ (by simp) exc7 fun b o q => stay7 _ _ (hgb _ _ q)) (fun f s₄ h₄ => ?_) fun _ _ x => x
  obtain ⟨hR, h₈, t₈, rfl, k₈⟩ := h₄
  refine wpAny_nameGoes hk (hn₇.keeps k₈) (by rw [hkd]; rfl) fun h₉ m₉ hn₉ hs₉ => hQ f h₉ _ hR (fun b o q => ?_) fun b o hb ho hd => ?_
  · exact hs₉.extBut b o (fun hb => by rw [hb, hLb] at q; cases q) (k₈ _ _ (stay7 _ _ q))
  · obtain ⟨sl, h6⟩ := up6 b o ho hd
    exact ⟨sl, hs₉.extBut b _ hb (k₈ _ _ (hs₇.extBut b _ hb h6))⟩

section
variable {w : World} {A : Around} {s : Shared} {mg mb : Str → Option Value} {g : Heap} {a aw C : Addr} {l : List Env}
theorem words_ok {E : Value → Shared → Prop} {vs : List Value} {dx dy : List PV} {msg : Str} (B : Bi mg mb) (Gg : Gd mg mb g) (hx : Ext g s.heap) (fa : FnAt mg g (top 3) a) (fw : FnAt mg g (top 10) aw) (O : OwnS mg C g) (hfr : A.frames = some l) (hF : Frs l s.heap) (hgF : ∀ b ∈ frA l, g.get? b = none) (hh : A.handled = none)
    (hroom : A.depth + 2 < recursionLimit) (hu : A.units + 100 < cLine) (hv : ValsAre s.heap [.list dx, .list dy] vs) (hlx : (dx.length : Int) < 2 ^ 63) (hly : (dy.length : Int) < 2 ^ 63) (hm : (dy.length ≠ dx.length ∧ msg = mUnlike) ∨ (dy.length = dx.length ∧ dx.length < 2 ∧ msg = mFew)) :
    wpAny (model pr w) A (call (.ref aw) vs) (fun v s' => (∃ t, v = .str msg t) ∧ Ks (frA l) s s') E s := by
  obtain ⟨o, pm, code, doc, hmg, ho, hd, hc⟩ := id fw
  obtain ⟨oc, pmc, codec, docc, hmgc, hoc, hdc, hcc⟩ := id fa
  simp only [ValsAre] at hv
  obtain ⟨v1, _, rfl, q1, v2, _, rfl, q2, rfl⟩ := hv
  refine call_fn (γ := upd (upd (fun _ => none) (Str.ofString "across") (.list dx)) (Str.ofString "up") (.list dy)) (binds := [(Str.ofString "across", v1), (Str.ofString "up", v2)]) (hx _ _ ho) hd (hc.keeps hx) (Gg.nolimit.keeps hx) (by omega) rfl rfl rfl rfl rfl rfl (fun z d e => ?_) (fun h₁ tk E' ok F => ?_)
  · unfold upd at e
    by_cases hb : z = Str.ofString "up"
    · subst hb; rw [if_pos rfl] at e; cases e; exact ⟨rfl, v2, rfl, q2⟩
    · rw [if_neg hb] at e
      by_cases ha : z = Str.ofString "across"
      · subst ha; rw [if_pos rfl] at e; cases e; exact ⟨rfl, v1, rfl, q1⟩
      · rw [if_neg ha] at e; cases e
  · have x1 : Ext g h₁ := hx.trans F.toExt
    refine wpAny_execs_cons (wpAny_Try_except (wpAny_execs_cons (wpAny_Expr ?_)))
    refine wpAny_Call_Name_kw (Calls.Name_function_global rfl rfl (Calls.loadGlobal_global (mg := mg) (Gg.g.keeps x1) hmgc (Calls.callWith_function (o := oc) (fd := fdOf (top 3) pmc codec docc)
      (args_at (P := Fm s.heap (fun _ => False) (callEnv (fdOf (top 10) pm code doc) s.heap.objs.size aw) _) rfl (Evs.cons fm_sta (ev_local (fun _ h => h) rfl rfl rfl) (Evs.cons fm_sta (ev_local (fun _ h => h) rfl rfl rfl) Evs.nil)) F fun us s2 hus k => ⟨⟨kExt k _ _ (x1 _ _ hoc), hdc⟩, ?_⟩))))
    obtain ⟨h2, t2, rfl, ke⟩ := k
    have F2 := fm_sta _ _ ke F
    obtain ⟨m, cm, hn, _, _⟩ := id F2.ex
    have nL : ∀ {b o}, s.heap.get? b = some o → b ≠ s.heap.objs.size := fun {b o} q hb => by subst hb; have := ok.freshL; rw [show (callEnv (fdOf (top 10) pm code doc) s.heap.objs.size aw).locals = s.heap.objs.size from rfl] at this; rw [this] at q; cases q
    have gL : g.get? s.heap.objs.size = none := by
      cases q : g.get? s.heap.objs.size with
      | none => rfl
      | some o' => exact absurd rfl (nL (hx _ _ q))
    have hfr2 : (A.deeper (callEnv (fdOf (top 10) pm code doc) s.heap.objs.size aw)).frames = some (callEnv (fdOf (top 10) pm code doc) s.heap.objs.size aw :: l) := Around.frames_deeper hfr
    have gF2 : ∀ b ∈ frA (callEnv (fdOf (top 10) pm code doc) s.heap.objs.size aw :: l), g.get? b = none := fun b hb => by
      obtain ⟨ev, hev, hf⟩ := List.mem_filterMap.mp hb
      cases hev with
      | head => cases hf; exact gL
      | tail _ hev => exact hgF b (List.mem_filterMap.mpr ⟨ev, hev, hf⟩)
    refine cov_raise (w := w) (dx := dx) (dy := dy) (msg := msg) B Gg (x1.trans ke) fa O hfr2 (Frs.cons (hF.ext (F.toExt.trans ke)) rfl rfl hn) hh (by simp only [Around.deeper]; omega) hus hlx hly hm fun e t h' tk' tm hfl htup hup => ?_
    refine caught_as (R := fun f => ∃ t, f = .ret (.str msg t)) (g := g) (cls := .ref C) hfr2 rfl rfl rfl (fun b o q => hideAll_get _ ((x1.trans ke) _ _ q) fun hm => by rw [gF2 b hm] at q; cases q) (hideAll_none _ (.head _)) hfl htup (hup.ns hn) ?_ ?_ ?_
    · intro h₅ E₅ xg ⟨oe, hoe, hoc'⟩
      refine Calls.Name_function_global rfl rfl (Calls.loadGlobal_global (mg := mg) (Gg.g.keeps xg) O.bound ⟨rfl, fun Q' E'' hq => ?_⟩)
      obtain ⟨b, N, nm, q, bs, hdct, sn, sub, ab, col, dd, k0, k1, k2, k3, k5, mN, o1, o2, o3, o4⟩ := O
      exact wpAny_excMatches_sub_self (xg _ _ o1) hoe hoc' (by decide) hq
    · intro h₇ tk₇ m₇ E₇ hn₇ hm₇ hex xg
      refine wpAny_execs_cons (wpAny_Return_some ?_)
      refine wpAny_Call_Name_kw (Calls.Name_function_global rfl rfl (Calls.loadGlobal_builtin (mg := mg) (mb := mb) (Gg.g.keeps xg) B.str.1 (Gg.b.keeps xg) B.str.2 (PyProof.Rows.callWith_type (noStar_any rfl) (Calls.evalArgs_plain (wpAny_items_cons (wpAny_Name (wpAny_loadName_local rfl rfl hn₇ hm₇ (wpAny_items_nil ?_))))))))
      exact str_own (O.ext xg) hex (by simp only [Around.mark, Around.deeper]; omega) fun tk => ⟨⟨tk, rfl⟩, kRefl _⟩
    · rintro f h₉ t₉ ⟨tt, rfl⟩ st9 up9
      refine ⟨⟨tt, rfl⟩, h₉, t₉, rfl, fun b o q => ?_, fun b o q hdn => ?_⟩
      · have hs := of_hideAll _ q
        refine st9 b o (hideAll_get _ ((F.toExt.trans ke) _ _ hs) fun hm => ?_)
        rcases List.mem_cons.mp hm with hb | hev
        · exact nL hs hb
        · rw [hideAll_none _ hev] at q; cases q
      · obtain ⟨sl, hs⟩ := hup b o ((F.toExt.trans ke) _ _ q) hdn
        obtain ⟨sl', hs'⟩ := up9 b _ (nL q) hs hdn
        exact ⟨sl', hs'⟩
end
end Mine

namespace Mine
open PySem PySem.W PySem.W.X

section
variable {M : Model} {A : Around} {E : Value → Shared → Prop} {s : Shared}
/-- the mark of a frame is set again -/
theorem flight_held {base : Heap} {l : List Env} {e L : Addr} {cls a0 : Value} {Q : Unit → Shared → Prop} (hh : Heap.HeldW base l e cls a0 L s.heap)
    (hQ : ∀ h', Heap.HeldW base l e cls a0 L h' → s.heap.UpToSlots h' → Q () { s with heap := h' }) : wpAny M A (setFlight (.ref e) (some L)) Q E s := by
  obtain ⟨hkb, hen, hl, oe, vs, T, oT, ts, he, hcls, hd, h1, hnT, hTe, hT, hdT, h3⟩ := hh
  have hsz3 : 3 < ts.size := (Array.getElem?_eq_some_iff.mp h3).1
  have other : ∀ b, b ≠ T → (s.heap.update T (Obj.mapFields (·.setIfInBounds 3 (rawInt L)))).get? b = s.heap.get? b := fun b hb => Heap.get?_update_other _ _ (Ne.symm hb)
  have noRecord : ∀ b o, s.heap.get? b = some o → (∀ vs, o.data ≠ .fields vs) → b ≠ T := fun b o hb hnf q => by
    rw [q, hT] at hb; injection hb with hb; subst hb; exact hnf ts hdT
  unfold setFlight
  refine wpAny_bind (wpAny_field he hd h1 ?_)
  rw [if_pos (show (Value.ref T != Value.none) = true from by simp)]
  refine wpAny_setField hT hdT hsz3 (hQ _ ⟨fun b o hbo => (other b fun q => by rw [q, hnT] at hbo; cases hbo).trans (hkb b o hbo), hen, hl.of_keeps fun b o hb hnf => ⟨o, (other b (noRecord b o hb hnf)).trans hb, rfl⟩, ?_⟩ fun b o hb hnf => ⟨o.slots, (other b (noRecord b o hb hnf)).trans hb⟩)
  exact ⟨oe, vs, T, _, _, (other e (Ne.symm hTe)).trans he, hcls, hd, h1, hnT, hTe, Heap.get?_update_self _ hT (Obj.isFreed_of_fields (Obj.data_mapFields hdT _)), Obj.data_mapFields hdT _, by simp [hsz3]⟩
theorem came_held {base : Heap} {l : List Env} {env : Env} {e L : Addr} {cls a0 : Value} {Q : Unit → Shared → Prop} (hf : env.frame = some L) (hh : Heap.HeldW base l e cls a0 L s.heap)
    (hQ : ∀ h', Heap.HeldW base l e cls a0 L h' → s.heap.UpToSlots h' → Q () { s with heap := h' }) : wpAny M A (do
      if (← field (.ref e) 1) == Value.none then unsupported "frame.own-activation:exception-without-traceback"
      setFlight (.ref e) env.frame) Q E s := by
  obtain ⟨hkb, hen, hl, oe, vs, T, oT, ts, he, hcls, hd, h1, r⟩ := id hh
  refine wpAny_bind (wpAny_field he hd h1 ?_)
  rw [hf]
  exact flight_held hh hQ
/-- a raise is noted for the first time -/
theorem note_made {base h : Heap} {env : Env} {outer : List Env} {L e : Addr} {cls : Value} {args : List Value} {Q : Unit → Shared → Prop}
    (hfr : A.frames = some (env :: outer)) (hf : env.frame = some L) (hkb : base.StaysIn h) (hl : h.FunFrames base (env :: outer)) (hx : Heap.MadeExcOf h s.heap e cls args)
    (hQ : ∀ h' t, Heap.HeldW base (env :: outer) e cls (.ref t) L h' → h'.TupAt t args → s.heap.UpToSlots h' → Q () { s with heap := h' }) : wpAny M A (noteFrame (.ref e) env) Q E s := by
  obtain ⟨t, he, htn, ht⟩ := hx.there
  have fresh : ∀ b, h.get? b = none → base.get? b = none := fun b hb => by
    cases hq : base.get? b with
    | none => rfl
    | some o' => have := hkb b o' hq; rw [hb] at this; cases this
  unfold noteFrame
  simp only [hf]
  refine wpAny_bind (wpAny_field he rfl (x := .none) rfl ?_)
  rw [if_neg (by decide)]
  refine wpAny_entryW (a0 := .ref t) hfr (hl.of_keeps fun b o hb _ => ⟨o, hx.keeps b o hb, rfl⟩) hf he (fun b o hb => hx.keeps b o (hkb b o hb)) (fresh e hx.new) rfl (by simp) rfl fun h' hN => ?_
  obtain ⟨k1, k2, k3, k4⟩ := hN
  exact hQ h' t ⟨k1, fresh e hx.new, k2, k3⟩ (Heap.TupAt.of_slots ⟨_, _, ht, rfl, rfl⟩ k4) k4
end

abbrev mGroup : Str := Str.ofString "invalid grouping"

/-- a nought ahead: the generator refuses -/
theorem fresh_raise {w : World} {A : Around} {s : Shared} {L R a : Addr} {mg mb : Str → Option Value} {g : Heap} {vs : List Value} {xs : List Int} {pm code doc : Value} {m : Str → Option Value} {l : List Env} (B : Bi mg mb) (hA : A.handled = none) (hfr : A.frames = some l) (hF : Frs l s.heap)
    (hL : g.get? L = none) (hLF : L ∉ frA l) (Gg : Gd mg mb g) (hx : Ext g s.heap) (hn : s.heap.Ns L m) (hm : m (Str.ofString "grouping") = some (.ref R)) (hl : s.heap.PlainList R vs.toArray) (hi : ValsAre s.heap (xs.map PV.int) vs) (h0 : xs[0]? = some 0) :
    SegX (model pr w) A (.func (sBody (top 7)) (callEnv (fdOf (top 7) pm code doc) L a)) (denote table (.func (sBody (top 7)) (callEnv (fdOf (top 7) pm code doc) L a))) [] s
      (fun e s' => ∃ x t tm h' tk, e = .ret (.error (.ref x)) ∧ s' = { s with heap := h', toks := tk } ∧ Heap.FlyingW (hideAll s.heap (L :: frA l)) l x (.type "ValueError") (.ref t) h' ∧ h'.TupAt t [.str mGroup tm] ∧
        ∀ b o, b ≠ L → s.heap.get? b = some o → (∀ vs, o.data ≠ .fields vs) → ∃ sl, h'.get? b = some { o with slots := sl }) := by
  have hRL := ns_ne_list hn hl
  refine sx_func (sx_cons (sx_wrap (wpAny_Assign_Name (wpAny_Constant_none ?_))))
  refine wpAny_storeName_local rfl hn (fun h1 hn1 hs1 => ?_) rfl
  refine sx_cons (sx_For ?_)
  obtain ⟨nl, hl'⟩ := id hl
  have hl1 : h1.PlainList R vs.toArray := ⟨nl, hs1.extBut _ _ hRL hl'⟩
  refine wpAny_Name (wpAny_loadName_local rfl rfl hn1 (v := .ref R) (by rw [if_neg (by decide)]; exact hm) ?_)
  refine wpAny_pyIter_list (s := { s with heap := h1, toks := _ }) hl1.isList fun p => ?_
  generalize hI : h1.objs.size = I
  have hit : (h1.push { cls := .type "list_iterator", data := .fields #[.ref R, .int 0 0] }).IsListIter I R 0 := hI ▸ ⟨_, Heap.get?_push_size _ rfl, rfl, rfl⟩
  have hnI : h1.get? I = none := hI ▸ get_none_ge (Nat.le_refl _)
  generalize hh1 : h1.push { cls := .type "list_iterator", data := .fields #[.ref R, .int 0 0] } = h1' at hit
  have x1' : Ext h1 h1' := hh1 ▸ Ext.push _ _
  have hn1' := hn1.keeps x1'
  have hl1' := isList_ext x1' hl1
  have hLI := ns_ne_iter hn1' hit
  obtain ⟨xv, hxv, hxd⟩ := hi.get (i := 0) (d := .int 0) (by simp [h0])
  obtain ⟨tx, rfl⟩ := vInt hxd
  refine sx_forLoop (wpAny_pyNext_list_item (s := { s with heap := h1', toks := _ }) hit hl1'.isList (by simpa using hxv) fun h2 hit2 hs2 => ?_)
  refine wpAny_assign_Name (wpAny_storeName_local rfl (hn1'.sameBut hs2 hLI) (fun h3 hn3 hs3 => ?_) rfl)
  -- all that stood stands, but for L
  have keep3 : ∀ b o, b ≠ L → s.heap.get? b = some o → h3.get? b = some o := fun b o hb q => by
    have q1 := hs1.extBut b o hb q
    refine hs3.extBut b o hb (hs2.extBut b o (fun e => ?_) (x1' _ _ q1))
    rw [e, hnI] at q1; cases q1
  have xg3 : Ext g h3 := fun b o q => keep3 b o (fun e => by rw [e, hL] at q; cases q) (hx _ _ q)
  obtain ⟨tc, hcm⟩ := B.cmax
  obtain ⟨m3, hn3, hmi, hml⟩ : ∃ m3 : Str → Option Value, h3.Ns L m3 ∧ m3 (Str.ofString "interval") = some (.int 0 tx) ∧ m3 (Str.ofString "last_interval") = some .none := ⟨_, hn3, rfl, rfl⟩
  have vx : ∀ h, ValIs h (.int 0) (.int 0 tx) := fun h => by simp only [ValIs]; exact ⟨_, rfl⟩
  refine sx_cons (sx_If ?_)
  refine (Tr.cmp (P := fun h => h.Ns L m3 ∧ h.Ns mainGlobals mg) (fun _ _ e x => ⟨x.1.keeps e, x.2.keeps e⟩) (ev_locI (d := .int 0) m3 (fun _ h => h.1) hmi vx rfl rfl)
      (ev_gloI (d := .int 127) mg (fun _ h => h.2) hcm (fun h => by simp only [ValIs]; exact ⟨_, rfl⟩) rfl rfl) (cm_eq 0 127)).at ⟨hn3, Gg.g.keeps xg3⟩ fun s4 k4 => ?_
  rw [if_neg (by decide)]
  refine sx_nil (sx_cons (sx_If ?_))
  refine (Tr.cmp (P := fun h => h.Ns L m3) (fun _ _ e x => x.keeps e) (ev_locI (d := .int 0) m3 (fun _ h => h) hmi vx rfl rfl) eI (cm_eq 0 0)).at (hn3.keeps (kExt k4)) fun s5 k5 => ?_
  rw [if_pos (by rfl)]
  refine sx_cons (sx_If ?_)
  refine (Tr.cmp (P := fun h => h.Ns L m3) (fun _ _ e x => x.keeps e) (ev_locI (d := .none) m3 (fun _ h => h) hml (fun h => by simp only [ValIs]) rfl rfl) eN cm_isNone').at (hn3.keeps ((kExt k4).trans (kExt k5))) fun s6 k6 => ?_
  rw [if_pos rfl]
  have k36 : Ext h3 s6.heap := (kExt k4).trans ((kExt k5).trans (kExt k6))
  have st6 : ∃ t6, s6 = { s with heap := s6.heap, toks := t6 } := by
    obtain ⟨_, _, rfl, _⟩ := k4; obtain ⟨_, _, rfl, _⟩ := k5; obtain ⟨_, t6, rfl, _⟩ := k6; exact ⟨t6, rfl⟩
  generalize s6.heap = h6 at k36 st6
  obtain ⟨t6, rfl⟩ := st6
  have xg6 := xg3.trans k36
  refine sx_cons (sx_wrap (wpAny_Raise_call PySem.F.excCall_ValueError PySem.F.excRaise_ValueError hA (noStar_any rfl) ?_))
  refine Calls.Name_function_global rfl rfl (Calls.loadGlobal_builtin (mg := mg) (mb := mb) (Gg.g.keeps xg6) B.ve.1 (Gg.b.keeps xg6) B.ve.2 ⟨rfl, ?_⟩)
  refine args_at (P := fun h => Ext h6 h) rfl (Evs.cons (fun _ _ e x => x.trans e) eS Evs.nil) (Ext.refl _) fun us s7 hv k7 => ?_
  simp only [ValsAre] at hv
  obtain ⟨v, _, rfl, hv1, rfl⟩ := hv
  obtain ⟨tm, rfl⟩ := vStr hv1
  obtain ⟨h7, t7, rfl, ke7⟩ := k7
  refine ⟨rfl, (show (1 : Nat) ≤ sizeLine by decide), fun h' e hmade => ?_⟩
  have k37 := k36.trans ke7
  have hn7 := hn3.keeps k37
  have keep7 : ∀ b o, b ≠ L → s.heap.get? b = some o → h7.get? b = some o := fun b o hb q => k37 _ _ (keep3 b o hb q)
  have frs7 : Frs (callEnv (fdOf (top 7) pm code doc) L a :: l) h7 := Frs.cons (fun ev hev => by
    obtain ⟨q1, L1, m1, q2, q3⟩ := hF ev hev
    refine ⟨q1, L1, m1, q2, q3.at' fun o q => keep7 _ _ (fun hb => hLF (List.mem_filterMap.mpr ⟨ev, hev, hb ▸ q2⟩)) q⟩) rfl rfl hn7
  have base7 : (hideAll s.heap (L :: frA l)).StaysIn h7 := fun b o q => keep7 b o (fun hb => by rw [hb, hideAll_none _ (.head _)] at q; cases q) (of_hideAll _ q)
  have fun7 : h7.FunFrames (hideAll s.heap (L :: frA l)) (callEnv (fdOf (top 7) pm code doc) L a :: l) := Frs.fun_ frs7 fun b hb => hideAll_none _ hb
  have upL : ∀ {h' : Heap}, h7.UpToSlots h' → ∀ b o, b ≠ L → s.heap.get? b = some o → (∀ vs, o.data ≠ .fields vs) → ∃ sl, h'.get? b = some { o with slots := sl } := fun u b o hb q hd => u b o (keep7 b o hb q) hd
  have hfr2 : (A.over (gCode (callEnv (fdOf (top 7) pm code doc) L a) I) [gFrame (callEnv (fdOf (top 7) pm code doc) L a) p]).frames = some (callEnv (fdOf (top 7) pm code doc) L a :: l) := by
    simp only [Around.over, hfr]; rfl
  refine sx_wrap (wpAny_bind (note_made hfr2 rfl base7 fun7 hmade.of fun h8 t hheld htup hup8 => wpAny_theTreesLotGoes ?_))
  refine s_pop pr w A _ _ _ _ (.error (.ref e)) _ rfl _ _ _ _ _ _ _ ?_
  have up8 : h7.UpToSlots h8 := (Heap.UpToSlots.of_keeps hmade.of.keeps).trans hup8
  show SegX (model pr w) A _ (((Sem.raise (Value.ref e) : Sem Flow).onRaise _).wrap _ _ _ _) [] _ _
  rw [Sem.onRaise_eq_wrap, Sem.wrap_wrap]
  show SegX (model pr w) A _ (((_ : Sem Unit).bind fun _ => Sem.raise (Value.ref e)).wrap _ _ _ _) [] _ _
  rw [Sem.bind_eq_wrap, Sem.wrap_wrap]
  refine sx_wrap (came_held rfl hheld fun h9 hheld9 hup9 => ?_)
  have hfr3 : (A.over (.func (sBody (top 7)) (callEnv (fdOf (top 7) pm code doc) L a)) []).frames = some (callEnv (fdOf (top 7) pm code doc) L a :: l) := by
    simp only [Around.over, hfr]; rfl
  refine sx_wrap (wpAny_throw (sx_wrap ?_))
  unfold leaving
  refine wpAny_bind (wpAny_noteFrame_againW rfl hheld9.2.2.2 ?_)
  refine wpAny_landsW hheld9 fun h10 hfl10 hup10 => ?_
  refine s_end pr w A _ _ _ (.error (.ref e)) _ rfl ⟨e, t, tm, h10, _, rfl, rfl, ?_, ((htup.of_slots hup9).of_slots hup10), upL ((up8.trans hup9).trans hup10)⟩
  obtain ⟨z1, z2, ⟨_, _, z3⟩, z4⟩ := hfl10
  exact ⟨z1, z2, z3, z4⟩
end Mine

namespace Mine
open PySem PySem.W PySem.W.X
open PyProof.Rows (AllBare)

theorem caught_core {w : World} {A : Around} {env : Env} {l : List Env} {base g : Heap} {s' : Shared} {e t : Addr} {cls : Value} {msg : Str} {tm : Tok} {m : Str → Option Value} {n : Str} {te : Expr} {b₀ : Stmt} {suite : List Stmt} {pos : Pos} {rest : List ExceptHandler} {Q : Flow → Shared → Prop} {E : Value → Shared → Prop} {R : Flow → Prop}
    (hkd : env.scope.kind = .function) (hk : env.kindOf n = some .local) (hgb : Ext g base) (hLb : base.get? env.locals = none)
    (hheld : Heap.FlyingW base (env :: l) e cls (.ref t) s'.heap) (htup : s'.heap.TupAt t [.str msg tm]) (hn : s'.heap.Ns env.locals m)
    (hmatch : ∀ E', Ext g s'.heap → (∃ oe, s'.heap.get? e = some oe ∧ oe.cls = cls) → wpAny (model pr w) (A.mark (some (.ref e))) (eval te env) (fun c s₁ => s₁ = s' ∧ ∀ Q' E', Q' true s₁ → wpAny (model pr w) (A.mark (some (.ref e))) (excMatches (.ref e) c) Q' E' s₁) E' s')
    (hsuite : ∀ h₇ tk m₇ E', h₇.Ns env.locals m₇ → m₇ n = some (.ref e) → ExcOf h₇ e cls msg → Ext g h₇ → wpAny (model pr w) (A.mark (some (.ref e))) (execs (b₀ :: suite) env) (fun f s₄ => R f ∧ Keeps { s' with heap := h₇, toks := tk } s₄) E' { s' with heap := h₇, toks := tk })
    (hQ : ∀ f h₉ tk, R f → (∀ b o, base.get? b = some o → h₉.get? b = some o) → (∀ b o, b ≠ env.locals → s'.heap.get? b = some o → (∀ vs, o.data ≠ .fields vs) → ∃ sl, h₉.get? b = some { o with slots := sl }) → Q f { s' with heap := h₉, toks := tk }) :
    wpAny (model pr w) A (handleBy (.ref e) env (.ExceptHandler (some te) (some n) (b₀ :: suite) pos :: rest)) Q E s' := by
  refine wpAny_handleBy_cons (codeAny_handlers_test ?_) (by intro q; cases q)
  refine wpAny_mono (hmatch _ (fun b o q => hheld.1 _ _ (hgb _ _ q)) hheld.there) (fun c s₁ h₁ => ?_) fun _ _ x => x
  obtain ⟨rfl, hma⟩ := h₁
  refine hma _ _ (codeAny_handlers_suite_as ?_)
  refine PyProof.Rows.lands_againW hheld fun h₆ hfl₆ up6 => ?_
  refine wpAny_storeName_local hk (up6.ns hn) (fun h₇ hn₇ hs₇ => ?_) (by rw [hkd]; rfl)
  have exc7 : ExcOf h₇ e cls msg := by
    obtain ⟨oe, ws, hoe, hoec, hoed, hoe0⟩ := hfl₆.first
    obtain ⟨on, es, ep, hon, hdn, _⟩ := up6.ns hn
    refine ExcOf.off (P := fun b => b = env.locals) ⟨oe, ws, t, tm, hoe, hoec, hoed, hoe0, htup.of_slots up6⟩ (sameBut_off hs₇) fun b o hb ho => ?_
    subst hb; rw [hon] at ho; cases ho; exact ⟨es, ep, hdn⟩
  have stay7 : ∀ b o, base.get? b = some o → h₇.get? b = some o := fun b o q => hs₇.extBut b o (fun hb => by rw [hb, hLb] at q; cases q) (hfl₆.1 _ _ q)
  refine wpAny_mono (hsuite h₇ _ _ _ hn₇ (by simp) exc7 fun b o q => stay7 _ _ (hgb _ _ q)) (fun f s₄ h₄ => ?_) fun _ _ x => x
  obtain ⟨hR, h₈, t₈, rfl, k₈⟩ := h₄
  refine wpAny_nameGoes hk (hn₇.keeps k₈) (by rw [hkd]; rfl) fun h₉ m₉ hn₉ hs₉ => hQ f h₉ _ hR (fun b o q => ?_) fun b o hb ho hd => ?_
  · exact hs₉.extBut b o (fun hb => by rw [hb, hLb] at q; cases q) (k₈ _ _ (stay7 _ _ q))
  · obtain ⟨sl, h6⟩ := up6 b o ho hd
    exact ⟨sl, hs₉.extBut b _ hb (k₈ _ _ (hs₇.extBut b _ hb h6))⟩

/-- what a call leaves that may make and end generators too -/
def Kr (F : List Addr) (s s' : Shared) : Prop := ∃ h' tk gs, s' = { s with heap := h', toks := tk, gens := gs } ∧ (hideAll s.heap F).StaysIn h' ∧ s.heap.UpToSlots h' ∧ (AllBare s.gens → AllBare gs)
theorem Kr.of_ks {F : List Addr} {a b : Shared} (x : Ks F a b) : Kr F a b := by
  obtain ⟨h, t, rfl, k1, k2⟩ := x
  exact ⟨h, t, _, rfl, k1, k2, id⟩
theorem Kr.of_keeps {F : List Addr} {a b : Shared} (x : Keeps a b) : Kr F a b := .of_ks (.of_keeps x)
theorem Kr.trans {F : List Addr} {a b c : Shared} (x : Kr F a b) (y : Kr F b c) : Kr F a c := by
  obtain ⟨h, t, gs, rfl, k, k', kg⟩ := x
  obtain ⟨h', t', gs', rfl, k1, k2, kg'⟩ := y
  refine ⟨h', t', gs', rfl, fun b o e => k1 b o ?_, k'.trans k2, fun z => kg' (kg z)⟩
  exact hideAll_get F (k b o e) fun hm => by rw [hideAll_none F hm] at e; cases e
theorem Kr.frs {F : List Addr} {l : List Env} {a b : Shared} (x : Kr F a b) (f : Frs l a.heap) : Frs l b.heap := by
  obtain ⟨h, t, gs, rfl, k, k', _⟩ := x
  exact f.slots k'
theorem Kr.ground {F : List Addr} {a b : Shared} {g : Heap} (x : Kr F a b) (hg : Ext g a.heap) (hF : ∀ c ∈ F, g.get? c = none) : Ext g b.heap := by
  obtain ⟨h, t, gs, rfl, k, k', _⟩ := x
  exact fun c o e => k c o (hideAll_get F (hg c o e) fun hm => by rw [hF c hm] at e; cases e)
theorem bare_set {a : Array GenState} {g : Nat} {x : GenState} (h : AllBare a) (hx : x.bare = true) : AllBare (a.setIfInBounds g x) := fun y hy => by
  obtain ⟨i, hi, rfl⟩ := Array.mem_iff_getElem.mp hy
  rw [Array.getElem_setIfInBounds (by simpa using hi)]
  split
  · exact hx
  · exact h _ (Array.getElem_mem _)

theorem sub_ve_stop : isSubtype (.type "ValueError") (.type "StopIteration") = pure false := by rw [isSubtype_type]; kernel_rfl

section
variable {w : World} {A : Around} {s : Shared} {mg mb : Str → Option Value} {g : Heap} {ag ar : Addr} {l : List Env}
theorem refused_ok {E : Value → Shared → Prop} {vs : List Value} {xs : List Int} (B : Bi mg mb) (Gg : Gd mg mb g) (hx : Ext g s.heap) (fg : FnAt mg g (top 7) ag) (fr : FnAt mg g (top 9) ar) (hfr : A.frames = some l) (hF : Frs l s.heap) (hgF : ∀ b ∈ frA l, g.get? b = none) (hh : A.handled = none)
    (hroom : A.depth + 3 < recursionLimit) (hu : A.units + 100 < cLine) (hv : ValsAre s.heap [.list (xs.map .int)] vs) (h0 : xs[0]? = some 0) :
    wpAny (model pr w) A (call (.ref ar) vs) (fun v s' => v = .bool true ∧ Kr (frA l) s s') E s := by
  obtain ⟨o, pm, code, doc, hmg, ho, hd, hc⟩ := id fr
  obtain ⟨oc, pmc, codec, docc, hmgc, hoc, hdc, hcc⟩ := id fg
  simp only [ValsAre] at hv
  obtain ⟨v1, _, rfl, q1, rfl⟩ := hv
  refine call_fn (γ := upd (fun _ => none) (Str.ofString "row") (.list (xs.map .int))) (binds := [(Str.ofString "row", v1)]) (hx _ _ ho) hd (hc.keeps hx) (Gg.nolimit.keeps hx) (by omega) rfl rfl rfl rfl rfl rfl (fun z d e => ?_) (fun h₁ tk E' ok F => ?_)
  · unfold upd at e
    by_cases ha : z = Str.ofString "row"
    · subst ha; rw [if_pos rfl] at e; cases e; exact ⟨rfl, v1, rfl, q1⟩
    · rw [if_neg ha] at e; cases e
  · generalize henv : callEnv (fdOf (top 9) pm code doc) s.heap.objs.size ar = env1 at ok F
    have eL : env1.locals = s.heap.objs.size := by rw [← henv]; rfl
    have eF : env1.frame = some env1.locals := by rw [← henv]; rfl
    have eK : env1.scope.kind = .function := by rw [← henv]; rfl
    have x1 : Ext g h₁ := hx.trans F.toExt
    subst henv
    refine wpAny_execs_cons (wpAny_Try_except (wpAny_execs_cons (wpAny_For ?_)))
    refine wpAny_Call_Name_kw (Calls.Name_function_global rfl rfl (Calls.loadGlobal_global (mg := mg) (Gg.g.keeps x1) hmgc (Calls.callWith_function (o := oc) (fd := fdOf (top 7) pmc codec docc)
      (args_at (P := Fm s.heap (fun _ => False) (callEnv (fdOf (top 9) pm code doc) s.heap.objs.size ar) _) rfl (Evs.cons fm_sta (ev_local (fun _ h => h) rfl rfl rfl) Evs.nil) F fun us s2 hus k => ⟨⟨kExt k _ _ (x1 _ _ hoc), hdc⟩, ?_⟩))))
    obtain ⟨h2, t2, rfl, ke⟩ := k
    simp only [ValsAre] at hus
    obtain ⟨vr, _, rfl, hvr, rfl⟩ := hus
    have F2 := fm_sta _ _ ke F
    have x2 := x1.trans ke
    obtain ⟨m, cm, hn, _, _⟩ := id F2.ex
    refine gen_make (w := w) (s := { s with heap := h2, toks := t2 }) (fg.ext x2) (Gg.nolimit.keeps x2) (by simp only [Around.deeper]; omega) fun Lg G h3 t3 pmg cdg dcg m3 xh3 hLg hG hIs hn3 hgr => ?_
    have hvr3 := hvr.ext xh3
    obtain ⟨R, rs, rfl, hR, hrs⟩ := vList hvr3
    refine wpAny_pyIter_gen hIs ?_
    refine codeAny_forLoop (I := fun n s' => s' = { s with heap := h3, toks := t3, gens := s.gens.push (.fresh (.func (sBody (top 7)) (callEnv (fdOf (top 7) pmg cdg dcg) Lg ag))) }) (fun nn s' hI => ?_) 0 rfl
    subst hI
    have x3 := x2.trans xh3
    have nL : ∀ {b o}, s.heap.get? b = some o → b ≠ s.heap.objs.size := fun {b o} q hb => by subst hb; have := ok.freshL; rw [eL] at this; rw [this] at q; cases q
    have ext03 : Ext s.heap h3 := (F.toExt.trans ke).trans xh3
    have gL : g.get? s.heap.objs.size = none := by
      cases q : g.get? s.heap.objs.size with
      | none => rfl
      | some o' => exact absurd rfl (nL (hx _ _ q))
    have hfr2 : (A.deeper (callEnv (fdOf (top 9) pm code doc) s.heap.objs.size ar)).frames = some (callEnv (fdOf (top 9) pm code doc) s.heap.objs.size ar :: l) := Around.frames_deeper hfr
    have gF2 : ∀ b ∈ frA (callEnv (fdOf (top 9) pm code doc) s.heap.objs.size ar :: l), g.get? b = none := fun b hb => by
      rcases List.mem_cons.mp hb with hb | hb
      · rw [hb]; exact gL
      · exact hgF b hb
    have frs2 : Frs (callEnv (fdOf (top 9) pm code doc) s.heap.objs.size ar :: l) h2 := Frs.cons (hF.ext (F.toExt.trans ke)) rfl rfl hn
    have LgF : Lg ∉ frA (callEnv (fdOf (top 9) pm code doc) s.heap.objs.size ar :: l) := fun hb => by
      obtain ⟨ev, hev, hf⟩ := List.mem_filterMap.mp hb
      obtain ⟨_, L', m', hf', hn'⟩ := frs2 ev hev
      rw [hf] at hf'; cases hf'
      obtain ⟨o', ho', _⟩ := ns_notFields hn'
      have hLg' : h2.get? Lg = none := hLg
      rw [hLg'] at ho'; cases ho'
    have gLg : g.get? Lg = none := by
      cases q : g.get? Lg with
      | none => rfl
      | some o' => have q2 := x2 _ _ q; have hLg' : h2.get? Lg = none := hLg; rw [hLg'] at q2; cases q2
    have gB : Ext g (hideAll h3 (Lg :: frA (callEnv (fdOf (top 9) pm code doc) s.heap.objs.size ar :: l))) := fun b o q => hideAll_get _ (x3 _ _ q) fun hm => by
      rcases List.mem_cons.mp hm with hb | hb
      · rw [hb, gLg] at q; cases q
      · rw [gF2 b hb] at q; cases q
    refine nextX (gs := .fresh (.func (sBody (top 7)) (callEnv (fdOf (top 7) pmg cdg dcg) Lg ag))) hh (Gg.nolimit.keeps x3) (by simp only [Around.deeper]; omega) hIs (by simp) (.inl ⟨rfl, rfl, rfl⟩) ?_
    refine (fresh_raise (w := w) (A := (A.deeper (callEnv (fdOf (top 9) pm code doc) s.heap.objs.size ar)).in1) (xs := xs) (l := callEnv (fdOf (top 9) pm code doc) s.heap.objs.size ar :: l) B hh hfr2 (frs2.ext xh3) gLg LgF Gg x3 hn3 hgr hR hrs h0).mono fun en s4 h4 => ?_
    obtain ⟨x, t, tm, h4, t4, rfl, rfl, hfl, htup, hup⟩ := h4
    refine .inr (.inr ⟨x, "ValueError", rfl, hfl.there, sub_ve_stop, ?_, ?_⟩)
    · obtain ⟨og, nm, qn, hog, hgc, hgd, hgs⟩ := hIs
      refine ⟨og, nm, qn, hfl.1 _ _ (hideAll_get _ hog fun hm => ?_), hgc, hgd, hgs⟩
      rcases List.mem_cons.mp hm with hb | hb
      · obtain ⟨o', ho', hd'⟩ := ns_notFields hn3
        rw [hb, ho'] at hog; cases hog; exact hd' _ hgd
      · obtain ⟨ev, hev, hf⟩ := List.mem_filterMap.mp hb
        obtain ⟨_, L', m', hf', hn'⟩ := frs2.ext xh3 ev hev
        rw [hf] at hf'; cases hf'
        obtain ⟨o', ho', hd'⟩ := ns_notFields hn'
        rw [ho'] at hog; cases hog; exact hd' _ hgd
    · -- noted, come back, noted again, landed
      have hn3' : h3.Ns s.heap.objs.size m := hn.keeps xh3
      have nLg : s.heap.objs.size ≠ Lg := fun e => LgF (e ▸ .head _)
      obtain ⟨on, es, ep, hon, hdn, hk1, hk2⟩ := id hn3'
      obtain ⟨sl4, hs4⟩ := hup _ _ nLg hon (fun vs e => by rw [hdn] at e; cases e)
      have hn4 : h4.Ns s.heap.objs.size m := ⟨_, es, ep, hs4, hdn, hk1, hk2⟩
      refine wpAny_looks_onW hfr2 rfl hfl fun h5 hheld5 hup5 => ?_
      refine came_held rfl hheld5 fun h6 hheld6 hup6 => ?_
      refine wpAny_noteFrame_againW rfl hheld6.2.2.2 ?_
      refine wpAny_landsW hheld6 fun h7 hfl7 hup7 => ?_
      have up47 := (hup5.trans hup6).trans hup7
      refine caught_core (R := fun f => f = .ret (.bool true)) (g := g) (cls := .type "ValueError") rfl rfl gB (hideAll_none _ (.tail _ (.head _))) hfl7 (htup.of_slots up47) (up47.ns hn4) ?_ ?_ ?_
      · intro E₅ xg ⟨oe, hoe, hoc'⟩
        refine Calls.Name_function_global rfl rfl (Calls.loadGlobal_builtin (mg := mg) (mb := mb) (Gg.g.keeps xg) B.ve.1 (Gg.b.keeps xg) B.ve.2 ⟨rfl, fun Q' E'' hq => ?_⟩)
        exact wpAny_excMatches_type (X := "ValueError") (T := "ValueError") ⟨oe, hoe, hoc'⟩ PySem.F.isExc_ValueError PySem.F.notTuple_ValueError (b := true) (by rw [isSubtype_type]; kernel_rfl) hq
      · intro h₇ tk₇ m₇ E₇ hn₇ hm₇ hex xg
        refine wpAny_execs_cons (wpAny_Return_some (wpAny_Compare1 ?_ (by with_unfolding_all rfl)))
        refine wpAny_Call_Name_kw (Calls.Name_function_global rfl rfl (Calls.loadGlobal_builtin (mg := mg) (mb := mb) (Gg.g.keeps xg) B.str.1 (Gg.b.keeps xg) B.str.2 (PyProof.Rows.callWith_type (noStar_any rfl) (Calls.evalArgs_plain (wpAny_items_cons (wpAny_Name (wpAny_loadName_local rfl rfl hn₇ hm₇ (wpAny_items_nil ?_))))))))
        obtain ⟨oe, ws, t0, tk0, z1, z2, z3, z4, z5⟩ := hex
        refine P.str_of_exc_one PySem.F.excStr_ValueError (by simp only [Around.mark, Around.deeper]; omega) ⟨oe, ws, z1, z2, z3, z4⟩ z5 ?_
        refine wpAny_Constant_str (P.eq_str ?_)
        refine ⟨by simp, kTok _ _⟩
      · rintro f h₉ t₉ rfl st9 up9
        refine ⟨rfl, h₉, t₉, _, rfl, fun b o q => ?_, fun b o q hdn' => ?_, fun hb => ?_⟩
        · have hs := of_hideAll _ q
          refine st9 b o (hideAll_get _ (ext03 _ _ hs) fun hm => ?_)
          rcases List.mem_cons.mp hm with hb | hm
          · have hLg' : h2.get? Lg = none := hLg
            have := (F.toExt.trans ke) _ _ hs
            rw [hb, hLg'] at this; cases this
          · rcases List.mem_cons.mp hm with hb | hev
            · exact nL hs hb
            · rw [hideAll_none _ hev] at q; cases q
        · have nb : b ≠ Lg := fun hb => by
            have hLg' : h2.get? Lg = none := hLg
            have := (F.toExt.trans ke) _ _ q
            rw [hb, hLg'] at this; cases this
          obtain ⟨sl, hs⟩ := hup b o nb (ext03 _ _ q) hdn'
          obtain ⟨sl', hs'⟩ := up47 b _ hs hdn'
          obtain ⟨sl'', hs''⟩ := up9 b _ (nL q) hs' hdn'
          exact ⟨sl'', hs''⟩
        · exact bare_set (bare_set (hb.push rfl) rfl) rfl
end
end Mine

namespace Mine
open PySem PySem.W PySem.W.X
open PyProof.Rows (AllBare)

theorem Fm.mono {h₀ : Heap} {X X' : Addr → Prop} {env : Env} {γ : Str → Option PV} {h : Heap} (F : Fm h₀ X env γ h) (hX : ∀ b, X b → X' b) : Fm h₀ X' env γ h := ⟨fun b o hb q => F.g b o (fun x => hb (hX b x)) q, F.ex⟩
/-- a frame over a call that raised and landed within -/
theorem Fm.kr {h₀ : Heap} {X : Addr → Prop} {env : Env} {γ : Str → Option PV} {s s' : Shared} {F : List Addr} (Fm_ : Fm h₀ X env γ s.heap) (k : Kr F s s') (hF : ∀ b ∈ F, X b ∨ h₀.get? b = none) (hN : ∀ b ∈ F, ∃ m, s.heap.Ns b m) : Fm h₀ X env γ s'.heap := by
  obtain ⟨h', t, gs, rfl, k1, k2, k3⟩ := k
  have off : ExtOff (· ∈ F) s.heap h' := fun b o hb q => k1 b o (hideAll_get F q hb)
  refine ⟨fun b o hb q => off b o (fun hm => ?_) (Fm_.g b o hb q), ?_⟩
  · rcases hF b hm with h | h
    · exact hb h
    · rw [h] at q; cases q
  · obtain ⟨m, cm, hn, hc, hv⟩ := Fm_.ex
    refine ⟨m, cm, k2.ns hn, fun n c e => ?_, fun x d e => ?_⟩
    · obtain ⟨o, ho, hd⟩ := hc n c e
      refine ⟨o, off _ _ (fun hm => ?_) ho, hd⟩
      obtain ⟨m', hn'⟩ := hN c hm
      obtain ⟨o', es, ep, ho', hd', _⟩ := hn'
      rw [ho] at ho'; cases ho'; rw [hd] at hd'; cases hd'
    · obtain ⟨v, h1, h2⟩ := hv x d e
      refine ⟨v, h1, h2.off off fun a vs hl hm => ?_⟩
      obtain ⟨m', hn'⟩ := hN a hm
      exact ns_ne_list hn' hl rfl
theorem Frs.ns {l : List Env} {h : Heap} (F : Frs l h) : ∀ b ∈ frA l, ∃ m, h.Ns b m := fun b hb => by
  obtain ⟨ev, hev, hf⟩ := List.mem_filterMap.mp hb
  obtain ⟨_, L', m', hf', hn'⟩ := F ev hev
  rw [hf] at hf'; cases hf'
  exact ⟨m', hn'⟩

section
variable {w : World} {A : Around} {s : Shared} {mg mb : Str → Option Value} {g : Heap} {a aw C ag al : Addr} {l : List Env}
theorem ev_words {env : Env} {P : Heap → Prop} {E : Value → Shared → Prop} {p pos : Pos} {e : Expr} {es : List Expr} {dx dy : List PV} {msg : Str} (B : Bi mg mb) (Gg : Gd mg mb g) (hPg : ∀ h, P h → Ext g h) (fa : FnAt mg g (top 3) a) (fw : FnAt mg g (top 10) aw) (O : OwnS mg C g) (hfr : A.frames = some l) (hF : Frs l s.heap) (hgF : ∀ b ∈ frA l, g.get? b = none) (hh : A.handled = none)
    (hroom : A.depth + 2 < recursionLimit) (hu : A.units + 100 < cLine) (hkd : env.scope.kind = .function) (hk : env.kindOf (Str.ofString "_law_words") = some .globalImplicit) (hgl : env.globals = mainGlobals)
    (hP : P s.heap) (hn : noStar (e :: es) = true) (hv : Evs w A env P (e :: es) [.list dx, .list dy]) (hlx : (dx.length : Int) < 2 ^ 63) (hly : (dy.length : Int) < 2 ^ 63) (hm : (dy.length ≠ dx.length ∧ msg = mUnlike) ∨ (dy.length = dx.length ∧ dx.length < 2 ∧ msg = mFew)) :
    wpAny (model pr w) A (eval (.Call (.Name (Str.ofString "_law_words") p) (e :: es) [] pos) env) (fun v s' => (∃ t, v = .str msg t) ∧ Ks (frA l) s s') E s := by
  obtain ⟨o, pm, code, doc, hmg, ho, hd, hc⟩ := id fw
  refine wpAny_Call_Name_kw (Calls.Name_function_global hkd hk (Calls.loadGlobal_global (mg := mg) (by rw [hgl]; exact Gg.g.keeps (hPg _ hP)) hmg (Calls.callWith_function (o := o) (fd := fdOf (top 10) pm code doc)
      (args_at hn hv hP fun us s2 hus k => ⟨⟨kExt k _ _ (hPg _ hP _ _ ho), hd⟩, ?_⟩))))
  exact wpAny_mono (words_ok (w := w) B Gg ((hPg _ hP).trans (kExt k)) fa fw O hfr (hF.ext (kExt k)) hgF hh hroom hu hus hlx hly hm) (fun v s' h => ⟨h.1, h.2.trans_l k⟩) fun _ _ e => e

theorem alone_ok {E : Value → Shared → Prop} {vs : List Value} {xs : List Int} (B : Bi mg mb) (Gg : Gd mg mb g) (hx : Ext g s.heap) (fa : FnAt mg g (top 3) a) (fw : FnAt mg g (top 10) aw) (O : OwnS mg C g) (fg : FnAt mg g (top 7) ag) (fl : FnAt mg g (top 11) al) (hfr : A.frames = some l) (hF : Frs l s.heap) (hgF : ∀ b ∈ frA l, g.get? b = none) (hh : A.handled = none)
    (hroom : A.depth + 4 < recursionLimit) (hu : A.units + 200 < cLine) (hv : ValsAre s.heap [.list (xs.map .int)] vs) (h0 : xs[0]? = some 127) :
    wpAny (model pr w) A (call (.ref al) vs) (fun v s' => v = .bool true ∧ Kr (frA l) s s') E s := by
  obtain ⟨o, pm, code, doc, hmg, ho, hd, hc⟩ := id fl
  obtain ⟨oc, pmc, codec, docc, hmgc, hoc, hdc, hcc⟩ := id fg
  simp only [ValsAre] at hv
  obtain ⟨v1, _, rfl, q1, rfl⟩ := hv
  refine call_fn (γ := upd (fun _ => none) (Str.ofString "row") (.list (xs.map .int))) (binds := [(Str.ofString "row", v1)]) (hx _ _ ho) hd (hc.keeps hx) (Gg.nolimit.keeps hx) (by omega) rfl rfl rfl rfl rfl rfl (fun z d e => ?_) (fun h₁ tk E' ok F => ?_)
  · unfold upd at e
    by_cases ha : z = Str.ofString "row"
    · subst ha; rw [if_pos rfl] at e; cases e; exact ⟨rfl, v1, rfl, q1⟩
    · rw [if_neg ha] at e; cases e
  · refine xs_assign (d := .list [.int 0]) ok F (Ev.list (Evs.cons fm_sta eI Evs.nil)) rfl fun h2 t2 F2 => ?_
    have x1 : Ext g h2 := hx.trans F2.toExt
    refine wpAny_execs_cons (wpAny_For ?_)
    refine wpAny_Call_Name_kw (Calls.Name_function_global rfl rfl (Calls.loadGlobal_global (mg := mg) (Gg.g.keeps x1) hmgc (Calls.callWith_function (o := oc) (fd := fdOf (top 7) pmc codec docc)
      (args_at (P := Fm s.heap (fun _ => False) (callEnv (fdOf (top 11) pm code doc) s.heap.objs.size al) _) rfl (Evs.cons fm_sta (ev_local (fun _ h => h) rfl rfl rfl) Evs.nil) F2 fun us s2 hus k => ⟨⟨kExt k _ _ (x1 _ _ hoc), hdc⟩, ?_⟩))))
    obtain ⟨h2', t2', rfl, ke⟩ := k
    simp only [ValsAre] at hus
    obtain ⟨vr, _, rfl, hvr, rfl⟩ := hus
    have F3 := fm_sta _ _ ke F2
    have x2 := x1.trans ke
    refine gen_make (w := w) (s := { s with heap := h2', toks := t2' }) (fg.ext x2) (Gg.nolimit.keeps x2) (by simp only [Around.deeper]; omega) fun Lg G h3 t3 pmg cdg dcg m3 xh3 hLg hG hIs hn3 hgr => ?_
    have hvr3 := hvr.ext xh3
    obtain ⟨R, rs, rfl, hR, hrs⟩ := vList hvr3
    refine wpAny_pyIter_gen hIs ?_
    refine codeAny_forLoop (I := fun n s' => s' = { s with heap := h3, toks := t3, gens := s.gens.push (.fresh (.func (sBody (top 7)) (callEnv (fdOf (top 7) pmg cdg dcg) Lg ag))) }) (fun nn s' hI => ?_) 0 rfl
    subst hI
    have x3 := x2.trans xh3
    obtain ⟨tc, hcm⟩ := B.cmax
    have hLg' : h2'.get? Lg = none := hLg
    have hLm : Lg ≠ mainGlobals := fun e => by
      obtain ⟨o', ho', _⟩ := ns_notFields (Gg.g.keeps x2)
      rw [e, ho'] at hLg'; cases hLg'
    refine nextX (gs := .fresh (.func (sBody (top 7)) (callEnv (fdOf (top 7) pmg cdg dcg) Lg ag))) hh (Gg.nolimit.keeps x3) (by simp only [Around.deeper]; omega) hIs (by simp) (.inl ⟨rfl, rfl, rfl⟩) ?_
    obtain ⟨I, hI, hseg⟩ := fresh_ok (w := w) (A := (A.deeper (callEnv (fdOf (top 11) pm code doc) s.heap.objs.size al)).in1) (s := Shared.setGen { s with heap := h3, toks := t3, gens := s.gens.push (.fresh (.func (sBody (top 7)) (callEnv (fdOf (top 7) pmg cdg dcg) Lg ag))) } s.gens.size .running)
      (L := Lg) (a := ag) (xs := xs) (pm := pmg) (code := cdg) (doc := dcg) 0 hh hLm hcm hn3 hgr hR hrs (Gg.g.keeps x3) (by rw [h0]; decide)
    refine hseg.mono fun en s4 h4 => ?_
    obtain ⟨⟨h4, t4, rfl, gk⟩, hend⟩ := h4
    have e0 : look xs 0 none = none := by unfold look; rw [h0]; rfl
    rw [e0] at hend
    refine .inr (.inl ⟨hend, fun h5 x45 => ?_⟩)
    have ext5 : Ext h2' h5 := fun b o q => by
      have q3 := xh3 b o q
      refine x45 _ _ (gk b o (fun hb => by rw [hb, hLg'] at q; cases q) (fun hb => ?_) q3)
      have hI' : h3.get? I = none := hI
      rw [hb, hI'] at q3; cases q3
    have F5 := fm_sta _ _ ext5 F3
    refine wpAny_execs_nil ?_
    -- behind the loop
    refine xs_assign (d := .str mFew) ok F5 eS rfl fun h6 t6 F6 => ?_
    refine wpAny_execs_cons (wpAny_Return_some (wpAny_Compare1 ?_ (by with_unfolding_all rfl)))
    obtain ⟨m, cm, hn, _, _⟩ := id F6.ex
    have F6' := F6.mono (X' := fun b => b ∈ frA l) fun b hb => hb.elim
    have hfr2 : (A.deeper (callEnv (fdOf (top 11) pm code doc) s.heap.objs.size al)).frames = some (callEnv (fdOf (top 11) pm code doc) s.heap.objs.size al :: l) := Around.frames_deeper hfr
    have eL : (callEnv (fdOf (top 11) pm code doc) s.heap.objs.size al).locals = s.heap.objs.size := rfl
    have fL : s.heap.get? s.heap.objs.size = none := get_none_ge (Nat.le_refl _)
    have gL : g.get? s.heap.objs.size = none := by
      cases q : g.get? s.heap.objs.size with
      | none => rfl
      | some o' => have := hx _ _ q; rw [fL] at this; cases this
    have gF2 : ∀ b ∈ frA (callEnv (fdOf (top 11) pm code doc) s.heap.objs.size al :: l), g.get? b = none := fun b hb => by
      rcases List.mem_cons.mp hb with hb | hb
      · rw [hb]; exact gL
      · exact hgF b hb
    have hX : ∀ b ∈ frA (callEnv (fdOf (top 11) pm code doc) s.heap.objs.size al :: l), b ∈ frA l ∨ s.heap.get? b = none := fun b hb => by
      rcases List.mem_cons.mp hb with hb | hb
      · rw [hb]; exact .inr fL
      · exact .inl hb
    have gG : ∀ {γ : Str → Option PV} h, Fm s.heap (fun b => b ∈ frA l) (callEnv (fdOf (top 11) pm code doc) s.heap.objs.size al) γ h → Ext g h := fun h F b o q => F.g b o (fun hb => by rw [hgF b hb] at q; cases q) (hx _ _ q)
    have frs6 : Frs (callEnv (fdOf (top 11) pm code doc) s.heap.objs.size al :: l) h6 := Frs.cons (hF.ext F6.toExt) rfl rfl hn
    refine wpAny_List (wpAny_items_cons (wpAny_mono (ev_words (w := w) (s := { s with heap := h6, toks := t6, gens := _ }) B Gg gG fa fw O hfr2 frs6 gF2 hh (by simp only [Around.deeper]; omega) (by simp only [Around.deeper]; omega) rfl rfl rfl F6' rfl
      (Evs.cons fm_sta (ev_local (fun _ h => h) rfl rfl rfl) (Evs.cons fm_sta (ev_local (fun _ h => h) rfl rfl rfl) Evs.nil)) (dx := [.int 0]) (dy := [.int 0]) (msg := mFew) (by decide) (by decide) (.inr ⟨rfl, by decide, rfl⟩)) (fun u7 s7 h7 => ?_) fun _ _ e => e))
    obtain ⟨⟨tu7, rfl⟩, k7⟩ := h7
    have F7 := F6'.kr (.of_ks k7) hX frs6.ns
    have frs7 := k7.frs frs6
    refine wpAny_items_cons (wpAny_mono (ev_words (w := w) (s := s7) B Gg gG fa fw O hfr2 frs7 gF2 hh (by simp only [Around.deeper]; omega) (by simp only [Around.deeper]; omega) rfl rfl rfl F7 rfl
      ?hv (dx := ([PV.int 0]).drop 1) (dy := ([PV.int 0]).drop 1) (msg := mFew) (by decide) (by decide) (.inr ⟨rfl, by decide, rfl⟩)) (fun u8 s8 h8 => ?_) fun _ _ e => e)
    case hv => exact Evs.cons fm_sta (ev_from (b := 1) fm_sta (ev_local (fun _ h => h) rfl rfl rfl) eI (by decide)) (Evs.cons fm_sta (ev_from (b := 1) fm_sta (ev_local (fun _ h => h) rfl rfl rfl) eI (by decide)) Evs.nil)
    obtain ⟨⟨tu8, rfl⟩, k8⟩ := h8
    have F8 := F7.kr (.of_ks k8) hX frs7.ns
    refine wpAny_items_nil ⟨(show (2 : Nat) ≤ sizeLine by decide), ?_⟩
    have gl : Good (.list [.str mFew, .str mFew]) s8 (.ref s8.heap.objs.size) { s8 with heap := s8.heap.push { cls := .type "list", data := .seq [.str mFew tu7, .str mFew tu8].toArray 0 }, toks := s8.toks } :=
      gList (kRefl s8) (ValsAre.cons (by simp only [ValIs]; exact ⟨_, rfl⟩) (ValsAre.cons (by simp only [ValIs]; exact ⟨_, rfl⟩) ValsAre.nil))
    have F9 := fm_sta _ _ (kExt gl.2) F8
    refine (Ev.list (ds := [.str mFew, .str mFew]) (Evs.cons fm_sta (ev_local (fun _ h => h) rfl rfl rfl) (Evs.cons fm_sta (ev_local (fun _ h => h) rfl rfl rfl) Evs.nil))).at F9 fun v10 s10 g10 k10 => ?_
    refine wpAny_mono (cm_eqSame (w := w) [.str mFew, .str mFew] rfl (by simp only [Around.deeper, PV.deeps, PV.deep, Nat.max_self]; omega) s10 _ _ _ (gl.1.ext (kExt k10)) g10) (fun v s11 g11 => ?_) fun _ _ e => e
    obtain ⟨gv, k11⟩ := g11
    have ev := vBool gv
    subst ev
    refine ⟨rfl, ?_⟩
    -- all of it together
    have ka : Kr (frA (callEnv (fdOf (top 11) pm code doc) s.heap.objs.size al :: l)) { s with heap := h6, toks := t6, gens := (s.gens.push (.fresh (.func (sBody (top 7)) (callEnv (fdOf (top 7) pmg cdg dcg) Lg ag)))).setIfInBounds s.gens.size .running |>.setIfInBounds s.gens.size .finished } s11 :=
      (Kr.of_ks k7).trans ((Kr.of_ks k8).trans ((Kr.of_keeps gl.2).trans ((Kr.of_keeps k10).trans (Kr.of_keeps k11))))
    obtain ⟨h12, t12, gs12, rfl, st, up, br⟩ := ka
    refine ⟨h12, t12, gs12, rfl, fun b o q => st b o ?_, fun b o q hdn => up b o (F6.toExt _ _ q) hdn, fun hb => br (bare_set (bare_set (hb.push rfl) rfl) rfl)⟩
    have q' := of_hideAll _ q
    refine hideAll_get _ (F6.toExt _ _ q') fun hm => ?_
    rcases List.mem_cons.mp hm with hb | hm
    · have hb' : b = s.heap.objs.size := hb
      rw [hb', fL] at q'; cases q'
    · rw [hideAll_none _ hm] at q; cases q
end
end Mine

namespace Mine
open PySem PySem.W

def fstep (ps : List UInt64) (x : UInt64) : List UInt64 := if Float64.isZero (Float64.fsumAdd ps x).2 then (Float64.fsumAdd ps x).1 else (Float64.fsumAdd ps x).1 ++ [(Float64.fsumAdd ps x).2]
def ffin : List UInt64 → List UInt64 → Bool
  | _, [] => true
  | ps, x :: xs => Float64.isFinite (Float64.fsumAdd ps x).2 && ffin (fstep ps x) xs
def fsumL (ps xs : List UInt64) : UInt64 := Float64.fsumEnd (xs.foldl fstep ps)
def nb : PV → UInt64
  | .flt x => x
  | .int i => Float64.ofInt i
  | _ => 0
def isNum : PV → Bool
  | .flt _ => true
  | .int i => !Float64.isInf (Float64.ofInt i)
  | _ => false

theorem plain_fsumL : plainId "math.fsum.loop" = true := by decide +kernel
theorem entry_fsumL : entryFor table "math.fsum.loop" = some Builtin.«math.fsum.loop» := entryFor_of_fast (by kernel_rfl)
theorem kind_fsum : builtinKind "math.fsum" = none := by decide +kernel
theorem plain_fsum : plainId "math.fsum" = true := by decide +kernel
theorem entry_fsum : entryFor table "math.fsum" = some Builtin.«math.fsum» := entryFor_of_fast (by kernel_rfl)
theorem args_fsum (a : Value) : argsOk "math.fsum" ⟨[a], []⟩ := by unfold argsOk; kernel_rfl

theorem bits_back {f : Value → UInt64} (hf : ∀ i t, f (.int i t) = i.toNat.toUInt64) (xs : List UInt64) : (xs.map fun x => rawInt x.toNat).map f = xs := by
  induction xs with
  | nil => rfl
  | cons x xs ih => simp only [List.map_cons, ih]; congr 1; rw [rawInt, hf]; simp

section
variable {w : World} {A : Around} {s : Shared}
theorem real_at {E : Value → Shared → Prop} {Q : UInt64 → Shared → Prop} {d : PV} {v : Value} (hh : A.handled = none) (hv : ValIs s.heap d v) (hn : isNum d = true) (hQ : ∀ tk, Q (nb d) { s with toks := tk }) : wpAny (model pr w) A (Builtin.Math.realArg v) Q E s := by
  cases d with
  | flt x =>
    obtain ⟨t, rfl⟩ := vFlt hv
    exact wpAny_pure (hQ s.toks)
  | int i =>
    obtain ⟨t, rfl⟩ := vInt hv
    refine Flt.realArg_int hh (fun ho => ?_) fun _ => hQ _
    exact absurd (Flt.inf_of_over ho) (by simpa [isNum] using hn)
  | _ => simp [isNum] at hn

theorem fsum_loop {R : Result → Shared → Prop} {I l S : Addr} {vs : List Value} (hh : A.handled = none) :
    ∀ (ds : List PV) (i : Nat) (ps : List UInt64) (P : Addr) (s : Shared), s.heap.IsListIter I l i → s.heap.PlainList l vs.toArray → ValsAre s.heap ds (vs.drop i) → (∀ d ∈ ds, isNum d = true) → ps.length + ds.length < 1000 → ffin ps (ds.map nb) = true →
      s.heap.TupAt P (ps.map fun x => rawInt x.toNat) → s.heap.TupAt S [rawInt (Float64.zero false).toNat, rawInt (Float64.zero false).toNat] →
      (∀ h' tk t, (∀ b o, b ≠ I → s.heap.get? b = some o → h'.get? b = some o) → R (.ok (.ret (.float (fsumL ps (ds.map nb)) t))) { s with heap := h', toks := tk }) →
      codeAny (model pr w) A (.builtin "math.fsum.loop" ⟨[.ref I, .ref P, .ref S], []⟩) R s := by
  intro ds
  induction ds with
  | nil =>
    intro i ps P s hit hl hv hn hlen hf hP hS hR
    obtain ⟨op, np, hop, hpc, hpd⟩ := hP
    obtain ⟨os, ns, hos, hsc, hsd⟩ := hS
    refine codeAny_builtin entry_fsumL ?_
    rw [Around.under_plainId plain_fsumL _]
    unfold Builtin.«math.fsum.loop»
    show wpAny _ A.in1 ((seqItems? (.ref P) >>= fun a => pure _) >>= _) _ _ s
    refine wpAny_bind (wpAny_bind (wpAny_seqItems hop hpd (wpAny_pure ?_)))
    show wpAny _ A.in1 ((seqItems? (.ref S) >>= fun a => pure _) >>= _) _ _ s
    refine wpAny_bind (wpAny_bind (wpAny_seqItems hos hsd (wpAny_pure ?_)))
    have hx : vs.toArray[i]? = none := by
      simp only [ValsAre] at hv
      have : vs.length ≤ i := by simpa using hv
      simpa using this
    simp only [Option.getD_some]
    rw [bits_back (fun _ _ => rfl) ps]
    refine wpAny_bind (wpAny_pyNext_list_end hh hit hl.isList hx fun h' hx' => ?_)
    show wpAny _ A.in1 (if (!Float64.isZero (Float64.zero false)) = true then _ else Builtin.Float.retFloat (Float64.fsumEnd ps)) _ _ _
    rw [if_neg (by decide +kernel)]
    exact wpAny_bind (wpAny_mkFloat (wpAny_pure (hR h' _ _ fun b o hb e => hx' b o hb e)))
  | cons d ds ih =>
    intro i ps P s hit hl hv hn hlen hf hP hS hR
    obtain ⟨op, np, hop, hpc, hpd⟩ := id hP
    obtain ⟨os, ns, hos, hsc, hsd⟩ := id hS
    refine codeAny_builtin entry_fsumL ?_
    rw [Around.under_plainId plain_fsumL _]
    unfold Builtin.«math.fsum.loop»
    show wpAny _ A.in1 ((seqItems? (.ref P) >>= fun a => pure _) >>= _) _ _ s
    refine wpAny_bind (wpAny_bind (wpAny_seqItems hop hpd (wpAny_pure ?_)))
    show wpAny _ A.in1 ((seqItems? (.ref S) >>= fun a => pure _) >>= _) _ _ s
    refine wpAny_bind (wpAny_bind (wpAny_seqItems hos hsd (wpAny_pure ?_)))
    simp only [Option.getD_some]
    rw [bits_back (fun _ _ => rfl) ps]
    simp only [ValsAre] at hv
    obtain ⟨v, vr, hvr, hvd, hvrest⟩ := hv
    have hx : vs.toArray[i]? = some v := by
      have : (vs.drop i)[0]? = some v := by rw [hvr]; rfl
      simpa using this
    have hr' : vs.drop (i + 1) = vr := by
      have : (vs.drop i).drop 1 = vr := by rw [hvr]; rfl
      simpa [List.drop_drop] using this
    refine wpAny_bind (wpAny_pyNext_list_item hit hl.isList hx fun h1 hit1 hs1 => ?_)
    have off1 : ∀ b o, b ≠ I → s.heap.get? b = some o → h1.get? b = some o := fun b o hb e => hs1.extBut b o hb e
    refine wpAny_bind (wpAny_holding (real_at (s := { s with heap := h1 }) (d := d) hh ?_ (hn d (.head _)) fun tk => ?_))
    · cases d with
      | flt x => simpa only [ValIs] using hvd
      | int i => simpa only [ValIs] using hvd
      | _ => have := hn _ (.head _); simp [isNum] at this
    simp only [List.map_cons, ffin, Bool.and_eq_true] at hf
    simp only []
    rw [if_pos hf.1]
    show wpAny _ A.in1 (newTuple ((fstep ps (nb d)).map fun x => rawInt x.toNat) >>= _) _ _ _
    have hlf : (fstep ps (nb d)).length ≤ ps.length + 1 := by
      have key : ∀ (qs : List UInt64) (x : UInt64), (Float64.fsumAdd qs x).1.length ≤ qs.length := by
        intro qs
        induction qs with
        | nil => intro x; simp [Float64.fsumAdd]
        | cons q qs ih' =>
          intro x
          unfold Float64.fsumAdd
          split
          rename_i a b _
          simp only []
          split
          · exact Nat.le_succ_of_le (ih' _)
          · simpa using ih' _
      unfold fstep
      have := key ps (nb d)
      split
      · omega
      · simp; omega
    refine wpAny_bind (wpAny_newTuple ?_ (by have : 1000 ≤ sizeLine := by decide
                                             simp at hlen ⊢; omega))
    refine wpAny_pure ⟨plainId_quiet plain_fsumL _, ?_⟩
    have hIl := iter_ne_list hit hl
    obtain ⟨nl, hl'⟩ := id hl
    have hSI : S ≠ I := fun e => by
      obtain ⟨oi, hoi, _, hdi⟩ := hit
      rw [e, hoi] at hos; cases hos; rw [hdi] at hsd; cases hsd
    refine ih (i + 1) (fstep ps (nb d)) _ _ ?_ ⟨nl, Ext.push _ _ _ _ (off1 _ _ hIl hl')⟩ ?_ (fun d' h' => hn d' (.tail _ h')) (by simp at hlen ⊢; omega) hf.2 ⟨_, _, Heap.get?_push_size _ rfl, rfl, rfl⟩ ⟨os, ns, Ext.push _ _ _ _ (off1 _ _ hSI hos), hsc, hsd⟩ fun h' tk' t' hk => ?_
    · obtain ⟨oi, hoi, hci, hdi⟩ := hit1
      exact ⟨oi, Ext.push _ _ _ _ hoi, hci, hdi⟩
    · rw [hr']
      have nums : ∀ {h h' : Heap} {ds : List PV} {us : List Value}, (∀ d ∈ ds, isNum d = true) → ValsAre h ds us → ValsAre h' ds us := by
        intro h h' ds
        induction ds with
        | nil => intro us _ e; simpa [ValsAre] using e
        | cons d ds ihh =>
          intro us hnn e
          simp only [ValsAre] at e ⊢
          obtain ⟨v, r, rfl, e1, e2⟩ := e
          refine ⟨v, r, rfl, ?_, ihh (fun d' hd' => hnn d' (.tail _ hd')) e2⟩
          cases d with
          | flt x => simpa only [ValIs] using e1
          | int i => simpa only [ValIs] using e1
          | _ => have := hnn _ (.head _); simp [isNum] at this
      exact nums (fun d' h' => hn d' (.tail _ h')) hvrest
    · have := hR h' tk' t' fun b o hb e => hk b o hb (Ext.push _ _ _ _ (off1 b o hb e))
      exact this
theorem fsum_ok {E : Value → Shared → Prop} {ds : List PV} {us : List Value} (hh : A.handled = none) (hv : ValsAre s.heap [.list ds] us) (hn : ∀ d ∈ ds, isNum d = true) (hlen : ds.length < 1000) (hf : ffin [] (ds.map nb) = true) :
    wpAny (model pr w) A (call (.builtin "math.fsum") us) (Good (.flt (fsumL [] (ds.map nb))) s) E s := by
  simp only [ValsAre] at hv
  obtain ⟨v, _, rfl, h1, rfl⟩ := hv
  obtain ⟨l, vs, rfl, hl, hd⟩ := vList h1
  refine call_function_tree kind_fsum plain_fsum entry_fsum (args_fsum _) ?_
  unfold Builtin.«math.fsum»
  refine wpAny_bind (m := Builtin.Math.mathOne "fsum" _) (wpAny_of_eq (a := .ref l) rfl ?_)
  refine wpAny_bind (wpAny_pyIter_list hl.isList ?_)
  show wpAny _ A.in1 (newTuple [] >>= _) _ _ _
  refine wpAny_bind (wpAny_newTuple ?_)
  show wpAny _ A.in1 (newTuple [rawInt (Float64.zero false).toNat, rawInt (Float64.zero false).toNat] >>= _) _ _ _
  refine wpAny_bind (wpAny_newTuple ?_)
  refine wpAny_pure ⟨plainId_quiet plain_fsumL _, ?_⟩
  have x2 : Ext (s.heap.push { cls := .type "list_iterator", data := .fields #[.ref l, .int 0 0] }) (((s.heap.push { cls := .type "list_iterator", data := .fields #[.ref l, .int 0 0] }).push { cls := .type "tuple", data := .seq ([] : List Value).toArray }).push { cls := .type "tuple", data := .seq [rawInt (Float64.zero false).toNat, rawInt (Float64.zero false).toNat].toArray }) := (Ext.push _ _).trans (Ext.push _ _)
  have x3 : Ext s.heap _ := (Ext.push s.heap _).trans x2
  refine fsum_loop (w := w) (vs := vs) (l := l) hh ds 0 [] _ _ ⟨_, x2 _ _ (Heap.get?_push_size _ rfl), rfl, rfl⟩ (isList_ext x3 hl) (by simpa using hd.ext x3) hn (by simpa using hlen) hf ⟨_, _, Ext.push _ _ _ _ (Heap.get?_push_size _ rfl), rfl, rfl⟩ ⟨_, _, Heap.get?_push_size _ rfl, rfl, rfl⟩ fun h' tk t hk => ?_
  refine ⟨by simp only [ValIs]; exact ⟨_, rfl⟩, kHeap s h' tk fun b o e => hk b o (Nat.ne_of_lt (Heap.lt_size e)) (x3 _ _ e)⟩
end
end Mine

namespace Mine
open PySem PySem.W
open PyProof.Rows (AllBare)

def sp3 (t : UInt64 × UInt64 × UInt64) (p : UInt64 × UInt64) : UInt64 × UInt64 × UInt64 := Builtin.Math.tlFma p.1 p.2 t
def spfin : UInt64 × UInt64 × UInt64 → List (UInt64 × UInt64) → Bool
  | _, [] => true
  | t, p :: ps => Float64.isFinite (sp3 t p).1 && spfin (sp3 t p) ps
def sumpL (t : UInt64 × UInt64 × UInt64) (ps : List (UInt64 × UInt64)) : UInt64 := Float64.add (Float64.ofInt 0) (Builtin.Math.tlToFloat (ps.foldl sp3 t))

theorem plain_spL : plainId "math.sumprod.loop" = true := by decide +kernel
theorem entry_spL : entryFor table "math.sumprod.loop" = some Builtin.«math.sumprod.loop» := entryFor_of_fast (by kernel_rfl)
theorem kind_sp : builtinKind "math.sumprod" = none := by decide +kernel
theorem plain_sp : plainId "math.sumprod" = true := by decide +kernel
theorem entry_sp : entryFor table "math.sumprod" = some Builtin.«math.sumprod» := entryFor_of_fast (by kernel_rfl)
theorem args_sp (a b : Value) : argsOk "math.sumprod" ⟨[a, b], []⟩ := by unfold argsOk; kernel_rfl

abbrev t3 (t : UInt64 × UInt64 × UInt64) : List Value := [rawInt t.1.toNat, rawInt t.2.1.toNat, rawInt t.2.2.toNat]
theorem u64b (x : UInt64) : ((x.toNat : Int)).toNat.toUInt64 = x := by simp

/-- two walks side by side -/
structure Duo (w : World) (A : Around) (a1 a2 : Addr) (f1 f2 w1 w2 : List Addr) (g1 g2 n : Nat) (q1 q2 : Nat → UInt64) (S1 S2 : Nat → Shared → Prop) : Prop where
  W1 : WalksS pr w A a1 f1 w1 (GenOnlyQ g1) n (fun j y => ∃ t, y = .float (q1 j) t) S1
  W2 : WalksS pr w A a2 f2 w2 (GenOnlyQ g2) n (fun j y => ∃ t, y = .float (q2 j) t) S2
  k1 : ∀ j s s', S1 j s → Moved w2 (GenOnlyQ g2) s s' → S1 j s'
  k2 : ∀ j s s', S2 j s → Moved w1 (GenOnlyQ g1) s s' → S2 j s'
  fr : ∀ b, b ∈ f1 ++ f2 → True

/-- what a walk through both leaves -/
structure Mv (W : List Addr) (s s' : Shared) : Prop where
  heap : ∀ b o, b ∉ W → s.heap.get? b = some o → s'.heap.get? b = some o
  bare : AllBare s.gens → AllBare s'.gens
  drawn : s'.drawn = s.drawn
  os : s'.os = s.os
theorem Mv.trans {W : List Addr} {a b c : Shared} (x : Mv W a b) (y : Mv W b c) : Mv W a c := ⟨fun d o hd e => y.heap d o hd (x.heap d o hd e), fun h => y.bare (x.bare h), y.drawn.trans x.drawn, y.os.trans x.os⟩
theorem Mv.of {W V : List Addr} {g : Nat} {a b : Shared} (x : Moved V (GenOnlyQ g) a b) (h : ∀ d ∈ V, d ∈ W) : Mv W a b := ⟨fun d o hd e => x.heap d o (fun hm => hd (h d hm)) e, fun hb => hb.moved x.gens, x.drawn, x.os⟩

section
variable {w : World} {A : Around}
theorem sp_loop {R : Result → Shared → Prop} {a1 a2 : Addr} {f1 f2 w1 w2 : List Addr} {g1 g2 n : Nat} {q1 q2 : Nat → UInt64} {S1 S2 : Nat → Shared → Prop} (D : Duo w A.in1 a1 a2 f1 f2 w1 w2 g1 g2 n q1 q2 S1 S2) {tz : Tok} :
    ∀ (k j : Nat) (io fu : Bool) (t : UInt64 × UInt64 × UInt64) (T : Addr) (s : Shared), n - j = k → j ≤ n → S1 j s → S2 j s → s.heap.TupAt T (t3 t) → (k = 0 → io = false ∧ fu = true) →
      spfin t ((List.range k).map fun i => (q1 (j + i), q2 (j + i))) = true →
      (∀ s' tk, Mv (w1 ++ w2) s s' → R (.ok (.ret (.float (sumpL t ((List.range k).map fun i => (q1 (j + i), q2 (j + i)))) tk))) s') →
      codeAny (model pr w) A (.builtin "math.sumprod.loop" ⟨[.ref a1, .ref a2, .int 0 tz, .bool io, rawInt 0, .bool false, .bool true, .ref T, .bool fu], []⟩) R s := by
  intro k
  induction k with
  | zero =>
    intro j io fu t T s hk hj h1 h2 hT hio hf hR
    obtain ⟨rfl, rfl⟩ := hio rfl
    obtain ⟨oT, nT, hoT, hcT, hdT⟩ := hT
    obtain rfl : j = n := by omega
    refine codeAny_builtin entry_spL ?_
    rw [Around.under_plainId plain_spL _]
    unfold Builtin.«math.sumprod.loop»
    simp only []
    refine wpAny_bind (wpAny_seqItems hoT hdT ?_)
    simp only [Option.getD_some]
    refine wpAny_bind (D.W1.done s _ _ h1 fun s1 m1 => ?_)
    refine wpAny_bind (wpAny_holding (D.W2.done s1 _ _ (D.k2 _ _ _ h2 m1) fun s2 m2 => ?_))
    simp only [Option.isSome_none, bne_self_eq_false, Bool.false_eq_true, if_false, if_true]
    refine wpAny_bind (wpAny_rule ?_)
    simp only [u64b]
    refine wpAny_bind (wpAny_mkFloat (wpAny_bind (wpAny_holding (PyProof.Rows.add_if_fits (by decide) (wpAny_pure ?_)))))
    have mv : Mv (w1 ++ w2) s s2 := (Mv.of m1 fun d hd => List.mem_append_left _ hd).trans (Mv.of m2 fun d hd => List.mem_append_right _ hd)
    exact hR _ _ ⟨mv.heap, mv.bare, mv.drawn, mv.os⟩
  | succ k ih =>
    intro j io fu t T s hk hj h1 h2 hT hio hf hR
    obtain ⟨oT, nT, hoT, hcT, hdT⟩ := hT
    have hjn : j < n := by omega
    have el : (List.range (k + 1)).map (fun i => (q1 (j + i), q2 (j + i))) = (q1 j, q2 j) :: (List.range k).map (fun i => (q1 (j + 1 + i), q2 (j + 1 + i))) := by
      rw [List.range_succ_eq_map]
      simp only [List.map_cons, List.map_map, Nat.add_zero]
      congr 1
      refine List.map_congr_left fun i _ => ?_
      simp only [Function.comp]
      rw [show j + (i + 1) = j + 1 + i by omega]
    rw [el] at hf hR
    simp only [spfin, Bool.and_eq_true] at hf
    refine codeAny_builtin entry_spL ?_
    rw [Around.under_plainId plain_spL _]
    unfold Builtin.«math.sumprod.loop»
    simp only []
    refine wpAny_bind (wpAny_seqItems hoT hdT ?_)
    simp only [Option.getD_some]
    refine wpAny_bind (D.W1.item j s _ _ hjn h1 fun v1 s1 p1 h1' m1 => ?_)
    refine wpAny_bind (wpAny_holding (D.W2.item j s1 _ _ hjn (D.k2 _ _ _ h2 m1) fun v2 s2 p2 h2' m2 => ?_))
    obtain ⟨tk1, rfl⟩ := p1
    obtain ⟨tk2, rfl⟩ := p2
    have mv : Mv (w1 ++ w2) s s2 := (Mv.of m1 fun d hd => List.mem_append_left _ hd).trans (Mv.of m2 fun d hd => List.mem_append_right _ hd)
    have S1' := D.k1 _ _ _ h1' m2
    have key : wpAny (model pr w) A.in1 (newTuple (t3 (sp3 t (q1 j, q2 j))) >>= fun t => (again (.builtin "math.sumprod.loop" ⟨[.ref a1, .ref a2, .int 0 tz, .bool false, rawInt 0, .bool false, .bool true, t, .bool true], []⟩) : Sem Fin))
        (fun fin s' => match fin with | .done f => R (.ok f) s' | .again c' => c'.quiet = true ∧ codeAny (model pr w) A c' R s') (fun e s' => R (.error e) s') s2 := by
      refine wpAny_bind (wpAny_newTuple ?_)
      refine wpAny_pure ⟨plainId_quiet plain_spL _, ?_⟩
      refine ih (j + 1) false true (sp3 t (q1 j, q2 j)) _ _ (by omega) (by omega) (D.W1.frame _ _ _ _ S1' (Nat.le_refl _) fun b _ o e => Ext.push _ _ _ _ e) (D.W2.frame _ _ _ _ h2' (Nat.le_refl _) fun b _ o e => Ext.push _ _ _ _ e) ⟨_, _, Heap.get?_push_size _ rfl, rfl, rfl⟩ (fun _ => ⟨rfl, rfl⟩) hf.2 fun s' tk' mv' => ?_
      have := hR s' tk' ⟨fun b o hb e => mv'.heap b o hb (Ext.push _ _ _ _ (mv.heap b o hb e)), fun h => mv'.bare (mv.bare h), mv'.drawn.trans mv.drawn, mv'.os.trans mv.os⟩
      exact this
    cases io with
    | true =>
      simp only [Option.isSome_some, bne_self_eq_false, Bool.false_eq_true, if_false, if_true]
      refine wpAny_bind (wpAny_rule ?_)
      simp only [u64b, Bool.or_self, if_true]
      rw [if_pos (show Float64.isFinite (Builtin.Math.tlFma (q1 j) (q2 j) (t.1, t.2.1, t.2.2)).1 = true from hf.1)]
      exact key
    | false =>
      simp only [Option.isSome_some, bne_self_eq_false, Bool.false_eq_true, if_false, if_true]
      simp only [u64b, Bool.or_self, if_true]
      rw [if_pos (show Float64.isFinite (Builtin.Math.tlFma (q1 j) (q2 j) (t.1, t.2.1, t.2.2)).1 = true from hf.1)]
      exact key
theorem sp_ok {E : Value → Shared → Prop} {s : Shared} {Q : Value → Shared → Prop} {a1 a2 : Addr} {f1 f2 w1 w2 : List Addr} {g1 g2 n : Nat} {q1 q2 : Nat → UInt64} {S1 S2 : Nat → Shared → Prop} (D : Duo w A.in1 a1 a2 f1 f2 w1 w2 g1 g2 n q1 q2 S1 S2) (hn : 0 < n) (h1 : S1 0 s) (h2 : S2 0 s)
    (hf : spfin (Float64.zero false, Float64.zero false, Float64.zero false) ((List.range n).map fun i => (q1 i, q2 i)) = true)
    (hQ : ∀ s' tk, Mv (w1 ++ w2) s s' → Q (.float (sumpL (Float64.zero false, Float64.zero false, Float64.zero false) ((List.range n).map fun i => (q1 i, q2 i))) tk) s') :
    wpAny (model pr w) A (call (.builtin "math.sumprod") [.ref a1, .ref a2]) Q E s := by
  refine call_function_tree kind_sp plain_sp entry_sp (args_sp _ _) ?_
  unfold Builtin.«math.sumprod»
  refine wpAny_bind (m := Builtin.Math.mathSome "sumprod" 2 2 _) (wpAny_of_eq (a := [.ref a1, .ref a2]) rfl ?_)
  simp only []
  refine wpAny_bind (D.W1.self 0 s _ _ h1 ?_)
  refine wpAny_bind (wpAny_holding (D.W2.self 0 s _ _ h2 ?_))
  refine wpAny_bind (wpAny_mkInt ?_)
  refine wpAny_bind (wpAny_newTuple ?_)
  refine wpAny_pure ⟨plainId_quiet plain_spL _, ?_⟩
  refine sp_loop (w := w) D n 0 true false (Float64.zero false, Float64.zero false, Float64.zero false) _ _ (by omega) (by omega) (D.W1.frame _ s _ _ h1 (Nat.le_succ _) fun b _ o e => Ext.push _ _ _ _ e) (D.W2.frame _ s _ _ h2 (Nat.le_succ _) fun b _ o e => Ext.push _ _ _ _ e) ⟨_, _, Heap.get?_push_size _ rfl, rfl, rfl⟩ (fun h => by omega) (by simpa using hf) fun s' tk mv => ?_
  have := hQ s' tk ⟨fun b o hb e => mv.heap b o hb (Ext.push _ _ _ _ e), mv.bare, mv.drawn, mv.os⟩
  simpa using this
end
end Mine

namespace Mine
open PySem PySem.W
open PyProof.Rows (AllBare BMod)

/-- the table of a code object -/
def Tb (c P : Addr) (h : Heap) : Prop := ∃ ps, h.IsCode c P ps ∧ h.TableAt c P ps
theorem Tb.ext {c P : Addr} {h h' : Heap} (x : Tb c P h) (k : Ext h h') : Tb c P h' := let ⟨ps, a, b⟩ := x; ⟨ps, a.keeps k, b.keeps k⟩
theorem Tb.obj {c P : Addr} {h : Heap} (x : Tb c P h) : ∃ ps, h.get? P = some { cls := .none, data := .fields ps } := let ⟨ps, _, b⟩ := x; ⟨ps, b.2⟩

section
variable {M : Model} {A : Around} {E : Value → Shared → Prop} {s : Shared}
theorem gcode {env : Env} {c P : Addr} {pos : Pos} {qualname : Str} {scope : Scope} {Q : Value → Shared → Prop} (hc : env.code = .ref c) (t : Tb c P s.heap)
    (hQ : ∀ code h' tk, Heap.ExtBut P s.heap h' → Tb c P h' → Q code { s with heap := h', toks := tk }) : wpAny M A (genexprCode env pos qualname scope) Q E s := by
  obtain ⟨ps, a, b⟩ := t
  cases hf : codeAmong pos ps.toList with
  | some cv => exact wpAny_genexprCode_hit hc a hf (hQ cv s.heap s.toks (Heap.ExtBut.refl _ _) ⟨ps, a, b⟩)
  | none => exact wpAny_genexprCodeX hc a b hf fun c' h' tk x _ _ y1 _ y2 _ => hQ _ h' tk x ⟨_, y1, y2⟩
end

abbrev gFp (I l c : Addr) : List Addr := [I, l, c, cStatics]
def GX (w : World) (A : Around) (a : Addr) (g : Nat) (C I l c : Addr) (ds : List PV) (bar : UInt64) (j : Nat) (s : Shared) : Prop :=
  GenAt pr w A a g C (gFp I l c) [I] (fun _ => true) ds.length (fun i y => ∃ d t, ds[i]? = some d ∧ y = .float (Float64.sub (nb d) bar) t) j s

theorem pass_all (n : Nat) : passing (fun _ => true) n 0 = List.range n := by simp [passing]

section
variable {w : World} {A : Around} {E : Value → Shared → Prop} {s : Shared}
/-- a generator expression  x - bar  over a list of numbers -/
theorem genexp_ok {env : Env} {x bn : Str} {px p1 p2 pe pos : Pos} {iter : Expr} {scope : Scope} {Q : Value → Shared → Prop} {P₀ : Heap → Prop} {ds : List PV} {c P cx bm : Addr} {ob : Obj} {mg : Str → Option Value} {bar : UInt64} {tb : Tok}
    (hP : P₀ s.heap) (hi : Ev w A env P₀ iter (.list ds)) (hnum : ∀ d ∈ ds, isNum d = true) (hh : A.handled = none) (hroom : A.depth + 1 < recursionLimit) (hcode : env.code = .ref c) (t : Tb c P s.heap) (hlim : s.heap.NoLimit) (M : BMod s.heap env.globals mg bm ob)
    (hcellv : s.heap.IsCell cx (some (.float bar tb))) (hclos : closureFor scope env = pure [(bn, cx)]) (hco : scope.isCoroutine = false) (hcell : ∀ y ∈ scope.names, y.2 ≠ .cell) (h0 : scope.names.lookup (".0" : Str) = some NameKind.local)
    (hx : scope.names.lookup x = some .local) (hbn : scope.names.lookup bn = some .free) (hkind : scope.kind = .function) (hs : ∀ x, genFold iter env x = pure x) (hd1 : (x == ("__debug__" : Str)) = false) (hd2 : (bn == ("__debug__" : Str)) = false) (hd3 : (bn == ("__classdict__" : Str)) = false)
    (hQ : ∀ a C I l h5 tk gs, s.heap.get? a = none → s.heap.get? C = none → s.heap.get? I = none → a ≠ C → a ≠ I → C ≠ I → (∃ vs, h5.PlainList l vs ∧ l ≠ C ∧ l ≠ I) → (∀ b o, b ≠ P → s.heap.get? b = some o → h5.get? b = some o) → Tb c P h5 → gs.bare = true →
      (∃ m, h5.Ns C m) → h5.IsListIter I l 0 →
      GX w A.in1 a s.gens.size C I l cx ds bar 0 { s with heap := h5, toks := tk, gens := s.gens.push gs } → Q (.ref a) { s with heap := h5, toks := tk, gens := s.gens.push gs }) :
    wpAny (model pr w) A (eval (.GeneratorExp (.BinOp (.Name x p1) .Sub (.Name bn p2) pe) [⟨.Name x px, iter, [], 0⟩] scope pos) env) Q E s := by
  refine wpAny_GeneratorExp_make hco hclos hcell h0 hkind (by omega) (hi.at hP fun v s1 g1 k1 => ?_) hs
  obtain ⟨h1, t1, rfl, ke1⟩ := k1
  obtain ⟨l, vs, rfl, hl, hd⟩ := vList g1
  refine wpAny_pyIter_list hl.isList ⟨(hlim.keeps ke1).push _, ?_⟩
  have ke2 : Ext s.heap (h1.push { cls := .type "list_iterator", data := .fields #[.ref l, .int 0 0] }) := Ext.trans ke1 (Ext.push _ _)
  refine gcode (s := { s with heap := h1.push { cls := .type "list_iterator", data := .fields #[.ref l, .int 0 0] }, toks := t1 }) hcode (t.ext ke2) fun code h3 t3 x3 tb3 => ?_
  have hoP := t.obj
  obtain ⟨psP, hoP⟩ := hoP
  have bmP : bm ≠ P := fun e => by
    have := M.obj; rw [e, hoP] at this; cases this; have := M.cls; cases this
  have gP : env.globals ≠ P := fun e => by
    obtain ⟨o, es, ep, ho, hd, _⟩ := M.ns
    rw [e, hoP] at ho; cases ho; cases hd
  have cP : cStatics ≠ P := fun e => by
    obtain ⟨mc, ⟨o, es, ep, ho, hd, _⟩, _⟩ := hlim
    rw [e, hoP] at ho; cases ho; cases hd
  have lP : l ≠ P := fun e => by
    obtain ⟨n, ho⟩ := hl
    rw [e, ke1 _ _ hoP] at ho; cases ho
  have xP : cx ≠ P := fun e => by
    obtain ⟨o, ho, hd⟩ := hcellv
    rw [e, hoP] at ho; cases ho; cases hd
  have keep3 : ∀ b o, b ≠ P → s.heap.get? b = some o → h3.get? b = some o := fun b o hb e => x3 b o hb (ke2 _ _ e)
  refine wpAny_builtinsFor (s := { s with heap := h3, toks := t3 }) (M.ns.at' fun o e => keep3 _ _ gP e) M.name M.ne (keep3 _ _ bmP M.obj) M.cls M.dict M.data ?_
  intro h4 hn4 hs4
  have hC : h3.get? h3.objs.size = none := get_none_ge (Nat.le_refl _)
  have keep4 : Ext h3 h4 := fun b o e => hs4.extBut b o (Nat.ne_of_lt (Heap.lt_size e)) (Heap.get?_push_of_some _ e)
  have sz4 : h4.objs.size = h3.objs.size + 1 := by rw [hs4.1, Heap.size_push]
  have I3 : h3.IsListIter h1.objs.size l 0 := by
    refine ⟨_, x3 _ _ (fun e => ?_) (Heap.get?_push_size _ rfl), rfl, rfl⟩
    have := ke1 _ _ hoP
    rw [← e, get_none_ge (Nat.le_refl _)] at this; cases this
  have Ilt : h1.objs.size < h3.objs.size := by obtain ⟨o, ho, _⟩ := I3; exact Heap.lt_size ho
  obtain ⟨nl, hl'⟩ := id hl
  have hl3 : h3.PlainList l vs.toArray := ⟨nl, x3 _ _ lP (Ext.push _ _ _ _ hl')⟩
  have Plt : P < h3.objs.size := by obtain ⟨ps3, ho3⟩ := tb3.obj; exact Heap.lt_size ho3
  have freshI : s.heap.get? h1.objs.size = none := by
    cases e : s.heap.get? h1.objs.size with
    | none => rfl
    | some o => exact absurd (Heap.lt_size (ke1 _ _ e)) (Nat.lt_irrefl _)
  have freshC : s.heap.get? h3.objs.size = none := by
    cases e : s.heap.get? h3.objs.size with
    | none => rfl
    | some o => exact absurd (Heap.lt_size (keep3 _ _ (Nat.ne_of_gt Plt) e)) (Nat.lt_irrefl _)
  have freshA : s.heap.get? h4.objs.size = none := by
    cases e : s.heap.get? h4.objs.size with
    | none => rfl
    | some o =>
      have := Heap.lt_size (keep3 _ _ (by rw [sz4]; exact Nat.ne_of_gt (Nat.lt_succ_of_lt Plt)) e)
      exact absurd this (by rw [sz4]; exact Nat.not_lt.mpr (Nat.le_succ _))
  have cell3 : h3.IsCell cx (some (.float bar tb)) := by
    obtain ⟨o, ho, hd⟩ := hcellv
    exact ⟨o, keep3 _ _ xP ho, hd⟩
  have lim3 : h3.NoLimit := by
    obtain ⟨mc, hn, hz⟩ := hlim
    exact ⟨mc, hn.at' fun o e => keep3 _ _ cP e, hz⟩
  have lI : l ≠ h1.objs.size := iter_ne_list I3 hl3
  have llt : l < h3.objs.size := by obtain ⟨n, ho⟩ := hl3; exact Heap.lt_size ho
  have xlt : cx < h3.objs.size := by obtain ⟨o, ho, _⟩ := cell3; exact Heap.lt_size ho
  have xI : cx ≠ h1.objs.size := fun e => by
    obtain ⟨o, ho, hd⟩ := cell3
    obtain ⟨o', ho', _, hd'⟩ := I3
    rw [e, ho'] at ho; cases ho; rw [hd'] at hd; cases hd
  have clt : cStatics < h3.objs.size := by obtain ⟨mc, hn, _⟩ := lim3; exact hn.lt
  have cI : cStatics ≠ h1.objs.size := fun e => by
    obtain ⟨mc, hn, _⟩ := lim3
    exact ns_ne_iter hn I3 e
  have ext35 : Ext h3 (h4.push { cls := .type "generator", data := .fields #[.int s.gens.size 0, .str "<genexpr>" (t3 + 1), .str (env.qual ++ "<genexpr>") (t3 + 1 + 1)] }) := keep4.trans (Ext.push _ _)
  refine hQ h4.objs.size h3.objs.size h1.objs.size l _ _ _ freshA freshC freshI (by rw [sz4]; exact Nat.succ_ne_self _) (by rw [sz4]; exact Nat.ne_of_gt (Nat.lt_succ_of_lt Ilt)) (Nat.ne_of_gt Ilt) ⟨_, isList_ext ext35 hl3, Nat.ne_of_lt llt, lI⟩ (fun b o hb e => ext35 _ _ (keep3 b o hb e)) (tb3.ext ext35) rfl ?_ ?_ ?_
  · exact ⟨_, hn4.push _⟩
  · obtain ⟨o, ho, q⟩ := I3
    exact ⟨o, ext35 _ _ ho, q⟩
  · refine GenAt.fresh (A := A.in1) (cenv := genEnv scope [(bn, cx)] h3.objs.size code builtinsNs env) (iter := iter) (px := px) (scope := scope) (pos := pos) (I := h1.objs.size) (x := x) (ifs := []) (elt := .BinOp (.Name x p1) .Sub (.Name bn p2) pe)
      (P := fun i v => vs.toArray[i]? = some v) (St₀ := fun i h => h.IsListIter h1.objs.size l i ∧ h.IsList l vs.toArray) (m := fun y => if y = ".0" then some (.ref h1.objs.size) else none) hh (fun A' hA' => ?_) _ _ hx (by show (scope.kind == .class || (scope.kind == .module && _)) = false; rw [hkind]; rfl) hco ?_ ?_ ⟨_, _, _, Heap.get?_push_size _ rfl, rfl, rfl, rfl⟩ (by simp) ⟨?_, (isList_ext ext35 hl3).isList⟩ (hn4.push _) (lim3.keeps ext35)
    · have W := (Walks.list (prog := pr) (w := w) hA' h1.objs.size l lI vs.toArray).mono_fp (fp' := gFp h1.objs.size l cx) (by intro b hb; simp at hb; rcases hb with rfl | rfl <;> simp)
      rw [show ds.length = vs.toArray.size by simp [hd.length]]
      exact W
    · intro hm
      simp only [gFp, List.mem_cons, List.not_mem_nil, or_false] at hm
      have hm' : h3.objs.size = h1.objs.size ∨ h3.objs.size = l ∨ h3.objs.size = cx ∨ h3.objs.size = cStatics := hm
      rcases hm' with h | h | h | h
      · exact Nat.ne_of_gt Ilt h
      · exact Nat.ne_of_gt llt h
      · exact Nat.ne_of_gt xlt h
      · exact Nat.ne_of_gt clt h
    · refine ⟨fun A' E' i v s₂ m₂ _ _ _ _ _ => wpAny_pure ⟨rfl, kRefl _⟩, fun A' E' i v s₂ m₂ hA' hv _ hn₂ hm₂ hkp => ?_⟩
      have cell2 : s₂.heap.IsCell cx (some (.float bar tb)) := by
        obtain ⟨o, ho, hd⟩ := cell3
        exact ⟨o, hkp cx (by simp) (by simpa using xI) o (ext35 _ _ ho), hd⟩
      have hi' : i < ds.length := by
        have := (Array.getElem?_eq_some_iff.mp hv).1
        simpa [hd.length] using this
      obtain ⟨d, hd'⟩ : ∃ d, ds[i]? = some d := ⟨ds[i], by simp [hi']⟩
      obtain ⟨v', hv', hvd⟩ := hd.get hd'
      have e : v' = v := by
        have : vs[i]? = some v := by simpa using hv
        rw [this] at hv'; exact (Option.some.inj hv').symm
      subst e
      have hn1 := hnum d (List.mem_of_getElem? hd')
      refine wpAny_BinOp (wpAny_Name (wpAny_loadName_local hkind hx hn₂ hm₂ (wpAny_Name (wpAny_loadName_free (c := cx) (v := .float bar tb) hkind hbn (by simp [genEnv]) cell2 ?_ hd3) hd2)) hd1)
      cases d with
      | flt z =>
        obtain ⟨tz, rfl⟩ := vFlt hvd
        exact PyProof.Rows.sub_float ⟨⟨.flt z, _, hd', rfl⟩, kTok _ _⟩
      | int z =>
        obtain ⟨tz, rfl⟩ := vInt hvd
        refine AutoFloatOps.sub_if_1 (by simpa [isNum] using hn1) ?_
        exact ⟨⟨.int z, _, hd', rfl⟩, kTok _ _⟩
      | _ => simp [isNum] at hn1
    · obtain ⟨o, ho, hc1, hd1'⟩ := I3
      exact ⟨o, ext35 _ _ ho, hc1, hd1'⟩
end
end Mine

namespace Mine
open PySem PySem.W
open PyProof.Rows (AllBare BMod)

theorem GX.move {w : World} {A : Around} {a : Addr} {g : Nat} {C I l c : Addr} {ds : List PV} {bar : UInt64} {j : Nat} {s s' : Shared} (x : GX w A a g C I l c ds bar j s) (hk : ∀ b ∈ a :: C :: gFp I l c, ∀ o, s.heap.get? b = some o → s'.heap.get? b = some o) (hg : s'.gens[g]? = s.gens[g]?) : GX w A a g C I l c ds bar j s' := by
  obtain ⟨h1, ⟨mc, hns, hnn⟩, gs, hgs, hgo⟩ := x
  obtain ⟨o, nm, qn, ho, r⟩ := h1
  refine ⟨⟨o, nm, qn, hk a (by simp) o ho, r⟩, ⟨mc, hns.at' fun o e => hk cStatics (by simp) o e, hnn⟩, gs, by rw [hg]; exact hgs, fun s'' hal => hgo s'' fun b hb o e => hal b hb o (hk b (List.mem_cons_of_mem _ hb) o e)⟩
theorem GX.walk {w : World} {A : Around} {a : Addr} {g : Nat} {C I l c : Addr} {ds : List PV} {bar : UInt64} (hh : A.handled = none) (hroom : A.depth < recursionLimit) (h1 : a ≠ C) (h2 : a ∉ gFp I l c) (h3 : cStatics ≠ C) (h4 : cStatics ≠ I) :
    WalksS pr w A a (a :: C :: gFp I l c) [C, I] (GenOnlyQ g) ds.length (fun j y => ∃ t, y = .float (Float64.sub (nb (ds.getD j .none)) bar) t) (GX w A a g C I l c ds bar) := by
  have W := WalksS.genexpQ (prog := pr) (w := w) hh a g C (gFp I l c) [I] (fun _ => true) ds.length (fun i y => ∃ d t, ds[i]? = some d ∧ y = .float (Float64.sub (nb d) bar) t) h1 h2 (by intro b hb; simp at hb; simp [hb]) hroom (by simp) h3 (by simpa using h4)
  rw [pass_all, List.length_range] at W
  exact ⟨W.sub, W.grefl, W.gtrans, W.frame, fun i s Q E hi st hQ => W.item i s Q E hi st fun v s' hp st' m => hQ v s' (by
    obtain ⟨k, hk, d, t, hd, rfl⟩ := hp
    rw [List.getElem?_range hi] at hk
    cases hk
    exact ⟨t, by rw [List.getD_eq_getElem?_getD, hd]; rfl⟩) st' m, W.done, W.self⟩

theorem duo_of {w : World} {A : Around} {a1 a2 C1 C2 I1 I2 l1 l2 cx cy : Addr} {g1 g2 n : Nat} {dx dy : List PV} {b1 b2 : UInt64} (hh : A.handled = none) (hroom : A.depth < recursionLimit)
    (p1 : a1 ≠ C1) (p2 : a1 ∉ gFp I1 l1 cx) (p3 : cStatics ≠ C1) (p4 : cStatics ≠ I1) (r1 : a2 ≠ C2) (r2 : a2 ∉ gFp I2 l2 cy) (r3 : cStatics ≠ C2) (r4 : cStatics ≠ I2)
    (d12 : ∀ b ∈ a1 :: C1 :: gFp I1 l1 cx, b ∉ [C2, I2]) (d21 : ∀ b ∈ a2 :: C2 :: gFp I2 l2 cy, b ∉ [C1, I1]) (hg : g1 ≠ g2) (hx : dx.length = n) (hy : dy.length = n) :
    Duo w A a1 a2 (a1 :: C1 :: gFp I1 l1 cx) (a2 :: C2 :: gFp I2 l2 cy) [C1, I1] [C2, I2] g1 g2 n (fun j => Float64.sub (nb (dx.getD j .none)) b1) (fun j => Float64.sub (nb (dy.getD j .none)) b2) (GX w A a1 g1 C1 I1 l1 cx dx b1) (GX w A a2 g2 C2 I2 l2 cy dy b2) := by
  have gk : ∀ {g g' : Nat} {a b : Array GenState}, g ≠ g' → GenOnlyQ g' a b → b[g]? = a[g]? := fun hn h => by
    rcases h with h | h
    · rw [h]
    · exact h.1.2 _ hn
  refine ⟨hx ▸ GX.walk hh hroom p1 p2 p3 p4, hy ▸ GX.walk hh hroom r1 r2 r3 r4, fun j s s' x m => x.move (fun b hb o e => m.heap b o (d12 b hb) e) (gk hg m.gens), fun j s s' x m => x.move (fun b hb o e => m.heap b o (d21 b hb) e) (gk (Ne.symm hg) m.gens), fun _ _ => trivial⟩
theorem cell_keep {h h' : Heap} {c P : Addr} {v : Option Value} {ps : Array Value} (x : h.IsCell c v) (hP : h.get? P = some { cls := .none, data := .fields ps }) (k : ∀ b o, b ≠ P → h.get? b = some o → h'.get? b = some o) : h'.IsCell c v := by
  obtain ⟨o, ho, hd⟩ := x
  exact ⟨o, k _ _ (fun e => by rw [e, hP] at ho; cases ho; cases hd) ho, hd⟩
theorem cell_some {h : Heap} {c : Addr} {v : Option Value} (x : h.IsCell c v) : ∃ o, h.get? c = some o := let ⟨o, ho, _⟩ := x; ⟨o, ho⟩
theorem args_raw {w : World} {A : Around} {env : Env} {f : Value} {e : Expr} {es : List Expr} {pos : Pos} {s : Shared} {E : Value → Shared → Prop} {Q : Args → Shared → Prop} (hn : noStar (e :: es) = true)
    (h : wpAny (model pr w) A (spliced (backTo pos (starEach (e :: es) env))) (fun vs s' => Q ⟨vs, []⟩ s') E s) : wpAny (model pr w) A (evalArgs f true (backTo pos (starEach (e :: es) env)) []) Q E s := by
  simp only [noStar, List.all_cons, Bool.and_eq_true] at hn
  have hn' : ∀ x p, e ≠ .Starred x p := by rintro x p rfl; simp at hn
  rw [star_cons hn'] at h ⊢
  exact Calls.evalArgs_plain h
/-- the function's place, with its code's -/
def FnC (mg : Str → Option Value) (h : Heap) (st : Stmt) (a c : Addr) : Prop :=
  ∃ o pm doc, mg (sName st) = some (.ref a) ∧ h.get? a = some o ∧ o.data = .func (fdOf st pm (.ref c) doc) ∧ h.CodeRec (.ref c) (sName st)
theorem FnC.fn {mg : Str → Option Value} {h : Heap} {st : Stmt} {a c : Addr} (f : FnC mg h st a c) : FnAt mg h st a := let ⟨o, pm, doc, r⟩ := f; ⟨o, pm, _, doc, r⟩

def barL (dx : List PV) (n : Nat) : UInt64 := Float64.div (fsumL [] (dx.map nb)) (Float64.ofInt n)
def prs (dx dy : List PV) (n : Nat) : List (UInt64 × UInt64) := (List.range n).map fun i => (Float64.sub (nb (dx.getD i .none)) (barL dx n), Float64.sub (nb (dy.getD i .none)) (barL dy n))
abbrev z3 : UInt64 × UInt64 × UInt64 := (Float64.zero false, Float64.zero false, Float64.zero false)
def covF (dx dy : List PV) : UInt64 := Float64.div (sumpL z3 (prs dx dy dx.length)) (Float64.ofInt ((dx.length : Int) - 1))
def okI (i : Int) : Bool := !Float64.isInf (Float64.ofInt i) && !Float64.isZero (Float64.ofInt i)
def covChk (dx dy : List PV) : Bool := (2 ≤ dx.length) && (dx.length < 1000) && (dy.length == dx.length) && dx.all isNum && dy.all isNum && ffin [] (dx.map nb) && ffin [] (dy.map nb) && spfin z3 (prs dx dy dx.length) && okI dx.length && okI ((dx.length : Int) - 1)

section
variable {w : World} {A : Around}
theorem op_divFI (a : UInt64) (b : Int) (h : okI b = true) : Op2 w A .Div (.flt a) (.int b) (.flt (Float64.div a (Float64.ofInt b))) := fun s E v1 v2 h1 h2 => by
  obtain ⟨t, rfl⟩ := vFlt h1; obtain ⟨u, rfl⟩ := vInt h2
  simp only [okI, Bool.and_eq_true, Bool.not_eq_true'] at h
  exact AutoFloatOps.truediv_fi_2 (by simp [h.1]) (by simp [h.2]) (gFlt ..)
theorem Fm.but {h₀ : Heap} {P : Addr} {env : Env} {γ : Str → Option PV} {h h' : Heap} {ps : Array Value} (F : Fm h₀ (fun b => b = P) env γ h) (hP : h.get? P = some { cls := .none, data := .fields ps }) (k : ∀ b o, b ≠ P → h.get? b = some o → h'.get? b = some o) : Fm h₀ (fun b => b = P) env γ h' := by
  refine ⟨fun b o hb e => k b o hb (F.g b o hb e), ?_⟩
  obtain ⟨m, cm, hn, hc, hv⟩ := F.ex
  refine ⟨m, cm, hn.at' fun o e => k _ _ (fun q => ?_) e, fun n c e => ?_, fun x d e => ?_⟩
  · obtain ⟨o', es, ep, ho, hd, _⟩ := hn
    rw [q, hP] at ho; cases ho; cases hd
  · obtain ⟨o, ho, hd⟩ := hc n c e
    refine ⟨o, k _ _ (fun q => ?_) ho, hd⟩
    rw [q, hP] at ho; cases ho; cases hd
  · obtain ⟨v, h1, h2⟩ := hv x d e
    refine ⟨v, h1, h2.off (P := fun b => b = P) k fun a vs hl hm => ?_⟩
    obtain ⟨n, hl⟩ := hl
    rw [hm, hP] at hl; cases hl

/-- what covariance leaves -/
def Kc (P : Addr) (s s' : Shared) : Prop := ∃ h' tk gs, s' = { s with heap := h', toks := tk, gens := gs } ∧ (∀ b o, b ≠ P → s.heap.get? b = some o → h'.get? b = some o) ∧ (AllBare s.gens → AllBare gs)
end

section
variable {w : World} {A : Around} {s : Shared} {mg mb : Str → Option Value} {g : Heap} {a c P bm : Addr} {ob : Obj}
set_option maxHeartbeats 1000000 in
theorem cov_ok {E : Value → Shared → Prop} {vs : List Value} {dx dy : List PV} (B : Bi mg mb) (Gg : Gd mg mb g) (hx : Ext g s.heap) (M : BMod g mainGlobals mg bm ob) (fa : FnC mg g (top 3) a c) (t : Tb c P s.heap) (hgP : g.get? P = none) (hh : A.handled = none)
    (hroom : A.depth + 4 < recursionLimit) (hv : ValsAre s.heap [.list dx, .list dy] vs) (hc : covChk dx dy = true) :
    wpAny (model pr w) A (call (.ref a) vs) (fun v s' => (∃ t, v = .float (covF dx dy) t) ∧ Kc P s s' ∧ Tb c P s'.heap) E s := by
  obtain ⟨o, pm, doc, hmg, ho, hd, hcd⟩ := id fa
  simp only [ValsAre] at hv
  obtain ⟨v1, _, rfl, q1, v2, _, rfl, q2, rfl⟩ := hv
  simp only [covChk, Bool.and_eq_true, decide_eq_true_eq, beq_iff_eq] at hc
  obtain ⟨⟨⟨⟨⟨⟨⟨⟨⟨c1, c2⟩, c3⟩, c4⟩, c5⟩, c6⟩, c7⟩, c8⟩, c9⟩, c10⟩ := hc
  have n1 : ∀ d ∈ dx, isNum d = true := fun d hd => List.all_eq_true.mp c4 d hd
  have n2 : ∀ d ∈ dy, isNum d = true := fun d hd => List.all_eq_true.mp c5 d hd
  have l1 : (dx.length : Int) < 2 ^ 63 := by omega
  have l2 : (dy.length : Int) < 2 ^ 63 := by omega
  refine call_fnC (γ := upd (upd (fun _ => none) (Str.ofString "x") (.list dx)) (Str.ofString "y") (.list dy)) (binds := [(Str.ofString "x", v1), (Str.ofString "y", v2)]) (hx _ _ ho) hd (hcd.keeps hx) (Gg.nolimit.keeps hx) (by omega) rfl rfl rfl rfl rfl (fun z d e => ?_) (fun h₁ tk ok F => ?_)
  · unfold upd at e
    by_cases hb : z = Str.ofString "y"
    · subst hb; rw [if_pos rfl] at e; cases e; exact ⟨rfl, v2, rfl, q2⟩
    · rw [if_neg hb] at e
      by_cases ha : z = Str.ofString "x"
      · subst ha; rw [if_pos rfl] at e; cases e; exact ⟨rfl, v1, rfl, q1⟩
      · rw [if_neg ha] at e; cases e
  · have Gk : ∀ {γ : Str → Option PV} h, Fm s.heap (fun _ => False) (callEnvC (fdOf (top 3) pm (.ref c) doc) s.heap.objs.size a) γ h → Gd mg mb h := fun h F => Gg.ext (hx.trans F.toExt)
    refine xs_assign (d := .int dx.length) ok F (ev_len B fm_sta rfl rfl (fun h F => (Gk h F).g) (fun h F => (Gk h F).b) rfl (ev_local (fun _ h => h) rfl rfl rfl) l1) rfl fun h2 t2 F2 => ?_
    refine xs_if_no F2 ((Tr.cmp fm_sta (ev_len B fm_sta rfl rfl (fun h F => (Gk h F).g) (fun h F => (Gk h F).b) rfl (ev_local (fun _ h => h) rfl rfl rfl) l2) (ev_local (fun _ h => h) rfl rfl rfl) (cm_ne dy.length dx.length)).congr (by simp [c3])) fun h3 t3 x3 => ?_
    refine xs_if_no (fm_sta _ _ x3 F2) ((Tr.cmp fm_sta (ev_local (fun _ h => h) rfl rfl rfl) eI (cm_lt dx.length 2)).congr (by simp; omega)) fun h4 t4 x4 => ?_
    have F4 := fm_sta _ _ (x3.trans x4) F2
    refine xs_assignC (d := .flt (barL dx dx.length)) ok F4 (Ev.bin fm_sta (ev_callG fm_sta rfl rfl (fun h F => (Gk h F).g) B.fsum rfl (Evs.cons fm_sta (ev_local (fun _ h => h) rfl rfl rfl) Evs.nil) fun s' E' us _ hus => fsum_ok (ds := dx) hh hus n1 (by omega) c6) (ev_local (fun _ h => h) rfl rfl rfl) (op_divFI _ _ c9)) rfl rfl fun h5 t5 F5 => ?_
    refine xs_assignC (d := .flt (barL dy dx.length)) ok F5 (Ev.bin fm_sta (ev_callG fm_sta rfl rfl (fun h F => (Gk h F).g) B.fsum rfl (Evs.cons fm_sta (ev_local (fun _ h => h) rfl rfl rfl) Evs.nil) fun s' E' us _ hus => fsum_ok (ds := dy) hh hus n2 (by omega) c7) (ev_local (fun _ h => h) rfl rfl rfl) (op_divFI _ _ c9)) rfl rfl fun h6 t6 F6 => ?_
    have F6' := F6.mono (X' := fun b => b = P) fun b hb => hb.elim
    obtain ⟨psP, hoP⟩ := t.obj
    have hP6 := F6.toExt _ _ hoP
    obtain ⟨m6, cm6, hn6, hcs6, hv6⟩ := id F6.ex
    obtain ⟨vx, ex1, ex2⟩ := hv6 (Str.ofString "xbar") _ rfl
    obtain ⟨tbx, rfl⟩ := vFlt ex2
    have cellx : h6.IsCell _ (some (.float (barL dx dx.length) tbx)) := (show cm6 (Str.ofString "xbar") = some _ from ex1) ▸ hcs6 (Str.ofString "xbar") _ rfl
    obtain ⟨vy, ey1, ey2⟩ := hv6 (Str.ofString "ybar") _ rfl
    obtain ⟨tby, rfl⟩ := vFlt ey2
    have celly : h6.IsCell _ (some (.float (barL dy dx.length) tby)) := (show cm6 (Str.ofString "ybar") = some _ from ey1) ▸ hcs6 (Str.ofString "ybar") _ rfl
    have xg6 := hx.trans F6.toExt
    refine wpAny_execs_cons (wpAny_Assign_Name ?_)
    refine wpAny_Call_Name_kw (Calls.Name_function_global rfl rfl (Calls.loadGlobal_global (mg := mg) ((Gk _ F6).g) B.sumprod (Calls.callWith_builtin (noStar_any rfl) (args_raw rfl ?_))))
    refine wpAny_items_cons ?_
    refine genexp_ok (w := w) (s := { s with heap := h6, toks := t6 }) (P := P) (mg := mg) (P₀ := Fm s.heap (fun b => b = P) (callEnvC (fdOf (top 3) pm (.ref c) doc) s.heap.objs.size a) _) (ds := dx) F6' (ev_local (fun _ h => h) rfl rfl rfl) n1 hh (by simp only [Around.deeper]; omega) rfl (t.ext F6.toExt) (Gg.nolimit.keeps xg6) (M.keeps xg6) cellx rfl rfl (by intro y hy; revert y; decide) rfl rfl rfl rfl (fun _ => rfl) (by decide) (by decide) (by decide) ?_
    intro a1 C1 I1 l1 h7 t7 gs1 fa1 fC1 fI1 ne1 ne2 ne3 hl1 keep7 tb7 bare1 hC1 hI1 gx1
    have xg7 : Ext g h7 := fun b o q => keep7 b o (fun e => by rw [e, hgP] at q; cases q) (xg6 _ _ q)
    have F7 := F6'.but hP6 keep7
    have lim7 : h7.NoLimit := Gg.nolimit.keeps xg7
    have nP : ∀ {b : Addr}, h6.get? b = none → b ≠ P := fun hb e => by rw [e, hP6] at hb; cases hb
    have celly7 := cell_keep celly hP6 keep7
    have cellx7 := cell_keep cellx hP6 keep7
    obtain ⟨ps7, hP7⟩ := tb7.obj
    refine wpAny_items_cons ?_
    refine genexp_ok (w := w) (s := { s with heap := h7, toks := t7, gens := s.gens.push gs1 }) (P := P) (mg := mg) (P₀ := Fm s.heap (fun b => b = P) (callEnvC (fdOf (top 3) pm (.ref c) doc) s.heap.objs.size a) _) (ds := dy) F7 (ev_local (fun _ h => h) rfl rfl rfl) n2 hh (by simp only [Around.deeper]; omega) rfl tb7 lim7 (M.keeps xg7) celly7 rfl rfl (by intro y hy; revert y; decide) rfl rfl rfl rfl (fun _ => rfl) (by decide) (by decide) (by decide) ?_
    intro a2 C2 I2 l2 h8 t8 gs2 fa2 fC2 fI2 me1 me2 me3 hl2 keep8 tb8 bare2 hC2 hI2 gx2
    -- who is who
    obtain ⟨vl1, hl1, lC1, lI1⟩ := hl1
    obtain ⟨vl2, hl2, lC2, lI2⟩ := hl2
    obtain ⟨mC1, hC1⟩ := hC1
    obtain ⟨mC2, hC2⟩ := hC2
    have old7 : ∀ {b : Addr} {o : Obj}, h7.get? b = some o → ∀ {d : Addr}, h7.get? d = none → b ≠ d := fun hb d hd e => by rw [e, hd] at hb; cases hb
    have sa1 : ∃ o, h7.get? a1 = some o := by obtain ⟨⟨o, _, _, ho, _⟩, _⟩ := gx1; exact ⟨o, ho⟩
    have sC1 : ∃ o, h7.get? C1 = some o := by obtain ⟨o, _, _, ho, _⟩ := hC1; exact ⟨o, ho⟩
    have sI1 : ∃ o, h7.get? I1 = some o := by obtain ⟨o, ho, _⟩ := hI1; exact ⟨o, ho⟩
    have sl1 : ∃ o, h7.get? l1 = some o := by obtain ⟨n, ho⟩ := hl1; exact ⟨_, ho⟩
    have sx1 := cell_some cellx7
    have sy1 := cell_some celly7
    have sc1 : ∃ o, h7.get? cStatics = some o := by obtain ⟨mc, ⟨o, _, _, ho, _⟩, _⟩ := lim7; exact ⟨o, ho⟩
    have new7 : ∀ {b d : Addr}, (∃ o, h7.get? b = some o) → h7.get? d = none → b ≠ d := fun hb hd e => by
      obtain ⟨o, hb⟩ := hb
      rw [e, hd] at hb; cases hb
    have all1 : ∀ {cx : Addr}, (∃ o, h7.get? cx = some o) → ∀ b ∈ a1 :: C1 :: gFp I1 l1 cx, ∃ o, h7.get? b = some o := fun hcx b hb => by
      simp only [gFp, List.mem_cons, List.not_mem_nil, or_false] at hb
      rcases hb with rfl | rfl | rfl | rfl | rfl | rfl <;> assumption
    have nP1 : ∀ {cx : Addr}, cx ≠ P → ∀ b ∈ a1 :: C1 :: gFp I1 l1 cx, b ≠ P := fun hcx b hb => by
      simp only [gFp, List.mem_cons, List.not_mem_nil, or_false] at hb
      rcases hb with rfl | rfl | rfl | rfl | rfl | rfl
      · exact nP fa1
      · exact nP fC1
      · exact nP fI1
      · rintro rfl
        obtain ⟨n, ho⟩ := hl1
        rw [hP7] at ho; cases ho
      · exact hcx
      · rintro e
        obtain ⟨mc, ⟨o, _, _, ho, hd, _⟩, _⟩ := lim7
        rw [e, hP7] at ho; cases ho; cases hd
    have cellP : ∀ {cx : Addr} {v : Option Value}, h7.IsCell cx v → cx ≠ P := fun hc e => by
      obtain ⟨o, ho, hd⟩ := hc
      rw [e, hP7] at ho; cases ho; cases hd
    refine wpAny_items_nil ?_
    have gx1' := gx1.move (s' := { s with heap := h8, toks := t8, gens := (s.gens.push gs1).push gs2 }) (fun b hb o e => keep8 b o (nP1 (cellP cellx7) b hb) e) (by show ((s.gens.push gs1).push gs2)[s.gens.size]? = (s.gens.push gs1)[s.gens.size]?; rw [Array.getElem?_push, if_neg (by simp)])
    have hC1' : h8.Ns C1 mC1 := hC1.at' fun o e => keep8 _ _ (nP fC1) e
    have hI1' : h8.IsListIter I1 l1 0 := by
      obtain ⟨o, ho, q⟩ := hI1
      exact ⟨o, keep8 _ _ (nP fI1) ho, q⟩
    have hG2 : ∃ o vs, h8.get? a2 = some o ∧ o.data = .fields vs := by
      obtain ⟨⟨o, _, _, ho, _, hd, _⟩, _⟩ := gx2
      exact ⟨o, _, ho, hd⟩
    have hI2' := hI2
    have n8 : ∀ {b d : Addr}, (∃ o, h7.get? b = some o) → h7.get? d = none → d ≠ b := fun hb hd e => new7 hb hd e.symm
    have D := duo_of (w := w) (A := (A.deeper (callEnvC (fdOf (top 3) pm (.ref c) doc) s.heap.objs.size a)).in1) (a1 := a1) (a2 := a2) (C1 := C1) (C2 := C2) (I1 := I1) (I2 := I2) (l1 := l1) (l2 := l2) (cx := ?cx) (cy := ?cy) (g1 := s.gens.size) (g2 := (s.gens.push gs1).size) (n := dx.length) (dx := dx) (dy := dy) (b1 := barL dx dx.length) (b2 := barL dy dx.length) hh (by simp only [Around.in1, Around.deeper]; omega)
      ne1 ?p2 ?p3 ?p4 me1 ?r2 ?r3 ?r4 ?d12 ?d21 (by simp) rfl c3
    case cx => exact s.heap.objs.size + 1
    case cy => exact s.heap.objs.size + 1 + 1
    case p2 =>
      intro hm
      simp only [gFp, List.mem_cons, List.not_mem_nil, or_false] at hm
      rcases hm with h | h | h | h
      · exact ne2 h
      · obtain ⟨⟨o, _, _, ho, _, hd, _⟩, _⟩ := gx1
        obtain ⟨n, ho'⟩ := hl1
        have ho2 : h7.get? a1 = some o := ho
        rw [h, ho'] at ho2; cases ho2; cases hd
      · obtain ⟨o, ho⟩ := cell_some cellx
        have := fa1; rw [h] at this; exact absurd (this.symm.trans ho) (by simp)
      · obtain ⟨mc, ⟨o, _, _, ho, _⟩, _⟩ := Gg.nolimit.keeps xg6
        rw [h, ho] at fa1; cases fa1
    case p3 =>
      intro h
      obtain ⟨mc, ⟨o, _, _, ho, _⟩, _⟩ := Gg.nolimit.keeps xg6
      rw [← h, ho] at fC1; cases fC1
    case p4 =>
      intro h
      obtain ⟨mc, ⟨o, _, _, ho, _⟩, _⟩ := Gg.nolimit.keeps xg6
      rw [← h, ho] at fI1; cases fI1
    case r2 =>
      intro hm
      simp only [gFp, List.mem_cons, List.not_mem_nil, or_false] at hm
      rcases hm with h | h | h | h
      · exact me2 h
      · obtain ⟨o, vs, ho, hd⟩ := hG2
        obtain ⟨n, ho'⟩ := hl2
        rw [h, ho'] at ho; cases ho; cases hd
      · exact n8 sy1 fa2 h
      · exact n8 sc1 fa2 h
    case r3 => exact new7 sc1 fC2
    case r4 => exact new7 sc1 fI2
    case d12 =>
      intro b hb hm
      have hb' := all1 sx1 b hb
      simp only [List.mem_cons, List.not_mem_nil, or_false] at hm
      rcases hm with h | h
      · exact new7 hb' fC2 h
      · exact new7 hb' fI2 h
    case d21 =>
      intro b hb hm
      simp only [gFp, List.mem_cons, List.not_mem_nil, or_false] at hb hm
      have bad : ∀ {b : Addr}, h7.get? b = none → b = C1 ∨ b = I1 → False := fun hb hm => by
        rcases hm with h | h
        · exact n8 sC1 hb h
        · exact n8 sI1 hb h
      rcases hb with rfl | rfl | rfl | rfl | rfl | rfl
      · exact bad fa2 hm
      · exact bad fC2 hm
      · exact bad fI2 hm
      · rcases hm with h | h
        · exact ns_ne_list hC1' (h ▸ hl2) rfl
        · obtain ⟨o, ho, _, hd⟩ := hI1'
          obtain ⟨n, ho'⟩ := hl2
          rw [h, ho] at ho'; cases ho'; cases hd
      · obtain ⟨o, ho⟩ := cell_some celly
        rcases hm with h | h
        · have := fC1; rw [← h] at this; exact absurd (this.symm.trans ho) (by simp)
        · have := fI1; rw [← h] at this; exact absurd (this.symm.trans ho) (by simp)
      · obtain ⟨mc, ⟨o, _, _, ho, _⟩, _⟩ := Gg.nolimit.keeps xg6
        rcases hm with h | h
        · rw [← h, ho] at fC1; cases fC1
        · rw [← h, ho] at fI1; cases fI1
    refine sp_ok (w := w) (s := { s with heap := h8, toks := t8, gens := (s.gens.push gs1).push gs2 }) D (by omega) gx1' gx2 c8 fun s9 tk9 mv => ?_
    have keep9 : ∀ b o, b ≠ P → h6.get? b = some o → s9.heap.get? b = some o := fun b o hb e => by
      have e7 := keep7 b o hb e
      refine mv.heap b o (fun hm => ?_) (keep8 b o hb e7)
      simp only [List.cons_append, List.nil_append, List.mem_cons, List.not_mem_nil, or_false] at hm
      have e6 : h6.get? b = some o := e
      rcases hm with h | h | h | h
      · have := fC1; rw [← h] at this; exact absurd (this.symm.trans e6) (by simp)
      · have := fI1; rw [← h] at this; exact absurd (this.symm.trans e6) (by simp)
      · have := fC2; rw [← h] at this; exact absurd (this.symm.trans e7) (by simp)
      · have := fI2; rw [← h] at this; exact absurd (this.symm.trans e7) (by simp)
    have tb9 : Tb c P s9.heap := by
      obtain ⟨ps, x1, x2⟩ := tb8
      have kp : ∀ b o, b = c ∨ b = P → h8.get? b = some o → s9.heap.get? b = some o := fun b o hb e => by
        refine mv.heap b o (fun hm => ?_) e
        simp only [List.cons_append, List.nil_append, List.mem_cons, List.not_mem_nil, or_false] at hm
        have h6b : ∃ o, h6.get? b = some o := by
          rcases hb with rfl | rfl
          · obtain ⟨ps6, ⟨⟨o, vs, q, _⟩, _⟩⟩ := (t.ext F6.toExt).elim fun ps x => (⟨ps, x.2⟩ : ∃ ps, h6.TableAt b P ps)
            exact ⟨o, q⟩
          · exact ⟨_, hP6⟩
        have h7b : ∃ o, h7.get? b = some o := by
          rcases hb with rfl | rfl
          · obtain ⟨ps6, ⟨⟨o, vs, q, _⟩, _⟩⟩ := tb7.elim fun ps x => (⟨ps, x.2⟩ : ∃ ps, h7.TableAt b P ps)
            exact ⟨o, q⟩
          · exact ⟨_, hP7⟩
        obtain ⟨o6, e6⟩ := h6b
        obtain ⟨o7, e7⟩ := h7b
        rcases hm with h | h | h | h
        · have := fC1; rw [← h] at this; exact absurd (this.symm.trans e6) (by simp)
        · have := fI1; rw [← h] at this; exact absurd (this.symm.trans e6) (by simp)
        · have := fC2; rw [← h] at this; exact absurd (this.symm.trans e7) (by simp)
        · have := fI2; rw [← h] at this; exact absurd (this.symm.trans e7) (by simp)
      obtain ⟨o, vs, file, tf, flags, tg, inF, text, tt, op, y1, y2, y3, y4, y5, y6, y7, y8, y9, y10, y11⟩ := x1
      obtain ⟨⟨o2, vs2, z1, z2⟩, z3⟩ := x2
      exact ⟨ps, ⟨o, vs, file, tf, flags, tg, inF, text, tt, op, kp _ _ (.inl rfl) y1, y2, y3, y4, y5, y6, y7, kp _ _ (.inr rfl) y8, y9, y10, y11⟩, ⟨⟨o2, vs2, kp _ _ (.inl rfl) z1, z2⟩, kp _ _ (.inr rfl) z3⟩⟩
    have F9 := F6'.but hP6 keep9
    have st9 : s9 = { s with heap := s9.heap, toks := s9.toks, gens := s9.gens } := by
      obtain ⟨hh9, g9, d9, k9, o9⟩ := s9
      have e1 := mv.drawn; have e2 := mv.os
      simp only at e1 e2
      subst e1; subst e2; rfl
    have br9 : AllBare s.gens → AllBare s9.gens := fun hb => mv.bare ((hb.push bare1).push bare2)
    generalize s9.heap = h9 at keep9 tb9 F9 st9
    generalize s9.toks = k9 at st9
    generalize s9.gens = gs9 at st9 br9
    subst st9
    refine store_local (w := w) (d := .flt (sumpL z3 (prs dx dy dx.length))) ok F9 rfl (by simp only [ValIs]; exact ⟨_, rfl⟩) fun h10 t10 F10 hs10 => ?_
    refine xs_return F10 (Ev.bin fm_sta (ev_local (fun _ h => h) rfl rfl rfl) (Ev.bin fm_sta (ev_local (fun _ h => h) rfl rfl rfl) eI (op_sub dx.length 1)) (op_divFI _ _ c10)) fun v h11 t11 x11 hv => ?_
    obtain ⟨tv, rfl⟩ := vFlt hv
    have tb10 : Tb c P h10 := by
      have nL : ∀ b, (∃ o, h9.get? b = some o ∧ ∃ vs, o.data = .fields vs) → b ≠ s.heap.objs.size := fun b hb e => by
        obtain ⟨o, ho, vs, hd⟩ := hb
        obtain ⟨m9, _, hn9, _, _⟩ := F9.ex
        obtain ⟨o', hq, hnf⟩ := ns_notFields hn9
        have : h9.get? s.heap.objs.size = some o' := hq
        rw [← e, ho] at this; cases this; exact hnf _ hd
      obtain ⟨ps, x1, x2⟩ := tb9
      obtain ⟨o, vs, file, tf, flags, tg, inF, text, tt, op, y1, y2, y3, y4, y5, y6, y7, y8, y9, y10, y11⟩ := x1
      obtain ⟨⟨o2, vs2, z1, z2⟩, z3⟩ := x2
      have nc := nL c ⟨o, y1, vs, y2⟩
      have nPP := nL P ⟨op, y8, ps, y9⟩
      exact ⟨ps, ⟨o, vs, file, tf, flags, tg, inF, text, tt, op, hs10.extBut _ _ nc y1, y2, y3, y4, y5, y6, y7, hs10.extBut _ _ nPP y8, y9, y10, y11⟩, ⟨⟨o2, vs2, hs10.extBut _ _ nc z1, z2⟩, hs10.extBut _ _ nPP z3⟩⟩
    refine ⟨⟨tv, rfl⟩, ⟨h11, t11, gs9, rfl, fun b o hb e => x11 _ _ (F10.g b o hb e), br9⟩, tb10.ext x11⟩
end
end Mine

namespace Mine
open PySem PySem.W

/-! comprehensions over ints -/
def flat : PV → Bool
  | .list _ => false
  | .raw _ => false
  | _ => true
theorem flat_any {d : PV} {h h' : Heap} {v : Value} (hf : flat d = true) (x : ValIs h d v) : ValIs h' d v := by
  cases d <;> first | (simp [flat] at hf; done) | simpa only [ValIs] using x

/-- what an iterable tells: ints -/
def It (w : World) (A : Around) (env : Env) (P : Heap → Prop) (iter : Expr) (ins : List Int) : Prop :=
  ∀ (s : Shared) (E : Value → Shared → Prop), P s.heap → wpAny (model pr w) A (eval iter env) (fun xv s₁ => wpAny (model pr w) A (pyIter xv) (fun it s₂ => Keeps s s₁ ∧ Keeps s₁ s₂ ∧ ∃ I fp wr Pi St, it = .ref I ∧ Walks pr w A I fp wr ins.length Pi St ∧ St 0 s₂.heap ∧ (∀ b ∈ fp, b < s₂.heap.objs.size) ∧ (∀ b ∈ wr, s₁.heap.get? b = none) ∧
    ∀ i v, Pi i v → ∃ k t, ins[i]? = some k ∧ v = .int k t) E s₁) E s
def Ts (w : World) (A : Around) (env : Env) (P : Heap → Prop) (ifs : List Expr) (b : Bool) : Prop :=
  ∀ (s : Shared) (E : Value → Shared → Prop), P s.heap → wpAny (model pr w) A (forIn ifs true fun c r => if r = true then do let ok ← isTrue c env (eval c env); pure (ForInStep.yield ok) else pure (ForInStep.yield r)) (fun ok s' => ok = b ∧ Keeps s s') E s

section
variable {w : World} {A : Around} {env : Env} {P : Heap → Prop}
theorem ts_nil : Ts w A env P [] true := fun s E _ => wpAny_pure ⟨rfl, kRefl s⟩
theorem ts_one {c : Expr} {b : Bool} (h : Tr w A env P c b) : Ts w A env P [c] b := fun s E hp => by
  rw [List.forIn_cons]
  refine wpAny_bind ?_
  rw [if_pos rfl]
  refine wpAny_bind (h.at hp fun s' k => wpAny_pure ?_)
  show wpAny _ _ (pure b) _ _ _
  exact wpAny_pure ⟨rfl, k⟩
theorem ints_get {h : Heap} : ∀ {xs : List Int} {vs : List Value}, ValsAre h (xs.map PV.int) vs → ∀ {i : Nat} {v : Value}, vs[i]? = some v → ∃ k t, xs[i]? = some k ∧ v = .int k t
  | [], _, e, i, v, q => by simp only [List.map_nil, ValsAre] at e; subst e; simp at q
  | x :: xs, vs, e, i, v, q => by
    simp only [List.map_cons, ValsAre] at e
    obtain ⟨u, us, rfl, hu, hr⟩ := e
    cases i with
    | zero => simp at q; subst q; obtain ⟨t, rfl⟩ := vInt hu; exact ⟨x, t, rfl, rfl⟩
    | succ i => simp at q; simpa using ints_get hr q
theorem it_list {iter : Expr} {ins : List Int} (hh : A.handled = none) (h : Ev w A env P iter (.list (ins.map .int))) : It w A env P iter ins := fun s E hp => by
  refine h.at hp fun v s₁ g k => ?_
  obtain ⟨a, vs, rfl, hl, hd⟩ := vList g
  have hsz : vs.toArray.size = ins.length := by simp [hd.length]
  refine wpAny_pyIter_list hl.isList ⟨k, kHeap s₁ _ s₁.toks (Ext.push _ _), s₁.heap.objs.size, [s₁.heap.objs.size, a], [s₁.heap.objs.size], fun i v => vs.toArray[i]? = some v, fun i h => h.IsListIter s₁.heap.objs.size a i ∧ h.IsList a vs.toArray, rfl, ?_, ⟨⟨_, Heap.get?_push_size _ rfl, rfl, rfl⟩, (isList_ext (Ext.push _ _) hl).isList⟩, ?_, ?_, ?_⟩
  · have ha : a ≠ s₁.heap.objs.size := by obtain ⟨n, ho⟩ := hl; exact Nat.ne_of_lt (Heap.lt_size ho)
    have := Walks.list (prog := pr) (w := w) hh s₁.heap.objs.size a ha vs.toArray
    rw [hsz] at this
    exact this
  · intro b hb
    simp only [List.mem_cons, List.not_mem_nil, or_false] at hb
    show b < (s₁.heap.push _).objs.size
    rw [Heap.size_push]
    rcases hb with rfl | rfl
    · exact Nat.lt_succ_self _
    · obtain ⟨n, ho⟩ := hl; exact Nat.lt_succ_of_lt (Heap.lt_size ho)
  · intro b hb
    simp only [List.mem_cons, List.not_mem_nil, or_false] at hb
    subst hb
    exact get_none_ge (Nat.le_refl _)
  · intro i v hv
    exact ints_get hd (by simpa using hv)
def rng (lo : Int) (n : Nat) : List Int := (List.range n).map fun (i : Nat) => lo + (i : Int)
theorem rng_get {lo : Int} {n i : Nat} (hi : i < n) : (rng lo n)[i]? = some (lo + (i : Int)) := by simp [rng, hi]
theorem range_it {s s' : Shared} {E : Value → Shared → Prop} {r : Addr} {lo hi : Int} {t u v : Tok} (hh : A.handled = none) (k : Keeps s s') (hr : IsRange s'.heap r lo hi 1 t u v) (h1 : -(2 ^ 62) ≤ lo) (h2 : lo < 2 ^ 62) (h3 : -(2 ^ 62) ≤ hi) (h4 : hi < 2 ^ 62) (n : Nat) (hn : n = (hi - lo).toNat) :
    wpAny (model pr w) A (pyIter (.ref r)) (fun it s₂ => Keeps s s' ∧ Keeps s' s₂ ∧ ∃ I fp wr Pi St, it = .ref I ∧ Walks pr w A I fp wr (rng lo n).length Pi St ∧ St 0 s₂.heap ∧ (∀ b ∈ fp, b < s₂.heap.objs.size) ∧ (∀ b ∈ wr, s'.heap.get? b = none) ∧
      ∀ i v, Pi i v → ∃ k t, (rng lo n)[i]? = some k ∧ v = .int k t) E s' := by
  refine wpAny_pyIter_range hr (small_one h1 h2 h3 h4) ?_
  have hsz : Builtin.Range.rangeSize lo hi 1 = (n : Int) := by rw [rangeSize_one, hn]; split <;> omega
  have hl : (rng lo n).length = n := by simp [rng]
  have W := Walks.range (prog := pr) (w := w) hh s'.heap.objs.size lo 1 n
  refine ⟨k, kHeap s' _ s'.toks (Ext.push _ _), s'.heap.objs.size, [s'.heap.objs.size], [s'.heap.objs.size], fun i v => i < n ∧ ∃ t, v = .int (lo + (i : Int) * 1) t, fun i h => IsRangeIter h s'.heap.objs.size (lo + (i : Int) * 1) ((n : Int) - (i : Int)) 1, rfl, ?_, ?_, ?_, ?_, ?_⟩
  · rw [hl]
    exact ⟨W.sub, W.frame, fun i s Q E hi st hQ => W.item i s Q E hi st fun v h' tk hp st' m => hQ v h' tk ⟨hi, hp⟩ st' m, W.done, W.self⟩
  · show IsRangeIter _ _ (lo + ((0 : Nat) : Int) * 1) ((n : Int) - ((0 : Nat) : Int)) 1
    rw [show (lo + ((0 : Nat) : Int) * 1) = lo by simp, show ((n : Int) - ((0 : Nat) : Int)) = Builtin.Range.rangeSize lo hi 1 by rw [hsz]; simp]
    exact Heap.get?_push_size _ rfl
  · intro b hb
    simp only [List.mem_cons, List.not_mem_nil, or_false] at hb
    subst hb
    show _ < (s'.heap.push _).objs.size
    rw [Heap.size_push]; exact Nat.lt_succ_self _
  · intro b hb
    simp only [List.mem_cons, List.not_mem_nil, or_false] at hb
    subst hb
    exact get_none_ge (Nat.le_refl _)
  · rintro i v ⟨hi, t, rfl⟩
    exact ⟨_, t, rng_get hi, by simp⟩
theorem it_range1 {p pos : Pos} {e : Expr} {mg mb : Str → Option Value} {n : Nat} (B : Bi mg mb) (hh : A.handled = none) (hP : Sta P) (hkd : env.scope.kind = .function) (hk : env.kindOf (Str.ofString "range") = some .globalImplicit)
    (hg : ∀ h, P h → h.Ns env.globals mg) (hb : ∀ h, P h → h.Ns env.builtins mb) (h : Ev w A env P e (.int n)) (hn : (n : Int) < 2 ^ 62) (hns : noStar [e] = true) (hnn : ∀ x p, e ≠ .Starred x p := by intro _ _ h; cases h) : It w A env P (.Call (.Name (Str.ofString "range") p) [e] [] pos) (rng 0 n) := fun s E hp => by
  refine wpAny_Call_Name_kw (Calls.Name_function_global hkd hk (Calls.loadGlobal_builtin (hg _ hp) B.range.1 (hb _ hp) B.range.2 (PyProof.Rows.callWith_type (noStar_any hns) (args_at hns (Evs.cons hP h Evs.nil hnn) hp fun vs s' g k => ?_))))
  simp only [ValsAre] at g
  obtain ⟨v, _, rfl, hv, rfl⟩ := g
  obtain ⟨t, rfl⟩ := vInt hv
  refine call_range_1 ?_
  refine range_it (s := s) (s' := { s' with heap := _, toks := _ }) hh (kTrans k (kHeap s' _ _ (Ext.push _ _))) (IsRange.new ..) (by decide) (by decide) (by omega) hn n (by omega)
theorem it_range2 {p pos : Pos} {e1 e : Expr} {mg mb : Str → Option Value} {n : Nat} (B : Bi mg mb) (hh : A.handled = none) (hP : Sta P) (hkd : env.scope.kind = .function) (hk : env.kindOf (Str.ofString "range") = some .globalImplicit)
    (hg : ∀ h, P h → h.Ns env.globals mg) (hb : ∀ h, P h → h.Ns env.builtins mb) (h1 : Ev w A env P e1 (.int 1)) (h : Ev w A env P e (.int ((n : Int) + 1))) (hn : (n : Int) + 1 < 2 ^ 62) (hns : noStar [e1, e] = true) (hn1 : ∀ x p, e1 ≠ .Starred x p := by intro _ _ h; cases h) (hnn : ∀ x p, e ≠ .Starred x p := by intro _ _ h; cases h) : It w A env P (.Call (.Name (Str.ofString "range") p) [e1, e] [] pos) (rng 1 n) := fun s E hp => by
  refine wpAny_Call_Name_kw (Calls.Name_function_global hkd hk (Calls.loadGlobal_builtin (hg _ hp) B.range.1 (hb _ hp) B.range.2 (PyProof.Rows.callWith_type (noStar_any hns) (args_at hns (Evs.cons hP h1 (Evs.cons hP h Evs.nil hnn) hn1) hp fun vs s' g k => ?_))))
  simp only [ValsAre] at g
  obtain ⟨v1, _, rfl, hv1, v, _, rfl, hv, rfl⟩ := g
  obtain ⟨t, rfl⟩ := vInt hv
  obtain ⟨t1, rfl⟩ := vInt hv1
  refine call_range_2 ?_
  refine range_it (s := s) (s' := { s' with heap := _, toks := _ }) hh (kTrans k (kHeap s' _ _ (Ext.push _ _))) (IsRange.new ..) (by decide) (by decide) (by omega) hn n (by omega)
end

/-! the frame of a comprehension -/
theorem mkFmC {h₀ h1 h3 : Heap} {X : Addr → Prop} {env : Env} {γ γc : Str → Option PV} {scope : Scope} {cl : List (Str × Addr)} {C : Addr} {m₃ : Str → Option Value} {x : Str} {v : Value} {d : PV} (F : Fm h₀ X env γ h1) (k : Ext h1 h3) (hn : h3.Ns C m₃) (hm : m₃ x = some v) (hv : ValIs h3 d v)
    (hx : (compEnvC scope cl C env).kindOf x = some .local) (hcl : ∀ n c, cl.lookup n = some c → env.cells.lookup n = some c)
    (hγ : ∀ y e, γc y = some e → γ y = some e ∧ env.kindOf y = some .cell ∧ (compEnvC scope cl C env).kindOf y = some .cell) : Fm h₀ X (compEnvC scope cl C env) (upd γc x d) h3 := by
  obtain ⟨m, cm, _, hc, hvv⟩ := F.ex
  refine ⟨F.g.ext k, m₃, cm, hn, fun n c e => (hc n c (hcl n c e)).keeps k, fun y e he => ?_⟩
  unfold upd at he
  by_cases hy : y = x
  · subst hy
    rw [if_pos rfl] at he
    cases he
    exact ⟨v, by unfold lookV; rw [hx]; exact hm, hv⟩
  · rw [if_neg hy] at he
    obtain ⟨h1', h2', h3'⟩ := hγ y e he
    obtain ⟨u, hu, hd⟩ := hvv y e h1'
    unfold lookV at hu
    rw [h2'] at hu
    exact ⟨u, by unfold lookV; rw [h3']; exact hu, hd.ext k⟩

def pzV (pz : Int → Bool) : Value → Bool
  | .int k _ => pz k
  | _ => false
def FV (out : Int → PV) : Value → Value → Prop
  | .int k _, y => ∀ h, ValIs h (out k) y
  | _, _ => False
theorem outs_of {h : Heap} {pz : Int → Bool} {out : Int → PV} : ∀ {ins : List Int} {vs ys : List Value}, (∃ h', ValsAre h' (ins.map PV.int) vs) → Paired (FV out) (vs.filter (pzV pz)) ys → ValsAre h ((ins.filter pz).map out) ys
  | [], vs, ys, ⟨h', e⟩, p => by
    simp only [List.map_nil, ValsAre] at e; subst e
    simp at p; cases p
    simp [ValsAre]
  | k :: ins, vs, ys, ⟨h', e⟩, p => by
    simp only [List.map_cons, ValsAre] at e
    obtain ⟨v, r, rfl, hv, hr⟩ := e
    obtain ⟨t, rfl⟩ := vInt hv
    by_cases hp : pz k = true
    · rw [List.filter_cons_of_pos (by simpa [pzV] using hp)] at p
      rw [List.filter_cons_of_pos hp]
      cases p with
      | cons f p' =>
        simp only [List.map_cons]
        exact ValsAre.cons (f h) (outs_of ⟨h', hr⟩ p')
    · rw [List.filter_cons_of_neg (by simpa [pzV] using hp)] at p
      rw [List.filter_cons_of_neg hp]
      exact outs_of ⟨h', hr⟩ p
theorem ints_of {ins : List Int} {vs : List Value} (hl : vs.length = ins.length) (h : ∀ (j : Nat) (v : Value), vs[j]? = some v → ∃ (k : Int) (t : Tok), ins[j]? = some k ∧ v = Value.int k t) : ValsAre default (ins.map PV.int) vs := by
  induction ins generalizing vs with
  | nil => simp at hl; subst hl; simp [ValsAre]
  | cons k ins ih =>
    cases vs with
    | nil => simp at hl
    | cons v vs =>
      obtain ⟨k', t, e1, e2⟩ := h 0 v (by simp)
      simp at e1
      subst e1; subst e2
      refine ValsAre.cons (by simp only [ValIs]; exact ⟨_, rfl⟩) (ih (by simpa using hl) fun j v hj => ?_)
      simpa using h (j + 1) v (by simpa using hj)

/-- what a comprehension needs -/
structure Cmp (w : World) (A : Around) (h₀ : Heap) (X : Addr → Prop) (env : Env) (γ γc : Str → Option PV) (scope : Scope) (cl : List (Str × Addr)) (x : Str) (ifs : List Expr) (elt : Expr) (ins : List Int) (pz : Int → Bool) (out : Int → PV) : Prop where
  clos : closureFor scope env = pure cl
  cell : ∀ y ∈ scope.names, y.2 ≠ .cell
  kind : scope.kind = .function
  names : ∀ y ∈ scope.names, y.2 = .local → scope.names.lookup y.1 = some .local
  xl : scope.names.lookup x = some .local
  cl_ : ∀ n c, cl.lookup n = some c → env.cells.lookup n = some c
  γc_ : ∀ y e, γc y = some e → γ y = some e ∧ env.kindOf y = some .cell ∧ ∀ C, (compEnvC scope cl C env).kindOf y = some .cell
  fl : ∀ k, flat (out k) = true
  ts : ∀ C k, k ∈ ins → Ts w A (compEnvC scope cl C env) (Fm h₀ X (compEnvC scope cl C env) (upd γc x (.int k))) ifs (pz k)
  el : ∀ C k, k ∈ ins → pz k = true → Ev w A (compEnvC scope cl C env) (Fm h₀ X (compEnvC scope cl C env) (upd γc x (.int k))) elt (out k)

section
variable {w : World} {A : Around} {h₀ : Heap} {X : Addr → Prop} {env : Env} {γ γc : Str → Option PV} {scope : Scope} {cl : List (Str × Addr)} {x : Str} {ifs : List Expr} {elt iter : Expr} {ins : List Int} {pz : Int → Bool} {out : Int → PV}
theorem Cmp.quiet {wr : List Addr} {Pi : Nat → Value → Prop} {s₁ s₂ : Shared} (c : Cmp w A h₀ X env γ γc scope cl x ifs elt ins pz out) (F : Fm h₀ X env γ s₁.heap) (k : Keeps s₁ s₂) (hwr : ∀ b ∈ wr, s₁.heap.get? b = none) (hPi : ∀ i v, Pi i v → ∃ k t, ins[i]? = some k ∧ v = .int k t) :
    QuietOnC pr w A env scope cl x ifs elt wr Pi (pzV pz) (FV out) s₂ := by
  have up : ∀ {h : Heap}, (∀ b o, b ∉ wr → s₂.heap.get? b = some o → h.get? b = some o) → Ext s₁.heap h := fun hk b o e => hk b o (fun hm => by rw [hwr b hm] at e; cases e) (kExt k _ _ e)
  have xk : ∀ C, (compEnvC scope cl C env).kindOf x = some .local := fun C => lookup_relabel_local c.xl
  constructor
  · intro C i v s₃ m₃ E' hC hv hn hm hk ht
    obtain ⟨kk, t, h1, rfl⟩ := hPi i v hv
    exact c.ts C kk (List.mem_of_getElem? h1) s₃ E' (mkFmC F (up hk) hn hm (by simp only [ValIs]; exact ⟨_, rfl⟩) (xk C) c.cl_ fun y e he => ⟨(c.γc_ y e he).1, (c.γc_ y e he).2.1, (c.γc_ y e he).2.2 C⟩)
  · intro C i v s₃ m₃ E' hC hv hp hn hm hk ht
    obtain ⟨kk, t, h1, rfl⟩ := hPi i v hv
    refine wpAny_mono (c.el C kk (List.mem_of_getElem? h1) (by simpa [pzV] using hp) s₃ E' (mkFmC F (up hk) hn hm (by simp only [ValIs]; exact ⟨_, rfl⟩) (xk C) c.cl_ fun y e he => ⟨(c.γc_ y e he).1, (c.γc_ y e he).2.1, (c.γc_ y e he).2.2 C⟩)) (fun y s₄ g => ⟨fun h => flat_any (c.fl kk) g.1, g.2⟩) fun _ _ e => e
theorem ev_comp {px pos : Pos} (c : Cmp w A h₀ X env γ γc scope cl x ifs elt ins pz out) (it : It w A env (Fm h₀ X env γ) iter ins) (hz : ins.length ≤ sizeLine) (hs : ∀ x, foldedSetIterable iter env x = pure x) :
    Ev w A env (Fm h₀ X env γ) (.ListComp elt [⟨.Name x px, iter, ifs, 0⟩] scope pos) (.list ((ins.filter pz).map out)) := fun s E F => by
  refine wpAny_ListComp_free (pzV pz) (FV out) c.clos c.cell c.kind c.names c.xl (wpAny_mono (it s E F) (fun xv s₁ h₁ => wpAny_mono h₁ (fun iv s₂ h₂ => ?_) fun _ _ e => e) fun _ _ e => e) hs
  obtain ⟨k1, k2, I, fp, wr, Pi, St, rfl, W, hst, hfp, hwr, hPi⟩ := h₂
  refine ⟨I, fp, wr, _, Pi, St, rfl, W, hz, hst, hfp, c.quiet (fm_sta _ _ (kExt k1) F) k2 hwr hPi, fun D h' tk ys vs hD hl hpl hlen hP hpair hk => ?_⟩
  have hE : Ext s₁.heap h' := fun b o e => hk b o (fun hm => by rw [hwr b hm] at e; cases e) (kExt k2 _ _ e)
  refine ⟨?_, ?_⟩
  · simp only [ValIs]
    refine ⟨D, ys.toList, rfl, by simpa using hpl, outs_of ⟨_, ints_of hlen fun j v hj => hPi j v (hP j v hj)⟩ hpair⟩
  · have ke1 := kExt k1
    obtain ⟨hh1, t1, rfl, _⟩ := k1
    obtain ⟨hh2, t2, rfl, _⟩ := k2
    exact kHeap s h' tk (Ext.trans ke1 hE)
theorem xs_comp {px py pos spos : Pos} {y : Str} {s : Shared} {E : Value → Shared → Prop} {Q : Flow → Shared → Prop} {rest : List Stmt} (ok : EnvOk h₀ env) (F : Fm h₀ X env γ s.heap) (c : Cmp w A h₀ X env γ γc scope cl x ifs elt ins pz out) (it : It w A env (Fm h₀ X env γ) iter ins) (hz : ins.length ≤ sizeLine)
    (hsw : swapsWith (.ListComp elt [⟨.Name x px, iter, ifs, 0⟩] scope pos) (some (.Name y py)) spos.line env = pure true) (hy : env.kindOf y = some .local)
    (h : ∀ h' tk, Fm h₀ X env (upd γ y (.list ((ins.filter pz).map out))) h' → wpAny (model pr w) A (execs rest env) Q E { s with heap := h', toks := tk }) (hs : ∀ x, foldedSetIterable iter env x = pure x := by intro _; rfl) :
    wpAny (model pr w) A (execs (.Assign [.Name y py] (.ListComp elt [⟨.Name x px, iter, ifs, 0⟩] scope pos) spos :: rest) env) Q E s := by
  refine wpAny_execs_cons (wpAny_Assign_ListComp_free (pzV pz) (FV out) hsw c.clos c.cell c.kind c.names c.xl hy (by rw [ok.kind]; rfl) (wpAny_mono (it s E F) (fun xv s₁ h₁ => wpAny_mono h₁ (fun iv s₂ h₂ => ?_) fun _ _ e => e) fun _ _ e => e) hs)
  obtain ⟨k1, k2, I, fp, wr, Pi, St, rfl, W, hst, hfp, hwr, hPi⟩ := h₂
  have F1 := fm_sta _ _ (kExt k1) F
  obtain ⟨m, cm, hn, hc, hv⟩ := id F1.ex
  have nL : env.locals ∉ wr := fun hm => by
    obtain ⟨o, es, ep, ho, _⟩ := hn
    rw [hwr _ hm] at ho; cases ho
  refine ⟨I, fp, wr, _, Pi, St, m, rfl, W, hz, hst, hfp, nL, hn.keeps (kExt k2), c.quiet F1 k2 hwr hPi, fun D h' tk ys vs hD hl hpl hlen hP hpair hn' hk => ?_⟩
  have off : ExtOff (fun b => b = env.locals) s₁.heap h' := fun b o hb e => hk b o hb (fun hm => by rw [hwr b hm] at e; cases e) (kExt k2 _ _ e)
  have F' : Fm h₀ X env (upd γ y (.list ((ins.filter pz).map out))) h' := by
    refine ⟨F1.g.off off fun b hb => by rw [hb]; exact ok.freshL, _, cm, hn', fun n c e => ?_, fun z d e => ?_⟩
    · obtain ⟨o, ho, hd⟩ := hc n c e
      exact ⟨o, off _ _ (ok.off n c (mem_of_lookup e)) ho, hd⟩
    · unfold upd at e
      by_cases hz' : z = y
      · subst hz'
        rw [if_pos rfl] at e
        cases e
        refine ⟨.ref D, by unfold lookV; rw [hy]; simp, ?_⟩
        simp only [ValIs]
        exact ⟨D, ys.toList, rfl, by simpa using hpl, outs_of ⟨_, ints_of hlen fun j v hj => hPi j v (hP j v hj)⟩ hpair⟩
      · rw [if_neg hz'] at e
        obtain ⟨u, h1, h2⟩ := hv z d e
        refine ⟨u, ?_, h2.off off (noLists_ns hn)⟩
        have e2 : lookV env (fun q => if q = y then some (.ref D) else m q) cm z = lookV env m cm z := by unfold lookV; simp only [if_neg hz']
        rw [e2]; exact h1
  obtain ⟨hh1, t1, rfl, _⟩ := k1
  obtain ⟨hh2, t2, rfl, _⟩ := k2
  exact h h' tk F'
end
end Mine

namespace Mine
open PySem PySem.W

section
variable {w : World} {A : Around} {E : Value → Shared → Prop} {s : Shared}
theorem set_plain {l : Addr} {items : Array Value} {k : Int} {t : Tok} {v : Value} {Q : Unit → Shared → Prop} (hl : s.heap.PlainList l items) (h0 : 0 ≤ k) (hfit : k < 2 ^ 63) (hk : k < items.size)
    (hQ : ∀ h', h'.PlainList l (items.setIfInBounds k.toNat v) → Heap.SameBut l s.heap h' → Q () { s with heap := h' }) :
    wpAny (model pr w) A (setItem (.ref l) (.int k t) v) Q E s := by
  obtain ⟨n, ho⟩ := id hl
  unfold setItem
  try with_reducible refine wpAny_holding ?_
  first | refine wpAny_bind (wpAny_pure ?_) | skip
  refine wpAny_bind (wpAny_sequenceKey hl.isList.typeIs (by decide) ?_)
  refine wpAny_bind (wpAny_callSpecial?_slot (name := Str.ofString "__setitem__") hl.isList.typeIs slot_list_setitem
    (wpAny_call_entry slot_list_setitem hl.isList.typeIs entry_list_setitem ?_ (args_list_setitem _ _ _)))
  show wpAny _ _ (Builtin.List.listSubscript? (.int k t) >>= _) _ _ s
  refine wpAny_bind (wpAny_listSubscript_int (fitsIndex_of h0 hfit) ?_)
  clear hfit
  obtain ⟨j, rfl⟩ := Int.eq_ofNat_of_zero_le h0
  have hj : j < items.size := by omega
  have hx' : items[j]? = some items[j] := Array.getElem?_eq_getElem hj
  show wpAny _ _ ((seqItemAt l j >>= fun r => pure (r.map (j, ·))) >>= _) _ _ s
  refine wpAny_bind (wpAny_bind (wpAny_seqItemAt ho rfl (wpAny_pure ?_)))
  rw [hx']
  show wpAny _ _ (setSeqItemAt l j v >>= _) _ _ s
  have hfin : (s.heap.update l (Obj.mapSeq (·.setIfInBounds j v))).PlainList l (items.setIfInBounds j v) := by
    exact ⟨_, Heap.get?_update_self _ ho rfl⟩
  refine wpAny_bind (wpAny_setSeqItemAt ho rfl ?_)
  first
    | exact wpAny_bind (wpAny_pure (wpAny_pure ⟨.none, rfl, wpAny_pure (hQ _ hfin (Heap.SameBut.update ..))⟩))
    | exact wpAny_pure ⟨.none, rfl, wpAny_pure (hQ _ hfin (Heap.SameBut.update ..))⟩
end
end Mine

namespace Mine
open PySem PySem.W

/-- the first loop: what it keeps -/
structure CI (h₀ : Heap) (X : Addr → Prop) (env : Env) (ca l e it : Addr) (items : Array Value) (i : Nat) (h : Heap) : Prop where
  g : Grd h₀ X h
  ns : ∃ m, h.Ns env.locals m
  cm : ∃ cm : Str → Option Value, (∀ n c, env.cells.lookup n = some c → h.IsCell c (cm n)) ∧ cm (Str.ofString "cells") = some (.ref ca)
  ls : ∃ (cs : List Int) (vs : List Value), cs.length = 5 ∧ h.PlainList ca vs.toArray ∧ ValsAre h (cs.map .int) vs
  en : ∃ old, IsEnum h e it i old
  it_ : h.IsListIter it l i
  sl : h.IsList l items

theorem vals_set {h h' : Heap} {x : Int} {t : Tok} : ∀ {cs : List Int} {vs : List Value} (j : Nat), ValsAre h (cs.map PV.int) vs → ValsAre h' ((cs.set j x).map PV.int) (vs.set j (.int x t))
  | [], vs, j, e => by simp only [List.map_nil, ValsAre] at e; subst e; simp [ValsAre]
  | c :: cs, vs, j, e => by
    simp only [List.map_cons, ValsAre] at e
    obtain ⟨v, r, rfl, hv, hr⟩ := e
    cases j with
    | zero => simp only [List.set_cons_zero, List.map_cons]; exact ValsAre.cons (by simp only [ValIs]; exact ⟨_, rfl⟩) (intsAt hr)
    | succ j => simp only [List.set_cons_succ, List.map_cons]; exact ValsAre.cons (by simpa only [ValIs] using hv) (vals_set j hr)
theorem CI.off {h₀ : Heap} {X : Addr → Prop} {env : Env} {ca l e it : Addr} {items : Array Value} {i : Nat} {h h' : Heap} (c : CI h₀ X env ca l e it items i h) (hfe : h₀.get? e = none) (hfi : h₀.get? it = none) (hfL : h₀.get? env.locals = none) (hl : l ≠ e ∧ l ≠ it ∧ l ≠ env.locals)
    (k : ∀ b o, b ≠ e → b ≠ it → b ≠ env.locals → h.get? b = some o → h'.get? b = some o) :
    Grd h₀ X h' ∧ (∃ cm : Str → Option Value, (∀ n c, env.cells.lookup n = some c → h'.IsCell c (cm n)) ∧ cm (Str.ofString "cells") = some (.ref ca)) ∧ (∃ (cs : List Int) (vs : List Value), cs.length = 5 ∧ h'.PlainList ca vs.toArray ∧ ValsAre h' (cs.map .int) vs) ∧ h'.IsList l items := by
  obtain ⟨m, hm⟩ := c.ns
  obtain ⟨old, hen⟩ := c.en
  obtain ⟨oi, hoi, hci, hdi⟩ := c.it_
  obtain ⟨oL, esL, epL, hoL, hdL, _⟩ := hm
  refine ⟨fun b o hb q => k b o ?_ ?_ ?_ (c.g b o hb q), ?_, ?_, ?_⟩
  · rintro rfl; rw [hfe] at q; cases q
  · rintro rfl; rw [hfi] at q; cases q
  · rintro rfl; rw [hfL] at q; cases q
  · obtain ⟨cm, h1, h2⟩ := c.cm
    refine ⟨cm, fun n c' q => ?_, h2⟩
    obtain ⟨o, ho, hd⟩ := h1 n c' q
    refine ⟨o, k _ _ ?_ ?_ ?_ ho, hd⟩
    · rintro rfl; rw [hen] at ho; cases ho; cases hd
    · rintro rfl; rw [hoi] at ho; cases ho; rw [hdi] at hd; cases hd
    · rintro rfl; rw [hoL] at ho; cases ho; rw [hdL] at hd; cases hd
  · obtain ⟨cs, vs, h1, ⟨n, h2⟩, h3⟩ := c.ls
    refine ⟨cs, vs, h1, ⟨n, k _ _ ?_ ?_ ?_ h2⟩, intsAt h3⟩
    · rintro rfl
      exact absurd (Option.some.inj (hen.symm.trans h2)) (by intro q; injection q with hc; injection hc with hs; exact absurd hs (by decide))
    · rintro rfl; rw [hoi] at h2; cases h2; cases hdi
    · rintro rfl; rw [hoL] at h2; cases h2; cases hdL
  · obtain ⟨o, ho, r⟩ := c.sl
    exact ⟨o, k _ _ hl.1 hl.2.1 hl.2.2 ho, r⟩

abbrev lawE (pm code doc : Value) (L a : Addr) : Env := callEnvC (fdOf (top 13) pm code doc) L a
abbrev nX : Addr → Prop := fun _ => False

theorem law_start {w : World} {A : Around} {s : Shared} {E : Value → Shared → Prop} {Q : Flow → Shared → Prop} {h₀ : Heap} {pm code doc : Value} {L a l : Addr} {ns : List Int} {nvs : List Value} {mg mb : Str → Option Value} {g : Heap} {γ : Str → Option PV}
    (B : Bi mg mb) (hh : A.handled = none) (Gg : Gd mg mb g) (hg : Ext g h₀) (ok : EnvOk h₀ (lawE pm code doc L a)) (F : Fm h₀ nX (lawE pm code doc L a) γ s.heap) (hγ : γ (Str.ofString "script") = some (.val (.ref l)))
    (hl : h₀.IsList l nvs.toArray) (hnv : ValsAre h₀ (ns.map .int) nvs)
    (h : ∀ h' tk (cs : List Int), cs.length = 5 → Fm h₀ nX (lawE pm code doc L a) (upd (fun _ => none) (Str.ofString "cells") (.list (cs.map .int))) h' → wpAny (model pr w) A (execs ((sBody (top 13)).drop 2) (lawE pm code doc L a)) Q E { s with heap := h', toks := tk }) :
    wpAny (model pr w) A (execs (sBody (top 13)) (lawE pm code doc L a)) Q E s := by
  -- cells = [5, 9, 7, 0, 1]
  refine wpAny_execs_cons (wpAny_Assign_Name (wpAny_List (wpAny_mono ((Evs.cons fm_sta eI (Evs.cons fm_sta eI (Evs.cons fm_sta eI (Evs.cons fm_sta eI (Evs.cons fm_sta eI Evs.nil))))) s E _ F) (fun vs s1 g1 => ?_) fun _ _ e => e)))
  refine ⟨by rw [g1.1.length]; decide, ?_⟩
  obtain ⟨g1, k1⟩ := g1
  obtain ⟨h1, t1, rfl, ke1⟩ := k1
  have F1 := fm_sta _ _ ke1 F
  have F2 := fm_sta _ _ (Ext.push h1 { cls := .type "list", data := .seq vs.toArray }) F1
  obtain ⟨m, cm, hn, hcs, hv⟩ := id F2.ex
  obtain ⟨vl, el1, el2⟩ := hv _ _ hγ
  have e : vl = .ref l := by simpa only [ValIs] using el2
  subst e
  have hm : m (Str.ofString "script") = some (.ref l) := el1
  have hca0 : h₀.get? h1.objs.size = none := by
    cases q : h₀.get? h1.objs.size with
    | none => rfl
    | some o => exact absurd (Heap.lt_size (F1.toExt _ _ q)) (Nat.lt_irrefl _)
  obtain ⟨cc, hcc⟩ : ∃ cc, (lawE pm code doc L a).cells.lookup (Str.ofString "cells") = some cc := ⟨_, rfl⟩
  have hcell := hcs (Str.ofString "cells") cc hcc
  refine wpAny_storeName_cell (s := { s with heap := h1.push { cls := .type "list", data := .seq vs.toArray }, toks := t1 }) rfl rfl hcc hcell fun h3 hc3 hs3 => ?_
  have kcc : ∀ b o, b ≠ cc → h1.get? b = some o → h3.get? b = some o := fun b o hb q => hs3.extBut b o hb (Ext.push _ _ _ _ q)
  have ext3 : Ext h₀ h3 := fun b o q => kcc b o (fun e => by rw [e, ok.freshC _ _ (mem_of_lookup hcc)] at q; cases q) (F1.toExt _ _ q)
  have xg3 := hg.trans ext3
  have hn3 : h3.Ns (lawE pm code doc L a).locals m := hn.sameBut hs3 (Ne.symm (ok.off _ _ (mem_of_lookup hcc)))
  have cells3 : ∀ n c, (lawE pm code doc L a).cells.lookup n = some c → h3.IsCell c (if n = Str.ofString "cells" then some (.ref h1.objs.size) else cm n) := fun n c q => by
    by_cases hnm : n = Str.ofString "cells"
    · subst hnm; rw [hcc] at q; cases q; simpa using hc3
    · rw [if_neg hnm]
      exact (hcs n c q).sameBut hs3 fun z => hnm (name_of_addr ok.apart (mem_of_lookup q) (z ▸ mem_of_lookup hcc))
  have hl3 : h3.IsList l nvs.toArray := by
    obtain ⟨o, ho, r⟩ := hl
    exact ⟨o, ext3 _ _ ho, r⟩
  have hlist3 : h3.PlainList h1.objs.size vs.toArray := by
    refine ⟨_, hs3.extBut _ _ (fun e => ?_) (Heap.get?_push_size _ rfl)⟩
    obtain ⟨o, ho, hd⟩ := hcell
    have := Heap.get?_push_size h1 (o := { cls := .type "list", data := .seq vs.toArray }) rfl
    rw [e] at this
    rw [ho] at this; cases this; cases hd
  refine wpAny_execs_cons (wpAny_For ?_)
  refine wpAny_Call_Name_kw (Calls.Name_function_global rfl rfl (Calls.loadGlobal_builtin (mg := mg) (mb := mb) (Gg.g.keeps xg3) B.enum.1 (Gg.b.keeps xg3) B.enum.2 (PyProof.Rows.callWith_type (noStar_any rfl) (args_raw rfl ?_))))
  refine wpAny_items_cons (wpAny_Name (wpAny_loadName_local rfl rfl hn3 hm ?_))
  refine wpAny_items_nil ?_
  refine call_enumerate_list hl3 fun h4 hen4 hit4 hsz4 keep4 => ?_
  refine wpAny_pyIter_enum hen4 ?_
  have fE : h₀.get? (h3.objs.size + 1) = none := by
    cases q : h₀.get? (h3.objs.size + 1) with
    | none => rfl
    | some o => exact absurd (Heap.lt_size (ext3 _ _ q)) (Nat.not_lt.mpr (Nat.le_succ _))
  have fI : h₀.get? h3.objs.size = none := by
    cases q : h₀.get? h3.objs.size with
    | none => rfl
    | some o => exact absurd (Heap.lt_size (ext3 _ _ q)) (Nat.lt_irrefl _)
  obtain ⟨ol, hol, rl⟩ := id hl
  have nl : l ≠ h3.objs.size + 1 ∧ l ≠ h3.objs.size ∧ l ≠ (lawE pm code doc L a).locals := ⟨(fun e => by rw [e, fE] at hol; cases hol), (fun e => by rw [e, fI] at hol; cases hol), (fun e => by rw [e, ok.freshL] at hol; cases hol)⟩
  have neI : h3.objs.size + 1 ≠ h3.objs.size := Nat.succ_ne_self _
  have C0 : CI h₀ nX (lawE pm code doc L a) h1.objs.size l (h3.objs.size + 1) h3.objs.size nvs.toArray 0 h4 :=
    ⟨fun b o _ q => keep4 _ _ (ext3 _ _ q), ⟨m, hn3.keeps keep4⟩, ⟨_, fun n c q => (cells3 n c q).keeps keep4, by simp⟩, ⟨[5, 9, 7, 0, 1], vs, rfl, isList_ext keep4 hlist3, intsAt (xs := [5, 9, 7, 0, 1]) g1⟩, ⟨.none, hen4⟩, hit4, by
      obtain ⟨o, ho, r⟩ := hl3
      exact ⟨o, keep4 _ _ ho, r⟩⟩
  refine codeAny_forLoop_any (I := fun n s' => ∃ h' tk i, s' = { s with heap := h', toks := tk } ∧ CI h₀ nX (lawE pm code doc L a) h1.objs.size l (h3.objs.size + 1) h3.objs.size nvs.toArray i h' ∧ i ≤ nvs.length ∧ n = nvs.length + 1 - i) ?_ (nvs.length + 1) ⟨h4, _, 0, rfl, C0, Nat.zero_le _, rfl⟩
  rintro nn s' ⟨h5, t5, i, rfl, C, hi, rfl⟩
  obtain ⟨old, hen⟩ := C.en
  obtain ⟨m5, hn5⟩ := C.ns
  cases hx : nvs.toArray[i]? with
  | none =>
    refine wpAny_pyNext_enum_end hh hen C.it_ C.sl hx fun h6 hx6 => wpAny_execs_nil ?_
    obtain ⟨k1, ⟨cm6, k2, k2'⟩, ⟨cs, vs6, k3, k4, k5⟩, k6⟩ := C.off fE fI ok.freshL nl (h' := h6) fun b o _ hb _ q => hx6 b o hb q
    refine h h6 _ cs k3 ⟨k1, m5, cm6, hn5.extBut hx6 (fun e => ?_), k2, fun x d hxd => ?_⟩
    · exact ns_ne_iter hn5 C.it_ e
    · unfold upd at hxd
      by_cases hxc : x = Str.ofString "cells"
      · subst hxc
        rw [if_pos rfl] at hxd; cases hxd
        refine ⟨.ref h1.objs.size, k2', ?_⟩
        simp only [ValIs]
        exact ⟨_, vs6, rfl, k4, k5⟩
      · rw [if_neg hxc] at hxd; cases hxd
  | some v =>
    have hlt : i < nvs.length := by have := (Array.getElem?_eq_some_iff.mp hx).1; simpa using this
    obtain ⟨kk, tv, hk, rfl⟩ := ints_get hnv (i := i) (v := v) (by simpa using hx)
    obtain ⟨oi, hoi, hci, hdi⟩ := id C.it_
    obtain ⟨ol5, hol5, rl5⟩ := id C.sl
    have eH := Heap.lt_size hen
    have lH := hn5.lt
    have iH := Heap.lt_size hoi
    have llH := Heap.lt_size hol5
    have eL : h3.objs.size + 1 ≠ (lawE pm code doc L a).locals := fun e => by
      obtain ⟨o, es, ep, ho, hd, _⟩ := hn5
      rw [← e, hen] at ho; cases ho; cases hd
    have iL : h3.objs.size ≠ (lawE pm code doc L a).locals := fun e => ns_ne_iter hn5 C.it_ e.symm
    refine wpAny_pyNext_enum_item hen C.it_ C.sl hx neI fun h6 heo hit6 ht6 hz6 hk6 => ?_
    refine wpAny_letOwnedTupleGo_enum heo fun h7 he7 hs7 => ?_
    have ht7 : h7.IsTuple h5.objs.size #[.int i t5, .int kk tv] := ⟨_, (hs7.2 _ (Nat.ne_of_gt eH)).trans ht6, rfl, _, rfl⟩
    have hz7 : h7.objs.size = h5.objs.size + 1 := hs7.1.trans hz6
    refine wpAny_assign_Tuple hh ht7 rfl rfl fun h8 hx8 => ?_
    have old8 : ∀ b o, b < h5.objs.size → h7.get? b = some o → h8.get? b = some o := fun b o hb x => hx8 b o (by show b ≠ h7.objs.size; rw [hz7]; exact Nat.ne_of_lt (Nat.lt_succ_of_lt hb)) x
    have hn8 : h8.Ns (lawE pm code doc L a).locals m5 := ((hn5.at' fun o x => hk6 _ o (Ne.symm eL) (Ne.symm iL) x).sameBut hs7 (Ne.symm eL)).at' fun o x => old8 _ o lH x
    show wpAny _ A (do holding [Value.int kk tv] (assign _ (lawE pm code doc L a) (.int i t5)); do holding [] (assign _ (lawE pm code doc L a) (.int kk tv)); pure ()) _ _ _
    refine wpAny_bind (wpAny_holding (wpAny_assign_Name (wpAny_storeName_local rfl hn8 (fun h9 hn9 hs9 => ?_) rfl)))
    refine wpAny_bind (wpAny_holding (wpAny_assign_Name (wpAny_storeName_local rfl hn9 (fun h10 hn10 hs10 => wpAny_pure ?_) rfl)))
    have up : ∀ b o, b ≠ h3.objs.size + 1 → b ≠ h3.objs.size → b ≠ (lawE pm code doc L a).locals → h5.get? b = some o → h10.get? b = some o := fun b o hb1 hb2 hb3 q =>
      hs10.extBut b o hb3 (hs9.extBut b o hb3 (old8 b o (Heap.lt_size q) (hs7.extBut b o hb1 (hk6 b o hb1 hb2 q))))
    obtain ⟨k1, ⟨cm6, k2, k2'⟩, ⟨cs, vs6, k3, k4, k5⟩, k6⟩ := C.off fE fI ok.freshL nl (h' := h10) up
    have en10 : IsEnum h10 (h3.objs.size + 1) h3.objs.size (((i + 1 : Nat)) : Int) (.int kk tv) := by
      have e : ((i + 1 : Nat) : Int) = (i : Int) + 1 := by push_cast; rfl
      rw [e]
      exact hs10.extBut _ _ eL (hs9.extBut _ _ eL (old8 _ _ eH he7))
    have it10 : h10.IsListIter h3.objs.size l (i + 1) := by
      obtain ⟨o, ho, r⟩ := hit6
      exact ⟨o, hs10.extBut _ _ iL (hs9.extBut _ _ iL (old8 _ _ iH (hs7.extBut _ _ (Ne.symm neI) ho))), r⟩
    -- cells[turn % 5] += number
    obtain ⟨m10, hn10, hm1, hm2⟩ : ∃ m10 : Str → Option Value, h10.Ns (lawE pm code doc L a).locals m10 ∧ m10 (Str.ofString "turn") = some (.int i t5) ∧ m10 (Str.ofString "number") = some (.int kk tv) := ⟨_, hn10, rfl, rfl⟩
    refine wpAny_execs_cons (wpAny_AugAssign_SubscriptAny ?_)
    refine wpAny_Name (wpAny_loadName_cell rfl rfl hcc (k2' ▸ k2 _ _ hcc) ?_)
    refine (Ev.bin (P := fun h => h.Ns (lawE pm code doc L a).locals m10) (fun _ _ e x => x.keeps e) (ev_locI (d := .int i) m10 (fun _ h => h) hm1 (fun h => by simp only [ValIs]; exact ⟨_, rfl⟩) rfl rfl) eI (op_mod i 5 (by decide))).at hn10 fun iv s11 g11 k11 => ?_
    obtain ⟨ti, rfl⟩ := vInt g11
    obtain ⟨h11, t11, rfl, ke11⟩ := k11
    have hmod : 0 ≤ (i : Int).fmod 5 ∧ (i : Int).fmod 5 < 5 := ⟨Int.fmod_nonneg (by omega) (by decide), Int.fmod_lt_of_pos _ (by decide)⟩
    have k4' := isList_ext ke11 k4
    have hvl : vs6.length = 5 := by rw [k5.length]; simpa using k3
    obtain ⟨cv, hcv⟩ : ∃ cv, vs6[((i : Int).fmod 5).toNat]? = some cv := ⟨_, List.getElem?_eq_getElem (by omega)⟩
    obtain ⟨cz, tz, hcz, rfl⟩ := ints_get k5 hcv
    refine wpAny_getItem_list k4'.isList hmod.1 (by omega) (by simpa using hcv) ?_
    refine (ev_locI (P := fun h => h.Ns (lawE pm code doc L a).locals m10) (d := .int kk) m10 (fun _ h => h) hm2 (fun h => by simp only [ValIs]; exact ⟨_, rfl⟩) rfl rfl).at (hn10.keeps ke11) fun nv s12 g12 k12 => ?_
    obtain ⟨tn, rfl⟩ := vInt g12
    obtain ⟨h12, t12, rfl, ke12⟩ := k12
    refine P.iadd_int ?_
    have k4'' := isList_ext ke12 k4'
    refine set_plain (s := { s with heap := h12, toks := _ }) k4'' hmod.1 (by omega) (by simp only [List.size_toArray, hvl]; omega) fun h13 hp13 hs13 => ?_
    refine wpAny_execs_nil ⟨nvs.length + 1 - (i + 1), by omega, h13, _, i + 1, rfl, ?_, hlt, rfl⟩
    have k12' : Ext h10 h12 := Ext.trans ke11 ke12
    have nca : ∀ {b : Addr} {o : Obj}, h12.get? b = some o → (∀ vs n, o.data ≠ .seq vs n) → b ≠ h1.objs.size := fun hb hd e => by
      obtain ⟨n, ho⟩ := k4''
      rw [← e, hb] at ho; cases ho; exact hd _ _ rfl
    refine ⟨fun b o hb q => ?_, ⟨m10, (hn10.keeps k12').sameBut hs13 fun e => ?_⟩, ⟨cm6, fun n c q => ?_, k2'⟩, ⟨cs.set ((i : Int).fmod 5).toNat (cz + kk), vs6.set ((i : Int).fmod 5).toNat _, by simpa using k3, by simpa using hp13, vals_set _ k5⟩, ⟨.int kk tv, ?_⟩, ?_, ?_⟩
    · exact hs13.extBut b o (fun e => by rw [e, hca0] at q; cases q) (k12' _ _ (k1 b o hb q))
    · obtain ⟨o, es, ep, ho, hd, _⟩ := hn10.keeps k12'
      exact nca ho (fun vs n e => by rw [hd] at e; cases e) e
    · obtain ⟨o, ho, hd⟩ := (k2 n c q).keeps k12'
      exact ⟨o, hs13.extBut _ _ (nca ho fun vs n e => by rw [hd] at e; cases e) ho, hd⟩
    · exact hs13.extBut _ _ (nca (k12' _ _ en10) fun vs n e => by cases e) (k12' _ _ en10)
    · obtain ⟨o, ho, hc', hd⟩ := it10
      exact ⟨o, hs13.extBut _ _ (nca (k12' _ _ ho) fun vs n e => by rw [hd] at e; cases e) (k12' _ _ ho), hc', hd⟩
    · obtain ⟨o, ho, r⟩ := k6
      exact ⟨o, hs13.extBut _ _ (fun e => by rw [e, hca0] at hol; cases hol) (k12' _ _ ho), r⟩
end Mine

namespace Mine
open PySem PySem.W PySem.F
open PyProof.Rows (IntsAre)

theorem intsAre {h : Heap} : ∀ {xs : List Int} {vs : List Value}, ValsAre h (xs.map PV.int) vs → IntsAre vs xs
  | [], _, e => by simp only [List.map_nil, ValsAre] at e; subst e; exact .nil
  | x :: xs, vs, e => by
    simp only [List.map_cons, ValsAre] at e
    obtain ⟨v, r, rfl, hv, hr⟩ := e
    obtain ⟨t, rfl⟩ := vInt hv
    exact .cons x t (intsAre hr)

section
variable {w : World} {A : Around} {env : Env} {P : Heap → Prop}
theorem cm_eqInts (xs ys : List Int) (hu : A.units + 64 < cLine) : Cm2 w A .Eq (.list (xs.map .int)) (.list (ys.map .int)) (.bool (decide (xs = ys))) := fun s E v1 v2 h1 h2 => by
  obtain ⟨a, vs, rfl, ha, hd⟩ := vList h1; obtain ⟨b, vs', rfl, hb, hd'⟩ := vList h2
  exact ke_eq_ints ha.isList hb.isList (intsAre hd) (intsAre hd') hu (gBool ..)
theorem cm_neInts (xs ys : List Int) (hu : A.units + 64 < cLine) : Cm2 w A .NotEq (.list (xs.map .int)) (.list (ys.map .int)) (.bool (!decide (xs = ys))) := fun s E v1 v2 h1 h2 => by
  obtain ⟨a, vs, rfl, ha, hd⟩ := vList h1; obtain ⟨b, vs', rfl, hb, hd'⟩ := vList h2
  exact ke_ne_ints ha.isList hb.isList (intsAre hd) (intsAre hd') hu (gBool ..)
theorem min_at {s : Shared} {E : Value → Shared → Prop} {a b : Int} {vs : List Value} (hh : A.handled = none) (hv : ValsAre s.heap [.int a, .int b] vs) : wpAny (model pr w) A (call (.builtin "min") vs) (Good (.int (if b < a then b else a)) s) E s := by
  simp only [ValsAre] at hv
  obtain ⟨v, _, rfl, h1, v', _, rfl, h2, rfl⟩ := hv
  obtain ⟨t, rfl⟩ := vInt h1; obtain ⟨u, rfl⟩ := vInt h2
  refine min_two_ints hh fun h' tk k => ⟨?_, kHeap s h' tk k⟩
  split <;> (simp only [ValIs]; exact ⟨_, rfl⟩)
theorem op_pow3 (k : Nat) (hk : k < 30) : Op2 w A .Pow (.int 3) (.int k) (.int (3 ^ k)) := fun s E v1 v2 h1 h2 => by
  obtain ⟨t, rfl⟩ := vInt h1; obtain ⟨u, rfl⟩ := vInt h2
  by_cases hz : k = 0
  · subst hz
    exact AutoIntOps.pow_0 (by decide) (by decide) (gInt ..)
  · refine AutoIntOps.pow_4 (by omega) (by simpa using hz) (by decide) (by decide) ?_ ?_
    · have : ∀ k, k < 30 → ¬ Builtin.Int.intTooBig (((Builtin.Int.intBits 3 : Nat) : Int) * ((k : Nat) : Int)) = true := by decide +kernel
      exact this k hk
    · exact gInt ..
theorem foldl_one {v : Value} : ∀ (n : Nat) (acc : Array Value), List.foldl (fun x1 x2 => x1 ++ x2) acc (List.replicate n #[v]) = acc ++ (List.replicate n v).toArray
  | 0, acc => by simp
  | n + 1, acc => by
    rw [List.replicate_succ, List.foldl_cons, foldl_one n, List.replicate_succ]
    apply Array.ext'
    simp
theorem mul_plain {s : Shared} {E : Value → Shared → Prop} {l : Addr} {items : Array Value} {k : Nat} {x : Int} {u : Tok} {Q : Value → Shared → Prop} (hl : s.heap.get? l = some { cls := .type "list", dict := none, data := .seq items k, slots := #[] })
    (hlo : -(2 ^ 63 : Int) ≤ x) (hhi : x < 2 ^ 63) (hsz : items.size * x.toNat ≤ 2 ^ 24)
    (h : Q (.ref s.heap.objs.size) { s with heap := s.heap.push { cls := .type "list", data := .seq (List.foldl (fun x1 x2 => x1 ++ x2) #[] (List.replicate (if items.isEmpty = true then 0 else x.toNat) items)) } }) :
    wpAny (model pr w) A (binaryOp .Mult (.ref l) (.int x u)) Q E s :=
  wpAny_binaryOp_repeat_ref (T := "list") (U := "int") (by decide) ⟨_, hl, rfl⟩ (fun s' => typeIs_int s' x u) noFill_list_mul F.fills_int_mul F.slot_int_rmul repeat_list F.slot_int_index.lookup
    (call_meets F.slot_int_rmul (typeIs_int s x u) F.entry_int_rmul (F.args_int_rmul_2 _ _) (int___rmul___int_list x u l items k)
      ⟨hl, rfl, ⟨_, hl, rfl⟩, call_meets F.slot_list_mul ⟨_, hl, rfl⟩ F.entry_list_mul (F.args_list_mul_2 _ _)
        (AutoListH.list___mul___list_int_3 l items k x u (by simp [Builtin.List.listFitsIndex]; omega) (by omega) (by simp [Builtin.List.listTooLong, sizeLine]; omega))
        ⟨hl, h⟩⟩)
/-- [d] * n -/
theorem op_rep (d : PV) (n : Nat) (hn : n ≤ 1000) : Op2 w A .Mult (.list [d]) (.int n) (.list (List.replicate n d)) := fun s E v1 v2 h1 h2 => by
  obtain ⟨l, vs, rfl, ⟨k, hl⟩, hd⟩ := vList h1; obtain ⟨u, rfl⟩ := vInt h2
  simp only [ValsAre] at hd
  obtain ⟨v, _, rfl, hv, rfl⟩ := hd
  refine mul_plain hl (by omega) (by omega) (by simp; omega) ?_
  have e : List.foldl (fun x1 x2 => x1 ++ x2) #[] (List.replicate (if [v].toArray.isEmpty = true then 0 else (n : Int).toNat) [v].toArray) = (List.replicate n v).toArray := by
    have := foldl_one (v := v) n #[]
    simpa using this
  have hr : ∀ n, ValsAre s.heap (List.replicate n d) (List.replicate n v) := fun n => by
    induction n with
    | zero => simp [ValsAre]
    | succ n ih => rw [List.replicate_succ, List.replicate_succ]; exact ValsAre.cons hv ih
  rw [e]
  exact gList (s := s) (s1 := s) (n := 0) (tk := s.toks) (kRefl s) (hr n)

/-! texts -/
def repS (x : Str) (n : Nat) : Str := if n < 1 then Str.empty else if n = 1 then x else ⟨(List.replicate n x.cps).foldl (· ++ ·) #[]⟩
theorem op_mulStr (x : Str) (n : Nat) (hx : x.length = 1) (hn : n ≤ 100) (hz : (repS x n).length ≤ sizeLine) : Op2 w A .Mult (.str x) (.int n) (.str (repS x n)) := fun s E v1 v2 h1 h2 => by
  obtain ⟨t, rfl⟩ := vStr h1; obtain ⟨u, rfl⟩ := vInt h2
  refine P.mul_str ?_ ?_ ?_ ?_
  · simp; omega
  · intro h1 h2
    rw [hx]
    have : (1 : Int) ≤ (2 ^ 63 - 1) / (n : Int) := by
      have h3 : 0 < (n : Int) := by omega
      exact (Int.le_ediv_iff_mul_le h3).mpr (by omega)
    omega
  · intro h1 h2
    rw [hx]
    simp [Builtin.Str.tooLong, sizeLine]; omega
  · unfold repS at hz ⊢
    by_cases h0 : n < 1
    · rw [if_pos h0] at hz ⊢
      rw [if_pos (by omega)]
      exact ⟨hz, gStr ..⟩
    · rw [if_neg h0] at hz ⊢
      rw [if_neg (by omega)]
      by_cases h1 : n = 1
      · subst h1
        rw [if_pos rfl]
        rw [if_pos (by simp)]
        exact ⟨by simp only [ValIs]; exact ⟨_, rfl⟩, kRefl s⟩
      · rw [if_neg h1] at hz ⊢
        rw [if_neg (by simp [hx]; omega)]
        exact ⟨hz, gStr ..⟩
theorem op_addStr (x y : Str) (h : x.length + y.length ≤ sizeLine) : Op2 w A .Add (.str x) (.str y) (.str (x ++ y)) := fun s E v1 v2 h1 h2 => by
  obtain ⟨t, rfl⟩ := vStr h1; obtain ⟨u, rfl⟩ := vStr h2
  exact PyProof.Rows.add_str (fun t' tk => gStr s (x ++ y) t' tk) h

/-! floats -/
def frac (a b : Int) : UInt64 := Float64.ofFrac (decide (a < 0) != decide (b < 0)) a.natAbs b.natAbs
theorem op_divII (a b : Int) (hb : b ≠ 0) (hi : Float64.isInf (frac a b) = false) : Op2 w A .Div (.int a) (.int b) (.flt (frac a b)) := fun s E v1 v2 h1 h2 => by
  obtain ⟨t, rfl⟩ := vInt h1; obtain ⟨u, rfl⟩ := vInt h2
  exact AutoIntOps.truediv_2 (by simpa using hb) (by unfold frac at hi; simp [hi]) (gFlt ..)
def nI (i : Int) : Bool := !Float64.isInf (Float64.ofInt i)
theorem op_mulIF (a : Int) (x : UInt64) (h : nI a = true) : Op2 w A .Mult (.int a) (.flt x) (.flt (Float64.mul (Float64.ofInt a) x)) := fun s E v1 v2 h1 h2 => by
  obtain ⟨t, rfl⟩ := vInt h1; obtain ⟨u, rfl⟩ := vFlt h2
  exact AutoFloatOps.mul_if_1 (by simpa [nI] using h) (gFlt ..)
theorem op_addIF (a : Int) (x : UInt64) (h : nI a = true) : Op2 w A .Add (.int a) (.flt x) (.flt (Float64.add (Float64.ofInt a) x)) := fun s E v1 v2 h1 h2 => by
  obtain ⟨t, rfl⟩ := vInt h1; obtain ⟨u, rfl⟩ := vFlt h2
  exact AutoFloatOps.add_if_1 (by simpa [nI] using h) (gFlt ..)
theorem cm_neFI (x : UInt64) (n : Int) : Cm2 w A .NotEq (.flt x) (.int n) (.bool (Float64.cmpInt x n != some Ordering.eq)) := fun s E v1 v2 h1 h2 => by
  obtain ⟨t, rfl⟩ := vFlt h1; obtain ⟨u, rfl⟩ := vInt h2
  exact PyProof.Rows.ne_fi (gBool ..)
theorem cm_eqFI (x : UInt64) (n : Int) : Cm2 w A .Eq (.flt x) (.int n) (.bool (Float64.cmpInt x n == some Ordering.eq)) := fun s E v1 v2 h1 h2 => by
  obtain ⟨t, rfl⟩ := vFlt h1; obtain ⟨u, rfl⟩ := vInt h2
  exact PyProof.Rows.eq_fi (gBool ..)
theorem cm_neFF (x y : UInt64) : Cm2 w A .NotEq (.flt x) (.flt y) (.bool (Float64.cmp x y != some Ordering.eq)) := fun s E v1 v2 h1 h2 => by
  obtain ⟨t, rfl⟩ := vFlt h1; obtain ⟨u, rfl⟩ := vFlt h2
  exact AutoFloatOps.ne_0 (gBool ..)
end
end Mine

namespace Mine
open PySem PySem.W
open PyProof.Rows (IntsAre)

section
variable {w : World} {A : Around} {env : Env} {P : Heap → Prop}
theorem ev_count {o e : Expr} {apos pos : Pos} {xs : List Int} {k : Int} (hP : Sta P) (hbase : attributeBase o (Str.ofString "count") env (eval o env) = eval o env) (hline : (apos.endLine == pos.line) = true)
    (ho : Ev w A env P o (.list (xs.map .int))) (he : Ev w A env P e (.int k)) (hn : noStar [e] = true) (hnn : ∀ x p, e ≠ .Starred x p := by intro _ _ h; cases h) (hfew : ((backTo pos (starEach [e] env)).all (fun x => !x.1) && (backToKw pos (keywordEach [] env)).all (fun x => x.1.isSome)
      && decide ([e].length + ([] : List Keyword).length + (if ([] : List Keyword).isEmpty then 0 else 1) < 30)) = true := by rfl) :
    Ev w A env P (.Call (.Attribute o (Str.ofString "count") apos) [e] [] pos) (.int (xs.count k : Nat)) := fun s E hp => by
  refine wpAny_Call_method hbase hfew hline PySem.F.plainAttrs_list PySem.F.slot_list_count PySem.F.type_list_count (ho.at hp fun ov s1 g1 k1 => ?_)
  obtain ⟨l, vs, rfl, hl, hd⟩ := vList g1
  obtain ⟨n, hl'⟩ := id hl
  refine ⟨hl.isList.typeIs, fun a ea => by cases ea; exact ⟨_, hl', rfl⟩, ?_⟩
  refine Calls.callWith_builtin (noStar_any hn) (args_at hn (Evs.cons hP he Evs.nil hnn) (hP _ _ (kExt k1) hp) fun us s2 hus k2 => ?_)
  simp only [ValsAre] at hus
  obtain ⟨v, _, rfl, hv, rfl⟩ := hus
  obtain ⟨t, rfl⟩ := vInt hv
  exact PyProof.Rows.count_list_ints (isList_ext (kExt k2) hl).isList (intsAre hd) ((gInt ..).mono (kTrans k1 k2))
def maxI (xs : List Int) : Int := xs.foldl max (xs.headD 0)
theorem maxI_of {M : Int} {xs : List Int} (h1 : M ∈ xs) (h2 : ∀ a ∈ xs, a ≤ M) : maxI xs = M := by
  have key : ∀ (xs : List Int) (z : Int), z ≤ M → (∀ a ∈ xs, a ≤ M) → xs.foldl max z ≤ M ∧ z ≤ xs.foldl max z ∧ ∀ a ∈ xs, a ≤ xs.foldl max z := by
    intro xs
    induction xs with
    | nil => intro z hz _; exact ⟨hz, Int.le_refl _, fun a ha => by cases ha⟩
    | cons y ys ih =>
      intro z hz hall
      obtain ⟨a1, a2, a3⟩ := ih (max z y) (by have := hall y (.head _); omega) fun a ha => hall a (.tail _ ha)
      refine ⟨a1, by simp only [List.foldl_cons]; omega, fun a ha => ?_⟩
      simp only [List.foldl_cons]
      cases ha with
      | head => omega
      | tail _ ha => exact a3 a ha
  unfold maxI
  cases xs with
  | nil => cases h1
  | cons y ys =>
    obtain ⟨a1, a2, a3⟩ := key (y :: ys) y (h2 y (.head _)) h2
    have := a3 M h1
    simp only [List.headD_cons] at *
    omega
theorem max_at {s : Shared} {E : Value → Shared → Prop} {xs : List Int} {us : List Value} (hh : A.handled = none) (hne : 0 < xs.length) (hv : ValsAre s.heap [.list (xs.map .int)] us) : wpAny (model pr w) A (call (.builtin "max") us) (Good (.int (maxI xs)) s) E s := by
  simp only [ValsAre] at hv
  obtain ⟨v, _, rfl, h1, rfl⟩ := hv
  obtain ⟨l, vs, rfl, hl, hd⟩ := vList h1
  have hi := intsAre hd
  obtain ⟨ys, e⟩ := hi.allInts.items
  have hns : xs = ys.toList.map (·.1) := by rw [← hi.numsOf, ← nums_intItems, ← e]
  have hsz : 0 < ys.size := by
    have h3 := hne; rw [hns, List.length_map, Array.length_toList] at h3; exact h3
  have hl' := hl.isList
  rw [e] at hl'
  refine max_intList hh hl' hsz fun v h' tk hv hk => ?_
  obtain ⟨t, rfl⟩ := intItems_at hv
  obtain ⟨g1, g2⟩ := argBest_gt (numAt ys) (ys.size - 1)
  have hm : maxI xs = numAt ys (argBest (fun i j => decide (numAt ys i > numAt ys j)) (ys.size - 1)) := by
    refine maxI_of ?_ fun a ha => ?_
    · rw [hns, numAt_eq]; exact getD_mem (by rw [List.length_map, Array.length_toList]; omega)
    · rw [hns] at ha
      obtain ⟨j, hj, rfl⟩ := mem_getD ha
      rw [List.length_map, Array.length_toList] at hj
      rw [← numAt_eq]; exact g2 j (by omega)
  rw [hm]
  exact ⟨by simp only [ValIs]; exact ⟨_, rfl⟩, kHeap s h' tk hk⟩

/-! type(x) is T -/
theorem tr_typeIsNot {x : Expr} {tn : Str} {T : String} {d : PV} {p1 p2 p3 pos : Pos} {mg mb : Str → Option Value} (B : Bi mg mb) (hP : Sta P) (hkd : env.scope.kind = .function) (hk : env.kindOf (Str.ofString "type") = some .globalImplicit) (hk2 : env.kindOf tn = some .globalImplicit)
    (hg : ∀ h, P h → h.Ns env.globals mg) (hb : ∀ h, P h → h.Ns env.builtins mb) (ht : mg tn = none ∧ mb tn = some (.type T)) (hx : Ev w A env P x d) (hd : ∀ (s : Shared) v, ValIs s.heap d v → s.TypeIs v T) (hnb : (Value.type T == Value.type "builtin_function_or_method") = false)
    (hn : noStar [x] = true) (hnn : ∀ y p, x ≠ .Starred y p := by intro _ _ h; cases h) (hdn : (tn == ("__debug__" : Str)) = false := by decide) (hm : behindInMarks .IsNot (.Name tn p3) = false := by with_unfolding_all rfl) :
    Tr w A env P (.Compare (.Call (.Name (Str.ofString "type") p1) [x] [] p2) [.IsNot] [.Name tn p3] pos) false := fun s E hp => by
  refine wpAny_isTrue_Compare1 ?_ hm
  refine wpAny_Call_Name_kw (Calls.Name_function_global hkd hk (Calls.loadGlobal_builtin (hg _ hp) B.type.1 (hb _ hp) B.type.2 (PyProof.Rows.callWith_type (noStar_any hn) (args_at hn (Evs.cons hP hx Evs.nil hnn) hp fun us s2 hus k2 => ?_))))
  simp only [ValsAre] at hus
  obtain ⟨v, _, rfl, hv, rfl⟩ := hus
  have hp2 := hP _ _ (kExt k2) hp
  refine call_type_of (hd s2 v hv) hnb ?_
  refine Calls.Name_function_global hkd hk2 (Calls.loadGlobal_builtin (hg _ hp2) ht.1 (hb _ hp2) ht.2 ?_) hdn
  refine PyProof.Rows.isnot_type_same ?_
  exact wpAny_truthy_bool ⟨rfl, k2⟩
end
end Mine

namespace Mine
open PySem PySem.W

/-- a frame over a snapshot, with one list that is being filled -/
structure Fz (hA : Heap) (env : Env) (γ : Str → Option PV) (y : Str) (pa : Addr) (vs : List Value) (h : Heap) : Prop where
  off : ∀ b o, b ≠ env.locals → hA.get? b = some o → h.get? b = some o
  ex : ∃ m cm, h.Ns env.locals m ∧ (∀ n c, env.cells.lookup n = some c → h.IsCell c (cm n)) ∧ (∀ x d, γ x = some d → ∃ v, lookV env m cm x = some v ∧ ValIs hA d v) ∧ lookV env m cm y = some (.ref pa)
  ls : h.PlainList pa vs.toArray
  fr : hA.get? pa = none

section
variable {w : World} {A : Around} {hA h₀ : Heap} {env : Env} {γ : Str → Option PV} {y : Str} {pa : Addr} {vs : List Value} {h h' : Heap}
theorem Fz.ext (z : Fz hA env γ y pa vs h) (x : Ext h h') : Fz hA env γ y pa vs h' := by
  obtain ⟨m, cm, h1, h2, h3, h4⟩ := z.ex
  exact ⟨fun b o hb q => x _ _ (z.off b o hb q), ⟨m, cm, h1.keeps x, fun n c q => (h2 n c q).keeps x, h3, h4⟩, isList_ext x z.ls, z.fr⟩
theorem Fz.nol (F : Fm h₀ nX env γ₀ hA) : NoLists (fun b => b = env.locals) hA := by
  obtain ⟨m, cm, hn, _⟩ := F.ex
  exact noLists_ns hn
/-- to a plain frame -/
theorem Fz.fm {γ₀ : Str → Option PV} {ds : List PV} (ok : EnvOk h₀ env) (F : Fm h₀ nX env γ₀ hA) (z : Fz hA env γ y pa vs h) (hd : ValsAre h ds vs) : Fm h₀ nX env (upd γ y (.list ds)) h := by
  obtain ⟨m, cm, h1, h2, h3, h4⟩ := z.ex
  refine ⟨fun b o hb q => z.off b o (fun e => by rw [e, ok.freshL] at q; cases q) (F.toExt _ _ q), m, cm, h1, h2, fun x d q => ?_⟩
  unfold upd at q
  by_cases hx : x = y
  · subst hx; rw [if_pos rfl] at q; cases q
    refine ⟨_, h4, ?_⟩
    simp only [ValIs]
    exact ⟨pa, vs, rfl, z.ls, hd⟩
  · rw [if_neg hx] at q
    obtain ⟨v, q1, q2⟩ := h3 x d q
    exact ⟨v, q1, q2.off (P := fun b => b = env.locals) z.off (Fz.nol F)⟩
theorem Fz.store {x : Str} {d : PV} {v : Value} {s : Shared} {Q : Unit → Shared → Prop} {E : Value → Shared → Prop} (ok : EnvOk h₀ env) (z : Fz hA env γ y pa vs s.heap) (hx : env.kindOf x = some .local) (hxy : y ≠ x) (hd : ValIs hA d v)
    (hQ : ∀ h', Fz hA env (upd γ x d) y pa vs h' → Heap.SameBut env.locals s.heap h' → ∀ tk, Q () { s with heap := h', toks := tk }) : wpAny (model pr w) A (storeName env x v) Q E s := by
  obtain ⟨m, cm, h1, h2, h3, h4⟩ := z.ex
  refine wpAny_storeName_local hx h1 (fun h' hn' hs' => hQ h' ⟨fun b o hb q => hs'.extBut b o hb (z.off b o hb q), ⟨_, cm, hn', fun n c q => (h2 n c q).sameBut hs' (ok.off n c (mem_of_lookup q)), fun u d' q => ?_, ?_⟩, ?_, z.fr⟩ hs' _) (by rw [ok.kind]; rfl)
  · unfold upd at q
    by_cases hu : u = x
    · subst hu; rw [if_pos rfl] at q; cases q
      exact ⟨v, by unfold lookV; rw [hx]; simp, hd⟩
    · rw [if_neg hu] at q
      obtain ⟨v', q1, q2⟩ := h3 u d' q
      refine ⟨v', ?_, q2⟩
      have e2 : lookV env (fun q => if q = x then some v else m q) cm u = lookV env m cm u := by unfold lookV; simp only [if_neg hu]
      rw [e2]; exact q1
  · have e2 : lookV env (fun q => if q = x then some v else m q) cm y = lookV env m cm y := by unfold lookV; simp only [if_neg hxy]
    rw [e2]; exact h4
  · obtain ⟨n, ho⟩ := z.ls
    exact ⟨n, hs'.extBut _ _ (ns_ne_list h1 z.ls) ho⟩
/-- y.append(e) -/
theorem Fz.append {s : Shared} {E : Value → Shared → Prop} {Q : Flow → Shared → Prop} {γ₀ : Str → Option PV} {ds : List PV} {d : PV} {p apos pos epos : Pos} {e : Expr} {rest : List Stmt} (ok : EnvOk h₀ env) (F : Fm h₀ nX env γ₀ hA) (z : Fz hA env γ y pa vs s.heap) (hd : ValsAre s.heap ds vs) (hfl : flat d = true) (hfd : ∀ x ∈ ds, flat x = true)
    (hk : env.kindOf y = some .local) (he : Ev w A env (Fm h₀ nX env (upd γ y (.list ds))) e d) (hsz : ds.length < 1000) (hn : noStar [e] = true) (hnn : ∀ x p, e ≠ .Starred x p) (hline : (apos.endLine == pos.line) = true) (hbase : attributeBase (.Name y p) (Str.ofString "append") env (eval (.Name y p) env) = eval (.Name y p) env) (hdb : (y == ("__debug__" : Str)) = false)
    (hi : interactive env = false) (hsw : swapsWith (.Call (.Attribute (.Name y p) (Str.ofString "append") apos) [e] [] pos) none epos.line env = pure false)
    (hfew : ((backTo pos (starEach [e] env)).all (fun x => !x.1) && (backToKw pos (keywordEach [] env)).all (fun x => x.1.isSome) && decide ([e].length + ([] : List Keyword).length + (if ([] : List Keyword).isEmpty then 0 else 1) < 30)) = true)
    (hQ : ∀ h' tk v, ValsAre h' (ds ++ [d]) (vs ++ [v]) → Fz hA env γ y pa (vs ++ [v]) h' → (∀ b o, b ≠ pa → s.heap.get? b = some o → h'.get? b = some o) → wpAny (model pr w) A (execs rest env) Q E { s with heap := h', toks := tk }) :
    wpAny (model pr w) A (execs (.Expr (.Call (.Attribute (.Name y p) (Str.ofString "append") apos) [e] [] pos) epos :: rest) env) Q E s := by
  have F' := z.fm ok F hd
  refine wpAny_execs_cons (wpAny_Expr ?_ hi hsw)
  obtain ⟨m, cm, h1, h2, h3, h4⟩ := id z.ex
  have hm : m y = some (.ref pa) := by unfold lookV at h4; rw [hk] at h4; exact h4
  obtain ⟨n, hl'⟩ := id z.ls
  refine wpAny_Call_method hbase hfew hline PySem.F.plainAttrs_list PySem.F.slot_list_append PySem.F.type_list_append (wpAny_Name (wpAny_loadName_local ok.kind hk h1 hm ⟨z.ls.isList.typeIs, fun a ea => by cases ea; exact ⟨_, hl', rfl⟩, ?_⟩) hdb)
  refine Calls.callWith_builtin (noStar_any hn) (args_at hn (Evs.cons fm_sta he Evs.nil hnn) F' fun us s2 hus k2 => ?_)
  simp only [ValsAre] at hus
  obtain ⟨v, _, rfl, hv, rfl⟩ := hus
  obtain ⟨hh2, t2, rfl, ke2⟩ := k2
  have z2 := z.ext ke2
  have hsl : vs.toArray.size ≤ sizeLine := by
    have h1000 : (1000 : Nat) ≤ sizeLine := by decide
    have := hd.length
    simp only [List.size_toArray]
    omega
  refine wpAny_list_append_plain z2.ls (fun h3 hp3 hs3 => ?_) hsl
  have flats : ∀ {ds : List PV} {us : List Value} {g g' : Heap}, (∀ x ∈ ds, flat x = true) → ValsAre g ds us → ValsAre g' ds us := by
    intro ds
    induction ds with
    | nil => intro us g g' _ q; simpa [ValsAre] using q
    | cons x xs ih =>
      intro us g g' hf q
      simp only [ValsAre] at q
      obtain ⟨u, r, rfl, q1, q2⟩ := q
      exact ValsAre.cons (flat_any (hf x (.head _)) q1) (ih (fun x hx => hf x (.tail _ hx)) q2)
  have hp3' : h3.PlainList pa (vs ++ [v]).toArray := by simpa using hp3
  have npa : ∀ {b : Addr} {o : Obj}, hh2.get? b = some o → (∀ us n, o.data ≠ .seq us n) → b ≠ pa := fun hb hdd e => by
    obtain ⟨n, ho⟩ := z2.ls
    rw [← e, hb] at ho; cases ho; exact hdd _ _ rfl
  refine hQ h3 _ v (ValsAre.append (flats hfd hd) (ValsAre.cons (flat_any hfl hv) ValsAre.nil)) ⟨fun b o hb q => hs3.extBut b o (fun e => by rw [e, z.fr] at q; cases q) (z2.off b o hb q), ?_, hp3', z.fr⟩ fun b o hb q => hs3.extBut b o hb (ke2 _ _ q)
  obtain ⟨m', cm', q1, q2, q3, q4⟩ := z2.ex
  refine ⟨m', cm', q1.sameBut hs3 fun e => ?_, fun n c q => ?_, q3, q4⟩
  · obtain ⟨o, es, ep, ho, hdd, _⟩ := id q1
    exact npa ho (fun us n q => by rw [hdd] at q; cases q) e
  · obtain ⟨o, ho, hdd⟩ := q2 n c q
    exact ⟨o, hs3.extBut _ _ (npa ho fun us n q => by rw [hdd] at q; cases q) ho, hdd⟩
end
end Mine

namespace Mine
open PySem PySem.W

def walkP (R : Int) : Int → List Int → List Int
  | _, [] => []
  | p, x :: xs => (p + x).fmod R :: walkP R ((p + x).fmod R) xs
theorem walkP_snoc (R : Int) : ∀ (xs : List Int) (p x : Int), walkP R p (xs ++ [x]) = walkP R p xs ++ [(((p :: walkP R p xs).getLast (by simp)) + x).fmod R]
  | [], p, x => by simp [walkP]
  | y :: xs, p, x => by
    simp only [List.cons_append, walkP]
    rw [walkP_snoc R xs]
    simp [walkP]

section
variable {w : World} {A : Around} {env : Env} {P : Heap → Prop}
theorem ev_uptoN {value up : Expr} {p pos : Pos} {l : List PV} {b : Nat} (hP : Sta P) (h1 : Ev w A env P value (.list l)) (h2 : Ev w A env P up (.int b)) (hz : l.length ≤ sizeLine)
    (ht : ∀ o r, letTemporaryGo value o r = pure () := by intro _ _; rfl) (s : Shared) (E : Value → Shared → Prop) (hp : P s.heap) :
    wpAny (model pr w) A (eval (.Subscript value (.Slice none (some up) none p) pos) env) (fun v s' => ∃ a vs, v = .ref a ∧ s.heap.get? a = none ∧ s'.heap.PlainList a (List.toArray vs) ∧ ValsAre s'.heap (l.take b) vs ∧ Keeps s s') E s :=
  wpAny_Subscript_list_slice (h1.at hp fun v1 s1 g1 k1 => by
    rw [evalPart_none]
    refine wpAny_pure ?_
    rw [evalPart_some]
    refine h2.at (hP _ _ (kExt k1) hp) fun v2 s2 g2 k2 => ?_
    obtain ⟨t, rfl⟩ := vInt g2
    obtain ⟨a, vs, rfl, hl, hd⟩ := vList (g1.ext (kExt k2))
    refine ⟨a, _, none, some (b : Int), rfl, hl.isList, by simpa [hd.length] using hz, .none, .int _ _, ?_⟩
    rw [slicePick_upto']
    have g := gRaw (s := s) (s1 := s2) (vs := vs.take b) (o1 := { cls := .type "slice", data := .fields #[.none, .int b t, .none] }) (n := 0) (kTrans k1 k2)
    obtain ⟨a', ea, hpl⟩ := vRaw g.1
    cases ea
    refine ⟨_, vs.take b, rfl, ?_, by simpa using hpl, (hd.take b).ext ((Ext.push _ _).trans (Ext.push _ _)), by simpa using g.2⟩
    cases q : s.heap.get? (s2.heap.objs.size + 1) with
    | none => rfl
    | some o => exact absurd (Heap.lt_size (kExt (kTrans k1 k2) _ _ q)) (Nat.not_lt.mpr (Nat.le_succ _))) ht
end

theorem Fz.offI {hA : Heap} {env : Env} {γ : Str → Option PV} {y : Str} {pa : Addr} {vs : List Value} {h h' : Heap} {I l : Addr} {i : Nat} (z : Fz hA env γ y pa vs h) (hit : h.IsListIter I l i) (hI : hA.get? I = none) (k : ∀ b o, b ≠ I → h.get? b = some o → h'.get? b = some o) : Fz hA env γ y pa vs h' := by
  have nI : ∀ {b : Addr} {o : Obj}, h.get? b = some o → (∀ us, o.data ≠ .fields us) → b ≠ I := fun hb hdd e => by
    obtain ⟨o', ho', _, hd'⟩ := hit
    rw [e, ho'] at hb; cases hb; exact hdd _ hd'
  obtain ⟨m5, cm5, q1, q2, q3, q4⟩ := z.ex
  refine ⟨fun b o hb q => k b o (fun e => by rw [e, hI] at q; cases q) (z.off b o hb q), ⟨m5, cm5, q1.at' fun o q => k _ _ (ns_ne_iter q1 hit) q, fun n c q => ?_, q3, q4⟩, ?_, z.fr⟩
  · obtain ⟨o, ho, hdd⟩ := q2 n c q
    exact ⟨o, k _ _ (nI ho fun us e => by rw [hdd] at e; cases e) ho, hdd⟩
  · obtain ⟨n, ho⟩ := z.ls
    exact ⟨n, k _ _ (nI ho fun us e => by cases e) ho⟩
theorem Fz.weaken {hA : Heap} {env : Env} {γ γ' : Str → Option PV} {y : Str} {pa : Addr} {vs : List Value} {h : Heap} (z : Fz hA env γ y pa vs h) (hw : ∀ x d, γ' x = some d → γ x = some d) : Fz hA env γ' y pa vs h := by
  obtain ⟨m5, cm5, q1, q2, q3, q4⟩ := z.ex
  exact ⟨z.off, ⟨m5, cm5, q1, q2, fun x d q => q3 x d (hw x d q), q4⟩, z.ls, z.fr⟩

theorem places_loop {w : World} {A : Around} {s : Shared} {E : Value → Shared → Prop} {Q : Flow → Shared → Prop} {h₀ : Heap} {pm code doc : Value} {L a : Addr} {γ : Str → Option PV} {td : List Int} {R : Nat}
    (hh : A.handled = none) (ok : EnvOk h₀ (lawE pm code doc L a)) (F : Fm h₀ nX (lawE pm code doc L a) γ s.heap) (g1 : γ (Str.ofString "told") = some (.list (td.map .int))) (g2 : γ (Str.ofString "ring") = some (.int R)) (g3 : γ (Str.ofString "places") = none) (g4 : γ (Str.ofString "size") = none)
    (hR : 2 ≤ R ∧ R ≤ 12) (htd : td.length < 100)
    (h : ∀ h' tk, Fm h₀ nX (lawE pm code doc L a) (upd γ (Str.ofString "places") (.list ((0 :: walkP R 0 (td.take (R - 1))).map .int))) h' → wpAny (model pr w) A (execs ((sBody (top 13)).drop 17) (lawE pm code doc L a)) Q E { s with heap := h', toks := tk }) :
    wpAny (model pr w) A (execs ((sBody (top 13)).drop 15) (lawE pm code doc L a)) Q E s := by
  refine wpAny_execs_cons (wpAny_Assign_Name (wpAny_List (wpAny_mono ((Evs.cons fm_sta eI Evs.nil) s E _ F) (fun vs s1 g => ?_) fun _ _ e => e)))
  refine ⟨by rw [g.1.length]; decide, ?_⟩
  obtain ⟨gv, k1⟩ := g
  obtain ⟨hA, t1, rfl, ke1⟩ := k1
  have FA := fm_sta _ _ ke1 F
  obtain ⟨m, cm, hn, hcs, hv⟩ := id FA.ex
  have hpa : hA.get? hA.objs.size = none := get_none_ge (Nat.le_refl _)
  have hn2 := hn.keeps (Ext.push hA { cls := .type "list", data := .seq vs.toArray })
  refine wpAny_storeName_local rfl hn2 (fun h3 hn3 hs3 => ?_) rfl
  have hpl3 : h3.PlainList hA.objs.size vs.toArray := ⟨_, hs3.extBut _ _ (fun e => by have := hn.lt; rw [← e] at this; exact absurd this (Nat.lt_irrefl _)) (Heap.get?_push_size _ rfl)⟩
  have z3 : Fz hA (lawE pm code doc L a) γ (Str.ofString "places") hA.objs.size vs h3 := by
    refine ⟨fun b o hb q => hs3.extBut b o hb (Ext.push _ _ _ _ q), ⟨_, cm, hn3, fun n c q => ((hcs n c q).keeps (Ext.push _ _)).sameBut hs3 (ok.off n c (mem_of_lookup q)), fun x d q => ?_, rfl⟩, hpl3, hpa⟩
    obtain ⟨v, q1, q2⟩ := hv x d q
    have hx : x ≠ Str.ofString "places" := fun e => by rw [e, g3] at q; cases q
    refine ⟨v, ?_, q2⟩
    have e2 : lookV (lawE pm code doc L a) (fun q => if q = Str.ofString "places" then some (.ref hA.objs.size) else m q) cm x = lookV (lawE pm code doc L a) m cm x := by unfold lookV; simp only [if_neg hx]
    exact e2.trans q1
  have gv3 : ValsAre h3 (([0] : List Int).map PV.int) vs := intsAt (xs := [0]) gv
  have F3 := z3.fm ok FA gv3
  refine wpAny_execs_cons (wpAny_For ?_)
  have hszl : (td.map PV.int).length ≤ sizeLine := by
    have h100 : (100 : Nat) ≤ sizeLine := by decide
    simp only [List.length_map]
    omega
  refine wpAny_mono (ev_uptoN (b := R - 1) (l := td.map PV.int) fm_sta ?val ?up hszl (fun _ _ => rfl) _ E F3) (fun v s4 h4 => ?_) fun _ _ e => e
  case val => exact ev_local (fun _ h => h) rfl rfl (by unfold upd; rw [if_neg (by decide)]; exact g1)
  case up =>
    refine Ev.congr (Ev.bin fm_sta (ev_cell (d := .int R) (fun _ h => h) rfl rfl rfl (by unfold upd; rw [if_neg (by decide)]; exact g2)) eI (op_sub R 1)) ?_
    congr 1; omega
  obtain ⟨l, lvs, rfl, hl0, hl4, hlv, k4⟩ := h4
  obtain ⟨h4, t4, rfl, ke4⟩ := k4
  have z4 := z3.ext ke4
  have hlv' : ValsAre h4 ((td.take (R - 1)).map PV.int) lvs := by rw [List.map_take]; exact hlv
  have hlen : lvs.length = (td.take (R - 1)).length := by rw [hlv'.length]; simp
  refine wpAny_pyIter_list hl4.isList ?_
  have nlpa : l ≠ hA.objs.size := fun e => by
    obtain ⟨n, ho⟩ := hpl3
    have : h3.get? l = none := hl0
    rw [e, ho] at this; cases this
  have C0 : ∃ vs5, Fz hA (lawE pm code doc L a) γ (Str.ofString "places") hA.objs.size vs5 (h4.push { cls := .type "list_iterator", data := .fields #[.ref l, .int 0 0] }) ∧ ValsAre (h4.push { cls := .type "list_iterator", data := .fields #[.ref l, .int 0 0] }) ((0 :: walkP R 0 ((td.take (R - 1)).take 0)).map PV.int) vs5 :=
    ⟨vs, z4.ext (Ext.push _ _), by simpa [walkP] using intsAt (xs := [0]) gv⟩
  refine codeAny_forLoop (I := fun n s' => ∃ h' tk i vs5, s' = { s with heap := h', toks := tk } ∧ Fz hA (lawE pm code doc L a) γ (Str.ofString "places") hA.objs.size vs5 h' ∧ ValsAre h' ((0 :: walkP R 0 ((td.take (R - 1)).take i)).map PV.int) vs5 ∧ h'.IsListIter h4.objs.size l i ∧ h'.PlainList l lvs.toArray ∧ i ≤ lvs.length ∧ n = lvs.length + 1 - i) ?_ (lvs.length + 1)
    (by obtain ⟨vs5, q1, q2⟩ := C0; exact ⟨_, _, 0, vs5, rfl, q1, q2, ⟨_, Heap.get?_push_size _ rfl, rfl, rfl⟩, isList_ext (Ext.push _ _) hl4, Nat.zero_le _, rfl⟩)
  rintro nn s' ⟨h5, t5, i, vs5, rfl, z5, hv5, hit5, hl5, hi, rfl⟩
  cases hx : lvs.toArray[i]? with
  | none =>
    refine wpAny_pyNext_list_end hh hit5 hl5.isList hx fun h6 hx6 => wpAny_execs_nil ?_
    have hil : i = lvs.length := by
      have h1 : lvs.length ≤ i := by simpa using hx
      omega
    have nI : ∀ {b : Addr} {o : Obj}, h5.get? b = some o → (∀ us, o.data ≠ .fields us) → b ≠ h4.objs.size := fun hb hdd e => by
      obtain ⟨o', ho', _, hd'⟩ := hit5
      rw [e, ho'] at hb; cases hb; exact hdd _ hd'
    have z6 : Fz hA (lawE pm code doc L a) γ (Str.ofString "places") hA.objs.size vs5 h6 := by
      obtain ⟨m5, cm5, q1, q2, q3, q4⟩ := z5.ex
      refine ⟨fun b o hb q => hx6 b o (fun e => ?_) (z5.off b o hb q), ⟨m5, cm5, q1.extBut hx6 (ns_ne_iter q1 hit5), fun n c q => ?_, q3, q4⟩, ?_, z5.fr⟩
      · have := Heap.lt_size q
        rw [e] at this
        have hle : hA.objs.size ≤ h4.objs.size := by
          obtain ⟨n, ho⟩ := z4.ls
          exact Nat.le_of_lt (Heap.lt_size ho)
        exact absurd this (Nat.not_lt.mpr hle)
      · obtain ⟨o, ho, hdd⟩ := q2 n c q
        exact ⟨o, hx6 _ _ (nI ho fun us e => by rw [hdd] at e; cases e) ho, hdd⟩
      · obtain ⟨n, ho⟩ := z5.ls
        exact ⟨n, hx6 _ _ (nI ho fun us e => by cases e) ho⟩
    have := z6.fm ok FA (ds := (0 :: walkP R 0 (td.take (R - 1))).map PV.int) (by
      have e : (td.take (R - 1)).take i = td.take (R - 1) := List.take_of_length_le (by omega)
      rw [e] at hv5
      exact intsAt hv5)
    exact h h6 _ this
  | some v =>
    have hlt : i < lvs.length := by have := (Array.getElem?_eq_some_iff.mp hx).1; simpa using this
    obtain ⟨kk, tv, hk, rfl⟩ := ints_get hlv' (i := i) (v := v) (by simpa using hx)
    have hI0 : hA.get? h4.objs.size = none := by
      cases q : hA.get? h4.objs.size with
      | none => rfl
      | some o =>
        have hle : hA.objs.size ≤ h4.objs.size := by
          obtain ⟨n, ho⟩ := z4.ls
          exact Nat.le_of_lt (Heap.lt_size ho)
        exact absurd (Heap.lt_size q) (Nat.not_lt.mpr hle)
    have nlI := iter_ne_list hit5 hl5
    refine wpAny_pyNext_list_item hit5 hl5.isList hx fun h6 hit6 hs6 => ?_
    have z6 := z5.offI (h' := h6) hit5 hI0 fun b o hb q => hs6.extBut b o hb q
    refine wpAny_assign_Name (z6.store (x := Str.ofString "size") (d := .int kk) ok rfl (by decide) (by simp only [ValIs]; exact ⟨_, rfl⟩) fun h7 z7 hs7 tk7 => ?_)
    have hv7 : ValsAre h7 ((0 :: walkP R 0 ((td.take (R - 1)).take i)).map PV.int) vs5 := intsAt hv5
    generalize hacc : (0 :: walkP R 0 ((td.take (R - 1)).take i)) = acc at hv7 hv5
    have hne : acc ≠ [] := by rw [← hacc]; simp
    have hlacc : acc.length ≤ i + 1 := by
      have key : ∀ (xs : List Int) (p : Int), (walkP R p xs).length = xs.length := by
        intro xs
        induction xs with
        | nil => intro p; rfl
        | cons x xs ih => intro p; simp [walkP, ih]
      rw [← hacc]; simp [key]; omega
    have hpos : 0 < acc.length := List.length_pos_iff.mpr hne
    have hll : lvs.length < 100 := by rw [hlen]; simp; omega
    refine z7.append (s := { s with heap := h7, toks := tk7 }) (ds := acc.map PV.int) (d := .int ((acc.getLast hne + kk).fmod R)) ok FA hv7 rfl (by intro x hx; obtain ⟨c, _, rfl⟩ := List.mem_map.mp hx; rfl) rfl ?he (by simp; omega) rfl (by intro _ _ h; cases h) rfl rfl (by decide) rfl rfl rfl fun h8 t8 v8 hv8 z8 k8 => ?_
    case he =>
      refine Ev.bin fm_sta (Ev.bin fm_sta (Ev.itemNeg (i := -1) (d := .int (acc.getLast hne)) fm_sta (ev_local (fun _ h => h) rfl rfl rfl) (Ev.neg eI) (by decide) (by simp; omega) (by decide) ?_) (ev_local (fun _ h => h) rfl rfl rfl) (op_add _ _)) (ev_cell (d := .int R) (fun _ h => h) rfl rfl rfl (by unfold upd; rw [if_neg (by decide), if_neg (by decide)]; exact g2)) (op_mod _ R (by omega))
      rw [List.length_map, List.getElem?_map]
      have e : ((-1 : Int) + (acc.length : Int)).toNat = acc.length - 1 := by omega
      rw [e, List.getLast_eq_getElem, List.getElem?_eq_getElem (by omega)]
      rfl
    refine wpAny_execs_nil ⟨lvs.length + 1 - (i + 1), by omega, h8, t8, i + 1, _, rfl, z8.weaken (fun x d q => ?_), ?_, ?_, ?_, hlt, rfl⟩
    · unfold upd
      rw [if_neg (fun e => by rw [e, g4] at q; cases q)]; exact q
    · have e : (td.take (R - 1)).take (i + 1) = (td.take (R - 1)).take i ++ [kk] := by
        rw [List.take_add_one, hk]; rfl
      rw [e, walkP_snoc]
      have e2 : (0 :: (walkP R 0 ((td.take (R - 1)).take i) ++ [(((0 : Int) :: walkP R 0 ((td.take (R - 1)).take i)).getLast (by simp) + kk).fmod R])) = acc ++ [(acc.getLast hne + kk).fmod R] := by
        subst hacc; rfl
      rw [e2, List.map_append]
      exact hv8
    · have nIL : h4.objs.size ≠ (lawE pm code doc L a).locals := fun e => by
        obtain ⟨m5, _, q1, _⟩ := z5.ex
        exact ns_ne_iter q1 hit5 e.symm
      obtain ⟨o, ho, hc, hd⟩ := hit6
      have ho7 := hs7.extBut _ _ nIL ho
      refine ⟨o, k8 _ _ (fun e => ?_) ho7, hc, hd⟩
      obtain ⟨n, hp⟩ := z7.ls
      rw [← e] at hp
      rw [hp] at ho7; cases ho7; cases hd
    · obtain ⟨n, ho⟩ := hl5
      obtain ⟨m5, _, q1, _⟩ := z5.ex
      exact ⟨n, k8 _ _ nlpa (hs7.extBut _ _ (ns_ne_list q1 ⟨n, ho⟩) (hs6.extBut _ _ nlI ho))⟩
end Mine

namespace Mine
open PySem PySem.W PySem.W.X
open PyProof.Rows (AllBare)

def tellF (xs : List Int) : Nat → Option (Int × GS) → List Int
  | 0, _ => []
  | _ + 1, none => []
  | n + 1, some (v, st) => v :: tellF xs n (st.step xs)

theorem segX_quiet {M : Model} {A : Around} {c : Code} {t : Sem Fin} {fs : List Frame} {s : Shared} {P : End → Shared → Prop} (x : SegX M A c t fs s P) : SegX M A c t fs s (fun e s' => e.quiet = true ∧ P e s') := fun Γ p hc hΓ => by
  obtain ⟨e, s', hr, hq, hp⟩ := x Γ p hc hΓ
  exact ⟨e, s', hr, hq, hq, hp⟩

/-- the generator's state between two turns of the loop -/
def GenNow (w : World) (L G : Addr) (g : Nat) (R : Addr) (mg : Str → Option Value) (rvs : List Value) (xs : List Int) (hA : Heap) (n : Nat) (o : Option (Int × GS)) (s : Shared) : Prop :=
  s.heap.IsGen G g ∧ hA.get? L = none ∧ G ≠ L ∧ ∃ gs, s.gens[g]? = some gs ∧
    ((∃ pm code doc ag m, gs = .fresh (.func (sBody (top 7)) (callEnv (fdOf (top 7) pm code doc) L ag)) ∧ s.heap.Ns L m ∧ m (Str.ofString "grouping") = some (.ref R) ∧ o = look xs 0 none) ∨
     (∃ I st, hA.get? I = none ∧ G ≠ I ∧ GOwn L I R mg rvs xs st s.heap ∧ GGo w L I R mg rvs xs (n + 1) st gs ∧ o = st.step xs))
theorem GOwn.fields {L I R : Addr} {mg : Str → Option Value} {rvs : List Value} {xs : List Int} {st : GS} {h : Heap} (x : GOwn L I R mg rvs xs st h) : ∃ ob us, h.get? I = some ob ∧ ob.data = .fields us := by
  cases st with
  | sus i y => obtain ⟨_, r⟩ := x; obtain ⟨o, ho, _, hd⟩ := r.it; exact ⟨o, _, ho, hd⟩
  | rep v => exact x.2

/-- the next one told -/
theorem tell_next {w : World} {A : Around} {s : Shared} {L G R : Addr} {g : Nat} {mg mb : Str → Option Value} {rvs : List Value} {xs : List Int} {hA : Heap} {n : Nat} {o : Option (Int × GS)} {Q : Option Value → Shared → Prop} {E : Value → Shared → Prop} {tc : Nat} (hh : A.handled = none) (hlim : s.heap.NoLimit) (hroom : A.depth < recursionLimit)
    (hcm : mg (Str.ofString "CHAR_MAX") = some (.int 127 tc)) (hLg : L ≠ mainGlobals) (hrow : s.heap.PlainList R rvs.toArray) (hri : ValsAre s.heap (xs.map .int) rvs) (hmg : s.heap.Ns mainGlobals mg) (h0 : xs[0]? ≠ some 0) (N : GenNow w L G g R mg rvs xs hA (n + 1) o s)
    (hAs : ∀ b ob, hA.get? b = some ob → ∃ ob', s.heap.get? b = some ob')
    (hnone : o = none → ∀ h' tk gs, (∀ b ob, hA.get? b = some ob → ∀ ob', s.heap.get? b = some ob' → h'.get? b = some ob') → (AllBare s.gens → AllBare gs) → (∀ b ob, b ≠ L → (∀ us, ob.data ≠ .fields us) → s.heap.get? b = some ob → h'.get? b = some ob) → Q none { s with heap := h', toks := tk, gens := gs })
    (hsome : ∀ v st, o = some (v, st) → ∀ h' tk gs t, (∀ b ob, hA.get? b = some ob → ∀ ob', s.heap.get? b = some ob' → h'.get? b = some ob') → (AllBare s.gens → AllBare gs) → (∀ b ob, b ≠ L → (∀ us, ob.data ≠ .fields us) → s.heap.get? b = some ob → h'.get? b = some ob) →
      GenNow w L G g R mg rvs xs hA n (st.step xs) { s with heap := h', toks := tk, gens := gs } → Q (some (.int v t)) { s with heap := h', toks := tk, gens := gs }) :
    wpAny (model pr w) A (pyNext (.ref G)) Q E s := by
  obtain ⟨hG, hLA, hGL, gs, hgs, hcase⟩ := N
  have post : ∀ {c₀ : Code} {t₀ : Sem Fin} {fs₀ : List Frame} {I : Addr}, hA.get? I = none → G ≠ I → (∀ b ob, (∀ us, ob.data ≠ .fields us) → s.heap.get? b = some ob → b ≠ I) → SegX (model pr w) A.in1 c₀ t₀ fs₀ (s.setGen g .running) (GPost w L I R mg rvs xs (n + 1) (s.setGen g .running) o) →
      SegX (model pr w) A.in1 c₀ t₀ fs₀ (s.setGen g .running) (NextPost Q E G g) := fun {c₀ t₀ fs₀ I} hI hGI hfI seg => by
    refine (segX_quiet seg).mono fun e s1 h1 => ?_
    obtain ⟨hq, ⟨h', tk', rfl, gk⟩, hp⟩ := h1
    have kA : ∀ b ob, hA.get? b = some ob → ∀ ob', s.heap.get? b = some ob' → h'.get? b = some ob' := fun b ob q ob' q' => gk b ob' (fun e => by rw [e, hLA] at q; cases q) (fun e => by rw [e, hI] at q; cases q) q'
    have kF : ∀ b ob, b ≠ L → (∀ us, ob.data ≠ .fields us) → s.heap.get? b = some ob → h'.get? b = some ob := fun b ob hb hd q => gk b ob hb (hfI b ob hd q) q
    cases o with
    | none =>
      have he : e = .ret (.ok (.ret .none)) := hp
      subst he
      refine .inr (.inl ⟨rfl, fun h2 x2 => ?_⟩)
      exact hnone rfl h2 tk' _ (fun b ob q ob' q' => x2 _ _ (kA b ob q ob' q')) (fun hb => bare_set (bare_set hb rfl) rfl) fun b ob hb hd q => x2 _ _ (kF b ob hb hd q)
    | some p =>
      obtain ⟨v, st⟩ := p
      obtain ⟨t, he, hown, hgo⟩ := hp
      refine .inl ⟨.int v t, he, ?_⟩
      refine hsome v st rfl h' tk' _ t kA (fun hb => bare_set (bare_set hb rfl) (End.bare_of_quiet hq)) kF ?_
      obtain ⟨og, nm, qn, ho, r⟩ := hG
      refine ⟨⟨og, nm, qn, gk _ _ hGL hGI ho, r⟩, hLA, hGL, e.genState, setGen_self (gs := .running) (setGen_self hgs), .inr ⟨I, st, hI, hGI, hown, hgo, rfl⟩⟩
  rcases hcase with ⟨pm, code, doc, ag, m, rfl, hn, hm, rfl⟩ | ⟨I, st, hI, hGI, hown, hgo, rfl⟩
  · obtain ⟨I, hI, seg⟩ := fresh_ok (w := w) (A := A.in1) (s := s.setGen g .running) (L := L) (a := ag) (xs := xs) (pm := pm) (code := code) (doc := doc) (n + 1) hh hLg hcm hn hm hrow hri hmg h0
    have hI' : s.heap.get? I = none := hI
    refine nextX hh hlim hroom hG hgs (.inl ⟨rfl, rfl, rfl⟩) (post ?_ ?_ ?_ seg)
    · cases q : hA.get? I with
      | none => rfl
      | some ob => obtain ⟨ob', q'⟩ := hAs I ob q; rw [hI'] at q'; cases q'
    · rintro rfl
      obtain ⟨og, nm, qn, ho, r⟩ := hG
      rw [hI'] at ho; cases ho
    · rintro b ob _ q rfl
      rw [hI'] at q; cases q
  · obtain ⟨k, l, c, p, fs, cl, rfl, hseg⟩ := hgo
    refine nextX hh hlim hroom hG hgs (.inr ⟨k, l, p, cl, rfl, rfl⟩) (post hI hGI ?_ (hseg A.in1 (s.setGen g .running) hh hown))
    rintro b ob hd q rfl
    obtain ⟨ob', us, q', hd'⟩ := hown.fields
    rw [q] at q'; cases q'; exact hd _ hd'
end Mine

namespace Mine
open PySem PySem.W PySem.W.X
open PyProof.Rows (AllBare)

theorem GenNow.move {w : World} {L G R : Addr} {g n : Nat} {mg : Str → Option Value} {rvs : List Value} {xs : List Int} {hA h' : Heap} {o : Option (Int × GS)} {s : Shared} {tk : Nat} (N : GenNow w L G g R mg rvs xs hA n o s)
    (k : ∀ b ob, (b = L ∨ b = R ∨ b = mainGlobals ∨ ∃ us, ob.data = .fields us) → s.heap.get? b = some ob → h'.get? b = some ob) : GenNow w L G g R mg rvs xs hA n o { s with heap := h', toks := tk } := by
  obtain ⟨⟨og, nm, qn, ho, hc, hd, hsl⟩, h2, h3, gs, h4, h5⟩ := N
  refine ⟨⟨og, nm, qn, k _ _ (.inr (.inr (.inr ⟨_, hd⟩))) ho, hc, hd, hsl⟩, h2, h3, gs, h4, ?_⟩
  rcases h5 with ⟨pm, code, doc, ag, m, q1, q2, q3, q4⟩ | ⟨I, st, q1, q2, q3, q4, q5⟩
  · exact .inl ⟨pm, code, doc, ag, m, q1, q2.at' fun o q => k _ _ (.inl rfl) q, q3, q4⟩
  · refine .inr ⟨I, st, q1, q2, ?_, q4, q5⟩
    cases st with
    | sus i x =>
      obtain ⟨⟨m, t, r1, r2⟩, ⟨⟨oi, hoi, hci, hdi⟩, ⟨nl, hl⟩, iv, gg⟩⟩ := q3
      exact ⟨⟨m, t, r1.at' fun o q => k _ _ (.inl rfl) q, r2⟩, ⟨⟨oi, k _ _ (.inr (.inr (.inr ⟨_, hdi⟩))) hoi, hci, hdi⟩, ⟨nl, k _ _ (.inr (.inl rfl)) hl⟩, intsAt iv, gg.at' fun o q => k _ _ (.inr (.inr (.inl rfl))) q⟩⟩
    | rep v =>
      obtain ⟨⟨m, t, r1, r2⟩, ob, us, hob, hdd⟩ := q3
      exact ⟨⟨m, t, r1.at' fun o q => k _ _ (.inl rfl) q, r2⟩, ob, us, k _ _ (.inr (.inr (.inr ⟨us, hdd⟩))) hob, hdd⟩

theorem told_loop {w : World} {A : Around} {s : Shared} {E : Value → Shared → Prop} {Q : Flow → Shared → Prop} {h₀ g : Heap} {pm code doc : Value} {L a ag : Addr} {γ : Str → Option PV} {xs : List Int} {R : Nat} {mg mb : Str → Option Value}
    (B : Bi mg mb) (Gg : Gd mg mb g) (hg : Ext g h₀) (fg : FnAt mg g (top 7) ag) (hh : A.handled = none) (hroom : A.depth + 2 < recursionLimit) (ok : EnvOk h₀ (lawE pm code doc L a)) (F : Fm h₀ nX (lawE pm code doc L a) γ s.heap) (g1 : γ (Str.ofString "row") = some (.list (xs.map .int))) (g2 : γ (Str.ofString "ring") = some (.int R)) (g3 : γ (Str.ofString "told") = none) (g4 : γ (Str.ofString "size") = none)
    (hR : 2 ≤ R ∧ R ≤ 12) (h0 : xs[0]? ≠ some 0)
    (h : ∀ h' tk gs, (AllBare s.gens → AllBare gs) → Fm h₀ nX (lawE pm code doc L a) (upd γ (Str.ofString "told") (.list ((tellF xs R (look xs 0 none)).map .int))) h' → wpAny (model pr w) A (execs ((sBody (top 13)).drop 13) (lawE pm code doc L a)) Q E { s with heap := h', toks := tk, gens := gs }) :
    wpAny (model pr w) A (execs ((sBody (top 13)).drop 11) (lawE pm code doc L a)) Q E s := by
  refine wpAny_execs_cons (wpAny_Assign_Name (wpAny_List (wpAny_mono (Evs.nil s E _ F) (fun vs s1 g => ?_) fun _ _ e => e)))
  refine ⟨by rw [g.1.length]; decide, ?_⟩
  obtain ⟨gv, k1⟩ := g
  obtain ⟨hA, t1, rfl, ke1⟩ := k1
  have FA := fm_sta _ _ ke1 F
  obtain ⟨m, cm, hn, hcs, hv⟩ := id FA.ex
  have hpa : hA.get? hA.objs.size = none := get_none_ge (Nat.le_refl _)
  have hn2 := hn.keeps (Ext.push hA { cls := .type "list", data := .seq vs.toArray })
  refine wpAny_storeName_local rfl hn2 (fun h3 hn3 hs3 => ?_) rfl
  have hpl3 : h3.PlainList hA.objs.size vs.toArray := ⟨_, hs3.extBut _ _ (fun e => by have := hn.lt; rw [← e] at this; exact absurd this (Nat.lt_irrefl _)) (Heap.get?_push_size _ rfl)⟩
  have z3 : Fz hA (lawE pm code doc L a) γ (Str.ofString "told") hA.objs.size vs h3 := by
    refine ⟨fun b o hb q => hs3.extBut b o hb (Ext.push _ _ _ _ q), ⟨_, cm, hn3, fun n c q => ((hcs n c q).keeps (Ext.push _ _)).sameBut hs3 (ok.off n c (mem_of_lookup q)), fun x d q => ?_, rfl⟩, hpl3, hpa⟩
    obtain ⟨v, q1, q2⟩ := hv x d q
    have hx : x ≠ Str.ofString "told" := fun e => by rw [e, g3] at q; cases q
    refine ⟨v, ?_, q2⟩
    have e2 : lookV (lawE pm code doc L a) (fun q => if q = Str.ofString "told" then some (.ref hA.objs.size) else m q) cm x = lookV (lawE pm code doc L a) m cm x := by unfold lookV; simp only [if_neg hx]
    exact e2.trans q1
  have gv3 : ValsAre h3 (([] : List Int).map PV.int) vs := intsAt (xs := []) gv
  have F3 := z3.fm ok FA gv3
  have xg3 : Ext g h3 := hg.trans F3.toExt
  -- the row
  obtain ⟨vrow, er1, er2⟩ := hv _ _ g1
  obtain ⟨Rr, rvs, rfl, hRr, hrvs⟩ := vList er2
  obtain ⟨nRr, hoRr⟩ := id hRr
  have RrL : Rr ≠ (lawE pm code doc L a).locals := ns_ne_list hn hRr
  obtain ⟨oc, pmc, codec, docc, hmgc, hoc, hdc, hcc⟩ := id fg
  refine wpAny_execs_cons (wpAny_For ?_)
  refine wpAny_Call_Name_kw (Calls.Name_function_global rfl rfl (Calls.loadGlobal_global (mg := mg) (Gg.g.keeps xg3) hmgc (Calls.callWith_function (o := oc) (fd := fdOf (top 7) pmc codec docc) (args_raw rfl ?_))))
  have hm3 : (fun q => if q = Str.ofString "told" then some (Value.ref hA.objs.size) else m q) (Str.ofString "row") = some (.ref Rr) := er1
  refine wpAny_items_cons (wpAny_Name (wpAny_loadName_local rfl rfl hn3 hm3 ?_))
  refine wpAny_items_nil ⟨⟨xg3 _ _ hoc, hdc⟩, ?_⟩
  refine gen_make (w := w) (fg.ext xg3) (Gg.nolimit.keeps xg3) (by omega) fun Lg G h4 t4 pmg cdg dcg mG xh4 hLg hGn hIs hnG hgr => ?_
  refine wpAny_pyIter_gen hIs ?_
  have hLg3 : h3.get? Lg = none := hLg
  have hLgA : hA.get? Lg = none := by
    cases q : hA.get? Lg with
    | none => rfl
    | some o =>
      by_cases hb : Lg = (lawE pm code doc L a).locals
      · obtain ⟨o', _, _, ho', _⟩ := hn3
        rw [← hb, hLg3] at ho'; cases ho'
      · have := z3.off _ _ hb q; rw [hLg3] at this; cases this
  have LgG : Lg ≠ mainGlobals := fun e => by
    obtain ⟨o', ho', _⟩ := ns_notFields (Gg.g.keeps xg3)
    rw [e, ho'] at hLg3; cases hLg3
  have paLg : hA.objs.size ≠ Lg := fun e => by
    obtain ⟨n, ho⟩ := hpl3
    rw [e, hLg3] at ho; cases ho
  have locLg : (lawE pm code doc L a).locals ≠ Lg := fun e => by
    obtain ⟨o', _, _, ho', _⟩ := hn3
    rw [e, hLg3] at ho'; cases ho'
  obtain ⟨tc, hcm⟩ := B.cmax
  have GLg : G ≠ Lg := fun e => by
    obtain ⟨o, _, _, ho, _, hd, _⟩ := hIs
    obtain ⟨o', ho', hnf⟩ := ns_notFields hnG
    rw [e, ho'] at ho; cases ho; exact hnf _ hd
  have N0 : GenNow w Lg G s.gens.size Rr mg rvs xs hA R (look xs 0 none) { s with heap := h4, toks := t4, gens := s.gens.push (.fresh (.func (sBody (top 7)) (callEnv (fdOf (top 7) pmg cdg dcg) Lg ag))) } :=
    ⟨hIs, hLgA, GLg, _, by simp, .inl ⟨pmg, cdg, dcg, ag, mG, rfl, hnG, hgr, rfl⟩⟩
  refine codeAny_forLoop (I := fun n s' => ∃ h' tk gs vs5 acc o, s' = { s with heap := h', toks := tk, gens := gs } ∧ Fz hA (lawE pm code doc L a) γ (Str.ofString "told") hA.objs.size vs5 h' ∧ ValsAre h' (acc.map PV.int) vs5 ∧ acc ++ tellF xs (R - acc.length) o = tellF xs R (look xs 0 none) ∧ acc.length < R ∧
      GenNow w Lg G s.gens.size Rr mg rvs xs hA (R - acc.length) o { s with heap := h', toks := tk, gens := gs } ∧ (AllBare s.gens → AllBare gs) ∧ n = R - acc.length) ?_ R
    ⟨h4, t4, _, vs, [], _, rfl, z3.ext xh4, intsAt (xs := []) gv, by simp, by simp; omega, N0, fun hb => hb.push rfl, rfl⟩
  rintro nn s' ⟨h5, t5, gs5, vs5, acc, o, rfl, z5, hv5, htl, hlt, N5, hb5, rfl⟩
  obtain ⟨kk, hkk⟩ : ∃ kk, R - acc.length = kk + 1 := ⟨R - acc.length - 1, by omega⟩
  rw [hkk] at N5
  have F5 := z5.fm ok FA hv5
  have xg5 : Ext g h5 := hg.trans F5.toExt
  have row5 : h5.PlainList Rr rvs.toArray := ⟨nRr, z5.off _ _ RrL hoRr⟩
  have upz : ∀ {h' : Heap}, (∀ b ob, hA.get? b = some ob → ∀ ob', h5.get? b = some ob' → h'.get? b = some ob') → (∀ b ob, b ≠ Lg → (∀ us, ob.data ≠ .fields us) → h5.get? b = some ob → h'.get? b = some ob) → Fz hA (lawE pm code doc L a) γ (Str.ofString "told") hA.objs.size vs5 h' := fun {h'} kA kF => by
    obtain ⟨m5, cm5, q1, q2, q3, q4⟩ := z5.ex
    refine ⟨fun b o hb q => kA b o q o (z5.off b o hb q), ⟨m5, cm5, ?_, fun n c q => ?_, q3, q4⟩, ?_, z5.fr⟩
    · obtain ⟨o', es, ep, ho', hd', r⟩ := q1
      exact ⟨o', es, ep, kF _ _ locLg (fun us e => by rw [hd'] at e; cases e) ho', hd', r⟩
    · obtain ⟨o', ho', hd'⟩ := q2 n c q
      refine ⟨o', kF _ _ (fun e => ?_) (fun us e => by rw [hd'] at e; cases e) ho', hd'⟩
      obtain ⟨oA, hoA, _⟩ := hcs n c q
      rw [e, hLgA] at hoA; cases hoA
    · obtain ⟨n, ho'⟩ := z5.ls
      exact ⟨n, kF _ _ paLg (fun us e => by cases e) ho'⟩
  refine tell_next (mb := mb) (n := kk) hh (Gg.nolimit.keeps xg5) (by omega) hcm LgG row5 (intsAt hrvs) (Gg.g.keeps xg5) h0 N5 (fun b ob q => ?_) (fun ho h6 t6 gs6 kA kb kF => ?_) (fun v st ho h6 t6 gs6 t kA kb kF N6 => ?_)
  · by_cases hb : b = (lawE pm code doc L a).locals
    · obtain ⟨m5, _, ⟨o', _, _, ho', _⟩, _⟩ := z5.ex
      exact ⟨o', hb ▸ ho'⟩
    · exact ⟨ob, z5.off _ _ hb q⟩
  · refine wpAny_execs_nil ?_
    subst ho
    have e : tellF xs R (look xs 0 none) = acc := by rw [← htl, hkk]; simp [tellF]
    have := (upz kA kF).fm ok FA (ds := (tellF xs R (look xs 0 none)).map PV.int) (by rw [e]; exact intsAt hv5)
    exact h h6 t6 gs6 (fun hb => kb (hb5 hb)) this
  · have z6 := upz kA kF
    subst ho
    have htl' : (acc ++ [v]) ++ tellF xs kk (st.step xs) = tellF xs R (look xs 0 none) := by
      rw [← htl, hkk]; simp [tellF]
    refine wpAny_assign_Name (z6.store (x := Str.ofString "size") (d := .int v) ok rfl (by decide) (by simp only [ValIs]; exact ⟨_, rfl⟩) fun h7 z7 hs7 tk7 => ?_)
    refine z7.append (s := { s with heap := h7, toks := tk7, gens := gs6 }) (ds := acc.map PV.int) (d := .int v) ok FA (intsAt hv5) rfl (by intro x hx; obtain ⟨c, _, rfl⟩ := List.mem_map.mp hx; rfl) rfl ?he (by simp; omega) rfl (by intro _ _ h; cases h) rfl rfl (by decide) rfl rfl rfl fun h8 t8 v8 hv8 z8 k8 => ?_
    case he => exact ev_local (fun _ h => h) rfl rfl rfl
    have hv8' : ValsAre h8 ((acc ++ [v]).map PV.int) (vs5 ++ [v8]) := by rw [List.map_append]; exact hv8
    have F8 := z8.fm ok FA hv8'
    have z8w := z8.weaken (γ' := γ) fun x d q => by
      unfold upd
      rw [if_neg (fun e => by rw [e, g4] at q; cases q)]; exact q
    have N8 : GenNow w Lg G s.gens.size Rr mg rvs xs hA kk (st.step xs) { s with heap := h8, toks := t8, gens := gs6 } := by
      have mgA : ∃ om, hA.get? mainGlobals = some om := by
        obtain ⟨o', ho', _⟩ := ns_notFields (Gg.g.keeps (hg.trans FA.toExt))
        exact ⟨o', ho'⟩
      have mgL : mainGlobals ≠ (lawE pm code doc L a).locals := fun e => by
        obtain ⟨o', ho', _⟩ := ns_notFields (Gg.g.keeps hg)
        rw [e, ok.freshL] at ho'; cases ho'
      refine N6.move (tk := t8) fun b ob hb q => k8 _ _ (fun e => ?_) (hs7.extBut _ _ (fun e => ?_) q)
      · rcases hb with rfl | rfl | rfl | ⟨us, hd⟩
        · exact paLg e.symm
        · rw [e, hpa] at hoRr; cases hoRr
        · obtain ⟨om, hom⟩ := mgA
          rw [e, hpa] at hom; cases hom
        · obtain ⟨n, ho'⟩ := z6.ls
          have q' : h6.get? b = some ob := q
          rw [e, ho'] at q'; cases q'; cases hd
      · rcases hb with rfl | rfl | rfl | ⟨us, hd⟩
        · exact locLg e.symm
        · exact RrL e
        · exact mgL e
        · obtain ⟨m6, _, q1, _⟩ := z6.ex
          obtain ⟨o', ho', hnf⟩ := ns_notFields q1
          have q' : h6.get? b = some ob := q
          rw [e, ho'] at q'; cases q'; exact hnf _ hd
    have Gk : ∀ {γ : Str → Option PV} h, Fm h₀ nX (lawE pm code doc L a) γ h → Gd mg mb h := fun h F => Gg.ext (hg.trans F.toExt)
    by_cases hend : acc.length + 1 = R
    · refine xs_if_yes F8 ((Tr.cmp fm_sta (ev_len B fm_sta rfl rfl (fun h F => (Gk h F).g) (fun h F => (Gk h F).b) rfl (ev_local (fun _ h => h) rfl rfl rfl) (by simp; omega)) (ev_cell (d := .int R) (fun _ h => h) rfl rfl rfl (by unfold upd; rw [if_neg (by decide), if_neg (by decide)]; exact g2)) (cm_eq _ R)).congr (by simp; omega)) fun h9 t9 x9 => ?_
      refine wpAny_execs_cons (wpAny_Break ?_)
      have e : tellF xs R (look xs 0 none) = acc ++ [v] := by
        rw [← htl']
        have : kk = 0 := by omega
        subst this; simp [tellF]
      have := (z8w.ext x9).fm ok FA (ds := (tellF xs R (look xs 0 none)).map PV.int) (by rw [e]; exact intsAt hv8')
      exact h h9 t9 gs6 (fun hb => kb (hb5 hb)) this
    · refine xs_if_no F8 ((Tr.cmp fm_sta (ev_len B fm_sta rfl rfl (fun h F => (Gk h F).g) (fun h F => (Gk h F).b) rfl (ev_local (fun _ h => h) rfl rfl rfl) (by simp; omega)) (ev_cell (d := .int R) (fun _ h => h) rfl rfl rfl (by unfold upd; rw [if_neg (by decide), if_neg (by decide)]; exact g2)) (cm_eq _ R)).congr (by simp; omega)) fun h9 t9 x9 => ?_
      refine wpAny_execs_nil ⟨R - (acc ++ [v]).length, by simp; omega, h9, t9, gs6, _, acc ++ [v], st.step xs, rfl, z8w.ext x9, intsAt hv8', ?_, by simp; omega, ?_, fun hb => kb (hb5 hb), rfl⟩
      · rw [show R - (acc ++ [v]).length = kk by simp; omega]; exact htl'
      · rw [show R - (acc ++ [v]).length = kk by simp; omega]
        exact N8.move (tk := t9) fun b ob _ q => x9 _ _ q
end Mine

namespace Mine
open PySem PySem.W

def mx (W R : Nat) : Nat := [2, 1, R, R, 3].getD W 0
def mnN (W R : Nat) : Nat := if R - 1 < mx W R then R - 1 else mx W R

theorem law_a {w : World} {A : Around} {s : Shared} {E : Value → Shared → Prop} {Q : Flow → Shared → Prop} {h₀ g : Heap} {pm code doc : Value} {L a : Addr} {mg mb : Str → Option Value} {c0 c1 c2 c3 c4 : Int} (B : Bi mg mb) (Gg : Gd mg mb g) (hg : Ext g h₀) (hh : A.handled = none)
    (ok : EnvOk h₀ (lawE pm code doc L a)) (F : Fm h₀ nX (lawE pm code doc L a) (upd (fun _ => none) (Str.ofString "cells") (.list ([c0, c1, c2, c3, c4].map .int))) s.heap)
    (h : ∀ h' tk (R S W : Nat), 2 ≤ R ∧ R ≤ 12 → 1 ≤ S ∧ S ≤ 24 → W < 5 → Fm h₀ nX (lawE pm code doc L a) (upd (upd (upd (upd (upd (fun _ => none) (Str.ofString "cells") (.list ([c0, c1, c2, c3, c4].map .int))) (Str.ofString "ring") (.int R)) (Str.ofString "step") (.int S)) (Str.ofString "way") (.int W)) (Str.ofString "many") (.int (mnN W R))) h' →
      wpAny (model pr w) A (execs ((sBody (top 13)).drop 6) (lawE pm code doc L a)) Q E { s with heap := h', toks := tk }) :
    wpAny (model pr w) A (execs ((sBody (top 13)).drop 2) (lawE pm code doc L a)) Q E s := by
  have Gk : ∀ {γ : Str → Option PV} h, Fm h₀ nX (lawE pm code doc L a) γ h → Gd mg mb h := fun h F => Gg.ext (hg.trans F.toExt)
  have r0 : 0 ≤ c0.fmod 11 ∧ c0.fmod 11 < 11 := ⟨Int.fmod_nonneg_of_pos c0 (by decide), Int.fmod_lt_of_pos _ (by decide)⟩
  have r1 : 0 ≤ c1.fmod 24 ∧ c1.fmod 24 < 24 := ⟨Int.fmod_nonneg_of_pos c1 (by decide), Int.fmod_lt_of_pos _ (by decide)⟩
  have r3 : 0 ≤ c3.fmod 5 ∧ c3.fmod 5 < 5 := ⟨Int.fmod_nonneg_of_pos c3 (by decide), Int.fmod_lt_of_pos _ (by decide)⟩
  obtain ⟨R, hR⟩ : ∃ R : Nat, 2 + c0.fmod 11 = R := ⟨(2 + c0.fmod 11).toNat, by omega⟩
  obtain ⟨S, hS⟩ : ∃ S : Nat, 1 + c1.fmod 24 = S := ⟨(1 + c1.fmod 24).toNat, by omega⟩
  obtain ⟨W, hW⟩ : ∃ W : Nat, c3.fmod 5 = W := ⟨(c3.fmod 5).toNat, by omega⟩
  refine xs_assignC (d := .int R) ok F (Ev.congr (Ev.bin fm_sta eI (Ev.bin fm_sta (Ev.item (d := .int c0) fm_sta (ev_cell (fun _ h => h) rfl rfl rfl rfl) eI (by decide) (by decide) rfl) eI (op_mod c0 11 (by decide))) (op_add _ _)) (by rw [hR])) rfl rfl fun h1 t1 F1 => ?_
  refine xs_assignC (d := .int S) ok F1 (Ev.congr (Ev.bin fm_sta eI (Ev.bin fm_sta (Ev.item (d := .int c1) fm_sta (ev_cell (fun _ h => h) rfl rfl rfl rfl) eI (by decide) (by decide) rfl) eI (op_mod c1 24 (by decide))) (op_add _ _)) (by rw [hS])) rfl rfl fun h2 t2 F2 => ?_
  refine xs_assign (d := .int W) ok F2 (Ev.congr (Ev.bin fm_sta (Ev.item (d := .int c3) fm_sta (ev_cell (fun _ h => h) rfl rfl rfl rfl) eI (by decide) (by decide) rfl) eI (op_mod c3 5 (by decide))) (by rw [hW])) rfl fun h3 t3 F3 => ?_
  have hW5 : W < 5 := by omega
  refine xs_assign (d := .int (mnN W R)) ok F3 ?val rfl fun h4 t4 F4 => ?_
  case val =>
    refine Ev.congr (ev_callB (d := .int (if ((R : Int) - 1) < (mx W R : Int) then (R : Int) - 1 else (mx W R : Int))) fm_sta rfl rfl (fun h F => (Gk h F).g) (fun h F => (Gk h F).b) B.min.1 B.min.2 rfl (Evs.cons fm_sta ?i1 (Evs.cons fm_sta (Ev.bin fm_sta (ev_cell (d := .int R) (fun _ h => h) rfl rfl rfl rfl) eI (op_sub _ _)) Evs.nil)) fun s' E' us _ hus => min_at hh hus) ?_
    case i1 =>
      refine Ev.item (i := W) (l := [.int 2, .int 1, .int R, .int R, .int 3]) fm_sta (Ev.list (Evs.cons fm_sta eI (Evs.cons fm_sta eI (Evs.cons fm_sta (ev_cell (fun _ h => h) rfl rfl rfl rfl) (Evs.cons fm_sta (ev_cell (fun _ h => h) rfl rfl rfl rfl) (Evs.cons fm_sta eI Evs.nil))))) (show (5 : Nat) ≤ sizeLine by decide)) (ev_local (fun _ h => h) rfl rfl rfl) (by omega) (by omega) ?_
      have : ∀ W, W < 5 → ([.int 2, .int 1, .int R, .int R, .int 3] : List PV)[W]? = some (.int (mx W R)) := by
        intro W hW
        rcases W with _ | _ | _ | _ | _ | W <;> first | rfl | omega
      simpa using this W hW5
    · unfold mnN
      congr 1
      split <;> split <;> omega
  exact h h4 t4 R S W (by omega) (by omega) hW5 F4
end Mine

namespace Mine
open PySem PySem.W

def stm (k : Nat) : Stmt := (sBody (top 13)).getD k (.Pass ⟨0, 0, 0, 0⟩)
theorem body_len : (sBody (top 13)).length = 34 := by rfl
theorem drop_stm (k : Nat) (hk : k < 34) : (sBody (top 13)).drop k = stm k :: (sBody (top 13)).drop (k + 1) := by
  have h : k < (sBody (top 13)).length := by rw [body_len]; exact hk
  rw [List.drop_eq_getElem_cons h]
  congr 1
  unfold stm
  rw [List.getD_eq_getElem?_getD, List.getElem?_eq_getElem h]; rfl

def szI (d : Int) : Int := ([0, 64, -13] : List Int).getD d.toNat 0
def frI (R S : Nat) (c2 : Int) (k : Int) : Int := S + R * szI ((c2.fdiv (3 ^ k.toNat)).fmod 3)
abbrev γ5 (c0 c1 c2 c3 c4 : Int) (R S W : Nat) : Str → Option PV := upd (upd (upd (upd (upd (fun _ => none) (Str.ofString "cells") (.list ([c0, c1, c2, c3, c4].map .int))) (Str.ofString "ring") (.int R)) (Str.ofString "step") (.int S)) (Str.ofString "way") (.int W)) (Str.ofString "many") (.int (mnN W R))

def clE (names : List Str) (env : Env) : List (Str × Addr) := names.map fun n => (n, (env.cells.lookup n).getD 0)
theorem clE_ok {names : List Str} {env : Env} (h : ∀ n ∈ names, (env.cells.lookup n).isSome = true) : ∀ n c, (clE names env).lookup n = some c → env.cells.lookup n = some c := by
  induction names with
  | nil => intro n c q; cases q
  | cons x xs ih =>
    intro n c q
    simp only [clE, List.map_cons, List.lookup_cons] at q
    by_cases hx : n = x
    · subst hx
      simp at q
      obtain ⟨c', hc'⟩ := Option.isSome_iff_exists.mp (h n (.head _))
      rw [hc'] at q ⊢
      simpa using q
    · have : (n == x) = false := by simpa using hx
      rw [this] at q
      exact ih (fun n hn => h n (.tail _ hn)) n c q
theorem law_b {w : World} {A : Around} {s : Shared} {E : Value → Shared → Prop} {Q : Flow → Shared → Prop} {h₀ g : Heap} {pm code doc : Value} {L a : Addr} {mg mb : Str → Option Value} {c0 c1 c2 c3 c4 : Int} {R S W : Nat} (B : Bi mg mb) (Gg : Gd mg mb g) (hg : Ext g h₀) (hh : A.handled = none)
    (hR : 2 ≤ R ∧ R ≤ 12) (hS : 1 ≤ S ∧ S ≤ 24) (hW : W < 5) (hmn : mnN W R ≤ 12)
    (ok : EnvOk h₀ (lawE pm code doc L a)) (F : Fm h₀ nX (lawE pm code doc L a) (γ5 c0 c1 c2 c3 c4 R S W) s.heap)
    (h : ∀ h' tk, Fm h₀ nX (lawE pm code doc L a) (upd (γ5 c0 c1 c2 c3 c4 R S W) (Str.ofString "front") (.list (((rng 0 (mnN W R)).map (frI R S c2)).map .int))) h' →
      wpAny (model pr w) A (execs ((sBody (top 13)).drop 7) (lawE pm code doc L a)) Q E { s with heap := h', toks := tk }) :
    wpAny (model pr w) A (execs ((sBody (top 13)).drop 6) (lawE pm code doc L a)) Q E s := by
  have Gk : ∀ {γ : Str → Option PV} h, Fm h₀ nX (lawE pm code doc L a) γ h → Gd mg mb h := fun h F => Gg.ext (hg.trans F.toExt)
  rw [drop_stm 6 (by decide)]
  refine xs_comp (γc := upd (upd (upd (fun _ => none) (Str.ofString "cells") (.list ([c0, c1, c2, c3, c4].map .int))) (Str.ofString "ring") (.int R)) (Str.ofString "step") (.int S)) (ins := rng 0 (mnN W R)) (pz := fun _ => true) (out := fun k => .int (frI R S c2 k)) (cl := clE [Str.ofString "step", Str.ofString "ring", Str.ofString "cells"] (lawE pm code doc L a)) ok F ?c ?it ?z ?sw rfl ?_
  case sw => rfl
  case z => simp [rng]; have : (12 : Nat) ≤ sizeLine := by decide
            omega
  case it => exact it_range1 B hh fm_sta rfl rfl (fun h F => (Gk h F).g) (fun h F => (Gk h F).b) (ev_local (fun _ h => h) rfl rfl rfl) (by omega) rfl
  case c =>
    refine ⟨rfl, by intro y hy; revert y; decide, rfl, by intro y hy; revert y; decide, rfl, clE_ok (by intro n hn; simp only [List.mem_cons, List.not_mem_nil, or_false] at hn; rcases hn with rfl | rfl | rfl <;> rfl), ?γc, fun _ => rfl, fun C k hk => ts_nil, fun C k hk _ => ?el⟩
    case γc =>
      intro y e he
      unfold upd at he
      by_cases h1 : y = Str.ofString "step"
      · subst h1; rw [if_pos rfl] at he; cases he; exact ⟨rfl, rfl, fun _ => rfl⟩
      · rw [if_neg h1] at he
        by_cases h2 : y = Str.ofString "ring"
        · subst h2; rw [if_pos rfl] at he; cases he; exact ⟨rfl, rfl, fun _ => rfl⟩
        · rw [if_neg h2] at he
          by_cases h3 : y = Str.ofString "cells"
          · subst h3; rw [if_pos rfl] at he; cases he; exact ⟨rfl, rfl, fun _ => rfl⟩
          · rw [if_neg h3] at he; cases he
    case el =>
      obtain ⟨i, hi, rfl⟩ := List.mem_map.mp hk
      have hi' : i < 12 := by have := List.mem_range.mp hi; omega
      have hd : 0 ≤ (c2.fdiv (3 ^ i)).fmod 3 ∧ (c2.fdiv (3 ^ i)).fmod 3 < 3 := ⟨Int.fmod_nonneg_of_pos _ (by decide), Int.fmod_lt_of_pos _ (by decide)⟩
      have h3 : ∀ i : Nat, i < 12 → (3 : Int) ^ i ≠ 0 ∧ ((3 : Int) ^ i).natAbs < 1073741824 := by decide
      refine Ev.congr (Ev.bin fm_sta (ev_cell (d := .int S) (fun _ h => h) rfl rfl rfl rfl) (Ev.bin fm_sta (ev_cell (d := .int R) (fun _ h => h) rfl rfl rfl rfl) (Ev.item (i := (c2.fdiv (3 ^ i)).fmod 3) (l := [.int 0, .int 64, .int (-13)]) (d := .int (szI ((c2.fdiv (3 ^ i)).fmod 3))) fm_sta
        (Ev.list (Evs.cons fm_sta eI (Evs.cons fm_sta eI (Evs.cons fm_sta (Ev.neg eI) Evs.nil))) (show (3 : Nat) ≤ sizeLine by decide))
        (Ev.bin fm_sta (Ev.bin fm_sta (Ev.item (d := .int c2) fm_sta (ev_cell (fun _ h => h) rfl rfl rfl rfl) eI (by decide) (by decide) rfl) (Ev.bin fm_sta eI (ev_local (d := .int (i : Int)) (fun _ h => h) rfl rfl ?_) (op_pow3 i (by omega))) (op_fdiv _ _ (h3 i hi').1 (h3 i hi').2)) eI (op_mod _ 3 (by decide)))
        hd.1 (by omega) ?_) (op_mul _ _ (mulL (by omega) (by omega)))) (op_add _ _)) ?_
      · show some (PV.int (0 + (i : Int))) = some (PV.int (i : Int)); rw [Int.zero_add]
      · have : ∀ j : Nat, j < 3 → ([.int 0, .int 64, .int (-13)] : List PV)[j]? = some (.int (([0, 64, -13] : List Int).getD j 0)) := by
          intro j hj
          rcases j with _ | _ | _ | j <;> first | rfl | omega
        exact this _ (by omega)
      · show PV.int _ = PV.int (frI R S c2 (0 + (i : Int)))
        unfold frI
        rw [Int.zero_add]; rfl
  have e : ((rng 0 (mnN W R)).filter fun _ => true).map (fun k => PV.int (frI R S c2 k)) = ((rng 0 (mnN W R)).map (frI R S c2)).map PV.int := by
    rw [List.filter_eq_self.mpr (fun _ _ => rfl), List.map_map]; rfl
  intro h' tk F'
  rw [e] at F'
  with_reducible exact h h' tk F'
end Mine

namespace Mine
open PySem PySem.W

/-! the same words, closed, so that they are not run while they are typed -/
structure WX (w : World) (A : Around) (env : Env) (Q : Flow → Shared → Prop) (E : Value → Shared → Prop) (b : List Stmt) (s : Shared) : Prop where
  run : wpAny (model pr w) A (execs b env) Q E s
structure V (w : World) (A : Around) (env : Env) (P : Heap → Prop) (e : Expr) (d : PV) : Prop where
  r : Ev w A env P e d
structure T (w : World) (A : Around) (env : Env) (P : Heap → Prop) (e : Expr) (b : Bool) : Prop where
  r : Tr w A env P e b
structure Vs (w : World) (A : Around) (env : Env) (P : Heap → Prop) (es : List Expr) (ds : List PV) : Prop where
  r : Evs w A env P es ds

section
variable {w : World} {A : Around} {env : Env} {h₀ : Heap} {X : Addr → Prop} {γ : Str → Option PV} {P : Heap → Prop}
theorem V.int {i : Int} {k : Nat} {pos : Pos} : V w A env P (.Constant (.int i) k pos) (.int i) := ⟨eI⟩
theorem V.str {x : Str} {k : Nat} {pos : Pos} : V w A env P (.Constant (.str x) k pos) (.str x) := ⟨eS⟩
theorem V.bool {b : Bool} {k : Nat} {pos : Pos} : V w A env P (.Constant (.bool b) k pos) (.bool b) := ⟨eB⟩
theorem V.bin {l r : Expr} {op : Operator} {pos : Pos} {d1 d2 d : PV} (hP : Sta P) (h1 : V w A env P l d1) (h2 : V w A env P r d2) (ho : Op2 w A op d1 d2 d) : V w A env P (.BinOp l op r pos) d := ⟨Ev.bin hP h1.r h2.r ho⟩
theorem V.cmp {l r : Expr} {op : CmpOp} {pos : Pos} {d1 d2 d : PV} (hP : Sta P) (h1 : V w A env P l d1) (h2 : V w A env P r d2) (ho : Cm2 w A op d1 d2 d) (hm : behindInMarks op r = false := by with_unfolding_all rfl) : V w A env P (.Compare l [op] [r] pos) d := ⟨Ev.cmp hP h1.r h2.r ho hm⟩
theorem T.cmp {l r : Expr} {op : CmpOp} {pos : Pos} {d1 d2 : PV} {b : Bool} (hP : Sta P) (h1 : V w A env P l d1) (h2 : V w A env P r d2) (ho : Cm2 w A op d1 d2 (.bool b)) (hm : behindInMarks op r = false := by with_unfolding_all rfl) : T w A env P (.Compare l [op] [r] pos) b := ⟨Tr.cmp hP h1.r h2.r ho hm⟩
theorem T.not {x : Expr} {pos : Pos} {b : Bool} (h : T w A env P x b) : T w A env P (.UnaryOp .Not x pos) (!b) := ⟨Tr.not h.r⟩
theorem T.or2 {x y : Expr} {pos : Pos} {a b : Bool} (hP : Sta P) (h1 : T w A env P x a) (h2 : a = false → T w A env P y b) (hb : a = true → b = true) : T w A env P (.BoolOp .Or [x, y] pos) b := ⟨Tr.or2 hP h1.r (fun e => (h2 e).r) hb⟩
theorem T.and2 {x y : Expr} {pos : Pos} {a b : Bool} (hP : Sta P) (h1 : T w A env P x a) (h2 : a = true → T w A env P y b) (hb : a = false → b = false) : T w A env P (.BoolOp .And [x, y] pos) b := ⟨Tr.and2 hP h1.r (fun e => (h2 e).r) hb⟩
theorem T.congr {e : Expr} {b b' : Bool} (h : T w A env P e b) (hb : b = b') : T w A env P e b' := hb ▸ h
theorem V.congr {e : Expr} {d d' : PV} (h : V w A env P e d) (hb : d = d') : V w A env P e d' := hb ▸ h
theorem V.neg {x : Expr} {pos : Pos} {i : Int} (h : V w A env P x (.int i)) : V w A env P (.UnaryOp .USub x pos) (.int (-i)) := ⟨Ev.neg h.r⟩
theorem Vs.nil : Vs w A env P [] [] := ⟨Evs.nil⟩
theorem Vs.cons {e : Expr} {es : List Expr} {d : PV} {ds : List PV} (hP : Sta P) (h : V w A env P e d) (hs : Vs w A env P es ds) (hn : ∀ x p, e ≠ .Starred x p := by intro _ _ h; cases h) : Vs w A env P (e :: es) (d :: ds) := ⟨Evs.cons hP h.r hs.r hn⟩
theorem V.list {es : List Expr} {ds : List PV} {pos : Pos} (h : Vs w A env P es ds) (hz : ds.length ≤ sizeLine := by decide) : V w A env P (.List es pos) (.list ds) := ⟨Ev.list h.r hz⟩
theorem V.item {value slice : Expr} {pos : Pos} {l : List PV} {i : Int} {d : PV} (hP : Sta P) (h1 : V w A env P value (.list l)) (h2 : V w A env P slice (.int i)) (h0 : 0 ≤ i) (hf : i < 2 ^ 63) (hi : l[i.toNat]? = some d)
    (hs : ∀ o t, subscripted slice false o (.int i t) = operate [o, .int i t] (getItem o (.int i t)) := by intro _ _; with_unfolding_all rfl) : V w A env P (.Subscript value slice pos) d := ⟨Ev.item hP h1.r h2.r h0 hf hi hs⟩
theorem V.itemNeg {value slice : Expr} {pos : Pos} {l : List PV} {i : Int} {d : PV} (hP : Sta P) (h1 : V w A env P value (.list l)) (h2 : V w A env P slice (.int i)) (h0 : i < 0) (hn : -(l.length : Int) ≤ i) (hf : -(2 ^ 63) ≤ i) (hi : l[(i + l.length).toNat]? = some d)
    (hs : ∀ o t, subscripted slice false o (.int i t) = operate [o, .int i t] (getItem o (.int i t)) := by intro _ _; with_unfolding_all rfl) : V w A env P (.Subscript value slice pos) d := ⟨Ev.itemNeg hP h1.r h2.r h0 hn hf hi hs⟩
theorem V.upto {value up : Expr} {p pos : Pos} {l : List PV} {b : Nat} (hP : Sta P) (h1 : V w A env P value (.list l)) (h2 : V w A env P up (.int b)) (hz : l.length ≤ sizeLine)
    (ht : ∀ o r, letTemporaryGo value o r = pure () := by intro _ _; rfl) : V w A env P (.Subscript value (.Slice none (some up) none p) pos) (.list (l.take b)) := ⟨ev_upto hP h1.r h2.r hz ht⟩
theorem V.from_ {value lo : Expr} {p pos : Pos} {l : List PV} {b : Nat} (hP : Sta P) (h1 : V w A env P value (.list l)) (h2 : V w A env P lo (.int b)) (hz : l.length ≤ sizeLine)
    (ht : ∀ o r, letTemporaryGo value o r = pure () := by intro _ _; rfl) : V w A env P (.Subscript value (.Slice (some lo) none none p) pos) (.list (l.drop b)) := ⟨ev_from hP h1.r h2.r hz ht⟩
theorem V.copy {value : Expr} {p pos : Pos} {vs : List Value} (h1 : V w A env P value (.raw vs)) (hz : vs.length ≤ sizeLine)
    (ht : ∀ o r, letTemporaryGo value o r = pure () := by intro _ _; rfl) : V w A env P (.Subscript value (.Slice none none none p) pos) (.raw vs) := ⟨ev_copy h1.r hz ht⟩
theorem V.loc {x : Str} {pos : Pos} {d : PV} (hkd : env.scope.kind = .function) (hk : env.kindOf x = some .local) (hx : γ x = some d) (hd : (x == ("__debug__" : Str)) = false := by decide) : V w A env (Fm h₀ X env γ) (.Name x pos) d := ⟨ev_local (fun _ h => h) hkd hk hx hd⟩
theorem V.cell {x : Str} {pos : Pos} {d : PV} {c : Addr} (hkd : env.scope.kind = .function) (hk : env.kindOf x = some .cell) (hc : env.cells.lookup x = some c) (hx : γ x = some d) (hd : (x == ("__debug__" : Str)) = false := by decide) : V w A env (Fm h₀ X env γ) (.Name x pos) d := ⟨ev_cell (fun _ h => h) hkd hk hc hx hd⟩

variable {s : Shared} {E : Value → Shared → Prop} {Q : Flow → Shared → Prop} {rest : List Stmt}
theorem WX.assign {x : Str} {p pos : Pos} {value : Expr} {d : PV} (ok : EnvOk h₀ env) (F : Fm h₀ X env γ s.heap) (hv : V w A env (Fm h₀ X env γ) value d) (hk : env.kindOf x = some .local)
    (h : ∀ h' tk, Fm h₀ X env (upd γ x d) h' → WX w A env Q E rest { s with heap := h', toks := tk })
    (hs : swapsWith value (some (.Name x p)) pos.line env = pure false := by rfl) : WX w A env Q E (.Assign [.Name x p] value pos :: rest) s :=
  ⟨xs_assign ok F hv.r hk (fun h' tk F' => (h h' tk F').run) hs⟩
theorem WX.assignC {x : Str} {c : Addr} {p pos : Pos} {value : Expr} {d : PV} (ok : EnvOk h₀ env) (F : Fm h₀ X env γ s.heap) (hv : V w A env (Fm h₀ X env γ) value d) (hk : env.kindOf x = some .cell) (hc : env.cells.lookup x = some c)
    (h : ∀ h' tk, Fm h₀ X env (upd γ x d) h' → WX w A env Q E rest { s with heap := h', toks := tk })
    (hs : swapsWith value (some (.Name x p)) pos.line env = pure false := by rfl) : WX w A env Q E (.Assign [.Name x p] value pos :: rest) s :=
  ⟨xs_assignC ok F hv.r hk hc (fun h' tk F' => (h h' tk F').run) hs⟩
theorem WX.ifNo {test : Expr} {body : List Stmt} {pos : Pos} (hp : P s.heap) (ht : T w A env P test false)
    (h : ∀ h' tk, Ext s.heap h' → WX w A env Q E rest { s with heap := h', toks := tk }) : WX w A env Q E (.If test body [] pos :: rest) s :=
  ⟨xs_if_no hp ht.r fun h' tk x => (h h' tk x).run⟩
theorem WX.ifYes {test : Expr} {body orelse : List Stmt} {pos : Pos} (hp : P s.heap) (ht : T w A env P test true)
    (h : ∀ h' tk, Ext s.heap h' → WX w A env (fun f s' => match f with | .next => WX w A env Q E rest s' | f => Q f s') E body { s with heap := h', toks := tk }) : WX w A env Q E (.If test body orelse pos :: rest) s :=
  ⟨xs_if_yes hp ht.r fun h' tk x => wpAny_mono (h h' tk x).run (fun f s' q => by
    cases f with
    | next => exact q.run
    | _ => exact q) fun _ _ e => e⟩
theorem WX.nil (h : Q .next s) : WX w A env Q E [] s := ⟨wpAny_execs_nil h⟩
theorem WX.ret {e : Expr} {pos : Pos} {d : PV} (hp : P s.heap) (hv : V w A env P e d)
    (h : ∀ v h' tk, Ext s.heap h' → ValIs h' d v → Q (.ret v) { s with heap := h', toks := tk }) : WX w A env Q E (.Return (some e) pos :: rest) s := ⟨xs_return hp hv.r h⟩
theorem WX.comp {γc : Str → Option PV} {scope : Scope} {cl : List (Str × Addr)} {x : Str} {ifs : List Expr} {elt iter : Expr} {ins : List Int} {pz : Int → Bool} {out : Int → PV} {px py pos spos : Pos} {y : Str}
    (ok : EnvOk h₀ env) (F : Fm h₀ X env γ s.heap) (c : Cmp w A h₀ X env γ γc scope cl x ifs elt ins pz out) (it : It w A env (Fm h₀ X env γ) iter ins) (hz : ins.length ≤ sizeLine)
    (hsw : swapsWith (.ListComp elt [⟨.Name x px, iter, ifs, 0⟩] scope pos) (some (.Name y py)) spos.line env = pure true) (hy : env.kindOf y = some .local)
    (h : ∀ h' tk, Fm h₀ X env (upd γ y (.list ((ins.filter pz).map out))) h' → WX w A env Q E rest { s with heap := h', toks := tk }) (hs : ∀ x, foldedSetIterable iter env x = pure x := by intro _; rfl) :
    WX w A env Q E (.Assign [.Name y py] (.ListComp elt [⟨.Name x px, iter, ifs, 0⟩] scope pos) spos :: rest) s :=
  ⟨xs_comp ok F c it hz hsw hy (fun h' tk F' => (h h' tk F').run) hs⟩
end
end Mine

namespace Mine
open PySem PySem.W

theorem upd_upd {α : Type} (γ : Str → Option α) (x : Str) (a b : α) : upd (upd γ x a) x b = upd γ x b := by
  funext y; unfold upd; split <;> rfl

/-- what all parts of the law's walk lean on -/
structure Lc (mg mb : Str → Option Value) (g h₀ : Heap) (A : Around) (env : Env) : Prop where
  B : Bi mg mb
  Gg : Gd mg mb g
  hg : Ext g h₀
  hh : A.handled = none
  ok : EnvOk h₀ env
theorem Lc.gd {mg mb : Str → Option Value} {g h₀ : Heap} {A : Around} {env : Env} (c : Lc mg mb g h₀ A env) {γ : Str → Option PV} (h : Heap) (F : Fm h₀ nX env γ h) : Gd mg mb h := c.Gg.ext (c.hg.trans F.toExt)

def endsF (W : Nat) : List Int := ([[0], [0, 127, 3], [], [127, 4], [0, 0, 5]] : List (List Int)).getD W []
def frL (R S W : Nat) (c2 : Int) : List Int := (rng 0 (mnN W R)).map (frI R S c2)
def dueF (fr : List Int) (k W : Nat) : List Int := if (endsF W).take 1 = [0] then fr ++ List.replicate k (fr.getLastD 0) else fr

theorem V.uptoI {w : World} {A : Around} {env : Env} {P : Heap → Prop} {value up : Expr} {p pos : Pos} {xs : List Int} {b : Nat} (hP : Sta P) (h1 : V w A env P value (.list (xs.map .int))) (h2 : V w A env P up (.int b)) (hz : xs.length ≤ sizeLine)
    (ht : ∀ o r, letTemporaryGo value o r = pure () := by intro _ _; rfl) : V w A env P (.Subscript value (.Slice none (some up) none p) pos) (.list ((xs.take b).map .int)) := by
  have := V.upto (b := b) (p := p) (pos := pos) hP h1 h2 (by simpa using hz) ht
  rw [← List.map_take] at this
  exact this

abbrev γ11 (c0 c1 c2 c3 c4 : Int) (R S W : Nat) : Str → Option PV :=
  upd (upd (upd (upd (γ5 c0 c1 c2 c3 c4 R S W) (Str.ofString "front") (.list ((frL R S W c2).map .int))) (Str.ofString "ends") (.list ((endsF W).map .int))) (Str.ofString "due") (.list ((dueF (frL R S W c2) (R - mnN W R) W).map .int))) (Str.ofString "row") (.list ((frL R S W c2 ++ endsF W).map .int))

theorem law_c {w : World} {A : Around} {s : Shared} {E : Value → Shared → Prop} {Q : Flow → Shared → Prop} {h₀ g : Heap} {pm code doc : Value} {L a : Addr} {mg mb : Str → Option Value} {c0 c1 c2 c3 c4 : Int} {R S W : Nat} (c : Lc mg mb g h₀ A (lawE pm code doc L a))
    (hu : A.units + 200 < cLine) (hR : 2 ≤ R ∧ R ≤ 12) (hS : 1 ≤ S ∧ S ≤ 24) (hW : W < 5) (hmn : 1 ≤ mnN W R ∧ mnN W R < R)
    (F : Fm h₀ nX (lawE pm code doc L a) (upd (γ5 c0 c1 c2 c3 c4 R S W) (Str.ofString "front") (.list ((frL R S W c2).map .int))) s.heap)
    (h : ∀ h' tk, Fm h₀ nX (lawE pm code doc L a) (γ11 c0 c1 c2 c3 c4 R S W) h' →
      WX w A (lawE pm code doc L a) Q E ((sBody (top 13)).drop 11) { s with heap := h', toks := tk }) :
    WX w A (lawE pm code doc L a) Q E ((sBody (top 13)).drop 7) s := by
  have hlf : (frL R S W c2).length = mnN W R := by simp [frL, rng]
  have hz12 : (1000 : Nat) ≤ sizeLine := by decide
  -- ends
  have hends : ∀ W, W < 5 → ([.list [.int 0], .list [.int 0, .int 127, .int 3], .list [], .list [.int 127, .int 4], .list [.int 0, .int 0, .int 5]] : List PV)[W]? = some (.list ((endsF W).map .int)) := by
    intro W hW
    rcases W with _ | _ | _ | _ | _ | W <;> first | rfl | omega
  rw [drop_stm 7 (by decide)]
  refine WX.assign (d := .list ((endsF W).map .int)) c.ok F (V.item (i := W) (l := [.list [.int 0], .list [.int 0, .int 127, .int 3], .list [], .list [.int 127, .int 4], .list [.int 0, .int 0, .int 5]]) fm_sta
    (V.list (Vs.cons fm_sta (V.list (Vs.cons fm_sta V.int Vs.nil)) (Vs.cons fm_sta (V.list (Vs.cons fm_sta V.int (Vs.cons fm_sta V.int (Vs.cons fm_sta V.int Vs.nil)))) (Vs.cons fm_sta (V.list Vs.nil) (Vs.cons fm_sta (V.list (Vs.cons fm_sta V.int (Vs.cons fm_sta V.int Vs.nil))) (Vs.cons fm_sta (V.list (Vs.cons fm_sta V.int (Vs.cons fm_sta V.int (Vs.cons fm_sta V.int Vs.nil)))) Vs.nil))))) (show (5 : Nat) ≤ sizeLine by decide))
    (V.loc rfl rfl rfl) (by omega) (by omega) (by simpa using hends W hW)) rfl fun h1 t1 F1 => ?_
  rw [drop_stm 8 (by decide)]
  refine WX.assign (d := .list ((frL R S W c2).map .int)) c.ok F1 (V.loc rfl rfl rfl) rfl fun h2 t2 F2 => ?_
  have fin : ∀ h3 t3, Fm h₀ nX (lawE pm code doc L a) (upd (upd (upd (γ5 c0 c1 c2 c3 c4 R S W) (Str.ofString "front") (.list ((frL R S W c2).map .int))) (Str.ofString "ends") (.list ((endsF W).map .int))) (Str.ofString "due") (.list ((dueF (frL R S W c2) (R - mnN W R) W).map .int))) h3 →
      WX w A (lawE pm code doc L a) Q E ((sBody (top 13)).drop 10) { s with heap := h3, toks := t3 } := fun h3 t3 F3 => by
    rw [drop_stm 10 (by decide)]
    refine WX.assign (d := .list ((frL R S W c2 ++ endsF W).map .int)) c.ok F3 (V.congr (V.bin fm_sta (V.loc rfl rfl rfl) (V.loc rfl rfl rfl) (op_cat ((frL R S W c2).map .int) ((endsF W).map .int) ?_)) (by rw [List.map_append])) rfl fun h4 t4 F4 => ?_
    · have : (endsF W).length ≤ 3 := by
        rcases W with _ | _ | _ | _ | _ | W <;> first | decide | omega
      simp only [List.length_map, hlf]; omega
    · exact h h4 t4 F4
  have hlen3 : (endsF W).length ≤ 3 := by rcases W with _ | _ | _ | _ | _ | W <;> first | decide | omega
  rw [drop_stm 9 (by decide)]
  by_cases ht : (endsF W).take 1 = [0]
  · refine WX.ifYes F2 ((T.cmp fm_sta (V.uptoI (b := 1) (xs := endsF W) fm_sta (V.loc rfl rfl rfl) V.int (by omega)) (V.list (ds := ([0] : List Int).map .int) (Vs.cons fm_sta V.int Vs.nil)) (cm_eqInts _ _ (by omega))).congr (by rw [ht]; rfl)) fun h3 t3 x3 => ?_
    have F3 := fm_sta _ _ x3 F2
    refine WX.assign (d := .list ((dueF (frL R S W c2) (R - mnN W R) W).map .int)) c.ok F3 ?val rfl fun h4 t4 F4 => ?_
    case val =>
      refine V.congr (V.bin fm_sta (V.loc rfl rfl rfl) (V.bin fm_sta (V.list (ds := [.int ((frL R S W c2).getLastD 0)]) (Vs.cons fm_sta (V.itemNeg (i := -1) (l := (frL R S W c2).map .int) fm_sta (V.loc rfl rfl rfl) (V.neg V.int) (by decide) (by simp only [List.length_map, hlf]; omega) (by decide) ?_) Vs.nil) (show (1 : Nat) ≤ sizeLine by decide))
        (V.congr (V.bin fm_sta (V.cell (d := .int R) rfl rfl rfl rfl) (V.loc (d := .int (mnN W R)) rfl rfl rfl) (op_sub _ _)) (d' := .int ((R - mnN W R : Nat) : Int)) (by congr 1; omega)) (op_rep _ (R - mnN W R) (by omega))) (op_cat ((frL R S W c2).map .int) (List.replicate (R - mnN W R) _) (by simp only [List.length_map, hlf, List.length_replicate]; omega))) ?_
      · rw [List.length_map, List.getElem?_map, hlf]
        have e : ((-1 : Int) + (mnN W R : Int)).toNat = mnN W R - 1 := by omega
        rw [e, List.getLastD_eq_getLast?, List.getLast?_eq_getElem?, hlf]
        rw [List.getElem?_eq_getElem (by omega)]; rfl
      · unfold dueF
        rw [if_pos ht, List.map_append, List.map_replicate]
    refine WX.nil (fin h4 t4 ?_)
    rw [upd_upd] at F4
    exact F4
  · refine WX.ifNo F2 ((T.cmp fm_sta (V.uptoI (b := 1) (xs := endsF W) fm_sta (V.loc rfl rfl rfl) V.int (by omega)) (V.list (ds := ([0] : List Int).map .int) (Vs.cons fm_sta V.int Vs.nil)) (cm_eqInts _ _ (by omega))).congr (by simpa using ht)) fun h3 t3 x3 => ?_
    have F3 := fm_sta _ _ x3 F2
    have e : dueF (frL R S W c2) (R - mnN W R) W = frL R S W c2 := by unfold dueF; rw [if_neg ht]
    exact fin h3 t3 (by rw [e]; exact F3)
end Mine

namespace Mine
open PySem PySem.W

/-! what is told: the plain law -/
theorem tell_front (xs : List Int) : ∀ (fr post : List Int) (i n : Nat) (last : Option Int), xs.drop i = fr ++ post → (∀ x ∈ fr, x ≠ 0 ∧ x ≠ 127) →
    tellF xs (fr.length + n) (look xs i last) = fr ++ tellF xs n (look xs (i + fr.length) (match fr.getLast? with | some v => some v | none => last))
  | [], post, i, n, last, _, _ => by simp
  | x :: fr, post, i, n, last, h, hx => by
    have hi : xs[i]? = some x := by
      have := congrArg (fun l => l[0]?) h
      simpa using this
    have hd : xs.drop (i + 1) = fr ++ post := by
      have := congrArg (List.drop 1) h
      simpa [List.drop_drop, Nat.add_comm] using this
    obtain ⟨h0, h127⟩ := hx x (.head _)
    have e : look xs i last = some (x, .sus (i + 1) x) := by
      unfold look; rw [hi]; simp [h0, h127]
    rw [e, show (x :: fr).length + n = (fr.length + n) + 1 by simp; omega]
    show x :: tellF xs (fr.length + n) (GS.step xs (.sus (i + 1) x)) = _
    have := tell_front xs fr post (i + 1) n (some x) hd fun y hy => hx y (.tail _ hy)
    show x :: tellF xs (fr.length + n) (look xs (i + 1) (some x)) = _
    rw [this, List.cons_append]
    have e1 : i + 1 + fr.length = i + (x :: fr).length := by simp; omega
    have e2 : (match fr.getLast? with | some v => some v | none => some x) = (match (x :: fr).getLast? with | some v => some v | none => last) := by
      cases fr with
      | nil => simp
      | cons y ys => simp [List.getLast?_cons]
    rw [e1, e2]
theorem tell_rep (xs : List Int) (v : Int) : ∀ n, tellF xs n (some (v, .rep v)) = List.replicate n v
  | 0 => rfl
  | n + 1 => by
    show v :: tellF xs n (GS.step xs (.rep v)) = _
    show v :: tellF xs n (some (v, .rep v)) = _
    rw [tell_rep xs v n, List.replicate_succ]
theorem tell_none (xs : List Int) (n : Nat) : tellF xs n none = [] := by cases n <;> rfl

theorem told_due (fr : List Int) (W m R : Nat) (hW : W < 5) (hm : fr.length = m) (h1 : 1 ≤ m) (h2 : m < R) (hx : ∀ x ∈ fr, x ≠ 0 ∧ x ≠ 127) :
    tellF (fr ++ endsF W) R (look (fr ++ endsF W) 0 none) = dueF fr (R - m) W := by
  have key := tell_front (fr ++ endsF W) fr (endsF W) 0 (R - m) none (by simp) hx
  rw [hm, show m + (R - m) = R by omega] at key
  rw [key, Nat.zero_add]
  obtain ⟨v, hv⟩ : ∃ v, fr.getLast? = some v := by
    cases fr with
    | nil => simp at hm; omega
    | cons y ys => exact ⟨_, List.getLast?_cons⟩
  have hl : fr.getLastD 0 = v := by rw [List.getLastD_eq_getLast?, hv]; rfl
  simp only [hv]
  unfold dueF
  rw [hl]
  have hg : (fr ++ endsF W)[m]? = (endsF W)[0]? := by
    rw [List.getElem?_append_right (Nat.le_of_eq hm), hm, Nat.sub_self]
  have hlook : look (fr ++ endsF W) m (some v) = match (endsF W)[0]? with
    | none => none
    | some x => if x = 127 then none else if x = 0 then some (v, .rep v) else some (x, .sus (m + 1) x) := by
    unfold look; rw [hg]; rfl
  rw [hlook]
  rcases W with _ | _ | _ | _ | _ | W
  · show fr ++ tellF _ _ (some (v, .rep v)) = fr ++ _
    rw [tell_rep]
  · show fr ++ tellF _ _ (some (v, .rep v)) = fr ++ _
    rw [tell_rep]
  · show fr ++ tellF _ _ none = fr
    rw [tell_none, List.append_nil]
  · show fr ++ tellF _ _ none = fr
    rw [tell_none, List.append_nil]
  · show fr ++ tellF _ _ (some (v, .rep v)) = fr ++ _
    rw [tell_rep]
  · omega

theorem szI_of {d : Int} (h : 0 ≤ d ∧ d < 3) : szI d = 0 ∨ szI d = 64 ∨ szI d = -13 := by
  have : d = 0 ∨ d = 1 ∨ d = 2 := by omega
  rcases this with rfl | rfl | rfl
  · exact .inl rfl
  · exact .inr (.inl rfl)
  · exact .inr (.inr rfl)
theorem frI_of (R S : Nat) (c2 k : Int) : frI R S c2 k = S ∨ frI R S c2 k = S + R * 64 ∨ frI R S c2 k = S + R * (-13) := by
  have hd : 0 ≤ (c2.fdiv (3 ^ k.toNat)).fmod 3 ∧ (c2.fdiv (3 ^ k.toNat)).fmod 3 < 3 := ⟨Int.fmod_nonneg_of_pos _ (by decide), Int.fmod_lt_of_pos _ (by decide)⟩
  unfold frI
  rcases szI_of hd with h | h | h <;> rw [h]
  · left; omega
  · right; left; rfl
  · right; right; rfl
theorem frI_ok {R S : Nat} (hR : 2 ≤ R ∧ R ≤ 12) (hS : 1 ≤ S ∧ S ≤ 24) (c2 k : Int) : frI R S c2 k ≠ 0 ∧ frI R S c2 k ≠ 127 := by
  rcases frI_of R S c2 k with h | h | h <;> rw [h] <;> omega
theorem frL_ok {R S W : Nat} (hR : 2 ≤ R ∧ R ≤ 12) (hS : 1 ≤ S ∧ S ≤ 24) (c2 : Int) : ∀ x ∈ frL R S W c2, x ≠ 0 ∧ x ≠ 127 := fun x hx => by
  obtain ⟨k, _, rfl⟩ := List.mem_map.mp hx
  exact frI_ok hR hS c2 k
theorem frL_len (R S W : Nat) (c2 : Int) : (frL R S W c2).length = mnN W R := by simp [frL, rng]
theorem mn_ok {R W : Nat} (hR : 2 ≤ R ∧ R ≤ 12) (hW : W < 5) : 1 ≤ mnN W R ∧ mnN W R < R := by
  have : mx W R ≠ 0 := by
    rcases W with _ | _ | _ | _ | _ | W <;> simp [mx] <;> omega
  unfold mnN
  split <;> omega
theorem row_told {R S W : Nat} (hR : 2 ≤ R ∧ R ≤ 12) (hS : 1 ≤ S ∧ S ≤ 24) (hW : W < 5) (c2 : Int) :
    tellF (frL R S W c2 ++ endsF W) R (look (frL R S W c2 ++ endsF W) 0 none) = dueF (frL R S W c2) (R - mnN W R) W :=
  told_due _ W (mnN W R) R hW (frL_len ..) (mn_ok hR hW).1 (mn_ok hR hW).2 (frL_ok hR hS c2)
theorem row_head {R S W : Nat} (hR : 2 ≤ R ∧ R ≤ 12) (hS : 1 ≤ S ∧ S ≤ 24) (hW : W < 5) (c2 : Int) : (frL R S W c2 ++ endsF W)[0]? ≠ some 0 := by
  have hl := frL_len R S W c2
  have hm := mn_ok hR hW
  rw [List.getElem?_append_left (by omega)]
  intro e
  exact (frL_ok hR hS c2 0 (List.mem_of_getElem? e)).1 rfl

/-! where it leads: only the step counts -/
/-- the told row: each one is the step, but for whole rounds -/
theorem due_mod {R S W : Nat} (hR : 2 ≤ R ∧ R ≤ 12) (hS : 1 ≤ S ∧ S ≤ 24) (hW : W < 5) (c2 : Int) : ∀ x ∈ dueF (frL R S W c2) (R - mnN W R) W, ∃ q : Int, x = S + R * q := by
  have hf : ∀ x ∈ frL R S W c2, ∃ q : Int, x = S + R * q := fun x hx => by
    obtain ⟨k, _, rfl⟩ := List.mem_map.mp hx
    rcases frI_of R S c2 k with h | h | h
    · exact ⟨0, by omega⟩
    · exact ⟨64, h⟩
    · exact ⟨-13, h⟩
  intro x hx
  unfold dueF at hx
  split at hx
  · rcases List.mem_append.mp hx with h | h
    · exact hf x h
    · obtain ⟨_, rfl⟩ := List.mem_replicate.mp h
      have hl := frL_len R S W c2
      have hm := mn_ok hR hW
      cases hfr : frL R S W c2 with
      | nil => rw [hfr] at hl; simp at hl; omega
      | cons y ys =>
        rw [hfr] at hf
        refine hf _ ?_
        rw [List.getLastD_eq_getLast?, List.getLast?_cons]
        simp only [Option.getD_some]
        cases ys with
        | nil => simp
        | cons z zs =>
          rw [List.getLast?_cons]
          exact List.mem_cons_of_mem _ (by
            have := List.getLast_mem (l := z :: zs) (by simp)
            simpa [List.getLast?_cons, List.getLast_eq_getLastD] using this)
  · exact hf x hx
theorem due_len {R S W : Nat} (hR : 2 ≤ R ∧ R ≤ 12) (hW : W < 5) (c2 : Int) : R - 1 ≤ (dueF (frL R S W c2) (R - mnN W R) W).length ∧ (dueF (frL R S W c2) (R - mnN W R) W).length ≤ R := by
  have hl := frL_len R S W c2
  have hm := mn_ok hR hW
  unfold dueF
  split
  · rw [List.length_append, List.length_replicate, hl]; omega
  · rename_i hn
    rw [hl]
    have : mnN W R = R - 1 := by
      rcases W with _ | _ | _ | _ | _ | W
      · exact absurd rfl hn
      · exact absurd rfl hn
      · show (if R - 1 < R then R - 1 else R) = R - 1
        rw [if_pos (by omega)]
      · show (if R - 1 < R then R - 1 else R) = R - 1
        rw [if_pos (by omega)]
      · exact absurd rfl hn
      · omega
    omega
/-- the places, by the step alone -/
def plc (R S : Nat) : List Int := (List.range R).map fun i => (((i * S % R : Nat)) : Int)
theorem walk_mod (R S : Nat) (hR : 0 < R) : ∀ (xs : List Int) (i : Nat), (∀ x ∈ xs, ∃ q : Int, x = S + R * q) → walkP R ((i * S % R : Nat) : Int) xs = (List.range xs.length).map fun j => ((((i + 1 + j) * S % R : Nat)) : Int)
  | [], i, _ => rfl
  | x :: xs, i, h => by
    obtain ⟨q, hq⟩ := h x (.head _)
    have e : (((i * S % R : Nat) : Int) + x).fmod R = (((i + 1) * S % R : Nat) : Int) := by
      rw [hq, Int.fmod_eq_emod_of_nonneg _ (by omega), ← Int.add_assoc, Int.add_mul_emod_self_left]
      rw [Int.natCast_emod, Int.natCast_emod, Int.emod_add_emod]
      congr 1
      push_cast
      rw [Int.add_mul]; omega
    unfold walkP
    rw [e, walk_mod R S hR xs (i + 1) fun y hy => h y (.tail _ hy)]
    rw [List.length_cons, List.range_succ_eq_map, List.map_cons, List.map_map]
    congr 1
    apply List.map_congr_left
    intro j _
    show (((i + 1 + 1 + j) * S % R : Nat) : Int) = (((i + 1 + (j + 1)) * S % R : Nat) : Int)
    rw [show i + 1 + 1 + j = i + 1 + (j + 1) by omega]
theorem places_eq {R S W : Nat} (hR : 2 ≤ R ∧ R ≤ 12) (hS : 1 ≤ S ∧ S ≤ 24) (hW : W < 5) (c2 : Int) :
    (0 : Int) :: walkP R 0 ((dueF (frL R S W c2) (R - mnN W R) W).take (R - 1)) = plc R S := by
  have hl := due_len (S := S) hR hW c2
  have hm := due_mod hR hS hW c2
  have := walk_mod R S (by omega) ((dueF (frL R S W c2) (R - mnN W R) W).take (R - 1)) 0 fun x hx => hm x (List.mem_of_mem_take hx)
  rw [Nat.zero_mul, Nat.zero_mod] at this
  rw [show ((0 : Nat) : Int) = 0 by rfl] at this
  rw [this, List.length_take, Nat.min_eq_left hl.1]
  unfold plc
  obtain ⟨r, hr⟩ : ∃ r, R = r + 1 := ⟨R - 1, by omega⟩
  rw [show List.range R = List.range (r + 1) by rw [hr], List.range_succ_eq_map, List.map_cons, List.map_map, show R - 1 = r by omega]
  congr 1
  · simp
  · apply List.map_congr_left
    intro j _
    show (((0 + 1 + j) * S % R : Nat) : Int) = (((j + 1) * S % R : Nat) : Int)
    rw [show 0 + 1 + j = j + 1 by omega]
end Mine

namespace Mine
open PySem PySem.W PySem.W.X
open PyProof.Rows (AllBare)

def Sm (s s' : Shared) : Prop := ∃ h tk gs, s' = { s with heap := h, toks := tk, gens := gs } ∧ (AllBare s.gens → AllBare gs)
theorem Sm.refl (s : Shared) : Sm s s := ⟨_, _, _, rfl, id⟩
theorem Sm.mk' (s : Shared) (h : Heap) (tk : Nat) : Sm s { s with heap := h, toks := tk } := ⟨_, _, _, rfl, id⟩
theorem Sm.trans {a b c : Shared} (x : Sm a b) (y : Sm b c) : Sm a c := by
  obtain ⟨h, t, g, rfl, k⟩ := x
  obtain ⟨h', t', g', rfl, k'⟩ := y
  exact ⟨h', t', g', rfl, fun z => k' (k z)⟩
theorem Sm.kr {F : List Addr} {a b : Shared} (x : Kr F a b) : Sm a b := by
  obtain ⟨h, t, g, rfl, _, _, k⟩ := x
  exact ⟨h, t, g, rfl, k⟩
theorem Sm.keeps {a b : Shared} (x : Keeps a b) : Sm a b := by
  obtain ⟨h, t, rfl, _⟩ := x
  exact Sm.mk' ..

/-- a value's walk, closed -/
structure WV (w : World) (A : Around) (env : Env) (Q : Value → Shared → Prop) (E : Value → Shared → Prop) (e : Expr) (s : Shared) : Prop where
  run : wpAny (model pr w) A (eval e env) Q E s

/-- the ground that the law's calls need -/
structure Ld (mg mb : Str → Option Value) (g h₀ : Heap) (A : Around) (env : Env) (a3 a7 a9 a10 a11 C : Addr) : Prop extends Lc mg mb g h₀ A env where
  f3 : FnAt mg g (top 3) a3
  f7 : FnAt mg g (top 7) a7
  f9 : FnAt mg g (top 9) a9
  f10 : FnAt mg g (top 10) a10
  f11 : FnAt mg g (top 11) a11
  O : OwnS mg C g
  hfr : A.frames = some [env]
  hfL : env.frame = some env.locals
  hu : A.units + 1000 < cLine
  hd : A.depth + 50 < recursionLimit
  gL : g.get? env.locals = none
  glo : env.globals = mainGlobals

section
variable {w : World} {A : Around} {env : Env} {h₀ g : Heap} {γ : Str → Option PV} {mg mb : Str → Option Value} {a3 a7 a9 a10 a11 C : Addr}
theorem Ld.frs (c : Ld mg mb g h₀ A env a3 a7 a9 a10 a11 C) {h : Heap} (F : Fm h₀ nX env γ h) : Frs [env] h := by
  obtain ⟨m, cm, hn, _, _⟩ := F.ex
  exact Frs.cons (fun e he => by cases he) c.ok.kind c.hfL hn
theorem Ld.frA (c : Ld mg mb g h₀ A env a3 a7 a9 a10 a11 C) : ∀ b ∈ Mine.frA [env], b = env.locals := fun b hb => by
  obtain ⟨ev, hev, hf⟩ := List.mem_filterMap.mp hb
  simp only [List.mem_cons, List.not_mem_nil, or_false] at hev
  subst hev
  rw [c.hfL] at hf; cases hf; rfl
theorem Ld.gF (c : Ld mg mb g h₀ A env a3 a7 a9 a10 a11 C) : ∀ b ∈ Mine.frA [env], g.get? b = none := fun b hb => by rw [c.frA b hb]; exact c.gL
theorem Ld.kr (c : Ld mg mb g h₀ A env a3 a7 a9 a10 a11 C) {s s' : Shared} (F : Fm h₀ nX env γ s.heap) (k : Kr (Mine.frA [env]) s s') : Fm h₀ nX env γ s'.heap :=
  F.kr k (fun b hb => .inr (by rw [c.frA b hb]; exact c.ok.freshL)) (c.frs F).ns
end

section
variable {w : World} {A : Around} {env : Env} {P : Heap → Prop} {s : Shared} {E : Value → Shared → Prop}
theorem WV.call {f : Str} {a : Addr} {st : Stmt} {p pos : Pos} {e : Expr} {es : List Expr} {ds : List PV} {mg : Str → Option Value} {Q : Value → Shared → Prop} (hkd : env.scope.kind = .function) (hk : env.kindOf f = some .globalImplicit) (hf : sName st = f)
    (hg : s.heap.Ns env.globals mg) (fa : FnAt mg s.heap st a) (hn : noStar (e :: es) = true) (h : Vs w A env P (e :: es) ds) (hp : P s.heap)
    (hc : ∀ vs s', ValsAre s'.heap ds vs → Keeps s s' → wpAny (model pr w) A (call (.ref a) vs) Q E s') (hd : (f == ("__debug__" : Str)) = false := by decide) :
    WV w A env Q E (.Call (.Name f p) (e :: es) [] pos) s := by
  obtain ⟨o, pm, code, doc, hmg, ho, hdd, _⟩ := fa
  subst hf
  refine ⟨?_⟩
  refine wpAny_Call_Name_kw ?_
  refine Calls.Name_function_global hkd hk ?_ hd
  refine Calls.loadGlobal_global hg hmg ?_
  refine Calls.callWith_function (o := o) (fd := fdOf st pm code doc) (first := []) ?_
  refine args_at hn h.r hp ?_
  intro us s2 hus k
  exact ⟨⟨kExt k _ _ ho, hdd⟩, hc us s2 hus k⟩
theorem WX.ifNot2 {x y : Expr} {p1 p2 p pos : Pos} {body rest : List Stmt} {Q : Flow → Shared → Prop}
    (h : WV w A env (fun v s1 => v = .bool true ∧ WV w A env (fun v' s2 => v' = .bool true ∧ WX w A env Q E rest s2) E y s1) E x s)
    (hx : ∀ whole, isTrue x env whole = (do let v ← whole; standAt x.pos; holding [v] (truthy v)) := by intro _; rfl) (hy : ∀ whole, isTrue y env whole = (do let v ← whole; standAt y.pos; holding [v] (truthy v)) := by intro _; rfl) :
    WX w A env Q E (.If (.BoolOp .Or [.UnaryOp .Not x p1, .UnaryOp .Not y p2] p) body [] pos :: rest) s := by
  refine ⟨wpAny_execs_cons (wpAny_If (wpAny_isTrue_BoolOp (wpAny_allTrue_Or_cons (wpAny_isTrue_Not (wpAny_isTrue_value (wpAny_mono h.run (fun v s1 h1 => ?_) fun _ _ e => e) (hx _))))))⟩
  obtain ⟨rfl, h1⟩ := h1
  refine wpAny_truthy_bool ?_
  show wpAny _ _ (allTrue .Or [.UnaryOp .Not y p2] env) _ _ _
  refine wpAny_allTrue_Or_cons (wpAny_isTrue_Not (wpAny_isTrue_value (wpAny_mono h1.run (fun v s2 h2 => ?_) fun _ _ e => e) (hy _)))
  obtain ⟨rfl, h2⟩ := h2
  refine wpAny_truthy_bool ?_
  show wpAny _ _ (allTrue .Or [] env) _ _ _
  refine wpAny_allTrue_Or_nil ?_
  show wpAny _ _ (execs [] env) _ _ _
  exact wpAny_execs_nil h2.run
end

abbrev γ15 (c0 c1 c2 c3 c4 : Int) (R S W : Nat) : Str → Option PV :=
  upd (upd (upd (upd (fun _ => none) (Str.ofString "cells") (.list ([c0, c1, c2, c3, c4].map .int))) (Str.ofString "ring") (.int R)) (Str.ofString "step") (.int S)) (Str.ofString "told") (.list ((dueF (frL R S W c2) (R - mnN W R) W).map .int))

theorem law_d {w : World} {A : Around} {s : Shared} {E : Value → Shared → Prop} {Q : Flow → Shared → Prop} {h₀ g : Heap} {pm code doc : Value} {L a : Addr} {mg mb : Str → Option Value} {c0 c1 c2 c3 c4 : Int} {R S W : Nat} {a3 a7 a9 a10 a11 C : Addr} (c : Ld mg mb g h₀ A (lawE pm code doc L a) a3 a7 a9 a10 a11 C)
    (hR : 2 ≤ R ∧ R ≤ 12) (hS : 1 ≤ S ∧ S ≤ 24) (hW : W < 5)
    (F : Fm h₀ nX (lawE pm code doc L a) (γ11 c0 c1 c2 c3 c4 R S W) s.heap)
    (h : ∀ s', Sm s s' → Fm h₀ nX (lawE pm code doc L a) (γ15 c0 c1 c2 c3 c4 R S W) s'.heap → WX w A (lawE pm code doc L a) Q E ((sBody (top 13)).drop 15) s') :
    WX w A (lawE pm code doc L a) Q E ((sBody (top 13)).drop 11) s := by
  have hu := c.hu
  have hdd := c.hd
  have hmn := mn_ok hR hW
  have hlf := frL_len R S W c2
  have hlen3 : (endsF W).length ≤ 3 := by rcases W with _ | _ | _ | _ | _ | W <;> first | decide | omega
  have hz12 : (1000 : Nat) ≤ sizeLine := by decide
  refine ⟨told_loop c.B c.Gg c.hg c.f7 c.hh (by omega) c.ok F rfl rfl rfl rfl hR (row_head hR hS hW c2) fun h1 t1 gs1 hb1 F1 => ?_⟩
  rw [row_told hR hS hW c2] at F1
  suffices hh : WX w A (lawE pm code doc L a) Q E ((sBody (top 13)).drop 13) { s with heap := h1, toks := t1, gens := gs1 } from hh.run
  have sm1 : Sm s { s with heap := h1, toks := t1, gens := gs1 } := ⟨_, _, _, rfl, hb1⟩
  have F1 : Fm h₀ nX (lawE pm code doc L a) (upd (γ11 c0 c1 c2 c3 c4 R S W) (Str.ofString "told") (.list ((dueF (frL R S W c2) (R - mnN W R) W).map .int))) ({ s with heap := h1, toks := t1, gens := gs1 } : Shared).heap := F1
  generalize ({ s with heap := h1, toks := t1, gens := gs1 } : Shared) = s1 at sm1 F1 ⊢
  generalize hdue : dueF (frL R S W c2) (R - mnN W R) W = due at F1 h F
  rw [drop_stm 13 (by decide)]
  refine WX.ifNo F1 (T.or2 (a := false) fm_sta ((T.cmp fm_sta (V.loc (d := .list (due.map .int)) rfl rfl rfl) (V.loc (d := .list (due.map .int)) rfl rfl (by rw [← hdue]; rfl)) (cm_neInts _ _ (by omega))).congr (by simp)) (fun _ => (T.cmp fm_sta (V.loc (d := .list ((frL R S W c2 ++ endsF W).map .int)) rfl rfl rfl)
    (V.congr (V.bin fm_sta (V.loc rfl rfl rfl) (V.loc rfl rfl rfl) (op_cat ((frL R S W c2).map .int) ((endsF W).map .int) (by simp only [List.length_map, hlf]; omega))) (by rw [List.map_append])) (cm_neInts _ _ (by omega))).congr (by simp)) (by simp)) fun h2 t2 x2 => ?_
  have F2 := fm_sta _ _ x2 F1
  rw [drop_stm 14 (by decide)]
  have xg : ∀ {γ : Str → Option PV} {h : Heap}, Fm h₀ nX (lawE pm code doc L a) γ h → Ext g h := fun F => c.hg.trans F.toExt
  refine WX.ifNot2 (WV.call (P := Fm h₀ nX (lawE pm code doc L a) _) rfl rfl rfl (c.Gg.g.keeps (xg F2)) (c.f9.ext (xg F2)) rfl (Vs.cons fm_sta (V.congr (V.bin fm_sta (V.list (ds := [.int 0]) (Vs.cons fm_sta V.int Vs.nil)) (V.loc rfl rfl rfl) (op_cat [.int 0] ((frL R S W c2).map .int) (by simp only [List.length_map, List.length_cons, List.length_nil, hlf]; omega)))
    (show _ = PV.list (((0 : Int) :: frL R S W c2).map .int) by rfl)) Vs.nil) F2 fun vs s3 hv k3 => ?_)
  have F3 := fm_sta _ _ (kExt k3) F2
  refine wpAny_mono (refused_ok (w := w) c.B c.Gg (xg F3) c.f7 c.f9 c.hfr (c.frs F3) c.gF c.hh (by omega) (by omega) hv rfl) (fun v s4 h4 => ?_) fun _ _ e => e
  obtain ⟨rfl, k4⟩ := h4
  have F4 := c.kr F3 k4
  refine ⟨rfl, WV.call (P := Fm h₀ nX (lawE pm code doc L a) _) rfl rfl rfl (c.Gg.g.keeps (xg F4)) (c.f11.ext (xg F4)) rfl (Vs.cons fm_sta (V.congr (V.bin fm_sta (V.list (ds := [.int 127]) (Vs.cons fm_sta V.int Vs.nil)) (V.loc rfl rfl rfl) (op_cat [.int 127] ((frL R S W c2).map .int) (by simp only [List.length_map, List.length_cons, List.length_nil, hlf]; omega)))
    (show _ = PV.list (((127 : Int) :: frL R S W c2).map .int) by rfl)) Vs.nil) F4 fun vs s5 hv k5 => ?_⟩
  have F5 := fm_sta _ _ (kExt k5) F4
  refine wpAny_mono (alone_ok (w := w) c.B c.Gg (xg F5) c.f3 c.f10 c.O c.f7 c.f11 c.hfr (c.frs F5) c.gF c.hh (by omega) (by omega) hv rfl) (fun v s6 h6 => ?_) fun _ _ e => e
  obtain ⟨rfl, k6⟩ := h6
  have F6 := c.kr F5 k6
  refine ⟨rfl, h s6 (sm1.trans ((Sm.mk' s1 h2 t2).trans ((Sm.keeps k3).trans ((Sm.kr k4).trans ((Sm.keeps k5).trans (Sm.kr k6)))))) (F6.weaken fun x d q => ?_)⟩
  unfold γ15 at q
  unfold upd at q ⊢
  by_cases h1 : x = Str.ofString "told"
  · subst h1; rw [if_pos rfl] at q ⊢; rw [← q, hdue]
  · rw [if_neg h1] at q ⊢
    by_cases h2 : x = Str.ofString "step"
    · subst h2; rw [if_pos rfl] at q; exact q
    · rw [if_neg h2] at q
      by_cases h3 : x = Str.ofString "ring"
      · subst h3; rw [if_pos rfl] at q; exact q
      · rw [if_neg h3] at q
        by_cases h4 : x = Str.ofString "cells"
        · subst h4; rw [if_pos rfl] at q; exact q
        · rw [if_neg h4] at q; cases q
end Mine

namespace Mine
open PySem PySem.W

/-! a comprehension of two clauses -/
theorem turn_in (elt t1 i1 target iter : Expr) (scope : Scope) (pos : Pos) (it acc : Value) (env : Env) :
    compTurn (.ListComp elt [⟨t1, i1, [], 0⟩, ⟨target, iter, [], 0⟩] scope pos) 1 it acc env = (standAt iter.pos >>= fun _ => pyNext it >>= fun r => match r with
      | none => pure (.done .next)
      | some v => letOwnedTupleGo target it v >>= fun _ => assign target env v >>= fun _ =>
        (eval elt env >>= fun x => call (.builtin "list.append") [acc, x] >>= fun _ => pure ()) >>= fun _ =>
          again (.compLoop (.ListComp elt [⟨t1, i1, [], 0⟩, ⟨target, iter, [], 0⟩] scope pos) 1 it acc env)) := by rfl
theorem turn_out (elt target iter t2 i2 : Expr) (scope : Scope) (pos : Pos) (it acc : Value) (env : Env) :
    compTurn (.ListComp elt [⟨target, iter, [], 0⟩, ⟨t2, i2, [], 0⟩] scope pos) 0 it acc env = (standAt iter.pos >>= fun _ => pyNext it >>= fun r => match r with
      | none => pure (.done .next)
      | some v => letOwnedTupleGo target it v >>= fun _ => assign target env v >>= fun _ =>
        eval i2 env >>= fun x => standAt i2.pos >>= fun _ => foldedSetIterable i2 env x >>= fun x => holding [x] (pyIter x) >>= fun i =>
          runOwn (.compStart (.ListComp elt [⟨target, iter, [], 0⟩, ⟨t2, i2, [], 0⟩] scope pos) 1 i acc env) env >>= fun _ =>
          again (.compLoop (.ListComp elt [⟨target, iter, [], 0⟩, ⟨t2, i2, [], 0⟩] scope pos) 0 it acc env)) := by rfl

section
variable {w : World} {A : Around} {R : Result → Shared → Prop} {s : Shared}
theorem start_in {elt t1 i1 target iter scope pos it acc env}
    (h0 : codeAny (model pr w) A (.compLoop (.ListComp elt [⟨t1, i1, [], 0⟩, ⟨target, iter, [], 0⟩] scope pos) 1 it acc env) R s)
    (h : wpAny (model pr w) A (pyIter it) (fun it' s' => codeAny (model pr w) A (.compLoop (.ListComp elt [⟨t1, i1, [], 0⟩, ⟨target, iter, [], 0⟩] scope pos) 1 it' acc env) R s')
      (notedBy (model pr w) A env fun x s' => R (.error x) s') s) :
    codeAny (model pr w) A (.compStart (.ListComp elt [⟨t1, i1, [], 0⟩, ⟨target, iter, [], 0⟩] scope pos) 1 it acc env) R s := by
  refine codeAny_of_tree ?_
  show wpAny _ _ ((compStart (.ListComp elt [⟨t1, i1, [], 0⟩, ⟨target, iter, [], 0⟩] scope pos) 1 it acc env).onRaise (fun x => do noteFrame x env; standAt theWindowsPlace)) _ _ s
  refine wpAny_notedAt ?_
  unfold compStart
  show wpAny _ _ (ask >>= _) _ _ s
  refine wpAny_bind (wpAny_askSetting (wpAny_ite ?_))
  split
  · first
      | exact wpAny_bind (wpAny_pure (wpAny_pure (And.intro rfl h0)))
      | exact wpAny_pure (And.intro rfl h0)
  · first
      | exact wpAny_bind (wpAny_rule (wpAny_bind (wpAny_standAt (wpAny_bind (wpAny_mono h (fun it' s' h' => wpAny_pure (And.intro rfl h')) fun _ _ x => x)))))
      | (refine wpAny_bind (wpAny_rule ?_); show wpAny _ _ (standAt iter.pos >>= _) _ _ s; exact wpAny_bind (wpAny_standAt (wpAny_bind (wpAny_mono h (fun it' s' h' => wpAny_pure (And.intro rfl h')) fun _ _ x => x))))

/-- the inner loop -/
theorem comp_in {elt t1 i1 iter : Expr} {y : Str} {py : Pos} {scope : Scope} {pos : Pos} {J D : Addr} {fp wr : List Addr} {Pi : Nat → Value → Prop} {St : Nat → Heap → Prop}
    {cenv : Env} {m : Str → Option Value} {ins : List Int} {out : Int → PV} {ys : List Value} (W : Walks pr w A J fp wr ins.length Pi St)
    (hPi : ∀ i v, Pi i v → ∃ k t, ins[i]? = some k ∧ v = .int k t)
    (hy : cenv.kindOf y = some .local) (hp : (cenv.scope.kind == .class || (cenv.scope.kind == .module && cenv.locals != cenv.globals)) = false)
    (hDC : D ≠ cenv.locals) (hDf : D ∉ fp) (hCf : cenv.locals ∉ fp)
    (hst : St 0 s.heap) (hacc : s.heap.PlainList D ys.toArray) (hn : s.heap.Ns cenv.locals m)
    (helt : ∀ k t s₂ m₂ E, k ∈ ins → s₂.heap.Ns cenv.locals m₂ → m₂ y = some (.int k t) → (∀ z, z ≠ y → m₂ z = m z) → (∀ b o, b ≠ cenv.locals → b ∉ wr → b ≠ D → s.heap.get? b = some o → s₂.heap.get? b = some o) →
      wpAny (model pr w) A (eval elt cenv) (fun r s₃ => (∀ h, ValIs h (out k) r) ∧ Keeps s₂ s₃) E s₂)
    (hR : ∀ h' tk m' zs, h'.Ns cenv.locals m' → (∀ z, z ≠ y → m' z = m z) → h'.PlainList D (List.toArray (ys ++ zs)) → (∀ h, ValsAre h (ins.map out) zs) →
      (∀ b o, b ≠ cenv.locals → b ∉ wr → b ≠ D → s.heap.get? b = some o → h'.get? b = some o) → R (.ok .next) { s with heap := h', toks := tk })
    (hsz : ys.length + ins.length ≤ sizeLine) :
    codeAny (model pr w) A (.compLoop (.ListComp elt [⟨t1, i1, [], 0⟩, ⟨.Name y py, iter, [], 0⟩] scope pos) 1 (.ref J) (.ref D) cenv) R s := by
  have hCw : cenv.locals ∉ wr := fun h => hCf (W.sub _ h)
  have hDw : D ∉ wr := fun h => hDf (W.sub _ h)
  refine codeAny_loop rfl (fun n s' => ∃ h' tk m' zs i, s' = { s with heap := h', toks := tk } ∧ St i h' ∧ h'.PlainList D (List.toArray (ys ++ zs)) ∧ h'.Ns cenv.locals m' ∧ (∀ z, z ≠ y → m' z = m z) ∧
      (∀ h, ValsAre h ((ins.take i).map out) zs) ∧ i ≤ ins.length ∧ n = ins.length + 1 - i ∧ (∀ b o, b ≠ cenv.locals → b ∉ wr → b ≠ D → s.heap.get? b = some o → h'.get? b = some o)) ?_ (ins.length + 1)
    ⟨s.heap, s.toks, m, [], 0, rfl, hst, by simpa using hacc, hn, fun _ _ => rfl, fun h => by simp [ValsAre], Nat.zero_le _, rfl, fun _ _ _ _ _ e => e⟩
  rintro n s' ⟨H, tk, m', zs, i, rfl, hst', hacc', hn', hm', hz, hi, rfl, hk⟩
  show wpAny _ A ((compTurn (.ListComp elt [⟨t1, i1, [], 0⟩, ⟨.Name y py, iter, [], 0⟩] scope pos) 1 (.ref J) (.ref D) cenv).onRaise (fun x => do noteFrame x cenv; theTreesLotGoes x)) _ _ _
  refine wpAny_noted ?_
  rw [turn_in]
  refine wpAny_bind (wpAny_standAt (wpAny_bind ?_))
  by_cases hlt : i < ins.length
  · refine W.item i _ _ _ hlt hst' fun v h₁ tk₁ hPv hst₁ hk₁ => ?_
    obtain ⟨k, t, hik, rfl⟩ := hPi i v hPv
    refine wpAny_bind (wpAny_pure ?_)
    refine wpAny_bind (wpAny_assign_Name (wpAny_storeName_local hy (hn'.at' fun o e => hk₁ _ o hCw e) (fun h₂ hn₂ hs₂ => ?_) hp))
    have up₂ : ∀ b o, b ≠ cenv.locals → b ∉ wr → H.get? b = some o → h₂.get? b = some o := fun b o hbC hbf e => hs₂.extBut b o hbC (hk₁ b o hbf e)
    have hst₂ : St (i + 1) h₂ := W.frame _ _ _ hst₁ fun b hb o e => hs₂.extBut b o (fun h => hCf (h ▸ hb)) e
    refine wpAny_bind (wpAny_bind (wpAny_mono (helt k t { s with heap := h₂, toks := _ } _ _ (List.mem_of_getElem? hik) hn₂ (by simp) (fun z hz => by simp only [if_neg hz]; exact hm' z hz) (fun b o hbC hbf hbD e => up₂ b o hbC hbf (hk b o hbC hbf hbD e))) (fun r s₃ h₃ => ?_) fun _ _ e => e))
    obtain ⟨hr, h₃, tk₃, rfl, hk₃⟩ := h₃
    have hst₃ : St (i + 1) h₃ := W.frame _ _ _ hst₂ fun b _ o e => hk₃ b o e
    have hacc₃ : h₃.PlainList D (List.toArray (ys ++ zs)) := hacc'.at fun o e => hk₃ _ o (up₂ D o hDC hDw e)
    have hn₃ := hn₂.keeps hk₃
    have hzl : zs.length = i := by rw [(hz default).length]; simp; omega
    refine wpAny_bind (wpAny_list_append_plain (hsz := by simp only [List.size_toArray, List.length_append]; omega) hacc₃ fun h₄ hl₄ hs₄ => ?_)
    refine wpAny_pure (wpAny_pure ⟨rfl, ins.length + 1 - (i + 1), by omega, h₄, _, _, zs ++ [r], i + 1, rfl, ?_, by simpa using hl₄, hn₃.sameBut hs₄ (Ne.symm hDC), ?_, ?_, hlt, rfl, fun b o hbC hbf hbD e => hs₄.extBut b o hbD (hk₃ b o (up₂ b o hbC hbf (hk b o hbC hbf hbD e)))⟩)
    · exact W.frame _ _ h₄ hst₃ fun b hb o e => hs₄.extBut b o (fun h => hDf (h ▸ hb)) e
    · intro z hz; simp only [if_neg hz]; exact hm' z hz
    · intro h
      have e : ins.take (i + 1) = ins.take i ++ [k] := by rw [List.take_add_one, hik]; rfl
      rw [e, List.map_append]
      exact (hz h).append (ValsAre.cons (hr h) ValsAre.nil)
  · have hin : i = ins.length := by omega
    subst hin
    refine W.done _ _ _ hst' fun h₁ tk₁ hk₁ => wpAny_pure ?_
    refine hR h₁ tk₁ m' zs (hn'.at' fun o e => hk₁ _ o hCw e) hm' (hacc'.at fun o e => hk₁ _ o hDw e) (by simpa using hz) fun b o hbC hbf hbD e => hk₁ b o hbf (hk b o hbC hbf hbD e)
end
end Mine

namespace Mine
open PySem PySem.W

/-- what a range tells: all of its walk's footprint is new -/
def ItR (w : World) (A : Around) (env : Env) (P : Heap → Prop) (iter : Expr) (ins : List Int) : Prop :=
  ∀ (s : Shared) (E : Value → Shared → Prop), P s.heap → wpAny (model pr w) A (eval iter env) (fun xv s₁ => wpAny (model pr w) A (pyIter xv) (fun it s₂ => Keeps s s₁ ∧ Keeps s₁ s₂ ∧ ∃ I fp wr Pi St, it = .ref I ∧ Walks pr w A I fp wr ins.length Pi St ∧ St 0 s₂.heap ∧ (∀ b ∈ fp, b < s₂.heap.objs.size) ∧ (∀ b ∈ fp, s₁.heap.get? b = none) ∧
    ∀ i v, Pi i v → ∃ k t, ins[i]? = some k ∧ v = .int k t) E s₁) E s

section
variable {w : World} {A : Around} {env : Env} {P : Heap → Prop}
theorem range_itR {s s' : Shared} {E : Value → Shared → Prop} {r : Addr} {lo hi : Int} {t u v : Tok} (hh : A.handled = none) (k : Keeps s s') (hr : IsRange s'.heap r lo hi 1 t u v) (h1 : -(2 ^ 62) ≤ lo) (h2 : lo < 2 ^ 62) (h3 : -(2 ^ 62) ≤ hi) (h4 : hi < 2 ^ 62) (n : Nat) (hn : n = (hi - lo).toNat) :
    wpAny (model pr w) A (pyIter (.ref r)) (fun it s₂ => Keeps s s' ∧ Keeps s' s₂ ∧ ∃ I fp wr Pi St, it = .ref I ∧ Walks pr w A I fp wr (rng lo n).length Pi St ∧ St 0 s₂.heap ∧ (∀ b ∈ fp, b < s₂.heap.objs.size) ∧ (∀ b ∈ fp, s'.heap.get? b = none) ∧
      ∀ i v, Pi i v → ∃ k t, (rng lo n)[i]? = some k ∧ v = .int k t) E s' := by
  refine wpAny_pyIter_range hr (small_one h1 h2 h3 h4) ?_
  have hsz : Builtin.Range.rangeSize lo hi 1 = (n : Int) := by rw [rangeSize_one, hn]; split <;> omega
  have hl : (rng lo n).length = n := by simp [rng]
  have W := Walks.range (prog := pr) (w := w) hh s'.heap.objs.size lo 1 n
  refine ⟨k, kHeap s' _ s'.toks (Ext.push _ _), s'.heap.objs.size, [s'.heap.objs.size], [s'.heap.objs.size], fun i v => i < n ∧ ∃ t, v = .int (lo + (i : Int) * 1) t, fun i h => IsRangeIter h s'.heap.objs.size (lo + (i : Int) * 1) ((n : Int) - (i : Int)) 1, rfl, ?_, ?_, ?_, ?_, ?_⟩
  · rw [hl]
    exact ⟨W.sub, W.frame, fun i s Q E hi st hQ => W.item i s Q E hi st fun v h' tk hp st' m => hQ v h' tk ⟨hi, hp⟩ st' m, W.done, W.self⟩
  · show IsRangeIter _ _ (lo + ((0 : Nat) : Int) * 1) ((n : Int) - ((0 : Nat) : Int)) 1
    rw [show (lo + ((0 : Nat) : Int) * 1) = lo by simp, show ((n : Int) - ((0 : Nat) : Int)) = Builtin.Range.rangeSize lo hi 1 by rw [hsz]; simp]
    exact Heap.get?_push_size _ rfl
  · intro b hb
    simp only [List.mem_cons, List.not_mem_nil, or_false] at hb
    subst hb
    show _ < (s'.heap.push _).objs.size
    rw [Heap.size_push]; exact Nat.lt_succ_self _
  · intro b hb
    simp only [List.mem_cons, List.not_mem_nil, or_false] at hb
    subst hb
    exact get_none_ge (Nat.le_refl _)
  · rintro i v ⟨hi, t, rfl⟩
    exact ⟨_, t, rng_get hi, by simp⟩
theorem itR_range1 {p pos : Pos} {e : Expr} {mg mb : Str → Option Value} {n : Nat} (B : Bi mg mb) (hh : A.handled = none) (hP : Sta P) (hkd : env.scope.kind = .function) (hk : env.kindOf (Str.ofString "range") = some .globalImplicit)
    (hg : ∀ h, P h → h.Ns env.globals mg) (hb : ∀ h, P h → h.Ns env.builtins mb) (h : Ev w A env P e (.int n)) (hn : (n : Int) < 2 ^ 62) (hns : noStar [e] = true) (hnn : ∀ x p, e ≠ .Starred x p := by intro _ _ h; cases h) : ItR w A env P (.Call (.Name (Str.ofString "range") p) [e] [] pos) (rng 0 n) := fun s E hp => by
  refine wpAny_Call_Name_kw (Calls.Name_function_global hkd hk (Calls.loadGlobal_builtin (hg _ hp) B.range.1 (hb _ hp) B.range.2 (PyProof.Rows.callWith_type (noStar_any hns) (args_at hns (Evs.cons hP h Evs.nil hnn) hp fun vs s' g k => ?_))))
  simp only [ValsAre] at g
  obtain ⟨v, _, rfl, hv, rfl⟩ := g
  obtain ⟨t, rfl⟩ := vInt hv
  refine call_range_1 ?_
  refine range_itR (s := s) (s' := { s' with heap := _, toks := _ }) hh (kTrans k (kHeap s' _ _ (Ext.push _ _))) (IsRange.new ..) (by decide) (by decide) (by omega) hn n (by omega)
end

theorem mkFm2 {h₀ h1 h3 : Heap} {X : Addr → Prop} {env : Env} {γ γc : Str → Option PV} {scope : Scope} {cl : List (Str × Addr)} {C : Addr} {m₃ : Str → Option Value} {x y : Str} {v u : Value} {d e : PV} (F : Fm h₀ X env γ h1) (k : Ext h1 h3) (hn : h3.Ns C m₃) (hm : m₃ x = some v) (hv : ValIs h3 d v) (hm' : m₃ y = some u) (hu : ValIs h3 e u)
    (hx : (compEnvC scope cl C env).kindOf x = some .local) (hy : (compEnvC scope cl C env).kindOf y = some .local) (hcl : ∀ n c, cl.lookup n = some c → env.cells.lookup n = some c)
    (hγ : ∀ z q, γc z = some q → γ z = some q ∧ env.kindOf z = some .cell ∧ (compEnvC scope cl C env).kindOf z = some .cell) : Fm h₀ X (compEnvC scope cl C env) (upd (upd γc x d) y e) h3 := by
  have F1 := mkFmC (γc := γc) F k hn hm hv hx hcl hγ
  obtain ⟨m, cm, _, hc, hvv⟩ := F.ex
  refine ⟨F.g.ext k, m₃, cm, hn, fun n c e => (hc n c (hcl n c e)).keeps k, fun z q he => ?_⟩
  unfold upd at he
  by_cases hzy : z = y
  · subst hzy
    rw [if_pos rfl] at he; cases he
    exact ⟨u, by unfold lookV; rw [hy]; exact hm', hu⟩
  · rw [if_neg hzy] at he
    by_cases hzx : z = x
    · subst hzx
      rw [if_pos rfl] at he; cases he
      exact ⟨v, by unfold lookV; rw [hx]; exact hm, hv⟩
    · rw [if_neg hzx] at he
      obtain ⟨h1', h2', h3'⟩ := hγ z q he
      obtain ⟨a, ha, hd⟩ := hvv z q h1'
      unfold lookV at ha
      rw [h2'] at ha
      exact ⟨a, by unfold lookV; rw [h3']; exact ha, hd.ext k⟩

/-- what a comprehension of two clauses needs -/
structure Cmp2 (w : World) (A : Around) (h₀ : Heap) (X : Addr → Prop) (env : Env) (γ γc : Str → Option PV) (scope : Scope) (cl : List (Str × Addr)) (x y : Str) (iter2 elt : Expr) (ins : List Int) (ins2 : Int → List Int) (out : Int → Int → PV) : Prop where
  hh : A.handled = none
  clos : closureFor scope env = pure cl
  cell : ∀ y ∈ scope.names, y.2 ≠ .cell
  kind : scope.kind = .function
  names : ∀ y ∈ scope.names, y.2 = .local → scope.names.lookup y.1 = some .local
  xl : scope.names.lookup x = some .local
  yl : scope.names.lookup y = some .local
  xy : x ≠ y
  cl_ : ∀ n c, cl.lookup n = some c → env.cells.lookup n = some c
  γc_ : ∀ y e, γc y = some e → γ y = some e ∧ env.kindOf y = some .cell ∧ ∀ C, (compEnvC scope cl C env).kindOf y = some .cell
  fl : ∀ k j, flat (out k j) = true
  it2 : ∀ C k, k ∈ ins → ItR w A (compEnvC scope cl C env) (Fm h₀ X (compEnvC scope cl C env) (upd γc x (.int k))) iter2 (ins2 k)
  el : ∀ C k j, k ∈ ins → j ∈ ins2 k → Ev w A (compEnvC scope cl C env) (Fm h₀ X (compEnvC scope cl C env) (upd (upd γc x (.int k)) y (.int j))) elt (out k j)
  fs : ∀ C x, foldedSetIterable iter2 (compEnvC scope cl C env) x = pure x

section
variable {w : World} {A : Around} {h₀ : Heap} {X : Addr → Prop} {env : Env} {γ γc : Str → Option PV} {scope : Scope} {cl : List (Str × Addr)} {x y : Str} {iter2 elt iter : Expr} {ins : List Int} {ins2 : Int → List Int} {out : Int → Int → PV}
/-- the outer loop -/
theorem comp_out {px py pos : Pos} {I D C : Addr} {fp wr : List Addr} {Pi : Nat → Value → Prop} {St : Nat → Heap → Prop} {s s₁ : Shared} {R : Result → Shared → Prop} {m : Str → Option Value}
    (c : Cmp2 w A h₀ X env γ γc scope cl x y iter2 elt ins ins2 out) (F : Fm h₀ X env γ s₁.heap) (W : Walks pr w A I fp wr ins.length Pi St) (hPi : ∀ i v, Pi i v → ∃ k t, ins[i]? = some k ∧ v = .int k t)
    (hDC : D ≠ C) (hDf : D ∉ fp) (hCf : C ∉ fp) (h1D : s₁.heap.get? D = none) (h1C : s₁.heap.get? C = none) (h1w : ∀ b ∈ wr, s₁.heap.get? b = none) (h1s : Ext s₁.heap s.heap)
    (hst : St 0 s.heap) (hacc : s.heap.PlainList D #[]) (hn : s.heap.Ns C m) (hsz : (ins.flatMap fun k => (ins2 k).map (out k)).length ≤ sizeLine)
    (hR : ∀ h' tk m' zs, h'.Ns C m' → h'.PlainList D (List.toArray zs) → (∀ h, ValsAre h (ins.flatMap fun k => (ins2 k).map (out k)) zs) → Ext s₁.heap h' → R (.ok .next) { s with heap := h', toks := tk }) :
    codeAny (model pr w) A (.compLoop (.ListComp elt [⟨.Name x px, iter, [], 0⟩, ⟨.Name y py, iter2, [], 0⟩] scope pos) 0 (.ref I) (.ref D) (compEnvC scope cl C env)) R s := by
  have hCw : C ∉ wr := fun h => hCf (W.sub _ h)
  have hDw : D ∉ wr := fun h => hDf (W.sub _ h)
  have xk : (compEnvC scope cl C env).kindOf x = some .local := lookup_relabel_local c.xl
  have yk : (compEnvC scope cl C env).kindOf y = some .local := lookup_relabel_local c.yl
  have hp : ((compEnvC scope cl C env).scope.kind == .class || ((compEnvC scope cl C env).scope.kind == .module && (compEnvC scope cl C env).locals != (compEnvC scope cl C env).globals)) = false := by simp [compEnvC, relabel, c.kind]
  refine codeAny_loop rfl (fun n s' => ∃ h' tk m' zs i, s' = { s with heap := h', toks := tk } ∧ St i h' ∧ h'.PlainList D (List.toArray zs) ∧ h'.Ns C m' ∧
      (∀ h, ValsAre h ((ins.take i).flatMap fun k => (ins2 k).map (out k)) zs) ∧ i ≤ ins.length ∧ n = ins.length + 1 - i ∧ Ext s₁.heap h') ?_ (ins.length + 1)
    ⟨s.heap, s.toks, m, [], 0, rfl, hst, by simpa using hacc, hn, fun h => by simp [ValsAre], Nat.zero_le _, rfl, h1s⟩
  rintro n s' ⟨H, tk, m', zs, i, rfl, hst', hacc', hn', hz, hi, rfl, hk⟩
  show wpAny _ A ((compTurn (.ListComp elt [⟨.Name x px, iter, [], 0⟩, ⟨.Name y py, iter2, [], 0⟩] scope pos) 0 (.ref I) (.ref D) (compEnvC scope cl C env)).onRaise (fun x => do noteFrame x (compEnvC scope cl C env); theTreesLotGoes x)) _ _ _
  refine wpAny_noted ?_
  rw [turn_out]
  refine wpAny_bind (wpAny_standAt (wpAny_bind ?_))
  by_cases hlt : i < ins.length
  · refine W.item i _ _ _ hlt hst' fun v h₁ tk₁ hPv hst₁ hk₁ => ?_
    obtain ⟨k, t, hik, rfl⟩ := hPi i v hPv
    have hkm := List.mem_of_getElem? hik
    refine wpAny_bind (wpAny_pure ?_)
    refine wpAny_bind (wpAny_assign_Name (wpAny_storeName_local xk (hn'.at' fun o e => hk₁ _ o hCw e) (fun h₂ hn₂ hs₂ => ?_) hp))
    have up₂ : ∀ b o, b ≠ C → b ∉ wr → H.get? b = some o → h₂.get? b = some o := fun b o hbC hbf e => hs₂.extBut b o hbC (hk₁ b o hbf e)
    have hst₂ : St (i + 1) h₂ := W.frame _ _ _ hst₁ fun b hb o e => hs₂.extBut b o (fun q => by
      have q' : b = C := q
      exact hCf (q' ▸ hb)) e
    have ext₂ : Ext s₁.heap h₂ := fun b o e => up₂ b o (fun q => by rw [q, h1C] at e; cases e) (fun q => by rw [h1w b q] at e; cases e) (hk _ _ e)
    have F2 : Fm h₀ X (compEnvC scope cl C env) (upd γc x (.int k)) h₂ := mkFmC F ext₂ hn₂ (by simp; rfl) (by simp only [ValIs]; exact ⟨t, rfl⟩) xk c.cl_ fun z q he => ⟨(c.γc_ z q he).1, (c.γc_ z q he).2.1, (c.γc_ z q he).2.2 C⟩
    refine wpAny_bind (wpAny_mono (c.it2 C k hkm { s with heap := h₂, toks := _ } _ F2) (fun xv s₃ h₃ => wpAny_bind (wpAny_standAt (wpAny_bind (wpAny_of_eq (c.fs C xv) (wpAny_bind (wpAny_holding (wpAny_mono h₃ (fun it s₄ h₄ => ?_) fun _ _ e => e))))))) fun _ _ e => e)
    obtain ⟨k3, k4, J, fp2, wr2, Pi2, St2, rfl, W2, hst2, hfp2, hfn2, hPi2⟩ := h₄
    obtain ⟨h3, t3, rfl, ke3⟩ := k3
    obtain ⟨h4, t4, rfl, ke4⟩ := k4
    have ext24 : Ext h₂ h4 := fun b o e => ke4 _ _ (ke3 _ _ e)
    have hacc₄ : h4.PlainList D (List.toArray zs) := hacc'.at fun o e => ext24 _ o (up₂ D o hDC hDw e)
    have hn₄ := hn₂.keeps ext24
    have oldD : ∃ o, h3.get? D = some o := by obtain ⟨q, ho⟩ := hacc'; exact ⟨_, ke3 _ _ (up₂ D _ hDC hDw ho)⟩
    have oldC : ∃ o, h3.get? C = some o := by obtain ⟨o, _, _, ho, _⟩ := hn₂; exact ⟨_, ke3 _ _ ho⟩
    have hDf2 : D ∉ fp2 := fun hm => by obtain ⟨o, ho⟩ := oldD; have := hfn2 D hm; rw [show ({ s with heap := h3, toks := t3 } : Shared).heap = h3 from rfl, ho] at this; cases this
    have hCf2 : C ∉ fp2 := fun hm => by obtain ⟨o, ho⟩ := oldC; have := hfn2 C hm; rw [show ({ s with heap := h3, toks := t3 } : Shared).heap = h3 from rfl, ho] at this; cases this
    have old2 : ∀ {b : Addr} {o : Obj}, h₂.get? b = some o → b ∉ wr2 := fun e hm => by
      have := hfn2 _ (W2.sub _ hm)
      rw [show ({ s with heap := h3, toks := t3 } : Shared).heap = h3 from rfl, ke3 _ _ e] at this; cases this
    have hzl : zs.length = ((ins.take i).flatMap fun k => (ins2 k).map (out k)).length := (hz default).length
    have htk : ins.take (i + 1) = ins.take i ++ [k] := by rw [List.take_add_one, hik]; rfl
    have hle : zs.length + (ins2 k).length ≤ sizeLine := by
      have e : ins = ins.take (i + 1) ++ ins.drop (i + 1) := (List.take_append_drop _ _).symm
      have : (ins.flatMap fun k => (ins2 k).map (out k)).length = ((ins.take i).flatMap fun k => (ins2 k).map (out k)).length + (ins2 k).length + ((ins.drop (i + 1)).flatMap fun k => (ins2 k).map (out k)).length := by
        conv => lhs; rw [e, htk]
        simp [List.flatMap_append]
        omega
      omega
    refine wpAny_bind (wpAny_runOwn ?_)
    rw [Around.mark_none]
    have loop : codeAny (model pr w) A (.compLoop (.ListComp elt [⟨.Name x px, iter, [], 0⟩, ⟨.Name y py, iter2, [], 0⟩] scope pos) 1 (.ref J) (.ref D) (compEnvC scope cl C env))
        (fun r s' => match r with
          | .ok f => wpAny (model pr w) A (again (.compLoop (.ListComp elt [⟨.Name x px, iter, [], 0⟩, ⟨.Name y py, iter2, [], 0⟩] scope pos) 0 (.ref I) (.ref D) (compEnvC scope cl C env))) (fun fin s' => match fin with
            | .done f => R (.ok f) s'
            | .again c' => c' = .compLoop (.ListComp elt [⟨.Name x px, iter, [], 0⟩, ⟨.Name y py, iter2, [], 0⟩] scope pos) 0 (.ref I) (.ref D) (compEnvC scope cl C env) ∧ ∃ m, m < ins.length + 1 - i ∧ ∃ h' tk m' zs i, s' = { s with heap := h', toks := tk } ∧ St i h' ∧ h'.PlainList D (List.toArray zs) ∧ h'.Ns C m' ∧
              (∀ h, ValsAre h ((ins.take i).flatMap fun k => (ins2 k).map (out k)) zs) ∧ i ≤ ins.length ∧ m = ins.length + 1 - i ∧ Ext s₁.heap h')
            (notedBy (model pr w) A (compEnvC scope cl C env) fun e s' => R (.error e) s') s'
          | .error e => cameBackBy (model pr w) A (compEnvC scope cl C env) (notedBy (model pr w) A (compEnvC scope cl C env) fun e s' => R (.error e) s') e s') { s with heap := h4, toks := t4 } := by
      refine comp_in (m := fun z => if z = x then some (.int k t) else m' z) (ys := zs) (out := out k) W2 hPi2 yk hp hDC hDf2 hCf2 hst2 hacc₄ hn₄ ?_ ?_ hle
      · intro j tj s₅ m₅ E₅ hj hn₅ hm₅ hmo hk₅
        have ext₅ : Ext s₁.heap s₅.heap := fun b o e => hk₅ b o (fun q => by
          have : b = C := q
          rw [this, h1C] at e; cases e) (old2 (ext₂ _ _ e)) (fun q => by rw [q, h1D] at e; cases e) (ext24 _ _ (ext₂ _ _ e))
        have F5 : Fm h₀ X (compEnvC scope cl C env) (upd (upd γc x (.int k)) y (.int j)) s₅.heap := mkFm2 F ext₅ hn₅ (by rw [hmo x c.xy]; simp; rfl) (by simp only [ValIs]; exact ⟨t, rfl⟩) hm₅ (by simp only [ValIs]; exact ⟨tj, rfl⟩) xk yk c.cl_ fun z q he => ⟨(c.γc_ z q he).1, (c.γc_ z q he).2.1, (c.γc_ z q he).2.2 C⟩
        exact wpAny_mono (c.el C k j hkm hj s₅ E₅ F5) (fun r s₆ g => ⟨fun h => flat_any (c.fl k j) g.1, g.2⟩) fun _ _ e => e
      · intro h₅ t₅ m₅ zs₅ hn₅ hmo hl₅ hz₅ hk₅
        refine wpAny_pure ⟨rfl, ins.length + 1 - (i + 1), by omega, h₅, t₅, m₅, zs ++ zs₅, i + 1, rfl, ?_, hl₅, hn₅, ?_, hlt, rfl, ?_⟩
        · refine W.frame _ _ _ hst₂ fun b hb o e => hk₅ b o (fun q => ?_) (old2 e) (fun q => hDf (q ▸ hb)) (ext24 _ _ e)
          have : b = C := q
          exact hCf (this ▸ hb)
        · intro h
          rw [htk, List.flatMap_append]
          refine (hz h).append ?_
          simpa using hz₅ h
        · intro b o e
          exact hk₅ b o (fun q => by
            have : b = C := q
            rw [this, h1C] at e; cases e) (old2 (ext₂ _ _ e)) (fun q => by rw [q, h1D] at e; cases e) (ext24 _ _ (ext₂ _ _ e))
    exact start_in loop (W2.self 0 _ _ _ hst2 loop)
  · have hin : i = ins.length := by omega
    subst hin
    refine W.done _ _ _ hst' fun h₁ tk₁ hk₁ => wpAny_pure ?_
    refine hR h₁ tk₁ m' zs (hn'.at' fun o e => hk₁ _ o hCw e) (hacc'.at fun o e => hk₁ _ o hDw e) (by simpa using hz) fun b o e => hk₁ b o (fun q => by rw [h1w b q] at e; cases e) (hk _ _ e)

theorem xs_comp2 {px py pq pos spos : Pos} {q : Str} {s : Shared} {E : Value → Shared → Prop} {Q : Flow → Shared → Prop} {rest : List Stmt} (ok : EnvOk h₀ env) (F : Fm h₀ X env γ s.heap) (c : Cmp2 w A h₀ X env γ γc scope cl x y iter2 elt ins ins2 out) (it : It w A env (Fm h₀ X env γ) iter ins)
    (hz : (ins.flatMap fun k => (ins2 k).map (out k)).length ≤ sizeLine)
    (hsw : swapsWith (.ListComp elt [⟨.Name x px, iter, [], 0⟩, ⟨.Name y py, iter2, [], 0⟩] scope pos) (some (.Name q pq)) spos.line env = pure true) (hq : env.kindOf q = some .local)
    (h : ∀ h' tk, Fm h₀ X env (upd γ q (.list (ins.flatMap fun k => (ins2 k).map (out k)))) h' → wpAny (model pr w) A (execs rest env) Q E { s with heap := h', toks := tk }) (hs : ∀ x, foldedSetIterable iter env x = pure x := by intro _; rfl) :
    wpAny (model pr w) A (execs (.Assign [.Name q pq] (.ListComp elt [⟨.Name x px, iter, [], 0⟩, ⟨.Name y py, iter2, [], 0⟩] scope pos) spos :: rest) env) Q E s := by
  refine wpAny_execs_cons ?_
  rw [exec_Assign_Name_used _ _ _ _ hsw]
  refine wpAny_bind (wpAny_standAt (wpAny_bind ?_))
  show wpAny _ A (do let _ ← comprehension (.ListComp elt [⟨.Name x px, iter, [], 0⟩, ⟨.Name y py, iter2, [], 0⟩] scope pos) scope env _ (newList []) false (eval iter env) (some (assign (.Name q pq) env))) _ _ s
  refine wpAny_bind (wpAny_mono (wpAny_comprehension_free (use := some (assign (.Name q pq) env)) (Q := fun _ s' => wpAny (model pr w) A (execs rest env) Q E s') rfl hs c.clos c.kind c.names
    (wpAny_mono (it s _ F) (fun xv s₁ h₁ => wpAny_mono h₁ (fun iv s₂ h₂ => ?_) fun _ _ e => e) fun _ _ e => e)) (fun _ s' hq => wpAny_pure (wpAny_pure hq)) fun _ _ e => e)
  obtain ⟨k1, k2, I, fp, wr, Pi, St, rfl, W, hst, hfp, hwr, hPi⟩ := h₂
  have F1 := fm_sta _ _ (kExt k1) F
  refine wpAny_newObj_type (wpAny_newFunctionEnv c.cell (by intro y hy; simp at hy) (fun h₁ hns₁ hsb₁ => ?_) c.kind)
  dsimp only at hns₁ hsb₁ ⊢
  generalize hH2 : s₂.heap.push { cls := .type "list", dict := none, data := .seq ([] : List Value).toArray } = H2 at hns₁ hsb₁ ⊢
  have hC : H2.objs.size = s₂.heap.objs.size + 1 := by rw [← hH2, Heap.size_push]
  have hDC : s₂.heap.objs.size ≠ H2.objs.size := by rw [hC]; exact Nat.ne_of_lt (Nat.lt_succ_self _)
  have below : ∀ b, b < s₂.heap.objs.size → b ≠ H2.objs.size ∧ b ≠ s₂.heap.objs.size := fun b hb => ⟨by rw [hC]; exact Nat.ne_of_lt (Nat.lt_succ_of_lt hb), Nat.ne_of_lt hb⟩
  have hDf : s₂.heap.objs.size ∉ fp := fun hm => Nat.lt_irrefl _ (hfp _ hm)
  have hCf : H2.objs.size ∉ fp := fun hm => by have := hfp _ hm; rw [hC] at this; exact Nat.lt_irrefl _ (Nat.lt_of_succ_lt this)
  have old : Ext s₂.heap h₁ := fun b o e => hsb₁.extBut b o (below b (Heap.lt_size e)).1 (Heap.get?_push_of_some _ (hH2 ▸ Heap.get?_push_of_some _ e))
  have hacc : h₁.PlainList s₂.heap.objs.size #[] := ⟨_, hsb₁.extBut _ _ hDC (Heap.get?_push_of_some _ (hH2 ▸ Heap.get?_push_size _ rfl))⟩
  have hst₁ : St 0 h₁ := W.frame _ _ _ hst fun b _ o e => old b o e
  have e12 := kExt k2
  have fresh : ∀ a, s₂.heap.objs.size ≤ a → s₁.heap.get? a = none := fun a ha => by
    cases e : s₁.heap.get? a with
    | none => rfl
    | some o' => exact absurd (Heap.lt_size (e12 _ _ e)) (Nat.not_lt.mpr ha)
  obtain ⟨m, cm, hn, hc, hv⟩ := id F1.ex
  have loop : ∀ s₃ : Shared, s₃ = { s₂ with heap := h₁, toks := s₂.toks + ([] : List (Str × Value)).length } →
      codeAny (model pr w) A (.compLoop (.ListComp elt [⟨.Name x px, iter, [], 0⟩, ⟨.Name y py, iter2, [], 0⟩] scope pos) 0 (.ref I) (.ref s₂.heap.objs.size) (compEnvC scope cl H2.objs.size env))
        (compPost (model pr w) A E (some (assign (.Name q pq) env)) (fun _ s' => wpAny (model pr w) A (execs rest env) Q E s') (.ref s₂.heap.objs.size) H2.objs.size) s₃ := by
    rintro s₃ rfl
    refine comp_out (s₁ := s₁) c F1 W hPi hDC hDf hCf (fresh _ (Nat.le_refl _)) (fresh _ (by rw [hC]; exact Nat.le_succ _)) hwr (fun b o e => old _ _ (e12 _ _ e)) hst₁ hacc hns₁ hz ?_
    intro h₂ t₂ m₂ zs hn₂ hl₂ hz₂ ext₂
    have hLC : env.locals ≠ H2.objs.size := fun e => by
      obtain ⟨o, _, _, ho, _⟩ := hn
      have := fresh env.locals (by rw [e, hC]; exact Nat.le_succ _)
      rw [ho] at this; cases this
    have hLD : env.locals ≠ s₂.heap.objs.size := fun e => by
      obtain ⟨o, _, _, ho, _⟩ := hn
      have := fresh env.locals (by rw [e]; exact Nat.le_refl _)
      rw [ho] at this; cases this
    show wpAny _ A (assign (.Name q pq) env (.ref s₂.heap.objs.size)) _ _ _
    have F2 := fm_sta _ _ ext₂ F1
    obtain ⟨m5, cm5, hn5, hc5, hv5⟩ := F2.ex
    refine wpAny_assign_Name (wpAny_storeName_local hq hn5 (fun h₃ hn₃ hs₃ => ?_) (by rw [ok.kind]; rfl))
    refine ⟨m₂, hn₂.sameBut hs₃ (Ne.symm hLC), fun h₄ hs₄ => ?_⟩
    have off : ExtOff (fun b => b = env.locals ∨ b = H2.objs.size) h₂ h₄ := fun b o hb e => hs₄.extBut b o (fun q => hb (.inr q)) (hs₃.extBut b o (fun q => hb (.inl q)) e)
    have nl : NoLists (fun b => b = env.locals ∨ b = H2.objs.size) h₂ := fun a vs hl hb => by
      rcases hb with hb | hb
      · exact noLists_ns hn5 a vs hl hb
      · exact noLists_ns hn₂ a vs hl hb
    have fC : h₀.get? H2.objs.size = none ∨ X H2.objs.size := by
      cases e : h₀.get? H2.objs.size with
      | none => exact .inl rfl
      | some o =>
        by_cases hX : X H2.objs.size
        · exact .inr hX
        · have := F1.g _ _ hX e
          rw [fresh H2.objs.size (by rw [hC]; exact Nat.le_succ _)] at this; cases this
    have F4 : Fm h₀ X env (upd γ q (.list (ins.flatMap fun k => (ins2 k).map (out k)))) h₄ := by
      refine ⟨fun b o hb e => off b o (fun hm => ?_) (F2.g b o hb e), _, cm5, hn₃.sameBut hs₄ hLC, fun n c' e => ?_, fun z d e => ?_⟩
      · rcases hm with hm | hm
        · rw [hm, ok.freshL] at e; cases e
        · rcases fC with h | h
          · rw [hm, h] at e; cases e
          · exact hb (hm ▸ h)
      · obtain ⟨o, ho, hd⟩ := hc5 n c' e
        refine ⟨o, off _ _ (fun hm => ?_) ho, hd⟩
        rcases hm with hm | hm
        · exact ok.off n c' (mem_of_lookup e) hm
        · obtain ⟨o', es, ep, ho', hd', _⟩ := hn₂
          rw [hm, ho'] at ho; cases ho; rw [hd'] at hd; cases hd
      · unfold upd at e
        by_cases hz' : z = q
        · subst hz'
          rw [if_pos rfl] at e
          cases e
          refine ⟨.ref s₂.heap.objs.size, by unfold lookV; rw [hq]; simp, ?_⟩
          simp only [ValIs]
          obtain ⟨nn, hl2⟩ := hl₂
          exact ⟨_, zs, rfl, ⟨nn, off _ _ (fun hm => by
            rcases hm with hm | hm
            · exact hLD hm.symm
            · exact hDC hm) hl2⟩, hz₂ h₄⟩
        · rw [if_neg hz'] at e
          obtain ⟨u, h1, h2⟩ := hv5 z d e
          refine ⟨u, ?_, h2.off off nl⟩
          have e2 : lookV env (fun a => if a = q then some (.ref s₂.heap.objs.size) else m5 a) cm5 z = lookV env m5 cm5 z := by unfold lookV; simp only [if_neg hz']
          rw [e2]; exact h1
    obtain ⟨hh1, t1, rfl, _⟩ := k1
    obtain ⟨hh2, t2', rfl, _⟩ := k2
    exact h h₄ _ F4
  exact codeAny_compStart_list (loop _ rfl) (W.self 0 _ _ _ hst₁ (loop _ rfl))
end
end Mine

namespace Mine
open PySem PySem.W PySem.W.X
open PyProof.Rows (AllBare)

section
variable {w : World} {A : Around} {env : Env} {P : Heap → Prop}
theorem V.itemStr {value slice : Expr} {pos : Pos} {x : Str} {i : Nat} {ch : Nat} (hP : Sta P) (h1 : V w A env P value (.str x)) (h2 : V w A env P slice (.int i)) (hf : (i : Int) < 2 ^ 62) (hi : x.cps[i]? = some ch)
    (hs : ∀ t u, subscripted slice false (.str x t) (.int i u) = operate [.str x t, .int i u] (getItem (.str x t) (.int i u)) := by intro _ _; with_unfolding_all rfl) : V w A env P (.Subscript value slice pos) (.str ⟨#[ch]⟩) := ⟨fun s E hp =>
  PyProof.Rows.Subscript_ (h1.r.at hp fun v1 s1 g1 k1 => h2.r.at (hP _ _ (kExt k1) hp) fun v2 s2 g2 k2 => by
    obtain ⟨t, rfl⟩ := vStr g1
    obtain ⟨u, rfl⟩ := vInt g2
    have hl : i < x.cps.size := (Array.getElem?_eq_some_iff.mp hi).1
    refine PyProof.Rows.tail_any (typeIs_str _ _ _) PySem.F.slot_str_getitem.lookup (_root_.PySem.P.getItem_str (c := ch) ?_ ?_ ((gStr ..).mono (kTrans k1 k2))) (hs t u)
    · simp; omega
    · have e : seqIndex? (i : Int) x.length = some i := by
        have : x.length = x.cps.size := rfl
        unfold seqIndex?
        simp [this]
        omega
      rw [e]; exact hi)⟩
theorem V.comp {h₀ : Heap} {X : Addr → Prop} {γ γc : Str → Option PV} {scope : Scope} {cl : List (Str × Addr)} {x : Str} {ifs : List Expr} {elt iter : Expr} {ins : List Int} {pz : Int → Bool} {out : Int → PV} {px pos : Pos} (c : Cmp w A h₀ X env γ γc scope cl x ifs elt ins pz out) (it : It w A env (Fm h₀ X env γ) iter ins) (hz : ins.length ≤ sizeLine) (hs : ∀ x, foldedSetIterable iter env x = pure x) :
    V w A env (Fm h₀ X env γ) (.ListComp elt [⟨.Name x px, iter, ifs, 0⟩] scope pos) (.list ((ins.filter pz).map out)) := ⟨ev_comp c it hz hs⟩
theorem WX.comp2 {h₀ : Heap} {X : Addr → Prop} {γ γc : Str → Option PV} {scope : Scope} {cl : List (Str × Addr)} {x y : Str} {iter2 elt iter : Expr} {ins : List Int} {ins2 : Int → List Int} {out : Int → Int → PV} {px py pq pos spos : Pos} {q : Str} {s : Shared} {E : Value → Shared → Prop} {Q : Flow → Shared → Prop} {rest : List Stmt}
    (ok : EnvOk h₀ env) (F : Fm h₀ X env γ s.heap) (c : Cmp2 w A h₀ X env γ γc scope cl x y iter2 elt ins ins2 out) (it : It w A env (Fm h₀ X env γ) iter ins)
    (hz : (ins.flatMap fun k => (ins2 k).map (out k)).length ≤ sizeLine)
    (hsw : swapsWith (.ListComp elt [⟨.Name x px, iter, [], 0⟩, ⟨.Name y py, iter2, [], 0⟩] scope pos) (some (.Name q pq)) spos.line env = pure true) (hq : env.kindOf q = some .local)
    (h : ∀ h' tk, Fm h₀ X env (upd γ q (.list (ins.flatMap fun k => (ins2 k).map (out k)))) h' → WX w A env Q E rest { s with heap := h', toks := tk }) (hs : ∀ x, foldedSetIterable iter env x = pure x := by intro _; rfl) :
    WX w A env Q E (.Assign [.Name q pq] (.ListComp elt [⟨.Name x px, iter, [], 0⟩, ⟨.Name y py, iter2, [], 0⟩] scope pos) spos :: rest) s :=
  ⟨xs_comp2 ok F c it hz hsw hq (fun h' tk F' => (h h' tk F').run) hs⟩
end

/-! the marks' texts -/
abbrev chs : Str := Str.ofString "ABCDEFabcdef"
def txt (R T k : Nat) : Str := match T with
  | 0 => repS (Str.ofString "b") k
  | 1 => repS (Str.ofString "a") (R - k) ++ Str.ofString "b"
  | _ => ⟨#[(chs.cps[k]?).getD 0]⟩
def tx (R S T i : Nat) : Str := txt R T (i * S % R)
theorem plc_mem {R S : Nat} (hR : 0 < R) {k : Int} (h : k ∈ plc R S) : ∃ j : Nat, k = j ∧ j < R := by
  obtain ⟨i, _, rfl⟩ := List.mem_map.mp h
  exact ⟨_, rfl, Nat.mod_lt _ hR⟩
theorem plc_get {R S i : Nat} (hi : i < R) : (plc R S)[i]? = some (((i * S % R : Nat)) : Int) := by simp [plc, hi]
abbrev txL (R S T : Nat) : List PV := (plc R S).map fun k => .str (txt R T k.toNat)

abbrev γ17 (c0 c1 c2 c3 c4 : Int) (R S : Nat) : Str → Option PV :=
  upd (upd (upd (upd (fun _ => none) (Str.ofString "cells") (.list ([c0, c1, c2, c3, c4].map .int))) (Str.ofString "ring") (.int R)) (Str.ofString "step") (.int S)) (Str.ofString "places") (.list ((plc R S).map .int))
abbrev γ18 (R S T : Nat) : Str → Option PV :=
  upd (upd (upd (upd (fun _ => none) (Str.ofString "ring") (.int R)) (Str.ofString "step") (.int S)) (Str.ofString "places") (.list ((plc R S).map .int))) (Str.ofString "texts") (.list (txL R S T))

theorem fm_w {h₀ : Heap} {X : Addr → Prop} {env : Env} {γ : Str → Option PV} {h : Heap} (F : Fm h₀ X env γ h) (l : List (Str × PV)) (hl : ∀ p ∈ l, γ p.1 = some p.2) : Fm h₀ X env (l.foldl (fun g p => upd g p.1 p.2) (fun _ => none)) h := by
  refine F.weaken ?_
  have key : ∀ (l : List (Str × PV)) (g : Str → Option PV), (∀ p ∈ l, γ p.1 = some p.2) → (∀ x d, g x = some d → γ x = some d) → ∀ x d, (l.foldl (fun g p => upd g p.1 p.2) g) x = some d → γ x = some d := by
    intro l
    induction l with
    | nil => intro g _ hg; exact hg
    | cons p l ih =>
      intro g hl hg
      refine ih (upd g p.1 p.2) (fun q hq => hl q (.tail _ hq)) fun x d q => ?_
      unfold upd at q
      by_cases hx : x = p.1
      · rw [if_pos hx] at q; cases q; rw [hx]; exact hl p (.head _)
      · rw [if_neg hx] at q; exact hg x d q
  exact key l _ hl fun x d q => by cases q

theorem law_e {w : World} {A : Around} {s : Shared} {E : Value → Shared → Prop} {Q : Flow → Shared → Prop} {h₀ g : Heap} {pm code doc : Value} {L a : Addr} {mg mb : Str → Option Value} {c0 c1 c2 c3 c4 : Int} {R S W : Nat} {a3 a7 a9 a10 a11 C : Addr} (c : Ld mg mb g h₀ A (lawE pm code doc L a) a3 a7 a9 a10 a11 C)
    (hR : 2 ≤ R ∧ R ≤ 12) (hS : 1 ≤ S ∧ S ≤ 24) (hW : W < 5)
    (F : Fm h₀ nX (lawE pm code doc L a) (γ15 c0 c1 c2 c3 c4 R S W) s.heap)
    (h : ∀ s' T, T < 3 → Sm s s' → Fm h₀ nX (lawE pm code doc L a) (γ18 R S T) s'.heap → WX w A (lawE pm code doc L a) Q E ((sBody (top 13)).drop 18) s') :
    WX w A (lawE pm code doc L a) Q E ((sBody (top 13)).drop 15) s := by
  have hu := c.hu
  have hdl := due_len (S := S) hR hW c2
  have hz12 : (1000 : Nat) ≤ sizeLine := by decide
  refine ⟨places_loop (td := dueF (frL R S W c2) (R - mnN W R) W) (R := R) c.hh c.ok F rfl rfl rfl rfl hR (by omega) fun h1 t1 F1 => ?_⟩
  rw [places_eq hR hS hW c2] at F1
  suffices hh : WX w A (lawE pm code doc L a) Q E ((sBody (top 13)).drop 17) { s with heap := h1, toks := t1 } from hh.run
  have F1 := fm_w F1 [(Str.ofString "cells", .list ([c0, c1, c2, c3, c4].map .int)), (Str.ofString "ring", .int R), (Str.ofString "step", .int S), (Str.ofString "places", .list ((plc R S).map .int))] (by
    intro p hp
    simp only [List.mem_cons, List.not_mem_nil, or_false] at hp
    rcases hp with rfl | rfl | rfl | rfl <;> rfl)
  have F1 : Fm h₀ nX (lawE pm code doc L a) (γ17 c0 c1 c2 c3 c4 R S) h1 := F1
  have hd : 0 ≤ c4.fmod 3 ∧ c4.fmod 3 < 3 := ⟨Int.fmod_nonneg_of_pos _ (by decide), Int.fmod_lt_of_pos _ (by decide)⟩
  obtain ⟨T, hT⟩ : ∃ T : Nat, c4.fmod 3 = T := ⟨(c4.fmod 3).toNat, by omega⟩
  have hpl : (plc R S).length = R := by simp [plc]
  rw [drop_stm 17 (by decide)]
  refine WX.assignC (d := .list (txL R S T)) c.ok F1 ?val rfl rfl fun h2 t2 F2 => ?_
  case val =>
    refine V.congr (V.comp (γc := upd (upd (fun _ => none) (Str.ofString "cells") (.list ([c0, c1, c2, c3, c4].map .int))) (Str.ofString "ring") (.int R)) (ins := plc R S) (pz := fun _ => true) (out := fun k => .str (txt R T k.toNat)) (cl := clE [Str.ofString "ring", Str.ofString "cells"] (lawE pm code doc L a)) ?c (it_list c.hh (V.loc rfl rfl rfl).r) (by omega) (fun _ => rfl)) (by rw [List.filter_eq_self.mpr (fun _ _ => rfl)])
    refine ⟨rfl, by intro y hy; revert y; decide, rfl, by intro y hy; revert y; decide, rfl, clE_ok (by intro n hn; simp only [List.mem_cons, List.not_mem_nil, or_false] at hn; rcases hn with rfl | rfl <;> rfl), ?γc, fun _ => rfl, fun C k hk => ts_nil, fun C k hk _ => ?el⟩
    case γc =>
      intro y e he
      unfold upd at he
      by_cases h2 : y = Str.ofString "ring"
      · subst h2; rw [if_pos rfl] at he; cases he; exact ⟨rfl, rfl, fun _ => rfl⟩
      · rw [if_neg h2] at he
        by_cases h3 : y = Str.ofString "cells"
        · subst h3; rw [if_pos rfl] at he; cases he; exact ⟨rfl, rfl, fun _ => rfl⟩
        · rw [if_neg h3] at he; cases he
    case el =>
      obtain ⟨j, rfl, hj⟩ := plc_mem (by omega) hk
      have hb : ∀ n : Nat, n < 13 → (repS (Str.ofString "b") n).length ≤ sizeLine ∧ (repS (Str.ofString "a") n).length + (Str.ofString "b").length ≤ sizeLine ∧ (repS (Str.ofString "a") n).length ≤ sizeLine := by decide
      have hch : ∀ n : Nat, n < 12 → ∃ ch, chs.cps[n]? = some ch ∧ (⟨#[(chs.cps[n]?).getD 0]⟩ : Str) = ⟨#[ch]⟩ := fun n hn => by
        have hl : n < chs.cps.size := hn
        exact ⟨chs.cps[n], Array.getElem?_eq_getElem hl, by rw [Array.getElem?_eq_getElem hl]; rfl⟩
      obtain ⟨ch, hc1, hc2⟩ := hch j (by omega)
      refine V.r (V.item (i := c4.fmod 3) (l := [.str (repS (Str.ofString "b") j), .str (repS (Str.ofString "a") (R - j) ++ Str.ofString "b"), .str ⟨#[ch]⟩]) fm_sta
        (V.list (Vs.cons fm_sta (V.bin fm_sta V.str (V.loc rfl rfl rfl) (op_mulStr (Str.ofString "b") j rfl (by omega) (hb j (by omega)).1)) (Vs.cons fm_sta
          (V.bin fm_sta (V.bin fm_sta V.str (V.congr (d' := .int ((R - j : Nat) : Int)) (V.bin fm_sta (V.cell (d := .int R) rfl rfl rfl rfl) (V.loc (d := .int (j : Int)) rfl rfl rfl) (op_sub _ _)) (by congr 1; omega)) (op_mulStr (Str.ofString "a") (R - j) rfl (by omega) (hb (R - j) (by omega)).2.2)) V.str (op_addStr _ _ (hb (R - j) (by omega)).2.1)) (Vs.cons fm_sta
          (V.itemStr fm_sta (V.str (x := chs)) (V.loc (d := .int (j : Int)) rfl rfl rfl) (by omega) hc1) Vs.nil))) (show (3 : Nat) ≤ sizeLine by decide))
        (V.bin fm_sta (V.item (d := .int c4) fm_sta (V.cell rfl rfl rfl rfl) V.int (by decide) (by decide) rfl) V.int (op_mod _ 3 (by decide))) hd.1 (by omega) ?_)
      rw [hT]
      show ([PV.str (repS (Str.ofString "b") j), .str (repS (Str.ofString "a") (R - j) ++ Str.ofString "b"), .str ⟨#[ch]⟩] : List PV)[T]? = some (PV.str (txt R T j))
      have : T < 3 := by omega
      rcases T with _ | _ | _ | T
      · rfl
      · rfl
      · show some (PV.str ⟨#[ch]⟩) = some (PV.str (⟨#[(chs.cps[j]?).getD 0]⟩ : Str))
        rw [hc2]
      · omega
  refine h _ T (by omega) (Sm.mk' s h2 t2) ?_
  exact fm_w F2 [(Str.ofString "ring", .int R), (Str.ofString "step", .int S), (Str.ofString "places", .list ((plc R S).map .int)), (Str.ofString "texts", .list (txL R S T))] (by
    intro p hp
    simp only [List.mem_cons, List.not_mem_nil, or_false] at hp
    rcases hp with rfl | rfl | rfl | rfl <;> rfl)
end Mine

namespace Mine
open PySem PySem.W PySem.W.X
open PyProof.Rows (AllBare)

structure Le (mg mb : Str → Option Value) (g h₀ : Heap) (A : Around) (env : Env) (a3 a5 a7 a9 a10 a11 a12 C : Addr) : Prop extends Ld mg mb g h₀ A env a3 a7 a9 a10 a11 C where
  f5 : FnAt mg g (top 5) a5
  f12 : FnAt mg g (top 12) a12

def sgn (R S T : Nat) : List Int := (rng 0 R).flatMap fun late => (rng 0 late.toNat).map fun early => scI (tx R S T early.toNat) (tx R S T late.toNat)
theorem sgn_len (R S T : Nat) (hR : R ≤ 12) : (sgn R S T).length ≤ 200 := by
  unfold sgn
  simp only [List.length_flatMap, List.length_map]
  have : ∀ R, R < 13 → ((rng 0 R).map fun late => (rng 0 late.toNat).length).sum ≤ 200 := by decide
  exact this R (by omega)
theorem tx_get {R S T i : Nat} (hi : i < R) : (txL R S T)[i]? = some (.str (tx R S T i)) := by
  unfold txL
  rw [List.getElem?_map, plc_get hi]; rfl

abbrev numL (R : Nat) : List PV := (rng 0 R).map fun k => .flt (frac (2 * k - 9) 2)
def hgt (R S : Nat) : List Int := (plc R S).map fun k => ((R : Int) - 1) * (k - 4)
abbrev γ22 (R S T : Nat) : Str → Option PV :=
  upd (upd (upd (upd (upd (fun _ => none) (Str.ofString "ring") (.int R)) (Str.ofString "step") (.int S)) (Str.ofString "signs") (.list ((sgn R S T).map .int))) (Str.ofString "numbers") (.list (numL R))) (Str.ofString "heights") (.list ((hgt R S).map .int))

theorem fin_half : ∀ k : Nat, k < 12 → Float64.isInf (frac (2 * (k : Int) - 9) 2) = false := by decide +kernel

theorem rng_mem {n : Nat} {k : Int} (h : k ∈ rng 0 n) : ∃ j : Nat, k = j ∧ j < n := by
  obtain ⟨i, hi, rfl⟩ := List.mem_map.mp h
  exact ⟨i, by simp, List.mem_range.mp hi⟩

theorem law_f {w : World} {A : Around} {s : Shared} {E : Value → Shared → Prop} {Q : Flow → Shared → Prop} {h₀ g : Heap} {pm code doc : Value} {L a : Addr} {mg mb : Str → Option Value} {R S T : Nat} {a3 a5 a7 a9 a10 a11 a12 C : Addr} (c : Le mg mb g h₀ A (lawE pm code doc L a) a3 a5 a7 a9 a10 a11 a12 C)
    (hR : 2 ≤ R ∧ R ≤ 12) (hS : 1 ≤ S ∧ S ≤ 24) (hT : T < 3)
    (F : Fm h₀ nX (lawE pm code doc L a) (γ18 R S T) s.heap)
    (h : ∀ s', Sm s s' → Fm h₀ nX (lawE pm code doc L a) (γ22 R S T) s'.heap → WX w A (lawE pm code doc L a) Q E ((sBody (top 13)).drop 22) s') :
    WX w A (lawE pm code doc L a) Q E ((sBody (top 13)).drop 18) s := by
  have hu := c.hu
  have hdp := c.hd
  have hz12 : (1000 : Nat) ≤ sizeLine := by decide
  have hpl : (plc R S).length = R := by simp [plc]
  have hrl : (rng 0 R).length = R := by simp [rng]
  have Gk : ∀ {env : Env} {γ : Str → Option PV} h, Fm h₀ nX env γ h → Gd mg mb h := fun h F => c.Gg.ext (c.hg.trans F.toExt)
  have hsl := sgn_len R S T hR.2
  have es : (rng 0 R).flatMap (fun k => (rng 0 k.toNat).map fun j => PV.int (scI (tx R S T j.toNat) (tx R S T k.toNat))) = (sgn R S T).map .int := by
    unfold sgn
    rw [List.map_flatMap]
    congr 1
    funext k
    rw [List.map_map]; rfl
  -- the signs
  rw [drop_stm 18 (by decide)]
  refine WX.comp2 (γc := upd (fun _ => none) (Str.ofString "texts") (.list (txL R S T))) (cl := clE [Str.ofString "texts"] (lawE pm code doc L a)) (ins := rng 0 R) (ins2 := fun k => rng 0 k.toNat) (out := fun k j => .int (scI (tx R S T j.toNat) (tx R S T k.toNat))) c.ok F ?c (it_range1 c.B c.hh fm_sta rfl rfl (fun h F => (Gk h F).g) (fun h F => (Gk h F).b) (V.cell (d := .int R) rfl rfl rfl rfl).r (by omega) rfl) (by rw [es, List.length_map]; omega) rfl rfl fun h1 t1 F1 => ?_
  case c =>
    refine ⟨c.hh, rfl, by intro y hy; revert y; decide, rfl, by intro y hy; revert y; decide, rfl, rfl, by decide, clE_ok (by intro n hn; simp only [List.mem_cons, List.not_mem_nil, or_false] at hn; rcases hn with rfl; rfl), ?γc, fun _ _ => rfl, fun C k hk => ?it2, fun C k j hk hj => ?el, fun _ _ => rfl⟩
    case γc =>
      intro y e he
      unfold upd at he
      by_cases h2 : y = Str.ofString "texts"
      · subst h2; rw [if_pos rfl] at he; cases he; exact ⟨rfl, rfl, fun _ => rfl⟩
      · rw [if_neg h2] at he; cases he
    case it2 =>
      obtain ⟨i, rfl, hi⟩ := rng_mem hk
      exact itR_range1 (n := i) c.B c.hh fm_sta rfl rfl (fun h F => (Gk h F).g) (fun h F => (Gk h F).b) (V.loc rfl rfl rfl).r (by omega) rfl
    case el =>
      obtain ⟨i, rfl, hi⟩ := rng_mem hk
      obtain ⟨j, rfl, hj'⟩ := rng_mem hj
      rw [Int.toNat_natCast] at hj'
      obtain ⟨o, pm5, code5, doc5, hm, ho, hd, hc⟩ := id c.f5
      refine ev_callF (mg := mg) (fd := fdOf (top 5) pm5 code5 doc5) fm_sta rfl rfl (fun h F => (Gk h F).g) hm (fun h F => ⟨o, (c.hg.trans F.toExt) _ _ ho, hd⟩) rfl
        (Vs.r (Vs.cons fm_sta (V.item (i := (j : Int)) (l := txL R S T) fm_sta (V.cell rfl rfl rfl rfl) (V.loc rfl rfl rfl) (by omega) (by omega) (by rw [Int.toNat_natCast]; exact tx_get (by omega))) (Vs.cons fm_sta (V.item (i := (i : Int)) (l := txL R S T) fm_sta (V.cell rfl rfl rfl rfl) (V.loc rfl rfl rfl) (by omega) (by omega) (by rw [Int.toNat_natCast]; exact tx_get (by omega))) Vs.nil))) fun s' E' us F' hus => ?_
      exact strcoll_ok (c.f5.ext (c.hg.trans F'.toExt)) (Gk _ F').nolimit (by omega) hus
  rw [es] at F1
  -- no sign but an int
  rw [drop_stm 19 (by decide)]
  refine WX.ifNo F1 (Mine.T.congr (b := !decide (([] : List Int) = [])) (Mine.T.cmp fm_sta (V.congr (V.comp (γc := fun _ => none) (ins := sgn R S T) (pz := fun _ => false) (out := fun k => .int k) (cl := []) ?c (it_list c.hh (V.loc rfl rfl rfl).r) (by omega) (fun _ => rfl)) (show _ = PV.list (([] : List Int).map .int) by rw [List.filter_eq_nil_iff.mpr (fun _ _ => by decide)])) (V.list (ds := ([] : List Int).map .int) Vs.nil) (cm_neInts _ _ (by omega))) (by decide)) fun h2 t2 x2 => ?_
  case c =>
    refine ⟨rfl, by intro y hy; revert y; decide, rfl, by intro y hy; revert y; decide, rfl, fun n c q => (by cases q), fun y e he => (by cases he), fun _ => rfl, fun C k hk => ?_, fun C k hk q => absurd q (by decide)⟩
    refine ts_one (tr_typeIsNot (T := "int") (d := .int k) (mg := mg) (mb := mb) c.B fm_sta rfl rfl rfl (fun h F => (Gk h F).g) (fun h F => (Gk h F).b) c.B.int (V.loc rfl rfl rfl).r (fun s v hv => ?_) (by decide) rfl)
    obtain ⟨t, rfl⟩ := vInt hv
    exact typeIs_int _ _ _
  have F2 := fm_sta _ _ x2 F1
  -- numbers
  rw [drop_stm 20 (by decide)]
  refine WX.comp (γc := fun _ => none) (ins := rng 0 R) (pz := fun _ => true) (out := fun k => .flt (frac (2 * k - 9) 2)) (cl := []) c.ok F2 ?c2 (it_range1 c.B c.hh fm_sta rfl rfl (fun h F => (Gk h F).g) (fun h F => (Gk h F).b) (V.cell (d := .int R) rfl rfl rfl rfl).r (by omega) rfl) (by omega) rfl rfl fun h3 t3 F3 => ?_
  case c2 =>
    refine ⟨rfl, by intro y hy; revert y; decide, rfl, by intro y hy; revert y; decide, rfl, fun n c q => (by cases q), fun y e he => (by cases he), fun _ => rfl, fun C k hk => ts_nil, fun C k hk _ => ?_⟩
    obtain ⟨i, rfl, hi⟩ := rng_mem hk
    exact V.r (V.bin fm_sta (V.bin fm_sta (V.bin fm_sta V.int (V.loc rfl rfl rfl) (op_mul _ _ (mulL (by omega) (by omega)))) V.int (op_sub _ _)) V.int (op_divII _ 2 (by decide) (fin_half i (by omega))))
  rw [List.filter_eq_self.mpr (fun _ _ => rfl)] at F3
  -- heights
  rw [drop_stm 21 (by decide)]
  refine WX.comp (γc := upd (fun _ => none) (Str.ofString "ring") (.int R)) (ins := plc R S) (pz := fun _ => true) (out := fun k => .int (((R : Int) - 1) * (k - 4))) (cl := clE [Str.ofString "ring"] (lawE pm code doc L a)) c.ok F3 ?c3 (it_list c.hh (V.loc rfl rfl rfl).r) (by omega) rfl rfl fun h4 t4 F4 => ?_
  case c3 =>
    refine ⟨rfl, by intro y hy; revert y; decide, rfl, by intro y hy; revert y; decide, rfl, clE_ok (by intro n hn; simp only [List.mem_cons, List.not_mem_nil, or_false] at hn; rcases hn with rfl; rfl), ?γc, fun _ => rfl, fun C k hk => ts_nil, fun C k hk _ => ?_⟩
    case γc =>
      intro y e he
      unfold upd at he
      by_cases h2 : y = Str.ofString "ring"
      · subst h2; rw [if_pos rfl] at he; cases he; exact ⟨rfl, rfl, fun _ => rfl⟩
      · rw [if_neg h2] at he; cases he
    exact V.r (V.bin fm_sta (V.bin fm_sta (V.cell (d := .int R) rfl rfl rfl rfl) V.int (op_sub _ _)) (V.bin fm_sta (V.loc rfl rfl rfl) V.int (op_sub _ _)) (op_mul _ _ (mulL (by omega) (by omega))))
  rw [List.filter_eq_self.mpr (fun _ _ => rfl)] at F4
  have eh : (plc R S).map (fun k => PV.int (((R : Int) - 1) * (k - 4))) = (hgt R S).map .int := by unfold hgt; rw [List.map_map]; rfl
  rw [eh] at F4
  refine h _ (Sm.mk' s h4 t4) ?_
  exact fm_w F4 [(Str.ofString "ring", .int R), (Str.ofString "step", .int S), (Str.ofString "signs", .list ((sgn R S T).map .int)), (Str.ofString "numbers", .list (numL R)), (Str.ofString "heights", .list ((hgt R S).map .int))] (by
    intro p hp
    simp only [List.mem_cons, List.not_mem_nil, or_false] at hp
    rcases hp with rfl | rfl | rfl | rfl | rfl <;> rfl)
end Mine

namespace Mine
open PySem PySem.W PySem.W.X
open PyProof.Rows (AllBare BMod)

theorem flats_any {h h' : Heap} : ∀ {ds : List PV} {us : List Value}, (∀ x ∈ ds, flat x = true) → ValsAre h ds us → ValsAre h' ds us
  | [], us, _, q => by simpa [ValsAre] using q
  | x :: xs, us, hf, q => by
    simp only [ValsAre] at q
    obtain ⟨u, r, rfl, q1, q2⟩ := q
    exact ValsAre.cons (flat_any (hf x (.head _)) q1) (flats_any (fun x hx => hf x (.tail _ hx)) q2)
/-- a list told by its very values -/
theorem Fm.raw {h₀ : Heap} {X : Addr → Prop} {env : Env} {γ : Str → Option PV} {h : Heap} {x : Str} {l : List PV} (F : Fm h₀ X env γ h) (hx : γ x = some (.list l)) : ∃ vs, Fm h₀ X env (upd γ x (.raw vs)) h ∧ ValsAre h l vs := by
  obtain ⟨m, cm, hn, hc, hv⟩ := F.ex
  obtain ⟨v, h1, h2⟩ := hv x _ hx
  obtain ⟨vs, h3, h4⟩ := list_raw h2
  refine ⟨vs, ⟨F.g, m, cm, hn, hc, fun z d e => ?_⟩, h4⟩
  unfold upd at e
  by_cases hz : z = x
  · subst hz; rw [if_pos rfl] at e; cases e; exact ⟨v, h1, h3⟩
  · rw [if_neg hz] at e; exact hv z d e

section
variable {w : World} {A : Around} {env : Env} {P : Heap → Prop} {s : Shared} {E : Value → Shared → Prop} {Q : Flow → Shared → Prop} {rest : List Stmt}
theorem V.relist {e : Expr} {l : List PV} {vs : List Value} (h : V w A env P e (.raw vs)) (hf : ∀ h, ValsAre h l vs) : V w A env P e (.list l) :=
  ⟨fun s E hp => h.r.at hp fun v s' g k => ⟨raw_list g (hf _), k⟩⟩
/-- a test that some values decide -/
structure TA (w : World) (A : Around) (env : Env) (P : Heap → Prop) (es : List Expr) (b : Bool) : Prop where
  r : ∀ (s : Shared) (E : Value → Shared → Prop), P s.heap → wpAny (model pr w) A (allTrue .Or es env) (fun x s' => x = b ∧ Keeps s s') E s
theorem TA.nil : TA w A env P [] false := ⟨fun s E hp => wpAny_allTrue_Or_nil ⟨rfl, kRefl s⟩⟩
theorem TA.cons {x : Expr} {xs : List Expr} (hP : Sta P) (h : T w A env P x false) (hs : TA w A env P xs false) : TA w A env P (x :: xs) false := ⟨fun s E hp =>
  wpAny_allTrue_Or_cons (h.r.at hp fun s' k => by
    simp only [Bool.false_eq_true, if_false]
    exact wpAny_mono (hs.r s' E (hP _ _ (kExt k) hp)) (fun b s2 q => ⟨q.1, kTrans k q.2⟩) fun _ _ e => e)⟩
theorem T.orAll {xs : List Expr} {pos : Pos} (h : TA w A env P xs false) : T w A env P (.BoolOp .Or xs pos) false := ⟨fun s E hp => wpAny_isTrue_BoolOp (h.r s E hp)⟩

/-- a name's store behind a walk that turned more than the heap's end -/
theorem WX.assignRaw {X : Addr → Prop} {x : Str} {p pos : Pos} {value : Expr}
    (h : WV w A env (fun v s' => ∃ h₁ γ d, EnvOk h₁ env ∧ Fm h₁ X env γ s'.heap ∧ ValIs s'.heap d v ∧ ∀ h' tk, Fm h₁ X env (upd γ x d) h' → WX w A env Q E rest { s' with heap := h', toks := tk }) E value s) (hk : env.kindOf x = some .local)
    (hs : swapsWith value (some (.Name x p)) pos.line env = pure false := by rfl) : WX w A env Q E (.Assign [.Name x p] value pos :: rest) s :=
  ⟨wpAny_execs_cons (wpAny_Assign_Name (wpAny_mono h.run (fun v s' q => by
    obtain ⟨h₁, γ, d, ok, F, hv, hq⟩ := q
    exact store_local ok F hk hv fun h' tk F' _ => (hq h' tk F').run) fun _ _ e => e) hs)⟩
end

/-- the table of covariance's code, in place -/
structure Lf (mg mb : Str → Option Value) (g h₀ : Heap) (A : Around) (env : Env) (a3 a5 a7 a9 a10 a11 a12 C cc P bm : Addr) (ob : Obj) : Prop extends Le mg mb g h₀ A env a3 a5 a7 a9 a10 a11 a12 C where
  fc : FnC mg g (top 3) a3 cc
  M : BMod g mainGlobals mg bm ob
  gP : g.get? P = none
  tb : Tb cc P h₀

/-- all that stood, but for the table -/
def Old (P : Addr) (h h' : Heap) : Prop := ∀ b o, b ≠ P → h.get? b = some o → h'.get? b = some o
theorem Old.trans {P : Addr} {a b c : Heap} (x : Old P a b) (y : Old P b c) : Old P a c := fun d o hd e => y d o hd (x d o hd e)
theorem Old.ext {P : Addr} {a b : Heap} (x : Ext a b) : Old P a b := fun d o _ e => x d o e
theorem Tb.at {c P : Addr} {h h' : Heap} (x : Tb c P h) (k : ∀ b, b = c ∨ b = P → ∀ o, h.get? b = some o → h'.get? b = some o) : Tb c P h' := by
  obtain ⟨ps, x1, x2⟩ := x
  obtain ⟨o, vs, file, tf, flags, tg, inF, text, tt, op, y1, y2, y3, y4, y5, y6, y7, y8, y9, y10, y11⟩ := x1
  obtain ⟨⟨o2, vs2, z1, z2⟩, z3⟩ := x2
  exact ⟨ps, ⟨o, vs, file, tf, flags, tg, inF, text, tt, op, k _ (.inl rfl) _ y1, y2, y3, y4, y5, y6, y7, k _ (.inr rfl) _ y8, y9, y10, y11⟩, ⟨⟨o2, vs2, k _ (.inl rfl) _ z1, z2⟩, k _ (.inr rfl) _ z3⟩⟩
theorem Tb.some_ {c P : Addr} {h : Heap} (x : Tb c P h) : ∀ b, b = c ∨ b = P → ∃ o, h.get? b = some o := by
  obtain ⟨ps, x1, x2⟩ := x
  obtain ⟨o, vs, file, tf, flags, tg, inF, text, tt, op, y1, y2, y3, y4, y5, y6, y7, y8, y9, y10, y11⟩ := x1
  rintro b (rfl | rfl)
  · exact ⟨_, y1⟩
  · exact ⟨_, y8⟩

abbrev hid (env : Env) (h : Heap) : Heap := hideAll h (env.locals :: env.cells.map (·.2))
/-- a new ground, behind a call of covariance -/
theorem Lf.rebase {mg mb : Str → Option Value} {g h₀ : Heap} {A : Around} {env : Env} {γ : Str → Option PV} {a3 a5 a7 a9 a10 a11 a12 C cc P bm : Addr} {ob : Obj} (c : Lf mg mb g h₀ A env a3 a5 a7 a9 a10 a11 a12 C cc P bm ob) {h h' : Heap} (F : Fm h₀ nX env γ h) (k : ∀ b o, b ≠ P → h.get? b = some o → h'.get? b = some o) (t : Tb cc P h') :
    Lf mg mb g (hid env h') A env a3 a5 a7 a9 a10 a11 a12 C cc P bm ob ∧ Fm (hid env h') nX env γ h' ∧ Old P h₀ (hid env h') := by
  have ok := c.ok
  have nin : ∀ b o, h₀.get? b = some o → b ∉ env.locals :: env.cells.map (·.2) := fun b o e hm => by
    rcases List.mem_cons.mp hm with hm | hm
    · rw [hm, ok.freshL] at e; cases e
    · obtain ⟨q, hq, rfl⟩ := List.mem_map.mp hm
      rw [ok.freshC q.1 q.2 hq] at e; cases e
  obtain ⟨ps, hP⟩ := (c.tb.ext F.toExt).obj
  have old : Old P h₀ (hid env h') := fun b o hb e => hideAll_get _ (k b o hb (F.toExt _ _ e)) (nin b o e)
  have Fb := (F.mono (X' := fun b => b = P) fun b hb => hb.elim).but hP k
  have ok' : EnvOk (hid env h') env := ⟨ok.kind, ok.apart, ok.off, hideAll_none _ (.head _), fun n c hm => hideAll_none _ (.tail _ (List.mem_map.mpr ⟨(n, c), hm, rfl⟩))⟩
  have hg' : Ext g (hid env h') := fun b o e => old b o (fun q => by rw [q, c.gP] at e; cases e) (c.hg _ _ e)
  refine ⟨⟨⟨⟨⟨c.B, c.Gg, hg', c.hh, ok'⟩, c.f3, c.f7, c.f9, c.f10, c.f11, c.O, c.hfr, c.hfL, c.hu, c.hd, c.gL, c.glo⟩, c.f5, c.f12⟩, c.fc, c.M, c.gP, t.at fun b hb o e => hideAll_get _ e ?_⟩, ⟨fun b o _ e => of_hideAll _ e, Fb.ex⟩, old⟩
  obtain ⟨o', ho'⟩ := c.tb.some_ b hb
  exact nin b o' ho'
end Mine

namespace Mine
open PySem PySem.W PySem.W.X
open PyProof.Rows (AllBare BMod)

section
variable {w : World} {A : Around} {env : Env} {P : Heap → Prop} {s : Shared} {E : Value → Shared → Prop} {rest : List Stmt}
theorem WX.ifNe {l r : Expr} {p pos : Pos} {body : List Stmt} {Q : Flow → Shared → Prop}
    (h : WV w A env (fun v1 s1 => WV w A env (fun v2 s2 => wpAny (model pr w) A (compareOp .NotEq v1 v2) (fun c s3 => c = .bool false ∧ WX w A env Q E rest s3) E s2) E r s1) E l s) (hm : behindInMarks .NotEq r = false := by with_unfolding_all rfl) :
    WX w A env Q E (.If (.Compare l [.NotEq] [r] p) body [] pos :: rest) s := by
  refine ⟨wpAny_execs_cons (wpAny_If (wpAny_isTrue_Compare1 ?_ hm))⟩
  refine wpAny_mono h.run (fun v1 s1 h1 => ?_) fun _ _ e => e
  refine wpAny_mono h1.run (fun v2 s2 h2 => ?_) fun _ _ e => e
  refine wpAny_mono h2 (fun c s3 h3 => ?_) fun _ _ e => e
  obtain ⟨rfl, h3⟩ := h3
  refine wpAny_truthy_bool ?_
  simp only [Bool.false_eq_true, if_false]
  exact wpAny_execs_nil h3.run
theorem WV.of {e : Expr} {d : PV} {Q : Value → Shared → Prop} (h : V w A env P e d) (hp : P s.heap) (hQ : ∀ v s', ValIs s'.heap d v → Keeps s s' → Q v s') : WV w A env Q E e s := ⟨h.r.at hp hQ⟩
theorem WV.list2 {e1 e2 : Expr} {pos : Pos} {Q : Value → Shared → Prop} (n1 : ∀ x p, e1 ≠ .Starred x p) (n2 : ∀ x p, e2 ≠ .Starred x p)
    (h : WV w A env (fun v1 s1 => WV w A env (fun v2 s2 => Q (.ref s2.heap.objs.size) { s2 with heap := s2.heap.push { cls := .type "list", data := .seq [v1, v2].toArray } }) E e2 s1) E e1 s) : WV w A env Q E (.List [e1, e2] pos) s := by
  refine ⟨wpAny_List ?_⟩
  have key : wpAny (model pr w) A (eval e1 env) (fun v1 s₁ => wpAny (model pr w) A (spliced (backTo pos (starEach [e2] env))) (fun vs s₂ => (v1 :: vs).length ≤ sizeLine ∧ Q (.ref s₂.heap.objs.size) { s₂ with heap := s₂.heap.push { cls := .type "list", data := .seq (v1 :: vs).toArray } }) E s₁) E s := by
    refine wpAny_mono h.run (fun v1 s1 h1 => ?_) fun _ _ e => e
    have key2 : wpAny (model pr w) A (eval e2 env) (fun v2 s₁ => wpAny (model pr w) A (spliced (backTo pos (starEach [] env))) (fun vs s₂ => (v1 :: v2 :: vs).length ≤ sizeLine ∧ Q (.ref s₂.heap.objs.size) { s₂ with heap := s₂.heap.push { cls := .type "list", data := .seq (v1 :: v2 :: vs).toArray } }) E s₁) E s1 := by
      refine wpAny_mono h1.run (fun v2 s2 h2 => ?_) fun _ _ e => e
      exact wpAny_items_nil ⟨(show (2 : Nat) ≤ sizeLine by decide), h2⟩
    cases e2 <;> first | exact absurd rfl (n2 _ _) | exact wpAny_items_cons key2
  cases e1 <;> first | exact absurd rfl (n1 _ _) | exact wpAny_items_cons key
end

abbrev hgtL (R S : Nat) : List PV := (hgt R S).map .int
abbrev γ24 (R S T : Nat) (nv hv : List Value) : Str → Option PV :=
  upd (upd (upd (upd (upd (upd (upd (fun _ => none) (Str.ofString "ring") (.int R)) (Str.ofString "step") (.int S)) (Str.ofString "signs") (.list ((sgn R S T).map .int))) (Str.ofString "numbers") (.raw nv)) (Str.ofString "heights") (.raw hv)) (Str.ofString "kept") (.list [.raw nv, .raw hv])) (Str.ofString "unlike") (.str mUnlike)

theorem law_g {w : World} {A : Around} {s : Shared} {E : Value → Shared → Prop} {Q : Flow → Shared → Prop} {h₀ g : Heap} {pm code doc : Value} {L a : Addr} {mg mb : Str → Option Value} {R S T : Nat} {a3 a5 a7 a9 a10 a11 a12 C cc P bm : Addr} {ob : Obj} (c : Lf mg mb g h₀ A (lawE pm code doc L a) a3 a5 a7 a9 a10 a11 a12 C cc P bm ob)
    (hR : 2 ≤ R ∧ R ≤ 12) (hS : 1 ≤ S ∧ S ≤ 24)
    (F : Fm h₀ nX (lawE pm code doc L a) (γ22 R S T) s.heap)
    (h : ∀ s' nv hv, (∀ h, ValsAre h (numL R) nv) → (∀ h, ValsAre h (hgtL R S) hv) → Sm s s' → Fm h₀ nX (lawE pm code doc L a) (γ24 R S T nv hv) s'.heap → WX w A (lawE pm code doc L a) Q E ((sBody (top 13)).drop 25) s') :
    WX w A (lawE pm code doc L a) Q E ((sBody (top 13)).drop 22) s := by
  have hu := c.hu
  have hdp := c.hd
  have hz12 : (1000 : Nat) ≤ sizeLine := by decide
  have hpl : (hgtL R S).length = R := by simp [hgt, plc]
  have hnl : (numL R).length = R := by simp [rng]
  obtain ⟨nv, F1, hnv⟩ := F.raw (x := Str.ofString "numbers") (l := numL R) rfl
  obtain ⟨hv, F2, hhv⟩ := F1.raw (x := Str.ofString "heights") (l := hgtL R S) rfl
  have nvA : ∀ h, ValsAre h (numL R) nv := fun h => flats_any (fun x hx => by obtain ⟨k, _, rfl⟩ := List.mem_map.mp hx; rfl) hnv
  have hvA : ∀ h, ValsAre h (hgtL R S) hv := fun h => flats_any (fun x hx => by obtain ⟨k, _, rfl⟩ := List.mem_map.mp hx; rfl) hhv
  have ln : nv.length = R := by rw [(nvA default).length]; exact hnl
  have lh : hv.length = R := by rw [(hvA default).length]; exact hpl
  have F3 := fm_w F2 [(Str.ofString "ring", .int R), (Str.ofString "step", .int S), (Str.ofString "signs", .list ((sgn R S T).map .int)), (Str.ofString "numbers", .raw nv), (Str.ofString "heights", .raw hv)] (by
    intro p hp
    simp only [List.mem_cons, List.not_mem_nil, or_false] at hp
    rcases hp with rfl | rfl | rfl | rfl | rfl <;> rfl)
  clear F F1 F2
  -- kept, unlike
  rw [drop_stm 22 (by decide)]
  refine WX.assign (d := .list [.raw nv, .raw hv]) c.ok F3 (V.list (Vs.cons fm_sta (V.copy (V.loc rfl rfl rfl) (by omega)) (Vs.cons fm_sta (V.copy (V.loc rfl rfl rfl) (by omega)) Vs.nil)) (show (2 : Nat) ≤ sizeLine by decide)) rfl fun h4 t4 F4 => ?_
  rw [drop_stm 23 (by decide)]
  refine WX.assign (d := .str mUnlike) c.ok F4 V.str rfl fun h5 t5 F5 => ?_
  have F5 : Fm h₀ nX (lawE pm code doc L a) (γ24 R S T nv hv) h5 := F5
  -- the words
  rw [drop_stm 24 (by decide)]
  have xg : ∀ h, Fm h₀ nX (lawE pm code doc L a) (γ24 R S T nv hv) h → Ext g h := fun h F => c.hg.trans F.toExt
  have vnum : V w A (lawE pm code doc L a) (Fm h₀ nX (lawE pm code doc L a) (γ24 R S T nv hv)) (.Name (Str.ofString "numbers") ⟨0, 0, 0, 0⟩) (.list (numL R)) := V.relist (V.loc rfl rfl rfl) nvA
  refine WX.ifNe (WV.list2 (by intro _ _ q; cases q) (by intro _ _ q; cases q) ⟨?_⟩)
  refine wpAny_mono (ev_words (w := w) (s := { s with heap := h5, toks := t5 }) c.B c.Gg xg c.f3 c.f10 c.O c.hfr (c.frs F5) c.gF c.hh (by omega) (by omega) rfl rfl rfl F5 rfl
    (Vs.r (Vs.cons fm_sta (V.relist (V.loc rfl rfl rfl) nvA) (Vs.cons fm_sta (V.from_ (b := 1) (l := hgtL R S) fm_sta (V.relist (V.loc rfl rfl rfl) hvA) V.int (by omega)) Vs.nil))) (dx := numL R) (dy := (hgtL R S).drop 1) (msg := mUnlike) (by omega) (by rw [List.length_drop]; omega) (.inl ⟨by rw [List.length_drop]; omega, rfl⟩)) (fun u6 s6 h6 => ⟨?_⟩) fun _ _ e => e
  obtain ⟨⟨tu6, rfl⟩, k6⟩ := h6
  have F6 := c.kr F5 (.of_ks k6)
  refine wpAny_mono (ev_words (w := w) (s := s6) c.B c.Gg xg c.f3 c.f10 c.O c.hfr (c.frs F6) c.gF c.hh (by omega) (by omega) rfl rfl rfl F6 rfl
    (Vs.r (Vs.cons fm_sta (V.from_ (b := 1) (l := numL R) fm_sta (V.relist (V.loc rfl rfl rfl) nvA) V.int (by omega)) (Vs.cons fm_sta (V.relist (V.loc rfl rfl rfl) hvA) Vs.nil))) (dx := (numL R).drop 1) (dy := hgtL R S) (msg := mUnlike) (by rw [List.length_drop]; omega) (by omega) (.inl ⟨by rw [List.length_drop]; omega, rfl⟩)) (fun u7 s7 h7 => ?_) fun _ _ e => e
  obtain ⟨⟨tu7, rfl⟩, k7⟩ := h7
  have F7 := c.kr F6 (.of_ks k7)
  have gl : Good (.list [.str mUnlike, .str mUnlike]) s7 (.ref s7.heap.objs.size) { s7 with heap := s7.heap.push { cls := .type "list", data := .seq [.str mUnlike tu6, .str mUnlike tu7].toArray 0 }, toks := s7.toks } :=
    gList (kRefl s7) (ValsAre.cons (by simp only [ValIs]; exact ⟨_, rfl⟩) (ValsAre.cons (by simp only [ValIs]; exact ⟨_, rfl⟩) ValsAre.nil))
  have F8 := fm_sta _ _ (kExt gl.2) F7
  refine WV.of (s := { s7 with heap := s7.heap.push { cls := .type "list", data := .seq [.str mUnlike tu6, .str mUnlike tu7].toArray 0 } }) (V.list (ds := [.str mUnlike, .str mUnlike]) (Vs.cons fm_sta (V.loc rfl rfl rfl) (Vs.cons fm_sta (V.loc rfl rfl rfl) Vs.nil)) (show (2 : Nat) ≤ sizeLine by decide)) F8 fun v9 s9 g9 k9 => ?_
  refine wpAny_mono (cm_neSame (w := w) [.str mUnlike, .str mUnlike] rfl (by simp only [PV.deeps, PV.deep, Nat.max_self]; omega) s9 _ _ _ (gl.1.ext (kExt k9)) g9) (fun v s10 g10 => ?_) fun _ _ e => e
  obtain ⟨gv, k10⟩ := g10
  have ev := vBool gv
  subst ev
  refine ⟨rfl, h s10 nv hv nvA hvA ?_ (fm_sta _ _ (kExt k10) (fm_sta _ _ (kExt k9) F8))⟩
  exact (Sm.mk' s h5 t5).trans ((Sm.kr (.of_ks k6)).trans ((Sm.kr (.of_ks k7)).trans ((Sm.keeps gl.2).trans ((Sm.keeps k9).trans (Sm.keeps k10)))))
end Mine

namespace Mine
open PySem PySem.W PySem.W.X
open PyProof.Rows (AllBare BMod)

theorem Sm.kc {P : Addr} {a b : Shared} (x : Kc P a b) : Sm a b := by
  obtain ⟨h, t, g, rfl, _, k⟩ := x
  exact ⟨h, t, g, rfl, k⟩
theorem Kc.old {P : Addr} {a b : Shared} (x : Kc P a b) : ∀ b' o, b' ≠ P → a.heap.get? b' = some o → b.heap.get? b' = some o := by
  obtain ⟨h, t, g, rfl, k, _⟩ := x
  exact k

abbrev covA (R S : Nat) : UInt64 := covF (numL R) (hgtL R S)
abbrev covB (R S : Nat) : UInt64 := covF (hgtL R S) (numL R)
abbrev γ28 (R S K : Nat) : Str → Option PV :=
  upd (upd (upd (upd (fun _ => none) (Str.ofString "ring") (.int R)) (Str.ofString "step") (.int S)) (Str.ofString "signs") (.list ((sgn R S K).map .int))) (Str.ofString "share") (.flt (covA R S))

theorem law_h {w : World} {A : Around} {s : Shared} {E : Value → Shared → Prop} {Q : Flow → Shared → Prop} {h₀ g : Heap} {pm code doc : Value} {L a : Addr} {mg mb : Str → Option Value} {R S K : Nat} {a3 a5 a7 a9 a10 a11 a12 C cc P bm : Addr} {ob : Obj} (c : Lf mg mb g h₀ A (lawE pm code doc L a) a3 a5 a7 a9 a10 a11 a12 C cc P bm ob)
    {nv hv : List Value} (nvA : ∀ h, ValsAre h (numL R) nv) (hvA : ∀ h, ValsAre h (hgtL R S) hv)
    (hc1 : covChk (numL R) (hgtL R S) = true) (hc2 : covChk (hgtL R S) (numL R) = true) (heq : (Float64.cmp (covB R S) (covA R S) != some Ordering.eq) = false)
    (F : Fm h₀ nX (lawE pm code doc L a) (γ24 R S K nv hv) s.heap)
    (h : ∀ s' h₁, Lf mg mb g h₁ A (lawE pm code doc L a) a3 a5 a7 a9 a10 a11 a12 C cc P bm ob → Old P h₀ h₁ → Sm s s' → Fm h₁ nX (lawE pm code doc L a) (γ28 R S K) s'.heap → WX w A (lawE pm code doc L a) Q E ((sBody (top 13)).drop 28) s') :
    WX w A (lawE pm code doc L a) Q E ((sBody (top 13)).drop 25) s := by
  have hu := c.hu
  have hdp := c.hd
  rw [drop_stm 25 (by decide)]
  refine WX.assignRaw (X := nX) (WV.call (P := Fm h₀ nX (lawE pm code doc L a) _) (ds := [.list (numL R), .list (hgtL R S)]) rfl rfl rfl (c.Gg.g.keeps (c.hg.trans F.toExt)) (c.f3.ext (c.hg.trans F.toExt)) rfl (Vs.cons fm_sta (V.relist (V.loc rfl rfl rfl) nvA) (Vs.cons fm_sta (V.relist (V.loc rfl rfl rfl) hvA) Vs.nil)) F fun vs s1 hvs k1 => ?_) rfl
  have F1 := fm_sta _ _ (kExt k1) F
  obtain ⟨o3, pm3, doc3, hm3, ho3, _⟩ := id c.fc
  refine wpAny_mono (cov_ok (w := w) c.B c.Gg (c.hg.trans F1.toExt) c.M c.fc (c.tb.ext F1.toExt) c.gP c.hh (by omega) hvs hc1) (fun v s2 h2 => ?_) fun _ _ e => e
  obtain ⟨⟨t2, rfl⟩, k2, tb2⟩ := h2
  obtain ⟨c2, F2, old2⟩ := c.rebase F1 k2.old tb2
  refine ⟨_, _, .flt (covA R S), c2.ok, F2, by simp only [ValIs]; exact ⟨_, rfl⟩, fun h3 t3 F3 => ?_⟩
  -- the other way round
  rw [drop_stm 26 (by decide)]
  refine WX.assignRaw (X := nX) (WV.call (P := Fm _ nX (lawE pm code doc L a) _) (ds := [.list (hgtL R S), .list (numL R)]) rfl rfl rfl (c2.Gg.g.keeps (c2.hg.trans F3.toExt)) (c2.f3.ext (c2.hg.trans F3.toExt)) rfl (Vs.cons fm_sta (V.relist (V.loc rfl rfl rfl) hvA) (Vs.cons fm_sta (V.relist (V.loc rfl rfl rfl) nvA) Vs.nil)) F3 fun vs s4 hvs4 k4 => ?_) rfl
  have F4 := fm_sta _ _ (kExt k4) F3
  refine wpAny_mono (cov_ok (w := w) c2.B c2.Gg (c2.hg.trans F4.toExt) c2.M c2.fc (c2.tb.ext F4.toExt) c2.gP c2.hh (by omega) hvs4 hc2) (fun v s5 h5 => ?_) fun _ _ e => e
  obtain ⟨⟨t5, rfl⟩, k5, tb5⟩ := h5
  obtain ⟨c5, F5, old5⟩ := c2.rebase F4 k5.old tb5
  refine ⟨_, _, .flt (covB R S), c5.ok, F5, by simp only [ValIs]; exact ⟨_, rfl⟩, fun h6 t6 F6 => ?_⟩
  -- alike
  have Gk : ∀ {γ : Str → Option PV} h, Fm (hid (lawE pm code doc L a) s5.heap) nX (lawE pm code doc L a) γ h → Gd mg mb h := fun h F => c5.Gg.ext (c5.hg.trans F.toExt)
  have hflt : ∀ (x : UInt64) (s : Shared) (v : Value), ValIs s.heap (.flt x) v → s.TypeIs v "float" := fun x s v hv => by
    obtain ⟨t, rfl⟩ := vFlt hv
    exact typeIs_float _ _ _
  rw [drop_stm 27 (by decide)]
  refine WX.ifNo F6 (T.orAll (TA.cons fm_sta ⟨tr_typeIsNot (T := "float") (d := .flt (covA R S)) c5.B fm_sta rfl rfl rfl (fun h F => (Gk h F).g) (fun h F => (Gk h F).b) c5.B.flt (V.loc rfl rfl rfl).r (hflt _) (by decide) rfl⟩
    (TA.cons fm_sta ⟨tr_typeIsNot (T := "float") (d := .flt (covB R S)) c5.B fm_sta rfl rfl rfl (fun h F => (Gk h F).g) (fun h F => (Gk h F).b) c5.B.flt (V.loc rfl rfl rfl).r (hflt _) (by decide) rfl⟩
    (TA.cons fm_sta (Mine.T.congr (T.cmp fm_sta (V.loc rfl rfl rfl) (V.loc rfl rfl rfl) (cm_neFF (covB R S) (covA R S))) heq)
    (TA.cons fm_sta (T.cmp fm_sta (V.list (ds := [.raw nv, .raw hv]) (Vs.cons fm_sta (V.loc rfl rfl rfl) (Vs.cons fm_sta (V.loc rfl rfl rfl) Vs.nil)) (show (2 : Nat) ≤ sizeLine by decide)) (V.loc rfl rfl rfl) (cm_neSame [.raw nv, .raw hv] rfl (by simp only [PV.deeps, PV.deep, Nat.max_self]; omega))) TA.nil))))) fun h7 t7 x7 => ?_
  have F7 := fm_sta _ _ x7 F6
  refine h _ _ c5 (old2.trans old5) ?_ (fm_w F7 [(Str.ofString "ring", .int R), (Str.ofString "step", .int S), (Str.ofString "signs", .list ((sgn R S K).map .int)), (Str.ofString "share", .flt (covA R S))] (by
    intro p hp
    simp only [List.mem_cons, List.not_mem_nil, or_false] at hp
    rcases hp with rfl | rfl | rfl | rfl <;> rfl))
  exact (Sm.keeps k1).trans ((Sm.kc k2).trans ((Sm.mk' s2 h3 t3).trans ((Sm.keeps k4).trans ((Sm.kc k5).trans ((Sm.mk' s5 h6 t6).trans (Sm.mk' _ h7 t7))))))
end Mine

namespace Mine
open PySem PySem.W PySem.W.X
open PyProof.Rows (AllBare BMod)

def pzI (R S : Nat) (k : Int) : Bool := (R : Int).fmod k == 0 && (S : Int).fmod k == 0
def shI (R S : Nat) : Int := maxI ((rng 1 R).filter (pzI R S))
def euI (R S : Nat) : Int := eu 13 ((S : Int).fmod R) R (shI R S)
abbrev cnt (R S K : Nat) (i : Int) : Nat := (sgn R S K).count i
abbrev f12 (R S : Nat) : UInt64 := Float64.mul (Float64.ofInt 12) (covA R S)
/-- what the end asks, in plain numbers -/
structure Fin_ (R S K : Nat) : Prop where
  ne : 0 < ((rng 1 R).filter (pzI R S)).length
  sh : 0 ≤ shI R S ∧ shI R S ≤ 100
  a : (Float64.cmpInt (f12 R S) (R * (euI R S + 3 * (R - shI R S))) != some Ordering.eq) = false
  b : ((2 * (cnt R S K 0 : Int)) != (R : Int) * (shI R S - 1)) = false
  c : ((2 * ((cnt R S K 1 : Int) + cnt R S K 0 + cnt R S K (-1))) != (R : Int) * ((R : Int) - 1)) = false
  n : nI (4 * R * cnt R S K 1) = true
  d : (Float64.cmpInt (Float64.add (Float64.ofInt (4 * R * cnt R S K 1)) (f12 R S)) ((R : Int) * (R + 1) * (R - shI R S)) == some Ordering.eq) = true

theorem nI12 : nI 12 = true := by decide +kernel

theorem V.count {w : World} {A : Around} {env : Env} {P : Heap → Prop} {o e : Expr} {apos pos : Pos} {xs : List Int} {k : Int} (hP : Sta P) (hbase : attributeBase o (Str.ofString "count") env (eval o env) = eval o env) (hline : (apos.endLine == pos.line) = true)
    (ho : V w A env P o (.list (xs.map .int))) (he : V w A env P e (.int k)) (hn : noStar [e] = true) (hnn : ∀ x p, e ≠ .Starred x p := by intro _ _ h; cases h) (hfew : ((backTo pos (starEach [e] env)).all (fun x => !x.1) && (backToKw pos (keywordEach [] env)).all (fun x => x.1.isSome)
      && decide ([e].length + ([] : List Keyword).length + (if ([] : List Keyword).isEmpty then 0 else 1) < 30)) = true := by rfl) :
    V w A env P (.Call (.Attribute o (Str.ofString "count") apos) [e] [] pos) (.int (xs.count k : Nat)) := ⟨ev_count hP hbase hline ho.r he.r hn hnn hfew⟩

theorem law_i {w : World} {A : Around} {s : Shared} {E : Value → Shared → Prop} {Q : Flow → Shared → Prop} {h₀ g : Heap} {pm code doc : Value} {L a : Addr} {mg mb : Str → Option Value} {R S K : Nat} {a3 a5 a7 a9 a10 a11 a12 C cc P bm : Addr} {ob : Obj} (c : Lf mg mb g h₀ A (lawE pm code doc L a) a3 a5 a7 a9 a10 a11 a12 C cc P bm ob)
    (hR : 2 ≤ R ∧ R ≤ 12) (hS : 1 ≤ S ∧ S ≤ 24) (fin : Fin_ R S K)
    (F : Fm h₀ nX (lawE pm code doc L a) (γ28 R S K) s.heap)
    (h : ∀ s', Sm s s' → Ext h₀ s'.heap → Q (.ret (.bool true)) s') :
    WX w A (lawE pm code doc L a) Q E ((sBody (top 13)).drop 28) s := by
  have hu := c.hu
  have hdp := c.hd
  have hz12 : (1000 : Nat) ≤ sizeLine := by decide
  have hsh := fin.sh
  have Gk : ∀ {env : Env} {γ : Str → Option PV} h, Fm h₀ nX env γ h → Gd mg mb h := fun h F => c.Gg.ext (c.hg.trans F.toExt)
  -- shared
  rw [drop_stm 28 (by decide)]
  refine WX.assign (d := .int (shI R S)) c.ok F ?val rfl fun h1 t1 F1 => ?_
  case val =>
    refine ⟨ev_callB (mg := mg) (mb := mb) (ds := [.list (((rng 1 R).filter (pzI R S)).map .int)]) fm_sta rfl rfl (fun h F => (Gk h F).g) (fun h F => (Gk h F).b) c.B.max.1 c.B.max.2 rfl (Vs.r (Vs.cons fm_sta (V.comp (γc := upd (upd (fun _ => none) (Str.ofString "ring") (.int R)) (Str.ofString "step") (.int S)) (ins := rng 1 R) (pz := pzI R S) (out := fun k => .int k) (cl := clE [Str.ofString "step", Str.ofString "ring"] (lawE pm code doc L a)) ?c
      (it_range2 c.B c.hh fm_sta rfl rfl (fun h F => (Gk h F).g) (fun h F => (Gk h F).b) V.int.r (V.bin fm_sta (V.cell (d := .int R) rfl rfl rfl rfl) V.int (op_add _ _)).r (by omega) rfl) (by simp [rng]; omega) (fun _ => rfl)) Vs.nil)) fun s' E' us _ hus => max_at c.hh fin.ne hus⟩
    refine ⟨rfl, by intro y hy; revert y; decide, rfl, by intro y hy; revert y; decide, rfl, clE_ok (by intro n hn; simp only [List.mem_cons, List.not_mem_nil, or_false] at hn; rcases hn with rfl | rfl <;> rfl), ?γc, fun _ => rfl, fun C k hk => ?ts, fun C k hk _ => (V.loc rfl rfl rfl).r⟩
    case γc =>
      intro y e he
      unfold upd at he
      by_cases h2 : y = Str.ofString "step"
      · subst h2; rw [if_pos rfl] at he; cases he; exact ⟨rfl, rfl, fun _ => rfl⟩
      · rw [if_neg h2] at he
        by_cases h3 : y = Str.ofString "ring"
        · subst h3; rw [if_pos rfl] at he; cases he; exact ⟨rfl, rfl, fun _ => rfl⟩
        · rw [if_neg h3] at he; cases he
    case ts =>
      have hk0 : k ≠ 0 := by
        obtain ⟨i, hi, rfl⟩ := List.mem_map.mp hk
        omega
      refine ts_one (Mine.T.r (T.and2 (a := (R : Int).fmod k == 0) fm_sta (T.cmp fm_sta (V.bin fm_sta (V.cell (d := .int R) rfl rfl rfl rfl) (V.loc rfl rfl rfl) (op_mod _ k hk0)) V.int (cm_eq _ 0)) (fun ha => Mine.T.congr (T.cmp fm_sta (V.bin fm_sta (V.cell (d := .int S) rfl rfl rfl rfl) (V.loc rfl rfl rfl) (op_mod _ k hk0)) V.int (cm_eq _ 0)) (by unfold pzI; rw [ha, Bool.true_and])) (fun ha => by unfold pzI; rw [ha, Bool.false_and])))
  -- Dedekind
  rw [drop_stm 29 (by decide)]
  obtain ⟨o12, pm12, code12, doc12, hm12, ho12, hd12, _⟩ := id c.f12
  have hR0 : (R : Int) ≠ 0 := by omega
  have hmod : 0 ≤ (S : Int).fmod R ∧ (S : Int).fmod R < R := ⟨Int.fmod_nonneg (by omega) (by omega), Int.fmod_lt_of_pos _ (by omega)⟩
  refine WX.ifNo F1 (Mine.T.congr (T.cmp fm_sta (V.bin fm_sta V.int (V.loc rfl rfl rfl) (op_mulIF 12 (covA R S) nI12)) (V.bin fm_sta (V.cell (d := .int R) rfl rfl rfl rfl) (V.bin fm_sta
    (V.mk (d := .int (euI R S)) (ev_callF (mg := mg) (fd := fdOf (top 12) pm12 code12 doc12) fm_sta rfl rfl (fun h F => (Gk h F).g) hm12 (fun h F => ⟨o12, (c.hg.trans F.toExt) _ _ ho12, hd12⟩) rfl
      (Vs.r (Vs.cons fm_sta (V.bin fm_sta (V.cell (d := .int S) rfl rfl rfl rfl) (V.cell (d := .int R) rfl rfl rfl rfl) (op_mod _ _ hR0)) (Vs.cons fm_sta (V.cell (d := .int R) rfl rfl rfl rfl) (Vs.cons fm_sta (V.loc (d := .int (shI R S)) rfl rfl rfl) Vs.nil))))
      fun s' E' us F' hus => euclid_ok hsh 13 (c.f12.ext (c.hg.trans F'.toExt)) (Gk _ F') (by omega) hmod.1 (by omega) (by omega) (by omega) (by omega) hus))
    (V.bin fm_sta V.int (V.bin fm_sta (V.cell (d := .int R) rfl rfl rfl rfl) (V.loc (d := .int (shI R S)) rfl rfl rfl) (op_sub _ _)) (op_mul 3 _ (mulL (by omega) (by omega)))) (op_add _ _)) (op_mul _ _ (mulL (by omega) (by omega)))) (cm_neFI _ _)) fin.a) fun h2 t2 x2 => ?_
  have F2 := fm_sta _ _ x2 F1
  -- the pairs
  rw [drop_stm 30 (by decide)]
  refine WX.assign (d := .int (cnt R S K 1 : Nat)) c.ok F2 (V.count (xs := sgn R S K) fm_sta rfl rfl (V.loc rfl rfl rfl) V.int rfl) rfl fun h3 t3 F3 => ?_
  rw [drop_stm 31 (by decide)]
  refine WX.assign (d := .int (cnt R S K 0 : Nat)) c.ok F3 (V.count (xs := sgn R S K) fm_sta rfl rfl (V.loc rfl rfl rfl) V.int rfl) rfl fun h4 t4 F4 => ?_
  rw [drop_stm 32 (by decide)]
  refine WX.ifNo F4 (T.orAll (TA.cons fm_sta (Mine.T.congr (T.cmp fm_sta (V.bin fm_sta V.int (V.loc (d := .int (cnt R S K 0 : Nat)) rfl rfl rfl) (op_mul 2 _ (mulL (by omega) (by omega)))) (V.bin fm_sta (V.cell (d := .int R) rfl rfl rfl rfl) (V.bin fm_sta (V.loc (d := .int (shI R S)) rfl rfl rfl) V.int (op_sub _ _)) (op_mul _ _ (mulL (by omega) (by omega)))) (cm_ne _ _)) fin.b)
    (TA.cons fm_sta (Mine.T.congr (T.cmp fm_sta (V.bin fm_sta V.int (V.bin fm_sta (V.bin fm_sta (V.loc (d := .int (cnt R S K 1 : Nat)) rfl rfl rfl) (V.loc (d := .int (cnt R S K 0 : Nat)) rfl rfl rfl) (op_add _ _)) (V.count (k := -1) (xs := sgn R S K) fm_sta rfl rfl (V.loc rfl rfl rfl) (V.neg V.int) rfl) (op_add _ _)) (op_mul 2 _ (mulL (by omega) (by omega)))) (V.bin fm_sta (V.cell (d := .int R) rfl rfl rfl rfl) (V.bin fm_sta (V.cell (d := .int R) rfl rfl rfl rfl) V.int (op_sub _ _)) (op_mul _ _ (mulL (by omega) (by omega)))) (cm_ne _ _)) fin.c) TA.nil))) fun h5 t5 x5 => ?_
  have F5 := fm_sta _ _ x5 F4
  -- Zolotarev, Meyer
  rw [drop_stm 33 (by decide)]
  refine WX.ret (d := .bool true) F5 (V.congr (V.cmp fm_sta (V.bin fm_sta (V.bin fm_sta (V.bin fm_sta V.int (V.cell (d := .int R) rfl rfl rfl rfl) (op_mul 4 _ (mulL (by omega) (by omega)))) (V.loc (d := .int (cnt R S K 1 : Nat)) rfl rfl rfl) (op_mul _ _ (mulL (by omega) (by omega)))) (V.bin fm_sta V.int (V.loc rfl rfl rfl) (op_mulIF 12 (covA R S) nI12)) (op_addIF _ _ fin.n))
    (V.bin fm_sta (V.bin fm_sta (V.cell (d := .int R) rfl rfl rfl rfl) (V.bin fm_sta (V.cell (d := .int R) rfl rfl rfl rfl) V.int (op_add _ _)) (op_mul _ _ (mulL (by omega) (by omega)))) (V.bin fm_sta (V.cell (d := .int R) rfl rfl rfl rfl) (V.loc (d := .int (shI R S)) rfl rfl rfl) (op_sub _ _)) (op_mul _ _ (mulR (by omega) (by omega)))) (cm_eqFI _ _)) (by rw [fin.d])) fun v h6 t6 x6 hv => ?_
  have ev := vBool hv
  subst ev
  refine h _ (Sm.mk' s h6 t6) fun b o q => x6 _ _ (F5.toExt _ _ q)
end Mine

namespace Mine
open PySem PySem.W

/-! the signs, in plain numbers -/
def sg (a b : Nat) : Int := if b < a then 1 else if a < b then -1 else 0
def sgOk (K R : Nat) : Bool := (List.range R).all fun a => (List.range R).all fun b => scI (txt R K a) (txt R K b) == sg a b
theorem sg0 : sgOk 0 12 = true := by decide +kernel
theorem sg2 : sgOk 2 12 = true := by decide +kernel
theorem sg1 : ∀ R, R < 13 → sgOk 1 R = true := by decide +kernel
theorem sgOk_get {K R : Nat} (h : sgOk K R = true) {a b : Nat} (ha : a < R) (hb : b < R) : scI (txt R K a) (txt R K b) = sg a b := by
  have h1 := List.all_eq_true.mp h a (List.mem_range.mpr ha)
  have h2 := List.all_eq_true.mp h1 b (List.mem_range.mpr hb)
  simpa using h2
theorem sg_all {K R : Nat} (hK : K < 3) (hR : R ≤ 12) {a b : Nat} (ha : a < R) (hb : b < R) : scI (txt R K a) (txt R K b) = sg a b := by
  rcases K with _ | _ | _ | K
  · exact sgOk_get (K := 0) (R := 12) sg0 (by omega) (by omega)
  · exact sgOk_get (sg1 R (by omega)) ha hb
  · exact sgOk_get (K := 2) (R := 12) sg2 (by omega) (by omega)
  · omega
def sgnI (R S : Nat) : List Int := (rng 0 R).flatMap fun late => (rng 0 late.toNat).map fun early => sg (early.toNat * S % R) (late.toNat * S % R)
theorem sgn_eq {R S K : Nat} (hK : K < 3) (hR : 2 ≤ R ∧ R ≤ 12) : sgn R S K = sgnI R S := by
  unfold sgn sgnI
  congr 1
  funext late
  apply List.map_congr_left
  intro early _
  exact sg_all hK hR.2 (Nat.mod_lt _ (by omega)) (Nat.mod_lt _ (by omega))

/-! only the step's remainder counts -/
theorem plc_mod (R S : Nat) : plc R S = plc R (S % R) := by
  unfold plc
  apply List.map_congr_left
  intro i _
  show (((i * S % R : Nat)) : Int) = ((i * (S % R) % R : Nat) : Int)
  rw [Nat.mul_mod, Nat.mul_mod i (S % R), Nat.mod_mod]
theorem hgt_mod (R S : Nat) : hgt R S = hgt R (S % R) := by unfold hgt; rw [plc_mod]

/-! which row stands first does not matter -/
theorem mul_comm' (x y : UInt64) : Float64.mul x y = Float64.mul y x := by
  unfold Float64.mul
  have hb : ∀ a b : Bool, (a != b) = (b != a) := by decide
  cases Float64.decode x <;> cases Float64.decode y <;> simp only [Nat.mul_comm, Int.add_comm, hb]
  all_goals first | rfl | (rename_i a b; rw [hb]) | skip
theorem fma_comm (x y z : UInt64) : Float64.fma x y z = Float64.fma y x z := by
  unfold Float64.fma
  rw [mul_comm' x y]
  have hb : ∀ a b : Bool, (a != b) = (b != a) := by decide
  cases Float64.decode x with
  | fin a m e =>
    cases Float64.decode y with
    | fin b k f =>
      cases Float64.decode z with
      | fin c n g => simp only [hb a b, Nat.mul_comm m k, Int.add_comm e f]
      | _ => rfl
    | _ => cases Float64.decode z <;> rfl
  | _ => cases Float64.decode y <;> cases Float64.decode z <;> rfl
theorem sp3_swap (t : UInt64 × UInt64 × UInt64) (p : UInt64 × UInt64) : sp3 t p.swap = sp3 t p := by
  obtain ⟨x, y⟩ := p
  show Builtin.Math.tlFma y x t = Builtin.Math.tlFma x y t
  have e : Builtin.Math.dlMul y x = Builtin.Math.dlMul x y := by
    show (Float64.mul y x, Float64.fma y x (Float64.neg (Float64.mul y x))) = (Float64.mul x y, Float64.fma x y (Float64.neg (Float64.mul x y)))
    rw [mul_comm' y x, fma_comm y x]
  unfold Builtin.Math.tlFma
  rw [e]
theorem sp_swap : ∀ (ps : List (UInt64 × UInt64)) (t : UInt64 × UInt64 × UInt64), (ps.map Prod.swap).foldl sp3 t = ps.foldl sp3 t ∧ spfin t (ps.map Prod.swap) = spfin t ps
  | [], t => ⟨rfl, rfl⟩
  | p :: ps, t => by
    obtain ⟨h1, h2⟩ := sp_swap ps (sp3 t p)
    simp only [List.map_cons, List.foldl_cons, spfin, sp3_swap]
    exact ⟨h1, by rw [h2]⟩
theorem prs_swap (dx dy : List PV) (n : Nat) : prs dy dx n = (prs dx dy n).map Prod.swap := by
  unfold prs; rw [List.map_map]; rfl
theorem cov_swap {dx dy : List PV} (h : dy.length = dx.length) : covF dy dx = covF dx dy := by
  unfold covF sumpL
  rw [h, prs_swap, (sp_swap _ _).1]
theorem chk_swap {dx dy : List PV} (h : covChk dx dy = true) : covChk dy dx = true := by
  unfold covChk at h ⊢
  simp only [Bool.and_eq_true, decide_eq_true_eq, beq_iff_eq] at h ⊢
  obtain ⟨⟨⟨⟨⟨⟨⟨⟨⟨c1, c2⟩, c3⟩, c4⟩, c5⟩, c6⟩, c7⟩, c8⟩, c9⟩, c10⟩ := h
  rw [c3, prs_swap, (sp_swap _ _).2]
  exact ⟨⟨⟨⟨⟨⟨⟨⟨⟨c1, c2⟩, rfl⟩, c5⟩, c4⟩, c7⟩, c6⟩, c8⟩, c9⟩, c10⟩

/-! the float, once for each ring and remainder -/
def spAll : UInt64 × UInt64 × UInt64 → List (UInt64 × UInt64) → Option (UInt64 × UInt64 × UInt64)
  | t, [] => some t
  | t, p :: ps => if Float64.isFinite (sp3 t p).1 then spAll (sp3 t p) ps else none
theorem spAll_some : ∀ (ps : List (UInt64 × UInt64)) (t t' : UInt64 × UInt64 × UInt64), spAll t ps = some t' → spfin t ps = true ∧ ps.foldl sp3 t = t'
  | [], t, t', h => by simp only [spAll, Option.some.injEq] at h; exact ⟨rfl, h⟩
  | p :: ps, t, t', h => by
    unfold spAll at h
    split at h
    · rename_i hf
      obtain ⟨h1, h2⟩ := spAll_some ps _ _ h
      exact ⟨by simp only [spfin, hf, h1, Bool.and_self], h2⟩
    · cases h
def hs (R r : Nat) : Int := 2 * ((List.range R).map fun (i : Nat) => (i : Int) * (((i * r % R : Nat)) : Int)).sum - ((R : Int) - 1) * ((List.range R).map fun (i : Nat) => (((i * r % R : Nat)) : Int)).sum
def dev (xs : List UInt64) (b : UInt64) : List UInt64 := xs.map fun x => Float64.sub x b
def fsAll : List UInt64 → List UInt64 → Option UInt64
  | ps, [] => some (Float64.fsumEnd ps)
  | ps, x :: xs => match Float64.fsumAdd ps x with
    | (rest, top) => if Float64.isFinite top then fsAll (if Float64.isZero top then rest else rest ++ [top]) xs else none
theorem fsAll_some : ∀ (xs ps : List UInt64) (v : UInt64), fsAll ps xs = some v → ffin ps xs = true ∧ fsumL ps xs = v
  | [], ps, v, h => by simp only [fsAll, Option.some.injEq] at h; exact ⟨rfl, h⟩
  | x :: xs, ps, v, h => by
    unfold fsAll at h
    cases hf : Float64.fsumAdd ps x with
    | mk rest top =>
      rw [hf] at h
      simp only [] at h
      split at h
      · rename_i ht
        obtain ⟨h1, h2⟩ := fsAll_some xs _ v h
        have e : fstep ps x = if Float64.isZero top then rest else rest ++ [top] := by unfold fstep; rw [hf]
        constructor
        · unfold ffin
          rw [e, hf]
          simp only [ht, h1, Bool.and_self]
        · unfold fsumL at h2 ⊢
          rw [List.foldl_cons, e]; exact h2
      · cases h
theorem prs_dev {dx dy : List PV} {n : Nat} {xb yb : UInt64} (h1 : dx.length = n) (h2 : dy.length = n) (hx : barL dx n = xb) (hy : barL dy n = yb) : prs dx dy n = (dev (dx.map nb) xb).zip (dev (dy.map nb) yb) := by
  unfold prs
  rw [hx, hy]
  apply List.ext_getElem
  · simp [dev, h1, h2]
  · intro i hi1 hi2
    have hi : i < n := by simpa using hi1
    simp only [List.getElem_map, List.getElem_range, List.getElem_zip, dev]
    rw [List.getD_eq_getElem?_getD, List.getD_eq_getElem?_getD, List.getElem?_eq_getElem (by omega), List.getElem?_eq_getElem (by omega)]
    rfl
def isBar (n : Nat) (b : UInt64) : Option UInt64 → Bool
  | some v => decide (Float64.div v (Float64.ofInt n) = b)
  | none => false
/-- the rows' numbers, once for a ring -/
def cvx (R : Nat) (xb : UInt64) : Bool := (numL R).all isNum && isBar R xb (fsAll [] ((numL R).map nb)) && okI R && okI ((R : Int) - 1)
def cvEnd (R r n : Nat) : Option (UInt64 × UInt64 × UInt64) → Bool
  | some t => decide (Float64.div (Float64.add (Float64.ofInt 0) (Builtin.Math.tlToFloat t)) (Float64.ofInt ((n : Int) - 1)) = frac (hs R r) 2)
  | none => false
def cvk (R r : Nat) (xb yb : UInt64) : Bool := (hgtL R r).all isNum && isBar R yb (fsAll [] ((hgtL R r).map nb)) && cvEnd R r R (spAll z3 ((dev ((numL R).map nb) xb).zip (dev ((hgtL R r).map nb) yb)))
theorem isBar_of {dx : List PV} {n : Nat} {b : UInt64} (h : isBar n b (fsAll [] (dx.map nb)) = true) : ffin [] (dx.map nb) = true ∧ barL dx n = b := by
  cases hf : fsAll [] (dx.map nb) with
  | none => rw [hf] at h; cases h
  | some v =>
    rw [hf] at h
    obtain ⟨g1, g2⟩ := fsAll_some _ _ _ hf
    simp only [isBar, decide_eq_true_eq] at h
    exact ⟨g1, by unfold barL; rw [g2]; exact h⟩
def CvOk (R r : Nat) : Prop := covChk (numL R) (hgtL R r) = true ∧ covA R r = frac (hs R r) 2
theorem cvk_of {R r : Nat} {xb yb : UInt64} (hR : 2 ≤ R ∧ R ≤ 12) (hx : cvx R xb = true) (h : cvk R r xb yb = true) : CvOk R r := by
  have ln : (numL R).length = R := by simp [rng]
  have lh : (hgtL R r).length = R := by simp [hgt, plc]
  unfold cvk at h
  unfold cvx at hx
  simp only [Bool.and_eq_true] at h hx
  obtain ⟨⟨⟨x1, x2⟩, h5⟩, h6⟩ := hx
  obtain ⟨⟨h2, h4⟩, h7⟩ := h
  obtain ⟨x2, x3⟩ := isBar_of x2
  obtain ⟨h4, h8⟩ := isBar_of h4
  have ep := prs_dev ln lh x3 h8
  cases hsp : spAll z3 (prs (numL R) (hgtL R r) R) with
  | none => rw [← ep, hsp] at h7; simp [cvEnd] at h7
  | some t =>
    rw [← ep, hsp] at h7
    obtain ⟨g1, g2⟩ := spAll_some _ _ _ hsp
    simp only [cvEnd, decide_eq_true_eq] at h7
    constructor
    · unfold covChk
      rw [ln, lh, x1, h2, x2, h4, h5, h6, g1]
      simp; omega
    · show covF (numL R) (hgtL R r) = _
      unfold covF sumpL
      rw [ln, g2]; exact h7
end Mine

namespace Mine
open PySem PySem.W

theorem cvx2 : cvx 2 13839561654909534208 = true := by decide +kernel
theorem cv2_0 : cvk 2 0 13839561654909534208 13839561654909534208 = true := by decide +kernel
theorem cv2_1 : cvk 2 1 13839561654909534208 13838435755002691584 = true := by decide +kernel
theorem cvx3 : cvx 3 13838435755002691584 = true := by decide +kernel
theorem cv3_0 : cvk 3 0 13838435755002691584 13844065254536904704 = true := by decide +kernel
theorem cv3_1 : cvk 3 1 13838435755002691584 13841813454723219456 = true := by decide +kernel
theorem cv3_2 : cvk 3 2 13838435755002691584 13841813454723219456 = true := by decide +kernel
theorem cvx4 : cvx 4 13837309855095848960 = true := by decide +kernel
theorem cv4_0 : cvk 4 0 13837309855095848960 13846317054350589952 = true := by decide +kernel
theorem cv4_1 : cvk 4 1 13837309855095848960 13843502304583483392 = true := by decide +kernel
theorem cv4_2 : cvk 4 2 13837309855095848960 13844628204490326016 = true := by decide +kernel
theorem cv4_3 : cvk 4 3 13837309855095848960 13843502304583483392 = true := by decide +kernel
theorem cvx5 : cvx 5 13836183955189006336 = true := by decide +kernel
theorem cv5_0 : cvk 5 0 13836183955189006336 13848568854164275200 = true := by decide +kernel
theorem cv5_1 : cvk 5 1 13836183955189006336 13844065254536904704 = true := by decide +kernel
theorem cv5_2 : cvk 5 2 13836183955189006336 13844065254536904704 = true := by decide +kernel
theorem cv5_3 : cvk 5 3 13836183955189006336 13844065254536904704 = true := by decide +kernel
theorem cv5_4 : cvk 5 4 13836183955189006336 13844065254536904704 = true := by decide +kernel
theorem cvx6 : cvx 6 13835058055282163712 = true := by decide +kernel
theorem cv6_0 : cvk 6 0 13835058055282163712 13849694754071117824 = true := by decide +kernel
theorem cv6_1 : cvk 6 1 13835058055282163712 13843502304583483392 = true := by decide +kernel
theorem cv6_2 : cvk 6 2 13835058055282163712 13845191154443747328 = true := by decide +kernel
theorem cv6_3 : cvk 6 3 13835058055282163712 13846598529327300608 = true := by decide +kernel
theorem cv6_4 : cvk 6 4 13835058055282163712 13845191154443747328 = true := by decide +kernel
theorem cv6_5 : cvk 6 5 13835058055282163712 13843502304583483392 = true := by decide +kernel
theorem cvx7 : cvx 7 13832806255468478464 = true := by decide +kernel
theorem cv7_0 : cvk 7 0 13832806255468478464 13850820653977960448 = true := by decide +kernel
theorem cv7_1 : cvk 7 1 13832806255468478464 13841813454723219456 = true := by decide +kernel
theorem cv7_2 : cvk 7 2 13832806255468478464 13841813454723219456 = true := by decide +kernel
theorem cv7_3 : cvk 7 3 13832806255468478464 13841813454723219456 = true := by decide +kernel
theorem cv7_4 : cvk 7 4 13832806255468478464 13841813454723219456 = true := by decide +kernel
theorem cv7_5 : cvk 7 5 13832806255468478464 13841813454723219456 = true := by decide +kernel
theorem cv7_6 : cvk 7 6 13832806255468478464 13841813454723219456 = true := by decide +kernel
theorem cvx8 : cvx 8 13830554455654793216 = true := by decide +kernel
theorem cv8_0 : cvk 8 0 13830554455654793216 13851946553884803072 = true := by decide +kernel
theorem cv8_1 : cvk 8 1 13830554455654793216 13838435755002691584 = true := by decide +kernel
theorem cv8_2 : cvk 8 2 13830554455654793216 13842939354630062080 = true := by decide +kernel
theorem cv8_3 : cvk 8 3 13830554455654793216 13838435755002691584 = true := by decide +kernel
theorem cv8_4 : cvk 8 4 13830554455654793216 13847442954257432576 = true := by decide +kernel
theorem cv8_5 : cvk 8 5 13830554455654793216 13838435755002691584 = true := by decide +kernel
theorem cv8_6 : cvk 8 6 13830554455654793216 13842939354630062080 = true := by decide +kernel
theorem cv8_7 : cvk 8 7 13830554455654793216 13838435755002691584 = true := by decide +kernel
theorem cvx9 : cvx 9 13826050856027422720 = true := by decide +kernel
theorem cv9_0 : cvk 9 0 13826050856027422720 13853072453791645696 = true := by decide +kernel
theorem cv9_1 : cvk 9 1 13826050856027422720 0 = true := by decide +kernel
theorem cv9_2 : cvk 9 2 13826050856027422720 0 = true := by decide +kernel
theorem cv9_3 : cvk 9 3 13826050856027422720 13844065254536904704 = true := by decide +kernel
theorem cv9_4 : cvk 9 4 13826050856027422720 0 = true := by decide +kernel
theorem cv9_5 : cvk 9 5 13826050856027422720 0 = true := by decide +kernel
theorem cv9_6 : cvk 9 6 13826050856027422720 13844065254536904704 = true := by decide +kernel
theorem cv9_7 : cvk 9 7 13826050856027422720 0 = true := by decide +kernel
theorem cv9_8 : cvk 9 8 13826050856027422720 0 = true := by decide +kernel
theorem cvx10 : cvx 10 0 = true := by decide +kernel
theorem cv10_0 : cvk 10 0 0 13853635403745067008 = true := by decide +kernel
theorem cv10_1 : cvk 10 1 0 4616752568008179712 = true := by decide +kernel
theorem cv10_2 : cvk 10 2 0 0 = true := by decide +kernel
theorem cv10_3 : cvk 10 3 0 4616752568008179712 = true := by decide +kernel
theorem cv10_4 : cvk 10 4 0 0 = true := by decide +kernel
theorem cv10_5 : cvk 10 5 0 13847161479280721920 = true := by decide +kernel
theorem cv10_6 : cvk 10 6 0 0 = true := by decide +kernel
theorem cv10_7 : cvk 10 7 0 4616752568008179712 = true := by decide +kernel
theorem cv10_8 : cvk 10 8 0 0 = true := by decide +kernel
theorem cv10_9 : cvk 10 9 0 4616752568008179712 = true := by decide +kernel
theorem cvx11 : cvx 11 4602678819172646912 = true := by decide +kernel
theorem cv11_0 : cvk 11 0 4602678819172646912 13854198353698488320 = true := by decide +kernel
theorem cv11_1 : cvk 11 1 4602678819172646912 4621819117588971520 = true := by decide +kernel
theorem cv11_2 : cvk 11 2 4602678819172646912 4621819117588971520 = true := by decide +kernel
theorem cv11_3 : cvk 11 3 4602678819172646912 4621819117588971520 = true := by decide +kernel
theorem cv11_4 : cvk 11 4 4602678819172646912 4621819117588971520 = true := by decide +kernel
theorem cv11_5 : cvk 11 5 4602678819172646912 4621819117588971520 = true := by decide +kernel
theorem cv11_6 : cvk 11 6 4602678819172646912 4621819117588971520 = true := by decide +kernel
theorem cv11_7 : cvk 11 7 4602678819172646912 4621819117588971520 = true := by decide +kernel
theorem cv11_8 : cvk 11 8 4602678819172646912 4621819117588971520 = true := by decide +kernel
theorem cv11_9 : cvk 11 9 4602678819172646912 4621819117588971520 = true := by decide +kernel
theorem cv11_10 : cvk 11 10 4602678819172646912 4621819117588971520 = true := by decide +kernel
theorem cvx12 : cvx 12 4607182418800017408 = true := by decide +kernel
theorem cv12_0 : cvk 12 0 4607182418800017408 13854761303651909632 = true := by decide +kernel
theorem cv12_1 : cvk 12 1 4607182418800017408 4625337554797854720 = true := by decide +kernel
theorem cv12_2 : cvk 12 2 4607182418800017408 4622382067542392832 = true := by decide +kernel
theorem cv12_3 : cvk 12 3 4607182418800017408 4617878467915022336 = true := by decide +kernel
theorem cv12_4 : cvk 12 4 4607182418800017408 0 = true := by decide +kernel
theorem cv12_5 : cvk 12 5 4607182418800017408 4625337554797854720 = true := by decide +kernel
theorem cv12_6 : cvk 12 6 4607182418800017408 13845754104397168640 = true := by decide +kernel
theorem cv12_7 : cvk 12 7 4607182418800017408 4625337554797854720 = true := by decide +kernel
theorem cv12_8 : cvk 12 8 4607182418800017408 0 = true := by decide +kernel
theorem cv12_9 : cvk 12 9 4607182418800017408 4617878467915022336 = true := by decide +kernel
theorem cv12_10 : cvk 12 10 4607182418800017408 4622382067542392832 = true := by decide +kernel
theorem cv12_11 : cvk 12 11 4607182418800017408 4625337554797854720 = true := by decide +kernel
theorem cvR2 (r : Nat) (h : r < 2) : CvOk 2 r := by
  rcases r with _ | _ | r
  · exact cvk_of (by decide) cvx2 cv2_0
  · exact cvk_of (by decide) cvx2 cv2_1
  · omega
theorem cvR3 (r : Nat) (h : r < 3) : CvOk 3 r := by
  rcases r with _ | _ | _ | r
  · exact cvk_of (by decide) cvx3 cv3_0
  · exact cvk_of (by decide) cvx3 cv3_1
  · exact cvk_of (by decide) cvx3 cv3_2
  · omega
theorem cvR4 (r : Nat) (h : r < 4) : CvOk 4 r := by
  rcases r with _ | _ | _ | _ | r
  · exact cvk_of (by decide) cvx4 cv4_0
  · exact cvk_of (by decide) cvx4 cv4_1
  · exact cvk_of (by decide) cvx4 cv4_2
  · exact cvk_of (by decide) cvx4 cv4_3
  · omega
theorem cvR5 (r : Nat) (h : r < 5) : CvOk 5 r := by
  rcases r with _ | _ | _ | _ | _ | r
  · exact cvk_of (by decide) cvx5 cv5_0
  · exact cvk_of (by decide) cvx5 cv5_1
  · exact cvk_of (by decide) cvx5 cv5_2
  · exact cvk_of (by decide) cvx5 cv5_3
  · exact cvk_of (by decide) cvx5 cv5_4
  · omega
theorem cvR6 (r : Nat) (h : r < 6) : CvOk 6 r := by
  rcases r with _ | _ | _ | _ | _ | _ | r
  · exact cvk_of (by decide) cvx6 cv6_0
  · exact cvk_of (by decide) cvx6 cv6_1
  · exact cvk_of (by decide) cvx6 cv6_2
  · exact cvk_of (by decide) cvx6 cv6_3
  · exact cvk_of (by decide) cvx6 cv6_4
  · exact cvk_of (by decide) cvx6 cv6_5
  · omega
theorem cvR7 (r : Nat) (h : r < 7) : CvOk 7 r := by
  rcases r with _ | _ | _ | _ | _ | _ | _ | r
  · exact cvk_of (by decide) cvx7 cv7_0
  · exact cvk_of (by decide) cvx7 cv7_1
  · exact cvk_of (by decide) cvx7 cv7_2
  · exact cvk_of (by decide) cvx7 cv7_3
  · exact cvk_of (by decide) cvx7 cv7_4
  · exact cvk_of (by decide) cvx7 cv7_5
  · exact cvk_of (by decide) cvx7 cv7_6
  · omega
theorem cvR8 (r : Nat) (h : r < 8) : CvOk 8 r := by
  rcases r with _ | _ | _ | _ | _ | _ | _ | _ | r
  · exact cvk_of (by decide) cvx8 cv8_0
  · exact cvk_of (by decide) cvx8 cv8_1
  · exact cvk_of (by decide) cvx8 cv8_2
  · exact cvk_of (by decide) cvx8 cv8_3
  · exact cvk_of (by decide) cvx8 cv8_4
  · exact cvk_of (by decide) cvx8 cv8_5
  · exact cvk_of (by decide) cvx8 cv8_6
  · exact cvk_of (by decide) cvx8 cv8_7
  · omega
theorem cvR9 (r : Nat) (h : r < 9) : CvOk 9 r := by
  rcases r with _ | _ | _ | _ | _ | _ | _ | _ | _ | r
  · exact cvk_of (by decide) cvx9 cv9_0
  · exact cvk_of (by decide) cvx9 cv9_1
  · exact cvk_of (by decide) cvx9 cv9_2
  · exact cvk_of (by decide) cvx9 cv9_3
  · exact cvk_of (by decide) cvx9 cv9_4
  · exact cvk_of (by decide) cvx9 cv9_5
  · exact cvk_of (by decide) cvx9 cv9_6
  · exact cvk_of (by decide) cvx9 cv9_7
  · exact cvk_of (by decide) cvx9 cv9_8
  · omega
theorem cvR10 (r : Nat) (h : r < 10) : CvOk 10 r := by
  rcases r with _ | _ | _ | _ | _ | _ | _ | _ | _ | _ | r
  · exact cvk_of (by decide) cvx10 cv10_0
  · exact cvk_of (by decide) cvx10 cv10_1
  · exact cvk_of (by decide) cvx10 cv10_2
  · exact cvk_of (by decide) cvx10 cv10_3
  · exact cvk_of (by decide) cvx10 cv10_4
  · exact cvk_of (by decide) cvx10 cv10_5
  · exact cvk_of (by decide) cvx10 cv10_6
  · exact cvk_of (by decide) cvx10 cv10_7
  · exact cvk_of (by decide) cvx10 cv10_8
  · exact cvk_of (by decide) cvx10 cv10_9
  · omega
theorem cvR11 (r : Nat) (h : r < 11) : CvOk 11 r := by
  rcases r with _ | _ | _ | _ | _ | _ | _ | _ | _ | _ | _ | r
  · exact cvk_of (by decide) cvx11 cv11_0
  · exact cvk_of (by decide) cvx11 cv11_1
  · exact cvk_of (by decide) cvx11 cv11_2
  · exact cvk_of (by decide) cvx11 cv11_3
  · exact cvk_of (by decide) cvx11 cv11_4
  · exact cvk_of (by decide) cvx11 cv11_5
  · exact cvk_of (by decide) cvx11 cv11_6
  · exact cvk_of (by decide) cvx11 cv11_7
  · exact cvk_of (by decide) cvx11 cv11_8
  · exact cvk_of (by decide) cvx11 cv11_9
  · exact cvk_of (by decide) cvx11 cv11_10
  · omega
theorem cvR12 (r : Nat) (h : r < 12) : CvOk 12 r := by
  rcases r with _ | _ | _ | _ | _ | _ | _ | _ | _ | _ | _ | _ | r
  · exact cvk_of (by decide) cvx12 cv12_0
  · exact cvk_of (by decide) cvx12 cv12_1
  · exact cvk_of (by decide) cvx12 cv12_2
  · exact cvk_of (by decide) cvx12 cv12_3
  · exact cvk_of (by decide) cvx12 cv12_4
  · exact cvk_of (by decide) cvx12 cv12_5
  · exact cvk_of (by decide) cvx12 cv12_6
  · exact cvk_of (by decide) cvx12 cv12_7
  · exact cvk_of (by decide) cvx12 cv12_8
  · exact cvk_of (by decide) cvx12 cv12_9
  · exact cvk_of (by decide) cvx12 cv12_10
  · exact cvk_of (by decide) cvx12 cv12_11
  · omega
theorem cv_all (R r : Nat) (h2 : 2 ≤ R) (h12 : R ≤ 12) (h : r < R) : CvOk R r := by
  have : R = 2 ∨ R = 3 ∨ R = 4 ∨ R = 5 ∨ R = 6 ∨ R = 7 ∨ R = 8 ∨ R = 9 ∨ R = 10 ∨ R = 11 ∨ R = 12 := by omega
  rcases this with rfl | rfl | rfl | rfl | rfl | rfl | rfl | rfl | rfl | rfl | rfl
  · exact cvR2 r h
  · exact cvR3 r h
  · exact cvR4 r h
  · exact cvR5 r h
  · exact cvR6 r h
  · exact cvR7 r h
  · exact cvR8 r h
  · exact cvR9 r h
  · exact cvR10 r h
  · exact cvR11 r h
  · exact cvR12 r h
end Mine

namespace Mine
open PySem PySem.W

def cI (R S : Nat) (i : Int) : Nat := (sgnI R S).count i
def fq (R S : Nat) : UInt64 := Float64.mul (Float64.ofInt 12) (frac (hs R (S % R)) 2)
def finB (R S : Nat) : Bool :=
  decide (0 < ((rng 1 R).filter (pzI R S)).length) && (decide (0 ≤ shI R S) && decide (shI R S ≤ 100)) && !(Float64.cmpInt (fq R S) (R * (euI R S + 3 * (R - shI R S))) != some Ordering.eq) &&
  !((2 * (cI R S 0 : Int)) != (R : Int) * (shI R S - 1)) && !((2 * ((cI R S 1 : Int) + cI R S 0 + cI R S (-1))) != (R : Int) * ((R : Int) - 1)) && nI (4 * R * cI R S 1) &&
  (Float64.cmpInt (Float64.add (Float64.ofInt (4 * R * cI R S 1)) (fq R S)) ((R : Int) * (R + 1) * (R - shI R S)) == some Ordering.eq)
theorem hgtL_mod (R S : Nat) : hgtL R S = hgtL R (S % R) := by unfold hgtL; rw [hgt_mod]
theorem covA_eq {R S : Nat} (hR : 2 ≤ R ∧ R ≤ 12) : covA R S = frac (hs R (S % R)) 2 := by
  have := (cv_all R (S % R) hR.1 hR.2 (Nat.mod_lt _ (by omega))).2
  show covF (numL R) (hgtL R S) = _
  rw [hgtL_mod]; exact this
theorem chk_ok {R S : Nat} (hR : 2 ≤ R ∧ R ≤ 12) : covChk (numL R) (hgtL R S) = true := by
  rw [hgtL_mod]; exact (cv_all R (S % R) hR.1 hR.2 (Nat.mod_lt _ (by omega))).1
theorem cov_eq {R S : Nat} : covB R S = covA R S := cov_swap (by simp [rng, hgt, plc])
theorem frac_self : ∀ R : Nat, R < 13 → 2 ≤ R → ∀ r, r < R → (Float64.cmp (frac (hs R r) 2) (frac (hs R r) 2) != some Ordering.eq) = false := by decide +kernel
theorem cov_same {R S : Nat} (hR : 2 ≤ R ∧ R ≤ 12) : (Float64.cmp (covB R S) (covA R S) != some Ordering.eq) = false := by
  rw [cov_eq, covA_eq hR]
  exact frac_self R (by omega) hR.1 _ (Nat.mod_lt _ (by omega))
theorem fin_of {R S K : Nat} (hR : 2 ≤ R ∧ R ≤ 12) (hK : K < 3) (h : finB R S = true) : Fin_ R S K := by
  have es : sgn R S K = sgnI R S := sgn_eq hK hR
  have ef : f12 R S = fq R S := by show Float64.mul _ (covA R S) = _; rw [covA_eq hR]; rfl
  unfold finB at h
  simp only [Bool.and_eq_true, decide_eq_true_eq, Bool.not_eq_true'] at h
  obtain ⟨⟨⟨⟨⟨⟨h1, h2⟩, h3⟩, h4⟩, h5⟩, h6⟩, h7⟩ := h
  exact ⟨h1, h2, by rw [ef]; exact h3, by unfold cnt; rw [es]; exact h4, by unfold cnt; rw [es]; exact h5, by unfold cnt; rw [es]; exact h6, by unfold cnt; rw [es, ef]; exact h7⟩
def finR (R : Nat) : Bool := (List.range 24).all fun j => finB R (j + 1)
theorem fin2 : finR 2 = true := by decide +kernel
theorem fin3 : finR 3 = true := by decide +kernel
theorem fin4 : finR 4 = true := by decide +kernel
theorem fin5 : finR 5 = true := by decide +kernel
theorem fin6 : finR 6 = true := by decide +kernel
theorem fin7 : finR 7 = true := by decide +kernel
theorem fin8 : finR 8 = true := by decide +kernel
theorem fin9 : finR 9 = true := by decide +kernel
theorem fin10 : finR 10 = true := by decide +kernel
theorem fin11 : finR 11 = true := by decide +kernel
theorem fin12 : finR 12 = true := by decide +kernel
theorem fin_all {R S K : Nat} (hR : 2 ≤ R ∧ R ≤ 12) (hS : 1 ≤ S ∧ S ≤ 24) (hK : K < 3) : Fin_ R S K := by
  refine fin_of hR hK ?_
  have key : finR R = true := by
    have : R = 2 ∨ R = 3 ∨ R = 4 ∨ R = 5 ∨ R = 6 ∨ R = 7 ∨ R = 8 ∨ R = 9 ∨ R = 10 ∨ R = 11 ∨ R = 12 := by omega
    rcases this with rfl | rfl | rfl | rfl | rfl | rfl | rfl | rfl | rfl | rfl | rfl
    · exact fin2
    · exact fin3
    · exact fin4
    · exact fin5
    · exact fin6
    · exact fin7
    · exact fin8
    · exact fin9
    · exact fin10
    · exact fin11
    · exact fin12
  have := List.all_eq_true.mp key (S - 1) (List.mem_range.mpr (by omega))
  rw [show S - 1 + 1 = S by omega] at this
  exact this
end Mine

namespace Mine
open PySem PySem.W PySem.W.X
open PyProof.Rows (AllBare BMod)

theorem law_start_x {w : World} {A : Around} {s : Shared} {E : Value → Shared → Prop} {Q : Flow → Shared → Prop} {h₀ : Heap} {pm code doc : Value} {L a l : Addr} {ns : List Int} {nvs : List Value} {mg mb : Str → Option Value} {g : Heap} {γ : Str → Option PV}
    (B : Bi mg mb) (hh : A.handled = none) (Gg : Gd mg mb g) (hg : Ext g h₀) (ok : EnvOk h₀ (lawE pm code doc L a)) (F : Fm h₀ nX (lawE pm code doc L a) γ s.heap) (hγ : γ (Str.ofString "script") = some (.val (.ref l)))
    (hl : h₀.IsList l nvs.toArray) (hnv : ValsAre h₀ (ns.map .int) nvs)
    (h : ∀ h' tk (cs : List Int), cs.length = 5 → Fm h₀ nX (lawE pm code doc L a) (upd (fun _ => none) (Str.ofString "cells") (.list (cs.map .int))) h' → WX w A (lawE pm code doc L a) Q E ((sBody (top 13)).drop 2) { s with heap := h', toks := tk }) :
    WX w A (lawE pm code doc L a) Q E (sBody (top 13)) s := by
  with_reducible exact ⟨law_start B hh Gg hg ok F hγ hl hnv (fun h' tk cs hcs F' => (h h' tk cs hcs F').run)⟩

theorem law_a_x {w : World} {A : Around} {s : Shared} {E : Value → Shared → Prop} {Q : Flow → Shared → Prop} {h₀ g : Heap} {pm code doc : Value} {L a : Addr} {mg mb : Str → Option Value} {c0 c1 c2 c3 c4 : Int} (B : Bi mg mb) (Gg : Gd mg mb g) (hg : Ext g h₀) (hh : A.handled = none)
    (ok : EnvOk h₀ (lawE pm code doc L a)) (F : Fm h₀ nX (lawE pm code doc L a) (upd (fun _ => none) (Str.ofString "cells") (.list ([c0, c1, c2, c3, c4].map .int))) s.heap)
    (h : ∀ h' tk (R S W : Nat), 2 ≤ R ∧ R ≤ 12 → 1 ≤ S ∧ S ≤ 24 → W < 5 → Fm h₀ nX (lawE pm code doc L a) (γ5 c0 c1 c2 c3 c4 R S W) h' → WX w A (lawE pm code doc L a) Q E ((sBody (top 13)).drop 6) { s with heap := h', toks := tk }) :
    WX w A (lawE pm code doc L a) Q E ((sBody (top 13)).drop 2) s := by
  with_reducible exact ⟨law_a B Gg hg hh ok F (fun h' tk R S W a b c F' => (h h' tk R S W a b c F').run)⟩
theorem law_b_x {w : World} {A : Around} {s : Shared} {E : Value → Shared → Prop} {Q : Flow → Shared → Prop} {h₀ g : Heap} {pm code doc : Value} {L a : Addr} {mg mb : Str → Option Value} {c0 c1 c2 c3 c4 : Int} {R S W : Nat} (B : Bi mg mb) (Gg : Gd mg mb g) (hg : Ext g h₀) (hh : A.handled = none)
    (hR : 2 ≤ R ∧ R ≤ 12) (hS : 1 ≤ S ∧ S ≤ 24) (hW : W < 5) (hmn : mnN W R ≤ 12)
    (ok : EnvOk h₀ (lawE pm code doc L a)) (F : Fm h₀ nX (lawE pm code doc L a) (γ5 c0 c1 c2 c3 c4 R S W) s.heap)
    (h : ∀ h' tk, Fm h₀ nX (lawE pm code doc L a) (upd (γ5 c0 c1 c2 c3 c4 R S W) (Str.ofString "front") (.list ((frL R S W c2).map .int))) h' → WX w A (lawE pm code doc L a) Q E ((sBody (top 13)).drop 7) { s with heap := h', toks := tk }) :
    WX w A (lawE pm code doc L a) Q E ((sBody (top 13)).drop 6) s := by
  unfold frL at h
  with_reducible exact ⟨law_b B Gg hg hh hR hS hW hmn ok F (fun h' tk F' => (h h' tk F').run)⟩

/-- the law's walk, whole -/
theorem law_walk {w : World} {A : Around} {s : Shared} {E : Value → Shared → Prop} {Q : Flow → Shared → Prop} {h₀ g : Heap} {pm code doc : Value} {L a l : Addr} {ns : List Int} {nvs : List Value} {γ : Str → Option PV} {mg mb : Str → Option Value} {a3 a5 a7 a9 a10 a11 a12 C cc P bm : Addr} {ob : Obj} (c : Lf mg mb g h₀ A (lawE pm code doc L a) a3 a5 a7 a9 a10 a11 a12 C cc P bm ob)
    (F : Fm h₀ nX (lawE pm code doc L a) γ s.heap) (hγ : γ (Str.ofString "script") = some (.val (.ref l))) (hl : h₀.IsList l nvs.toArray) (hnv : ValsAre h₀ (ns.map .int) nvs)
    (h : ∀ s' h₁, Sm s s' → Old P h₀ h₁ → Tb cc P h₁ → Ext h₁ s'.heap → Q (.ret (.bool true)) s') :
    WX w A (lawE pm code doc L a) Q E (sBody (top 13)) s := by
  have hu := c.hu
  refine law_start_x c.B c.hh c.Gg c.hg c.ok F hγ hl hnv fun h1 t1 cs hcs F1 => ?_
  have sm1 := Sm.mk' s h1 t1
  obtain ⟨c0, c1, c2, c3, c4, rfl⟩ : ∃ c0 c1 c2 c3 c4, cs = [c0, c1, c2, c3, c4] := by
    rcases cs with _ | ⟨c0, _ | ⟨c1, _ | ⟨c2, _ | ⟨c3, _ | ⟨c4, _ | ⟨c5, cs⟩⟩⟩⟩⟩⟩
    · simp at hcs
    · simp at hcs
    · simp at hcs
    · simp at hcs
    · simp at hcs
    · exact ⟨c0, c1, c2, c3, c4, rfl⟩
    · simp at hcs
  have F1 : Fm h₀ nX (lawE pm code doc L a) (upd (fun _ => none) (Str.ofString "cells") (.list ([c0, c1, c2, c3, c4].map .int))) ({ s with heap := h1, toks := t1 } : Shared).heap := F1
  generalize ({ s with heap := h1, toks := t1 } : Shared) = s1 at sm1 F1 ⊢
  refine law_a_x c.B c.Gg c.hg c.hh c.ok F1 fun h2 t2 R S W hR hS hW F2 => ?_
  have sm2 := sm1.trans (Sm.mk' s1 h2 t2)
  have F2 : Fm h₀ nX (lawE pm code doc L a) (γ5 c0 c1 c2 c3 c4 R S W) ({ s1 with heap := h2, toks := t2 } : Shared).heap := F2
  generalize ({ s1 with heap := h2, toks := t2 } : Shared) = s2 at sm2 F2 ⊢
  have hmn := mn_ok hR hW
  refine law_b_x c.B c.Gg c.hg c.hh hR hS hW (by omega) c.ok F2 fun h3 t3 F3 => ?_
  have sm3 := sm2.trans (Sm.mk' s2 h3 t3)
  have F3 : Fm h₀ nX (lawE pm code doc L a) (upd (γ5 c0 c1 c2 c3 c4 R S W) (Str.ofString "front") (.list ((frL R S W c2).map .int))) ({ s2 with heap := h3, toks := t3 } : Shared).heap := F3
  generalize ({ s2 with heap := h3, toks := t3 } : Shared) = s3 at sm3 F3 ⊢
  refine law_c c.toLe.toLd.toLc (by omega) hR hS hW hmn F3 fun h4 t4 F4 => ?_
  refine law_d c.toLe.toLd hR hS hW F4 fun s5 sm5 F5 => ?_
  refine law_e c.toLe.toLd hR hS hW F5 fun s6 K hK sm6 F6 => ?_
  refine law_f c.toLe hR hS hK F6 fun s7 sm7 F7 => ?_
  refine law_g c hR hS F7 fun s8 nv hv nvA hvA sm8 F8 => ?_
  refine law_h c nvA hvA (chk_ok hR) (chk_swap (chk_ok hR)) (cov_same hR) F8 fun s9 h₁ c9 old9 sm9 F9 => ?_
  refine law_i c9 hR hS (fin_all hR hS hK) F9 fun s10 sm10 ext10 => ?_
  exact h s10 h₁ (sm3.trans ((Sm.mk' s3 h4 t4).trans (sm5.trans (sm6.trans (sm7.trans (sm8.trans (sm9.trans sm10))))))) old9 c9.tb ext10
end Mine

namespace Mine
open PySem PySem.W PySem.W.X PyProof.Rows

/-! what the head says, in the walk's words -/
theorem ns_no {K : Frag} {h : Heap} {N : Addr} {m : Str → Option Value} {n : Str} (X : K.In h) (G : h.Ns N m) (e : nsIn K N n = some none) : m n = none := by
  obtain ⟨o, es, ep, ho, hd, _, hf⟩ := G
  unfold nsIn at e
  split at e
  · rename_i c d es' n' sl q
    have := X _ _ q
    rw [ho] at this
    cases this
    cases hd
    split at e
    · cases e
    · rename_i he
      rw [← hf]
      unfold nsFind findBy
      rw [← Array.find?_toList, he]
      rfl
  · cases e
theorem vals_of {h : Heap} : ∀ {vs : List Value} {xs : List Int}, IntsAre vs xs → ValsAre h (xs.map PV.int) vs
  | _, _, .nil => by simp [ValsAre]
  | _, _, .cons x t r => by
    simp only [List.map_cons]
    exact ValsAre.cons (by simp only [ValIs]; exact ⟨t, rfl⟩) (vals_of r)

def sPos : Stmt → Pos
  | .FunctionDef _ _ _ _ _ _ _ _ _ p => p
  | _ => ⟨0, 0, 0, 0⟩
abbrev recAt (i : Nat) : DefRec := ⟨sName (top i), sParams (top i), sBody (top i), sScope (top i), sPos (top i)⟩
section
variable {mean : ExcName → Option Value} {loose : List Str} {mg mb : Str → Option Value} {h : Heap} {W : World}
theorem fn_of {p : Program} {i : Nat} (T : Top p loose mean mg mb h) (hr : (recsOf p).find? (fun e => e.name == sName (top i)) = some (recAt i)) : ∃ a, FnAt mg h (top i) a := by
  obtain ⟨a, o, pm, code, doc, h1, h2, h3, h4⟩ := T.fn _ (List.mem_of_find?_eq_some hr)
  exact ⟨a, o, pm, code, doc, h1, h2, h3, h4⟩
theorem fnC_of {p : Program} {i : Nat} (T : Top p loose mean mg mb h) (hr : (recsOf p).find? (fun e => e.name == sName (top i)) = some (recAt i)) : ∃ a c P, FnC mg h (top i) a c ∧ h.IsCode c P #[] ∧ h.TableAt c P #[] := by
  obtain ⟨a, o, pm, code, doc, h1, h2, h3, h4⟩ := T.fn _ (List.mem_of_find?_eq_some hr)
  obtain ⟨a', o', fd, c, P, g1, g2, g3, g4, g5, g6⟩ := T.tab _ (List.mem_of_find?_eq_some hr)
  rw [h1] at g1; cases g1
  rw [h2] at g2; cases g2
  rw [h3] at g3; cases g3
  cases g4
  exact ⟨a, c, P, ⟨o, pm, doc, h1, h2, h3, h4⟩, g5, g6⟩
end
/-- what the top's text bears, as the head tells it -/
structure HR (p : Program) : Prop where
  r3 : (recsOf p).find? (fun e => e.name == sName (top 3)) = some (recAt 3)
  r5 : (recsOf p).find? (fun e => e.name == sName (top 5)) = some (recAt 5)
  r7 : (recsOf p).find? (fun e => e.name == sName (top 7)) = some (recAt 7)
  r9 : (recsOf p).find? (fun e => e.name == sName (top 9)) = some (recAt 9)
  r10 : (recsOf p).find? (fun e => e.name == sName (top 10)) = some (recAt 10)
  r11 : (recsOf p).find? (fun e => e.name == sName (top 11)) = some (recAt 11)
  r12 : (recsOf p).find? (fun e => e.name == sName (top 12)) = some (recAt 12)
  own : ((ownsOf p).find? fun o => o.name == Str.ofString "StatisticsError").isSome = true
abbrev gIn (K : Frag) (x : String) : Option (Option Value) := nsIn K mainGlobals (Str.ofString x)
/-- what the written part of the heap bears -/
structure HK (K : Frag) : Prop where
  len : gIn K "len" = some none
  min : gIn K "min" = some none
  max : gIn K "max" = some none
  range : gIn K "range" = some none
  enum : gIn K "enumerate" = some none
  type : gIn K "type" = some none
  str : gIn K "str" = some none
  int : gIn K "int" = some none
  flt : gIn K "float" = some none
  ve : gIn K "ValueError" = some none
  fsum : gIn K "fsum" = some (some (.builtin "math.fsum"))
  sumprod : gIn K "sumprod" = some (some (.builtin "math.sumprod"))
  cmax : ∃ t, gIn K "CHAR_MAX" = some (some (.int 127 t))
  serr : ∃ C N nm q bs hdct sn sub ab col dd k0 k1 k2 k3 k5, gIn K "StatisticsError" = some (some (.ref C)) ∧ K.lookup C = some (excClassObj nm q C N bs vbm hdct sn sub ab col dd k0 k1 k2 k3 k5 "ValueError.__new__") ∧
    nsIn K N (Str.ofString "__init__") = some none ∧ nsIn K N (Str.ofString "__str__") = some none
end Mine

namespace Mine
open PySem PySem.W PySem.W.X PyProof.Rows

theorem bb_len : bootBuiltins (Str.ofString "len") = some (.builtin "len") := by kernel_rfl
theorem bb_min : bootBuiltins (Str.ofString "min") = some (.builtin "min") := by kernel_rfl
theorem bb_max : bootBuiltins (Str.ofString "max") = some (.builtin "max") := by kernel_rfl
theorem bb_range : bootBuiltins (Str.ofString "range") = some (.type "range") := by kernel_rfl
theorem bb_enum : bootBuiltins (Str.ofString "enumerate") = some (.type "enumerate") := by kernel_rfl
theorem bb_type : bootBuiltins (Str.ofString "type") = some (.type "type") := by kernel_rfl
theorem bb_str : bootBuiltins (Str.ofString "str") = some (.type "str") := by kernel_rfl
theorem bb_int : bootBuiltins (Str.ofString "int") = some (.type "int") := by kernel_rfl
theorem bb_flt : bootBuiltins (Str.ofString "float") = some (.type "float") := by kernel_rfl
theorem bb_ve : bootBuiltins (Str.ofString "ValueError") = some (.type "ValueError") := by kernel_rfl

section
variable {mean : ExcName → Option Value} {loose : List Str} {mg mb : Str → Option Value} {h : Heap} {K : Frag} {p : Program}
theorem bi_of (k : HK K) (T : Top p loose mean mg mb h) (X : K.In h) : Bi mg mb := by
  have no : ∀ x, nsIn K mainGlobals x = some none → mg x = none := fun x e => ns_no X T.g e
  have yes : ∀ x v, nsIn K mainGlobals x = some (some v) → mg x = some v := fun x v e => mg_of X T.g e
  have bb : ∀ x v, x ≠ (Str.ofString "__name__") → bootBuiltins x = some v → mb x = some v := fun x v hx e => (T.builtins x hx).trans e
  exact {
    len := ⟨no _ k.len, bb _ _ (by decide) bb_len⟩
    min := ⟨no _ k.min, bb _ _ (by decide) bb_min⟩
    max := ⟨no _ k.max, bb _ _ (by decide) bb_max⟩
    range := ⟨no _ k.range, bb _ _ (by decide) bb_range⟩
    enum := ⟨no _ k.enum, bb _ _ (by decide) bb_enum⟩
    type := ⟨no _ k.type, bb _ _ (by decide) bb_type⟩
    str := ⟨no _ k.str, bb _ _ (by decide) bb_str⟩
    int := ⟨no _ k.int, bb _ _ (by decide) bb_int⟩
    flt := ⟨no _ k.flt, bb _ _ (by decide) bb_flt⟩
    ve := ⟨no _ k.ve, bb _ _ (by decide) bb_ve⟩
    fsum := yes _ _ k.fsum
    sumprod := yes _ _ k.sumprod
    cmax := let ⟨t, e⟩ := k.cmax; ⟨t, yes _ _ e⟩ }
theorem own_of (k : HK K) (T : Top p loose mean mg mb h) (X : K.In h) (hn : ((ownsOf p).find? fun o => o.name == Str.ofString "StatisticsError").isSome = true) : ∃ C, OwnS mg C h := by
  obtain ⟨o, hf⟩ := Option.isSome_iff_exists.mp hn
  have ho := List.mem_of_find?_eq_some hf
  have hnm : o.name = Str.ofString "StatisticsError" := by simpa using List.find?_some hf
  obtain ⟨C, O, _⟩ := T.own o ho
  obtain ⟨C', N', nm', q', bs', hdct', sn', sub', ab', col', dd', l0, l1, l2, l3, l5, e1, e2, e3, e4⟩ := k.serr
  have hC : mg (Str.ofString "StatisticsError") = some (.ref C') := mg_of X T.g e1
  have e := O.bound
  rw [hnm, hC] at e
  cases e
  obtain ⟨bm, N, nm, q, bs, hdct, sn, sub, ab, col, dd, k0, k1, k2, k3, k5, mN, g1, g2, g3, g4⟩ := O.obj
  have hK := X _ _ e2
  have eN : N = N' := by
    have hK' := hK
    rw [g1] at hK'
    have := Option.some.inj hK'
    injection this with _ _ hd _
    injection hd with hc
    injection hc
  subst eN
  exact ⟨_, hC, N, nm', q', bs', hdct', sn', sub', ab', col', dd', l0, l1, l2, l3, l5, mN, hK, g2, ns_no X g2 e3, ns_no X g2 e4⟩
end
end Mine

namespace Mine
open PySem PySem.W PySem.W.X PyProof.Rows

section
variable {h : Heap} {P : Addr} (hP : h.get? P = some { cls := .none, data := .fields #[] })
include hP
theorem hide_get {b : Addr} {o : Obj} (e : h.get? b = some o) (hn : o ≠ { cls := .none, data := .fields #[] }) : (hideAll h [P]).get? b = some o := hideAll_get _ e fun hm => by
  simp only [List.mem_cons, List.not_mem_nil, or_false] at hm
  subst hm
  rw [e] at hP; cases hP; exact hn rfl
theorem hide_ns {a : Addr} {m : Str → Option Value} (x : h.Ns a m) : (hideAll h [P]).Ns a m := by
  obtain ⟨o, es, ep, e, hd, r⟩ := x
  exact ⟨o, es, ep, hide_get hP e (fun q => by rw [q] at hd; cases hd), hd, r⟩
theorem hide_rec {c : Value} {q : Str} (x : h.CodeRec c q) : (hideAll h [P]).CodeRec c q := by
  obtain ⟨c', oc, vs, t, e1, e2, e3, e4⟩ := x
  refine ⟨c', oc, vs, t, e1, hide_get hP e2 (fun q => ?_), e3, e4⟩
  rw [q] at e3; cases e3; simp at e4
theorem hide_fn {mg : Str → Option Value} {st : Stmt} {a : Addr} (x : FnAt mg h st a) : FnAt mg (hideAll h [P]) st a := by
  obtain ⟨o, pm, code, doc, h1, h2, h3, h4⟩ := x
  exact ⟨o, pm, code, doc, h1, hide_get hP h2 (fun q => by rw [q] at h3; cases h3), h3, hide_rec hP h4⟩
theorem hide_fnC {mg : Str → Option Value} {st : Stmt} {a c : Addr} (x : FnC mg h st a c) : FnC mg (hideAll h [P]) st a c := by
  obtain ⟨o, pm, doc, h1, h2, h3, h4⟩ := x
  exact ⟨o, pm, doc, h1, hide_get hP h2 (fun q => by rw [q] at h3; cases h3), h3, hide_rec hP h4⟩
theorem hide_own {mg : Str → Option Value} {C : Addr} (x : OwnS mg C h) : OwnS mg C (hideAll h [P]) := by
  obtain ⟨b, N, nm, q, bs, hdct, sn, sub, ab, col, dd, k0, k1, k2, k3, k5, mN, h1, h2, h3, h4⟩ := x
  exact ⟨b, N, nm, q, bs, hdct, sn, sub, ab, col, dd, k0, k1, k2, k3, k5, mN, hide_get hP h1 (fun q => by cases q), hide_ns hP h2, h3, h4⟩
theorem hide_gd {mg mb : Str → Option Value} (g : h.Ns mainGlobals mg) (b : h.Ns builtinsNs mb) (n : h.NoLimit) : Gd mg mb (hideAll h [P]) := ⟨hide_ns hP g, hide_ns hP b, let ⟨mc, x, y⟩ := n; ⟨mc, hide_ns hP x, y⟩⟩
theorem hide_bmod {mg : Str → Option Value} {bm : Addr} {ob : Obj} (x : BMod h mainGlobals mg bm ob) : BMod (hideAll h [P]) mainGlobals mg bm ob :=
  ⟨hide_ns hP x.ns, x.name, x.ne, hide_get hP x.obj (fun q => by have := x.cls; rw [q] at this; cases this), x.cls, x.dict, x.data⟩
end

theorem law_good {w : World} {s₁ : Shared} {mg mb : Str → Option Value} {mean : ExcName → Option Value} {loose : List Str} {p : Program} {K : Frag} {fa l : Addr} {o : Obj} {pm cd doc : Value} {nvs : List Value} {ns : List Int}
    (hr : HR p) (hk : HK K) (T : Top p loose mean mg mb s₁.heap) (X : K.In s₁.heap) (ho : s₁.heap.get? fa = some o) (hd' : o.data = .func (fdOf (top 13) pm cd doc)) (hcd : s₁.heap.CodeRec cd (sName (top 13))) (hg : s₁.gens = #[]) (hL : s₁.heap.IsList l nvs.toArray) (hI : IntsAre nvs ns) :
    wpAny (model pr w) callerA (call (.ref fa) [.ref l]) (fun v s' => v = .bool true ∧ OldK s₁.heap s'.heap ∧ s'.os = s₁.os ∧ AllBare s'.gens) (fun _ _ => False) s₁ := by
  obtain ⟨a3, cc, P, fc, ic, tc⟩ := fnC_of T hr.r3
  obtain ⟨a5, f5⟩ := fn_of T hr.r5
  obtain ⟨a7, f7⟩ := fn_of T hr.r7
  obtain ⟨a9, f9⟩ := fn_of T hr.r9
  obtain ⟨a10, f10⟩ := fn_of T hr.r10
  obtain ⟨a11, f11⟩ := fn_of T hr.r11
  obtain ⟨a12, f12⟩ := fn_of T hr.r12
  obtain ⟨bm, ob, M⟩ := bmod_of_top T
  have B := bi_of hk T X
  obtain ⟨CC, O⟩ := own_of hk T X hr.own
  have hP : s₁.heap.get? P = some { cls := .none, data := .fields #[] } := tc.2
  refine call_fnC (st := top 13) (γ := upd (fun _ => none) (Str.ofString "script") (.val (.ref l))) (binds := [(Str.ofString "script", .ref l)]) ho hd' hcd T.nolimit (by decide) rfl rfl rfl rfl rfl (fun x d e => ?_) fun h₁ tk ok F => ?_
  · unfold upd at e
    by_cases hx : x = Str.ofString "script"
    · subst hx; rw [if_pos rfl] at e; cases e
      exact ⟨rfl, .ref l, rfl, by simp only [ValIs]⟩
    · rw [if_neg hx] at e; cases e
  · have gL : (hideAll s₁.heap [P]).get? (lawE pm cd doc s₁.heap.objs.size fa).locals = none := by
      cases q : (hideAll s₁.heap [P]).get? (lawE pm cd doc s₁.heap.objs.size fa).locals with
      | none => rfl
      | some o' =>
        have e := of_hideAll _ q
        rw [ok.freshL] at e; cases e
    have c : Lf mg mb (hideAll s₁.heap [P]) s₁.heap (callerA.deeper (lawE pm cd doc s₁.heap.objs.size fa)) (lawE pm cd doc s₁.heap.objs.size fa) a3 a5 a7 a9 a10 a11 a12 CC cc P bm ob :=
      ⟨⟨⟨⟨B, hide_gd hP T.g T.b T.nolimit, fun b o e => of_hideAll _ e, rfl, ok⟩, hide_fn hP fc.fn, hide_fn hP f7, hide_fn hP f9, hide_fn hP f10, hide_fn hP f11, hide_own hP O, Around.frames_deeper rfl, rfl, (by simp only [Around.deeper]; decide), (by simp only [Around.deeper]; decide), gL, rfl⟩, hide_fn hP f5, hide_fn hP f12⟩, hide_fnC hP fc, hide_bmod hP M, hideAll_none _ (.head _), ⟨#[], ic, tc⟩⟩
    refine (law_walk c F rfl hL (vals_of hI) ?_).run
    intro s' h₂ sm old tb ext
    obtain ⟨hh, tt, gs, rfl, hb⟩ := sm
    refine ⟨rfl, ⟨fun b o' e => ?_, fun b o' e => ?_⟩, rfl, hb ?_⟩
    · by_cases hbP : b = P
      · subst hbP
        rw [hP] at e; cases e
        obtain ⟨ps, hps⟩ := tb.obj
        exact .inr (.inl ⟨tc.isCodeTable, rfl, #[], ps, rfl, by rw [Array.empty_append]; exact ext _ _ hps⟩)
      · exact .inl (ext _ _ (old b o' hbP e))
    · by_cases hbP : b = P
      · subst hbP
        obtain ⟨ps, hps⟩ := tb.obj
        exact ⟨_, ext _ _ hps⟩
      · exact ⟨o', ext _ _ (old b o' hbP e)⟩
    · rw [show ({ s₁ with heap := h₁, toks := tk } : Shared).gens = s₁.gens from rfl, hg]
      exact .of_eq rfl
end Mine

namespace Mine
open PySem PySem.W PyProof.Rows
set_option maxHeartbeats 8000000 in
open_top hd for PySem.Challenge.rw_rs0022_01
end Mine

namespace Mine
open PySem PySem.W PyProof.Rows
theorem post_true (args ds : List WData) : PySem.Challenge.rw_rs0022_01.row.toRowW.claim.post args (.bool true) ds = true := by
  show (WShape.has [] (.bool true) .bool && (WTm.eq .res (.lit (.bool true))).holds [] { args := args, res := some (.bool true), after := ds }) = true
  rw [holdsW_of_value (w_eq_bool (k := true) (l := true) (w_res rfl) w_lit)]
  decide
end Mine
open PySem PySem.W PyProof.Rows
set_option maxHeartbeats 4000000 in
theorem PySem.Challenge.cw_rs0022_01_holds : PySem.Challenge.rw_rs0022_01.Holds := by
  refine Mine.hd ?_
  intro w s₀ s₁ mg mb G Y fa o pm cd doc dV kV ho hd' hcd hD hmg hg args vals as hpre hlay hrd hwl hlo
  have KX := kIn_of Y
  refine Ground.open G ?_
  intro T B D TE TW
  wrow_args hpre hlay hrd hwl hlo
  rename_i ns hs hlay0 hL1 hr1 hl2 as4 as3 l nvs as0 hL ra w1 r0 hI hr hc1 hc2
  have he := Dflts.none hD rfl
  subst he
  have he := Dflts.noKw hD
  subst he
  show wpAny (model Mine.pr w) callerA (call (.ref fa) [.ref l]) _ _ s₁
  refine wpAny_mono (Mine.law_good ?hr ?hk T KX ho (fd_plain hd') hcd hg hL hI) (fun v s' q => ?post) (fun _ _ f => f.elim)
  case hr => exact ⟨by kernel_rfl, by kernel_rfl, by kernel_rfl, by kernel_rfl, by kernel_rfl, by kernel_rfl, by kernel_rfl, by kernel_rfl⟩
  case hk => exact ⟨by kernel_rfl, by kernel_rfl, by kernel_rfl, by kernel_rfl, by kernel_rfl, by kernel_rfl, by kernel_rfl, by kernel_rfl, by kernel_rfl, by kernel_rfl, by kernel_rfl, by kernel_rfl, ⟨_, rfl⟩, ⟨_, _, _, _, _, _, _, _, _, _, _, _, _, _, _, _, rfl, rfl, by kernel_rfl, by kernel_rfl⟩⟩
  case post =>
    obtain ⟨rfl, hK, hos, hb⟩ := q
    exact ⟨.inl ⟨.bool true, .bool true, [], rfl, fun _ => rfl, .bool true, Mine.post_true _ _, fun _ => ⟨List.nodup_nil, fun a ha => by cases ha⟩⟩, hK, hos, hb⟩
