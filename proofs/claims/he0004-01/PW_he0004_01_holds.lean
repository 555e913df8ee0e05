import PyProof.Rows.All
import Wide.All
import OpenK.AllK
import Wide.FinOn
import Lean
import PySem.Challenge.RW_he0004_01
set_option Elab.async false
set_option maxRecDepth 100000
set_option maxHeartbeats 8000000
set_option linter.unusedVariables false
set_option linter.unusedSimpArgs false

section
open PySem PySem.W PySem.W.X PyProof.Rows
namespace Mine
open_top hd for PySem.Challenge.rw_he0004_01
end Mine
end

open PySem PySem.W PyProof.Rows PySem.Spec PySem.Calls
/-! Core -/
namespace Mine

mutual
inductive DS (ok : Addr → Prop) (h : Heap) : Value → Dat → Prop
  | none : DS ok h Value.none Dat.none
  | bool (b : Bool) : DS ok h (Value.bool b) (Dat.bool b)
  | int (i : Int) (t : Tok) : DS ok h (Value.int i t) (Dat.int i)
  | tuple {a : Addr} {vs : List Value} {ds : List Dat} : ok a → h.IsTuple a vs.toArray → DSs ok h vs ds → DS ok h (Value.ref a) (Dat.tuple ds)
  | list {a : Addr} {vs : List Value} {ds : List Dat} : ok a → h.IsList a vs.toArray → DSs ok h vs ds → DS ok h (Value.ref a) (Dat.list ds)
inductive DSs (ok : Addr → Prop) (h : Heap) : List Value → List Dat → Prop
  | nil : DSs ok h [] []
  | cons {v : Value} {vs : List Value} {d : Dat} {ds : List Dat} : DS ok h v d → DSs ok h vs ds → DSs ok h (v :: vs) (d :: ds)
end

def Obj.IsSeq (o : Obj) : Prop := ∃ xs n, o.data = .seq xs n
def Up (ok ok' : Addr → Prop) (h h' : Heap) : Prop := ∀ b o, ok b → h.get? b = some o → Obj.IsSeq o → ok' b ∧ h'.get? b = some o

mutual
theorem DS.up {ok ok' : Addr → Prop} {h h' : Heap} (u : Up ok ok' h h') : ∀ {v : Value} {d : Dat}, DS ok h v d → DS ok' h' v d
  | _, _, .none => .none
  | _, _, .bool b => .bool b
  | _, _, .int i t => .int i t
  | _, _, .tuple ha ⟨o, ho, hc, n, hd⟩ r => .tuple (u _ o ha ho ⟨_, n, hd⟩).1 ⟨o, (u _ o ha ho ⟨_, n, hd⟩).2, hc, n, hd⟩ (DSs.up u r)
  | _, _, .list ha ⟨o, ho, hc, n, hd⟩ r => .list (u _ o ha ho ⟨_, n, hd⟩).1 ⟨o, (u _ o ha ho ⟨_, n, hd⟩).2, hc, n, hd⟩ (DSs.up u r)
theorem DSs.up {ok ok' : Addr → Prop} {h h' : Heap} (u : Up ok ok' h h') : ∀ {vs : List Value} {ds : List Dat}, DSs ok h vs ds → DSs ok' h' vs ds
  | _, _, .nil => .nil
  | _, _, .cons a r => .cons (DS.up u a) (DSs.up u r)
end

def Kp (h h' : Heap) : Prop := ∀ b o, h.get? b = some o → h'.get? b = some o
theorem Kp.refl (h : Heap) : Kp h h := fun _ _ e => e
theorem Kp.trans {a b c : Heap} (x : Kp a b) (y : Kp b c) : Kp a c := fun _ _ e => y _ _ (x _ _ e)
theorem Kp.up {ok : Addr → Prop} {h h' : Heap} (k : Kp h h') : Up ok ok h h' := fun _ _ ho e _ => ⟨ho, k _ _ e⟩
theorem Kp.push (h : Heap) (o : Obj) : Kp h (h.push o) := fun _ _ e => Heap.get?_push_of_some _ e
theorem DS.kp {ok : Addr → Prop} {h h' : Heap} {v : Value} {d : Dat} (x : DS ok h v d) (k : Kp h h') : DS ok h' v d := x.up k.up
theorem DSs.kp {ok : Addr → Prop} {h h' : Heap} {v : List Value} {d : List Dat} (x : DSs ok h v d) (k : Kp h h') : DSs ok h' v d := x.up k.up
theorem DSs.length {ok : Addr → Prop} {h : Heap} : ∀ {vs : List Value} {ds : List Dat}, DSs ok h vs ds → vs.length = ds.length
  | _, _, .nil => rfl
  | _, _, .cons _ r => by rw [List.length_cons, List.length_cons, DSs.length r]
theorem DSs.append {ok : Addr → Prop} {h : Heap} : ∀ {vs ws : List Value} {ds es : List Dat}, DSs ok h vs ds → DSs ok h ws es → DSs ok h (vs ++ ws) (ds ++ es)
  | _, _, _, _, .nil, k => k
  | _, _, _, _, .cons a r, k => .cons a (DSs.append r k)
theorem DSs.get {ok : Addr → Prop} {h : Heap} : ∀ {vs : List Value} {ds : List Dat}, DSs ok h vs ds → ∀ (k : Nat) (d : Dat), ds[k]? = some d → ∃ v, vs[k]? = some v ∧ DS ok h v d
  | _, _, .nil, k, d, e => by simp at e
  | _, _, .cons a r, 0, d, e => by simp at e; subst e; exact ⟨_, rfl, a⟩
  | _, _, .cons a r, k + 1, d, e => by simp at e; simpa using DSs.get r k d e
theorem DSs.take {ok : Addr → Prop} {h : Heap} : ∀ {vs : List Value} {ds : List Dat} (_ : DSs ok h vs ds) (k : Nat), DSs ok h (vs.take k) (ds.take k)
  | _, _, .nil, k => by simpa using DSs.nil
  | _, _, .cons a r, 0 => .nil
  | _, _, .cons a r, k + 1 => .cons a (DSs.take r k)
theorem DSs.drop {ok : Addr → Prop} {h : Heap} : ∀ {vs : List Value} {ds : List Dat} (_ : DSs ok h vs ds) (k : Nat), DSs ok h (vs.drop k) (ds.drop k)
  | _, _, .nil, k => by simpa using DSs.nil
  | _, _, .cons a r, 0 => .cons a r
  | _, _, .cons a r, k + 1 => DSs.drop r k
theorem DSs.getv {ok : Addr → Prop} {h : Heap} : ∀ {vs : List Value} {ds : List Dat}, DSs ok h vs ds → ∀ (k : Nat) (v : Value), vs[k]? = some v → ∃ d, ds[k]? = some d ∧ DS ok h v d
  | _, _, .nil, k, d, e => by simp at e
  | _, _, .cons a r, 0, d, e => by simp at e; subst e; exact ⟨_, rfl, a⟩
  | _, _, .cons a r, k + 1, d, e => by simp at e; simpa using DSs.getv r k d e

def Kps (s s' : Shared) : Prop := ∃ h' tk, s' = { s with heap := h', toks := tk } ∧ ∀ b o, s.heap.get? b = some o → h'.get? b = some o
theorem Kps.refl (s : Shared) : Kps s s := ⟨s.heap, s.toks, rfl, fun _ _ e => e⟩
theorem Kps.trans {a b c : Shared} (x : Kps a b) (y : Kps b c) : Kps a c := by
  obtain ⟨h, t, rfl, k⟩ := x
  obtain ⟨h', t', rfl, k'⟩ := y
  exact ⟨h', t', rfl, fun b o e => k' b o (k b o e)⟩
theorem Kps.kp {a b : Shared} (x : Kps a b) : Kp a.heap b.heap := by
  obtain ⟨h, t, rfl, k⟩ := x
  exact k
theorem Kps.of {s : Shared} {h : Heap} {t : Nat} (k : Kp s.heap h) : Kps s { s with heap := h, toks := t } := ⟨h, t, rfl, k⟩
theorem Kps.ofH {s : Shared} {h : Heap} (k : Kp s.heap h) : Kps s { s with heap := h } := ⟨h, s.toks, rfl, k⟩
theorem Kps.ofT {s : Shared} {t : Nat} : Kps s { s with toks := t } := ⟨s.heap, t, rfl, fun _ _ e => e⟩

/-- new places are good -/
def Free (ok : Addr → Prop) (h : Heap) : Prop := ∀ a, h.get? a = none → ok a
theorem Free.kp {ok : Addr → Prop} {h h' : Heap} (f : Free ok h) (k : Kp h h') : Free ok h' := fun a e => f a (by
  cases q : h.get? a with
  | none => rfl
  | some o => rw [k _ _ q] at e; cases e)
theorem Free.size {ok : Addr → Prop} {h : Heap} (f : Free ok h) : ok h.objs.size := f _ (Heap.get?_none_of_le (Nat.le_refl _))

section
variable (prog : Program) (w : World) (A : Around) (env : Env) (ok : Addr → Prop) (s₀ : Shared)

/-- the name is that value, in every state that keeps s₀ -/
def Has (x : Str) (v : Value) : Prop := ∀ s, Kps s₀ s → ∀ (Q : Value → Shared → Prop) (E : Value → Shared → Prop) (pos : Pos), Q v s → wpAny (model prog w) A (eval (.Name x pos) env) Q E s
/-- the tree gives that datum and keeps all -/
def Gets (ok : Addr → Prop) (t : Sem Value) (d : Dat) (s : Shared) : Prop := ∀ (Q : Value → Shared → Prop) (E : Value → Shared → Prop), (∀ v s', Kps s s' → DS ok s'.heap v d → Q v s') → wpAny (model prog w) A t Q E s
def Ev (e : Expr) (d : Dat) : Prop := ∀ s, Kps s₀ s → Gets prog w A ok (eval e env) d s
def Tr (e : Expr) (b : Bool) : Prop := ∀ s, Kps s₀ s → ∀ (Q : Bool → Shared → Prop) (E : Value → Shared → Prop), (∀ s', Kps s s' → Q b s') → wpAny (model prog w) A (isTrue e env (eval e env)) Q E s
def Op1 (f : Value → Sem Value) (a d : Dat) : Prop := ∀ s, Kps s₀ s → ∀ v, DS ok s.heap v a → Gets prog w A ok (f v) d s
def Op2 (f : Value → Value → Sem Value) (a b d : Dat) : Prop := ∀ s, Kps s₀ s → ∀ v u, DS ok s.heap v a → DS ok s.heap u b → Gets prog w A ok (f v u) d s
end

section
variable {prog : Program} {w : World} {A : Around} {env : Env} {ok : Addr → Prop} {s₀ s₁ : Shared}

theorem Has.up {x : Str} {v : Value} (h : Has prog w A env s₀ x v) (k : Kps s₀ s₁) : Has prog w A env s₁ x v := fun s k' => h s (k.trans k')
theorem Ev.up {e : Expr} {d : Dat} (h : Ev prog w A env ok s₀ e d) (k : Kps s₀ s₁) : Ev prog w A env ok s₁ e d := fun s k' => h s (k.trans k')
theorem Tr.up {e : Expr} {b : Bool} (h : Tr prog w A env s₀ e b) (k : Kps s₀ s₁) : Tr prog w A env s₁ e b := fun s k' => h s (k.trans k')

theorem ev_name {x : Str} {pos : Pos} {v : Value} {d : Dat} (h : Has prog w A env s₀ x v) (hd : DS ok s₀.heap v d) : Ev prog w A env ok s₀ (.Name x pos) d :=
  fun s k Q E hQ => h s k Q E pos (hQ v s (.refl s) (hd.kp k.kp))
theorem ev_int {i : Int} {k : Nat} {pos : Pos} : Ev prog w A env ok s₀ (.Constant (.int i) k pos) (.int i) :=
  fun s _ Q E hQ => wpAny_Constant_int (hQ _ _ .ofT (.int _ _))
theorem ev_bool {b : Bool} {k : Nat} {pos : Pos} : Ev prog w A env ok s₀ (.Constant (.bool b) k pos) (.bool b) :=
  fun s _ Q E hQ => fun _ _ _ => hQ _ _ (.refl s) (.bool _)
theorem ev_bin {l r : Expr} {op : Operator} {pos : Pos} {a b d : Dat} (hl : Ev prog w A env ok s₀ l a) (hr : Ev prog w A env ok s₀ r b) (hop : Op2 prog w A ok s₀ (binaryOp op) a b d) :
    Ev prog w A env ok s₀ (.BinOp l op r pos) d := fun s k Q E hQ =>
  wpAny_BinOp (hl s k _ E fun v s1 k1 h1 => hr s1 (k.trans k1) _ E fun u s2 k2 h2 => hop s2 ((k.trans k1).trans k2) v u (h1.kp k2.kp) h2 _ E fun r s3 k3 h3 => hQ r s3 ((k1.trans k2).trans k3) h3)
theorem ev_cmp {l r : Expr} {op : CmpOp} {pos : Pos} {a b d : Dat} (hl : Ev prog w A env ok s₀ l a) (hr : Ev prog w A env ok s₀ r b) (hop : Op2 prog w A ok s₀ (compareOp op) a b d) (hm : behindInMarks op r = false) :
    Ev prog w A env ok s₀ (.Compare l [op] [r] pos) d := fun s k Q E hQ =>
  wpAny_Compare1 (hl s k _ E fun v s1 k1 h1 => hr s1 (k.trans k1) _ E fun u s2 k2 h2 => hop s2 ((k.trans k1).trans k2) v u (h1.kp k2.kp) h2 _ E fun r s3 k3 h3 => hQ r s3 ((k1.trans k2).trans k3) h3) hm
theorem tr_cmp {l r : Expr} {op : CmpOp} {pos : Pos} {a b : Dat} {c : Bool} (hl : Ev prog w A env ok s₀ l a) (hr : Ev prog w A env ok s₀ r b) (hop : Op2 prog w A ok s₀ (compareOp op) a b (.bool c)) (hm : behindInMarks op r = false) :
    Tr prog w A env s₀ (.Compare l [op] [r] pos) c := fun s k Q E hQ =>
  wpAny_isTrue_Compare1 (hl s k _ E fun v s1 k1 h1 => hr s1 (k.trans k1) _ E fun u s2 k2 h2 => hop s2 ((k.trans k1).trans k2) v u (h1.kp k2.kp) h2 _ E fun r s3 k3 h3 => by
    cases h3
    exact wpAny_truthy_bool (hQ s3 ((k1.trans k2).trans k3))) hm
theorem op_add {a b : Int} : Op2 prog w A ok s₀ (binaryOp .Add) (.int a) (.int b) (.int (a + b)) := fun s _ v u hv hu Q E hQ => by
  cases hv; cases hu
  exact wpAny_add_int (hQ _ _ .ofT (.int _ _))
theorem op_sub {a b : Int} : Op2 prog w A ok s₀ (binaryOp .Sub) (.int a) (.int b) (.int (a - b)) := fun s _ v u hv hu Q E hQ => by
  cases hv; cases hu
  exact PyProof.Rows.sub_int (hQ _ _ .ofT (.int _ _))
theorem op_mul {a b : Int} (hm : IntMulOk a b) : Op2 prog w A ok s₀ (binaryOp .Mult) (.int a) (.int b) (.int (a * b)) := fun s _ v u hv hu Q E hQ => by
  cases hv; cases hu
  exact PyProof.Rows.mul_int (hQ _ _ .ofT (.int _ _)) hm
theorem op_mod {a b : Int} (hb : b ≠ 0) : Op2 prog w A ok s₀ (binaryOp .Mod) (.int a) (.int b) (.int (a.fmod b)) := fun s _ v u hv hu Q E hQ => by
  cases hv; cases hu
  exact PyProof.Rows.mod_int hb (hQ _ _ .ofT (.int _ _))
end
end Mine

/-! Core2 -/
namespace Mine
section
variable (prog : Program) (w : World) (A : Around) (env : Env) (ok : Addr → Prop) (s₀ : Shared)
def Evs (es : List Expr) (ds : List Dat) : Prop := ∀ s, Kps s₀ s → ∀ (Q : List Value → Shared → Prop) (E : Value → Shared → Prop) (pos : Pos), (∀ vs s', Kps s s' → DSs ok s'.heap vs ds → Q vs s') → wpAny (model prog w) A (spliced (backTo pos (starEach es env))) Q E s
/-- the called value gives that datum of arguments at those data -/
def Cal (f : Value) (ds : List Dat) (d : Dat) : Prop := ∀ s, Kps s₀ s → ∀ vs, DSs ok s.heap vs ds → Gets prog w A ok (call f vs) d s
end
section
variable {prog : Program} {w : World} {A : Around} {env : Env} {ok : Addr → Prop} {s₀ s₁ : Shared}

theorem Cal.up {f : Value} {ds : List Dat} {d : Dat} (h : Cal prog w A ok s₀ f ds d) (k : Kps s₀ s₁) : Cal prog w A ok s₁ f ds d := fun s k' => h s (k.trans k')
theorem evs_nil : Evs prog w A env ok s₀ [] [] := fun s k Q E pos hQ => spliced_none (hQ _ _ (.refl s) .nil)
theorem evs_cons {e : Expr} {es : List Expr} {d : Dat} {ds : List Dat} (h : Ev prog w A env ok s₀ e d) (hs : Evs prog w A env ok s₀ es ds) (he : starEach (e :: es) env = (false, eval e env) :: starEach es env) :
    Evs prog w A env ok s₀ (e :: es) (d :: ds) := fun s k Q E pos hQ =>
  spliced_more (h s k _ E fun v s1 k1 h1 => hs s1 (k.trans k1) _ E pos fun vs s2 k2 h2 => hQ _ s2 (k1.trans k2) (.cons (h1.kp k2.kp) h2)) he

theorem isTup_new {h : Heap} {vs : List Value} : (h.push { cls := .type "tuple", data := .seq vs.toArray }).IsTuple h.objs.size vs.toArray := ⟨_, Heap.get?_push_size _ rfl, rfl, _, rfl⟩
theorem isList_new {h : Heap} {vs : List Value} : (h.push { cls := .type "list", data := .seq vs.toArray }).IsList h.objs.size vs.toArray := ⟨_, Heap.get?_push_size _ rfl, rfl, _, rfl⟩

theorem ev_tuple {es : List Expr} {ds : List Dat} {k : Nat} {pos : Pos} (fr : Free ok s₀.heap) (h : Evs prog w A env ok s₀ es ds) (hsz : ds.length ≤ sizeLine) : Ev prog w A env ok s₀ (.Tuple es k pos) (.tuple ds) :=
  fun s kk Q E hQ => Tuple_ (h s kk _ E pos fun vs s1 k1 h1 => by
    refine wpAny_newTuple (hQ _ _ (k1.trans (.ofH (.push _ _))) (.tuple ?_ isTup_new (h1.kp (.push _ _)))) (by rw [h1.length]; exact hsz)
    exact (fr.kp (kk.trans k1).kp).size)
theorem ev_list {es : List Expr} {ds : List Dat} {pos : Pos} (fr : Free ok s₀.heap) (h : Evs prog w A env ok s₀ es ds) (hsz : ds.length ≤ sizeLine) : Ev prog w A env ok s₀ (.List es pos) (.list ds) :=
  fun s kk Q E hQ => List_ (h s kk _ E pos fun vs s1 k1 h1 => by
    refine wpAny_newList (hQ _ _ (k1.trans (.ofH (.push _ _))) (.list ?_ isList_new (h1.kp (.push _ _)))) (by rw [h1.length]; exact hsz)
    exact (fr.kp (kk.trans k1).kp).size)

/-- an int index into a list -/
theorem ev_item {e i : Expr} {pos : Pos} {ds : List Dat} {k : Int} {d : Dat} (h : Ev prog w A env ok s₀ e (.list ds)) (hi : Ev prog w A env ok s₀ i (.int k)) (h0 : 0 ≤ k) (h1 : k < 2 ^ 63) (hd : ds[k.toNat]? = some d)
    (hns : ∀ a b : Value, subscripted i false a b = operate [a, b] (getItem a b)) : Ev prog w A env ok s₀ (.Subscript e i pos) d :=
  fun s kk Q E hQ => Subscript_ (h s kk _ E fun v s1 k1 g1 => hi s1 (kk.trans k1) _ E fun u s2 k2 g2 => by
    have g1' := g1.kp k2.kp
    cases g1' with
    | list ha hl hr =>
    cases g2 with
    | int _ t =>
    obtain ⟨x, hx, hX⟩ := hr.get _ d hd
    exact tail_any hl.typeIs PySem.F.slot_list_getitem.lookup (wpAny_getItem_list hl h0 h1 (by simpa using hx) (hQ _ _ (k1.trans k2) hX)) (hns _ _))
theorem ev_last {e i : Expr} {pos : Pos} {ds : List Dat} {d : Dat} (h : Ev prog w A env ok s₀ e (.list (ds ++ [d]))) (hi : Ev prog w A env ok s₀ i (.int (-1)))
    (hns : ∀ a b : Value, subscripted i false a b = operate [a, b] (getItem a b)) : Ev prog w A env ok s₀ (.Subscript e i pos) d :=
  fun s kk Q E hQ => Subscript_ (h s kk _ E fun v s1 k1 g1 => hi s1 (kk.trans k1) _ E fun u s2 k2 g2 => by
    have g1' := g1.kp k2.kp
    cases g1' with
    | @list _ vs _ ha hl hr =>
    cases g2 with
    | int _ t =>
    have hlen := hr.length
    rw [List.length_append, List.length_singleton] at hlen
    obtain ⟨x, hx, hX⟩ := hr.get ds.length d (by simp)
    refine tail_any hl.typeIs PySem.F.slot_list_getitem.lookup (wpAny_getItem_list_neg hl (by decide) (by simp; omega) (by decide) (x := x) ?_ (hQ _ _ (k1.trans k2) hX)) (hns _ _)
    have e1 : ((-1 : Int) + (vs.toArray.size : Nat)).toNat = ds.length := by simp [hlen]; omega
    rw [e1]; simpa using hx)
theorem ev_itemT {e i : Expr} {pos : Pos} {ds : List Dat} {k : Int} {d : Dat} (h : Ev prog w A env ok s₀ e (.tuple ds)) (hi : Ev prog w A env ok s₀ i (.int k)) (h0 : 0 ≤ k) (h1 : k < 2 ^ 63) (hd : ds[k.toNat]? = some d)
    (hns : ∀ a b : Value, subscripted i false a b = operate [a, b] (getItem a b)) : Ev prog w A env ok s₀ (.Subscript e i pos) d :=
  fun s kk Q E hQ => Subscript_ (h s kk _ E fun v s1 k1 g1 => hi s1 (kk.trans k1) _ E fun u s2 k2 g2 => by
    have g1' := g1.kp k2.kp
    cases g1' with
    | @tuple _ vs _ ha hl hr =>
    cases g2 with
    | int _ t =>
    obtain ⟨x, hx, hX⟩ := hr.get _ d hd
    have hlt : k.toNat < ds.length := (List.getElem?_eq_some_iff.mp hd).1
    have hlen := hr.length
    refine item_tupleT hl (by omega) h1 (j := k.toNat) ?_ hx (hQ _ _ (k1.trans k2) hX) (hns _ _)
    have e1 : ¬ k < 0 := by omega
    have e2 : k < (vs.length : Int) := by omega
    simp [seqIndex?, e1, h0, e2])

theorem ev_slice {e : Expr} {lo hi : Option Expr} {p pos : Pos} {ds es : List Dat} {l u : Option Int} (fr : Free ok s₀.heap) (h : Ev prog w A env ok s₀ e (.list ds))
    (hl : match lo, l with | some x, some i => Ev prog w A env ok s₀ x (.int i) | none, none => True | _, _ => False)
    (hu : match hi, u with | some x, some i => Ev prog w A env ok s₀ x (.int i) | none, none => True | _, _ => False)
    (hsz : ds.length ≤ sizeLine) (hp : ∀ {α : Type} (xs : List α) , xs.length = ds.length → ∃ a b, (∀ (vs : List Value), vs.length = ds.length → slicePick vs.toArray l u none = ((vs.drop a).take b).toArray) ∧ es = (ds.drop a).take b)
    (ht : ∀ o r, letTemporaryGo e o r = pure ()) : Ev prog w A env ok s₀ (.Subscript e (.Slice lo hi none p) pos) (.list es) :=
  fun s kk Q E hQ => wpAny_Subscript_list_slice (h s kk _ E fun v s1 k1 g1 => by
    have part : ∀ (x : Option Expr) (i : Option Int) (s1 : Shared) (k1 : Kps s s1) (R : Value → Shared → Prop), (match x, i with | some x, some i => Ev prog w A env ok s₀ x (.int i) | none, none => True | _, _ => False) →
        (∀ v s2, Kps s1 s2 → IsPart v i → R v s2) → wpAny (model prog w) A (evalPart x env) R E s1 := by
      intro x i s1 k1 R hx hR
      cases x with
      | none =>
        cases i with
        | none => exact wpAny_pure (hR _ _ (.refl _) .none)
        | some i => exact hx.elim
      | some x =>
        cases i with
        | none => exact hx.elim
        | some i =>
          refine hx s1 (kk.trans k1) _ E fun v s2 k2 g2 => ?_
          cases g2
          exact hR _ _ k2 (.int _ _)
    refine part lo l s1 k1 _ hl fun vl s2 k2 pl => part hi u s2 (k1.trans k2) _ hu fun vu s3 k3 pu => ?_
    have g3 := (g1.kp k2.kp).kp k3.kp
    cases g3 with
    | @list a vs _ ha hls hr =>
    obtain ⟨x, y, h1, rfl⟩ := hp vs hr.length
    refine ⟨a, vs.toArray, l, u, rfl, hls, by simpa [hr.length] using hsz, pl, pu, ?_⟩
    rw [h1 vs hr.length]
    have kq : Kps s3 { s3 with heap := (s3.heap.push { cls := .type "slice", data := .fields #[vl, vu, .none] }).push { cls := .type "list", data := .seq ((vs.drop x).take y).toArray } } := .ofH ((Kp.push _ _).trans (.push _ _))
    have hsz1 : s3.heap.objs.size + 1 = (s3.heap.push { cls := .type "slice", data := .fields #[vl, vu, .none] }).objs.size := (Heap.size_push ..).symm
    refine hQ _ _ (((k1.trans k2).trans k3).trans kq) ?_
    rw [hsz1]
    refine .list ?_ isList_new (((hr.drop x).take y).kp kq.kp)
    exact ((fr.kp (((kk.trans k1).trans k2).trans k3).kp).kp (.push _ _)).size) ht
theorem ev_from {e x : Expr} {p pos : Pos} {ds : List Dat} {a : Nat} (fr : Free ok s₀.heap) (h : Ev prog w A env ok s₀ e (.list ds)) (hl : Ev prog w A env ok s₀ x (.int a)) (hsz : ds.length ≤ sizeLine) (ht : ∀ o r, letTemporaryGo e o r = pure ()) :
    Ev prog w A env ok s₀ (.Subscript e (.Slice (some x) none none p) pos) (.list (ds.drop a)) := by
  refine ev_slice (l := some a) (u := none) fr h hl trivial hsz (fun xs hx => ⟨a, ds.length, fun vs hv => ?_, ?_⟩) ht
  · rw [slicePick_from', List.take_of_length_le (by simp; omega)]
  · rw [List.take_of_length_le (by simp)]
theorem ev_upto {e x : Expr} {p pos : Pos} {ds : List Dat} {a : Nat} (fr : Free ok s₀.heap) (h : Ev prog w A env ok s₀ e (.list ds)) (hl : Ev prog w A env ok s₀ x (.int a)) (hsz : ds.length ≤ sizeLine) (ht : ∀ o r, letTemporaryGo e o r = pure ()) :
    Ev prog w A env ok s₀ (.Subscript e (.Slice none (some x) none p) pos) (.list (ds.take a)) := by
  refine ev_slice (l := none) (u := some a) fr h trivial hl hsz (fun xs hx => ⟨0, a, fun vs hv => ?_, ?_⟩) ht
  · rw [slicePick_upto', List.drop_zero]
  · rw [List.drop_zero]

theorem op_cat {ds es : List Dat} (fr : Free ok s₀.heap) (hsz : ds.length + es.length ≤ sizeLine) : Op2 prog w A ok s₀ (binaryOp .Add) (.list ds) (.list es) (.list (ds ++ es)) := fun s k v u hv hu Q E hQ => by
  cases hv with
  | @list l vs _ ha hl hr =>
  cases hu with
  | @list b ws _ hb hlb hs =>
  obtain ⟨⟨cls, dd, data, sl⟩, ho, hc, n, hd⟩ := id hl
  obtain ⟨⟨cls2, dd2, data2, sl2⟩, ho2, hc2, n2, hd2⟩ := id hlb
  simp only at hc hd hc2 hd2
  subst hc hd hc2 hd2
  have e : vs.toArray ++ ws.toArray = (vs ++ ws).toArray := by simp
  refine concat_meets ⟨_, ho, rfl⟩ ⟨_, ho2, rfl⟩ noFill_list_add seq_list_add PySem.F.slot_list_add PySem.F.entry_list_add (PySem.F.args_list_add_2 _ _) (list_addW l b vs.toArray ws.toArray n n2 dd dd2 sl sl2 (by simp [hr.length, hs.length]; omega)) ⟨ho, ho2, ?_⟩
  rw [e]
  exact hQ _ _ (.of (t := s.toks) (.push _ _)) (.list (fr.kp k.kp).size isList_new ((hr.append hs).kp (.push _ _)))
theorem ev_neg {e : Expr} {pos : Pos} {a : Int} (h : Ev prog w A env ok s₀ e (.int a)) : Ev prog w A env ok s₀ (.UnaryOp .USub e pos) (.int (-a)) := fun s k Q E hQ => by
  show wpAny _ _ (do let v ← eval e env; standAt pos; holding [v] (unaryOp .USub v)) _ _ _
  refine wpAny_bind (h s k _ E fun v s1 k1 h1 => ?_)
  cases h1
  exact wpAny_bind (wpAny_standAt (wpAny_holding (PyProof.Rows.neg_int (hQ _ _ (k1.trans .ofT) (.int _ _)))))
theorem op_lt {a b : Int} : Op2 prog w A ok s₀ (compareOp .Lt) (.int a) (.int b) (.bool (decide (a < b))) := fun s _ v u hv hu Q E hQ => by
  cases hv; cases hu
  exact wpAny_lt_int (hQ _ _ (.refl s) (.bool _))
theorem op_eqI {a b : Int} : Op2 prog w A ok s₀ (compareOp .Eq) (.int a) (.int b) (.bool (a == b)) := fun s _ v u hv hu Q E hQ => by
  cases hv; cases hu
  exact wpAny_eq_int (hQ _ _ (.refl s) (.bool _))
theorem op_gt {a b : Int} : Op2 prog w A ok s₀ (compareOp .Gt) (.int a) (.int b) (.bool (decide (b < a))) := fun s _ v u hv hu Q E hQ => by
  cases hv; cases hu
  exact PyProof.Rows.gt_int (hQ _ _ (.refl s) (.bool _))
theorem op_neI {a b : Int} : Op2 prog w A ok s₀ (compareOp .NotEq) (.int a) (.int b) (.bool (a != b)) := fun s _ v u hv hu Q E hQ => by
  cases hv; cases hu
  exact PyProof.Rows.ne_int (hQ _ _ (.refl s) (.bool _))

/-- what may be called -/
inductive Callee (h : Heap) : Value → Prop
  | builtin (id : String) : Callee h (.builtin id)
  | type (T : String) : Callee h (.type T)
  | func {a : Addr} {o : Obj} {fd : FuncData} : h.get? a = some o → o.data = .func fd → Callee h (.ref a)
theorem ev_call {x : Str} {p pos : Pos} {f : Value} {e : Expr} {es : List Expr} {ds : List Dat} {d : Dat} (hx : Has prog w A env s₀ x f) (hf : Callee s₀.heap f) (ha : Evs prog w A env ok s₀ (e :: es) ds) (hc : Cal prog w A ok s₀ f ds d)
    (he : starEach (e :: es) env = (false, eval e env) :: starEach es env) (hpl : (backTo pos (starEach es env)).any (·.1) = false) : Ev prog w A env ok s₀ (.Call (.Name x p) (e :: es) [] pos) d := fun s k Q E hQ => by
  refine Call_Name rfl (hx s k _ E p ?_)
  have fin : ∀ vs s1, Kps s s1 → DSs ok s1.heap vs ds → wpAny (model prog w) A (call f vs) Q E s1 := fun vs s1 k1 h1 => hc s1 (k.trans k1) vs h1 Q E fun v s2 k2 h2 => hQ v s2 (k1.trans k2) h2
  cases hf with
  | builtin id => exact PyProof.Rows.callWith_builtin1 (ha s k _ E pos fin) he hpl
  | type T => exact PyProof.Rows.callWith_type1 (ha s k _ E pos fin) he hpl
  | func ho hd => exact PyProof.Rows.callWith_def hd (ha s k _ E pos fun vs s1 k1 h1 => ⟨(k.trans k1).kp _ _ ho, fin vs s1 k1 h1⟩) he

theorem cal_len {ds : List Dat} (hsz : (ds.length : Int) < 2 ^ 63) : Cal prog w A ok s₀ (.builtin "len") [.list ds] (.int ds.length) := fun s k vs hv Q E hQ => by
  cases hv with
  | cons h1 h2 =>
  cases h2
  cases h1 with
  | @list l xs _ ha hl hr =>
  refine call_len_list hl (by simp [hr.length]; exact hsz) (hQ _ _ .ofT ?_)
  have e : ((xs.toArray.size : Nat) : Int) = ds.length := by simp [hr.length]
  rw [e]; exact .int _ _

mutual
theorem DS.reads {ok : Addr → Prop} {h : Heap} : ∀ {v : Value} {d : Dat} (n : Nat), DS ok h v d → kqdOk n d = true → ∃ as, Reads h v (kqdP d) as
  | _, _, _, .none, _ => ⟨_, Reads.none⟩
  | _, _, _, .bool b, _ => ⟨_, Reads.bool b⟩
  | _, _, _, .int i t, _ => ⟨_, Reads.int i t⟩
  | _, _, 0, .tuple _ _ _, hk => by simp [kqdOk] at hk
  | _, _, 0, .list _ _ _, hk => by simp [kqdOk] at hk
  | _, _, n + 1, .tuple _ hm r, hk => by
    obtain ⟨as, q⟩ := DSs.reads n r (by simpa [kqdOk] using hk)
    obtain ⟨o, ho, hc, m, hd⟩ := hm
    rw [kqdP]
    exact ⟨as, reads_tuple_at ho hc hd (by simpa using q)⟩
  | _, _, n + 1, .list _ hm r, hk => by
    obtain ⟨as, q⟩ := DSs.reads n r (by simpa [kqdOk] using hk)
    obtain ⟨o, ho, hc, m, hd⟩ := hm
    rw [kqdP]
    exact ⟨_, reads_list_at ho hc hd (by simpa using q)⟩
theorem DSs.reads {ok : Addr → Prop} {h : Heap} : ∀ {vs : List Value} {ds : List Dat} (n : Nat), DSs ok h vs ds → (∀ d ∈ ds, kqdOk n d = true) → ∃ as, ReadsAll h vs (kqdPs ds) as
  | _, _, _, .nil, _ => ⟨_, ReadsAll.nil⟩
  | _, _, n, .cons hd r, hk => by
    obtain ⟨as, q⟩ := DS.reads n hd (hk _ (.head _))
    obtain ⟨bs, p⟩ := DSs.reads n r fun d hm => hk d (.tail _ hm)
    rw [kqdPs]
    exact ⟨_, ReadsAll.cons q p⟩
end
theorem shaped_dat {d : Dat} (h : kqdOk 9 d = true) : SeqAt.shaped (kqdP d) = true := by
  have q := kqd_lay 9 d h
  unfold SeqAt.shaped
  rw [q.1, Bool.true_and]
  exact decide_eq_true (Nat.le_trans q.2 (by decide))
theorem op_eqD {a b : Dat} {c : Bool} (ha : kqdOk 9 a = true) (hb : kqdOk 9 b = true) (hc : c = true ↔ a = b) (hu : A.units + 64 < cLine) : Op2 prog w A ok s₀ (compareOp .Eq) a b (.bool c) := fun s k v u hv hw Q E hQ => by
  obtain ⟨as, ra⟩ := hv.reads 9 ha
  obtain ⟨bs, rb⟩ := hw.reads 9 hb
  refine eq_dataH ra rb (shaped_dat ha) (shaped_dat hb) hu ?_
  have e : PyData.eqv (kqdP a) (kqdP b) = c := by
    have q := kqd_eqv 9 a b 9 ha hb
    exact Bool.eq_iff_iff.mpr (q.trans hc.symm)
  rw [e]; exact hQ _ _ (.refl s) (.bool _)
theorem op_neD {a b : Dat} {c : Bool} (ha : kqdOk 9 a = true) (hb : kqdOk 9 b = true) (hc : c = true ↔ a = b) (hu : A.units + 64 < cLine) : Op2 prog w A ok s₀ (compareOp .NotEq) a b (.bool (!c)) := fun s k v u hv hw Q E hQ => by
  obtain ⟨as, ra⟩ := hv.reads 9 ha
  obtain ⟨bs, rb⟩ := hw.reads 9 hb
  refine ne_dataH ra rb (shaped_dat ha) (shaped_dat hb) hu ?_
  have e : PyData.eqv (kqdP a) (kqdP b) = c := by
    have q := kqd_eqv 9 a b 9 ha hb
    exact Bool.eq_iff_iff.mpr (q.trans hc.symm)
  rw [e]; exact hQ _ _ (.refl s) (.bool _)
theorem op_neB {a b : Bool} : Op2 prog w A ok s₀ (compareOp .NotEq) (.bool a) (.bool b) (.bool (a != b)) := fun s k v u hv hw Q E hQ => by
  cases hv; cases hw
  exact PyProof.Rows.ne_bool (hQ _ _ (.refl s) (.bool _))
end
end Mine

/-! Core3 -/
namespace Mine

/-- what a turn binds -/
inductive Pat where
  | one (x : Str)
  | many (xs : List Str)

inductive NamesAre (env : Env) : List Expr → List Str → Prop
  | nil : NamesAre env [] []
  | cons {x : Str} {px : Pos} {es : List Expr} {xs : List Str} : env.kindOf x = some .local → NamesAre env es xs → NamesAre env (.Name x px :: es) (x :: xs)
inductive IsPat (env : Env) : Expr → Pat → Prop
  | one {x : Str} {px : Pos} : env.kindOf x = some .local → IsPat env (.Name x px) (.one x)
  | many {es : List Expr} {xs : List Str} {k : Nat} {pos : Pos} : NamesAre env es xs → IsPat env (.Tuple es k pos) (.many xs)

def upd (m : Str → Option Value) (x : Str) (v : Value) : Str → Option Value := fun y => if y = x then some v else m y
def upds (m : Str → Option Value) : List Str → List Value → Str → Option Value
  | x :: xs, v :: vs => upds (upd m x v) xs vs
  | _, _ => m
def Bound (ok : Addr → Prop) (p : Pat) (d : Dat) (h : Heap) (m m' : Str → Option Value) : Prop :=
  match p with
  | .one x => ∃ v, DS ok h v d ∧ m' = upd m x v
  | .many xs => ∃ vs ds, d = .tuple ds ∧ DSs ok h vs ds ∧ xs.length = vs.length ∧ m' = upds m xs vs
theorem Bound.up {ok ok' : Addr → Prop} {p : Pat} {d : Dat} {h h' : Heap} {m m' : Str → Option Value} (b : Bound ok p d h m m') (u : Up ok ok' h h') : Bound ok' p d h' m m' := by
  cases p with
  | one x => exact let ⟨v, a, e⟩ := b; ⟨v, a.up u, e⟩
  | many xs => exact let ⟨vs, ds, e1, a, e2, e3⟩ := b; ⟨vs, ds, e1, a.up u, e2, e3⟩

section
variable {prog : Program} {w : World} {A : Around} {E : Value → Shared → Prop} {env : Env}

theorem store_ok {env : Env} (hk : env.scope.kind = .function) : (env.scope.kind == .class || (env.scope.kind == .module && env.locals != env.globals)) = false := by rw [hk]; rfl
theorem assign_names (hk : env.scope.kind = .function) : ∀ {es : List Expr} {xs : List Str}, NamesAre env es xs → ∀ (vs : List Value) (s : Shared) (m : Str → Option Value) (Q : Unit → Shared → Prop), xs.length = vs.length → s.heap.Ns env.locals m →
    (∀ h' tk, h'.Ns env.locals (upds m xs vs) → Heap.SameBut env.locals s.heap h' → Q () { s with heap := h', toks := tk }) →
    wpAny (model prog w) A (assignInOrder ((assignEach es env).map (·.2)) vs) Q E s
  | _, _, .nil, [], s, m, Q, _, hn, h => wpAny_pure (h s.heap s.toks hn (.refl ..))
  | _, _, .nil, v :: vs, s, m, Q, hl, hn, h => by simp at hl
  | _, _, .cons hx r, [], s, m, Q, hl, hn, h => by simp at hl
  | _, _, @NamesAre.cons _ x px es xs hx r, v :: vs, s, m, Q, hl, hn, h => by
    show wpAny (model prog w) A (assignInOrder (assign (.Name x px) env :: (assignEach es env).map (·.2)) (v :: vs)) Q E s
    refine wpAny_assignInOrder_more (wpAny_assign_Name (wpAny_storeName_local hx hn (fun h' hn' hs' => ?_) (store_ok hk)))
    exact assign_names hk r vs _ _ Q (by simpa using hl) hn' fun h'' tk hn'' hs'' => h h'' tk hn'' (hs'.trans hs'')

/-- all but some good objects stay -/
def KW (ok : Addr → Prop) (wr : List Addr) (L : Addr) (H h : Heap) : Prop := ∀ b o, ok b → b ∉ wr → b ≠ L → H.get? b = some o → h.get? b = some o
def okF (ok : Addr → Prop) (wr : List Addr) (H : Heap) : Addr → Prop := fun a => ok a ∧ a ∉ wr ∧ ∃ o, H.get? a = some o
def KB (ex : List Addr) (h h' : Heap) : Prop := ∀ b o, b ∉ ex → h.get? b = some o → h'.get? b = some o

structure Feed (prog : Program) (w : World) (A : Around) (ok : Addr → Prop) (H : Heap) (I : Addr) (wr : List Addr) (ds : List Dat) (p : Pat) (St : Nat → Heap → Prop) : Prop where
  frame : ∀ i h h', St i h → (∀ b ∈ wr, ∀ o, h.get? b = some o → h'.get? b = some o) → St i h'
  wrIn : ∀ b ∈ wr, ∃ o, H.get? b = some o
  start : St 0 H
  live : ∀ i h, St i h → ∀ b ∈ wr, ∃ o, h.get? b = some o
  step : ∀ (i : Nat) (d : Dat) (env : Env) (target : Expr) (s : Shared) (m : Str → Option Value) (Q : Unit → Shared → Prop) (E : Value → Shared → Prop), ds[i]? = some d → IsPat env target p → env.scope.kind = .function → env.locals ∉ wr → (∀ o, H.get? env.locals = some o → ¬ Obj.IsSeq o) → St i s.heap →
    KW ok wr env.locals H s.heap → s.heap.Ns env.locals m →
    (∀ h' tk m', St (i + 1) h' → h'.Ns env.locals m' → Bound (okF ok wr H) p d h' m m' → KB (env.locals :: wr) s.heap h' → Q () { s with heap := h', toks := tk }) →
    wpAny (model prog w) A (pyNext (.ref I)) (fun r s₁ => match r with
      | none => False
      | some v => wpAny (model prog w) A (letOwnedTupleGo target (.ref I) v) (fun _ s₂ => wpAny (model prog w) A (assign target env v) Q E s₂) E s₁) E s
  done : ∀ (L : Addr) (s : Shared) (Q : Option Value → Shared → Prop) (E : Value → Shared → Prop), L ∉ wr → (∀ o, H.get? L = some o → ¬ Obj.IsSeq o) → St ds.length s.heap → KW ok wr L H s.heap → (∀ h' tk, KB wr s.heap h' → Q none { s with heap := h', toks := tk }) → wpAny (model prog w) A (pyNext (.ref I)) Q E s
  self : ∀ (i : Nat) (s : Shared) (Q : Value → Shared → Prop) (E : Value → Shared → Prop), St i s.heap → Q (.ref I) s → wpAny (model prog w) A (pyIter (.ref I)) Q E s

theorem ns_notSeq {h : Heap} {L : Addr} {m : Str → Option Value} (hn : h.Ns L m) {o : Obj} (ho : h.get? L = some o) : ¬ Obj.IsSeq o := by
  obtain ⟨o', es, ep, ho', hd, _⟩ := hn
  rw [ho] at ho'; cases ho'
  rintro ⟨xs, n, e⟩
  rw [hd] at e; cases e

/-- the feed's data carried along -/
theorem feed_up {ok : Addr → Prop} {wr : List Addr} {L : Addr} {H h : Heap} (k : KW ok wr L H h) (hL : ∀ o, H.get? L = some o → ¬ Obj.IsSeq o) : Up (fun a => ok a ∧ a ∉ wr) (okF ok wr H) H h := fun b o hb e hs =>
  ⟨⟨hb.1, hb.2, o, e⟩, k b o hb.1 hb.2 (fun q => hL o (q ▸ e) hs) e⟩

def Fits (p : Pat) (d : Dat) : Prop := match p with | .one _ => True | .many xs => ∃ ds, d = .tuple ds ∧ ds.length = xs.length
theorem assignEach_names : ∀ {es : List Expr} {xs : List Str}, NamesAre env es xs → (assignEach es env).length = xs.length ∧ (assignEach es env).findIdx? (·.1) = none
  | _, _, .nil => ⟨rfl, rfl⟩
  | _, _, @NamesAre.cons _ x px es xs hx r => by
    have ih := assignEach_names r
    have e : assignEach (.Name x px :: es) env = (false, assign (.Name x px) env) :: assignEach es env := rfl
    rw [e]
    refine ⟨by rw [List.length_cons, List.length_cons, ih.1], ?_⟩
    rw [List.findIdx?_cons]
    simp [ih.2]
theorem KB.trans {ex : List Addr} {a b c : Heap} (x : KB ex a b) (y : KB ex b c) : KB ex a c := fun p o hp e => y p o hp (x p o hp e)
theorem KB.weak {ex ex' : List Addr} {a b : Heap} (x : KB ex a b) (h : ∀ p ∈ ex, p ∈ ex') : KB ex' a b := fun p o hp e => x p o (fun q => hp (h p q)) e
theorem kb_up {ok : Addr → Prop} {L : Addr} {h h' : Heap} (k : KB [L] h h') (hL : ∀ o, h.get? L = some o → ¬ Obj.IsSeq o) : Up ok ok h h' := fun b o hb e hs => ⟨hb, k b o (fun q => hL o (by have := List.mem_singleton.mp q; exact this ▸ e) hs) e⟩
theorem assign_many {okv : Addr → Prop} {es : List Expr} {xs : List Str} {k : Nat} {pos : Pos} {s : Shared} {m : Str → Option Value} {t : Addr} {vs : List Value} {ds : List Dat} {Q : Unit → Shared → Prop} (hh : A.handled = none) (ha : NamesAre env es xs) (hk : env.scope.kind = .function) (hn : s.heap.Ns env.locals m)
    (ht : s.heap.IsTuple t vs.toArray) (hr : DSs okv s.heap vs ds) (hl : ds.length = xs.length)
    (h : ∀ h' tk m', h'.Ns env.locals m' → Bound okv (.many xs) (.tuple ds) h' m m' → KB [env.locals] s.heap h' → Q () { s with heap := h', toks := tk }) : wpAny (model prog w) A (assign (.Tuple es k pos) env (.ref t)) Q E s := by
  have q := assignEach_names ha
  have hlen := hr.length
  refine wpAny_assign_Tuple hh ht (by rw [q.1]; simp; omega) q.2 fun h1 hx1 => ?_
  have k1 : Kp s.heap h1 := fun b o e => hx1 b o (Nat.ne_of_lt (Heap.lt_size e)) e
  refine assign_names hk ha _ _ _ _ (by simp; omega) (hn.keeps k1) fun h' tk hn' hs' => ?_
  have k : KB [env.locals] s.heap h' := fun b o hb e => hs'.extBut b o (fun q => hb (q ▸ .head _)) (k1 _ _ e)
  exact h h' tk _ hn' ⟨vs, ds, rfl, hr.up (kb_up k fun o ho => ns_notSeq hn ho), by omega, rfl⟩ k
theorem assign_pat {okv : Addr → Prop} {target : Expr} {p : Pat} {s : Shared} {m : Str → Option Value} {v : Value} {d : Dat} {Q : Unit → Shared → Prop} (hh : A.handled = none) (ip : IsPat env target p) (hk : env.scope.kind = .function) (hn : s.heap.Ns env.locals m) (hv : DS okv s.heap v d) (hf : Fits p d)
    (h : ∀ h' tk m', h'.Ns env.locals m' → Bound okv p d h' m m' → KB [env.locals] s.heap h' → Q () { s with heap := h', toks := tk }) : wpAny (model prog w) A (assign target env v) Q E s := by
  cases ip with
  | @one x px hx =>
    refine wpAny_assign_Name (wpAny_storeName_local hx hn (fun h' hn' hs' => ?_) (store_ok hk))
    have k : KB [env.locals] s.heap h' := fun b o hb e => hs'.extBut b o (fun q => hb (q ▸ .head _)) e
    exact h h' _ _ hn' ⟨v, hv.up (kb_up k fun o ho => ns_notSeq hn ho), rfl⟩ k
  | @many es xs k pos ha =>
    obtain ⟨ds, rfl, hl⟩ := hf
    cases hv with
    | @tuple t vs _ hok ht hr => exact assign_many hh ha hk hn ht hr hl h

theorem feed_list {ok : Addr → Prop} {H₀ : Heap} {l : Addr} {vs : List Value} {ds : List Dat} {p : Pat} (hh : A.handled = none) (hok : ok l) (hl : H₀.IsList l vs.toArray) (hr : DSs ok H₀ vs ds) (hf : ∀ d ∈ ds, Fits p d) :
    Feed prog w A ok (H₀.push { cls := .type "list_iterator", data := .fields #[.ref l, .int 0 0] }) H₀.objs.size [H₀.objs.size] ds p (fun i h => h.IsListIter H₀.objs.size l i) := by
  have hlt : l < H₀.objs.size := by obtain ⟨o, ho, _⟩ := hl; exact Heap.lt_size ho
  have hne : l ≠ H₀.objs.size := Nat.ne_of_lt hlt
  have hlw : l ∉ [H₀.objs.size] := fun q => hne (List.mem_singleton.mp q)
  have hlH : (H₀.push { cls := .type "list_iterator", data := .fields #[.ref l, .int 0 0] }).IsList l vs.toArray := hl.push _
  have hrH : DSs (fun a => ok a ∧ a ∉ [H₀.objs.size]) (H₀.push { cls := .type "list_iterator", data := .fields #[.ref l, .int 0 0] }) vs ds := hr.up fun b o hb e _ =>
    ⟨⟨hb, fun q => Nat.ne_of_lt (Heap.lt_size e) (List.mem_singleton.mp q)⟩, Heap.get?_push_of_some _ e⟩
  have hlen : vs.length = ds.length := hr.length
  have lst : ∀ (L : Addr) (h : Heap), (∀ o, (H₀.push { cls := .type "list_iterator", data := .fields #[.ref l, .int 0 0] }).get? L = some o → ¬ Obj.IsSeq o) → KW ok [H₀.objs.size] L (H₀.push { cls := .type "list_iterator", data := .fields #[.ref l, .int 0 0] }) h → h.IsList l vs.toArray := by
    intro L h hL k
    obtain ⟨o, ho, hc, n, hd⟩ := hlH
    exact ⟨o, k l o hok hlw (fun q => hL o (q ▸ ho) ⟨_, n, hd⟩) ho, hc, n, hd⟩
  refine ⟨fun i h h' st hk => st.at fun o e => hk _ (.head _) o e, fun b hb => by obtain rfl := List.mem_singleton.mp hb; exact ⟨_, Heap.get?_push_size _ rfl⟩, ⟨_, Heap.get?_push_size _ rfl, rfl, rfl⟩, fun i h st b hb => by obtain rfl := List.mem_singleton.mp hb; obtain ⟨o, e, _⟩ := st; exact ⟨o, e⟩, ?_, ?_, ?_⟩
  · intro i d env target s m Q E hd ip hk hLw hLs st k hn hQ
    obtain ⟨v, hv, hD⟩ := hrH.get i d hd
    have hl' := lst _ _ hLs k
    refine wpAny_pyNext_list_item st hl' (x := v) (by simpa using hv) fun h1 st1 hs1 => ?_
    have k1 : KB [H₀.objs.size] s.heap h1 := fun b o hb e => hs1.extBut b o (fun q => hb (q ▸ .head _)) e
    have hLI : env.locals ≠ H₀.objs.size := fun q => hLw (q ▸ .head _)
    have hn1 : h1.Ns env.locals m := hn.sameBut hs1 hLI
    have D1 : DS (okF ok [H₀.objs.size] (H₀.push { cls := .type "list_iterator", data := .fields #[.ref l, .int 0 0] })) h1 v d :=
      (hD.up (feed_up k hLs)).up fun b o hb e _ => ⟨hb, k1 b o hb.2.1 e⟩
    have go : wpAny (model prog w) A (letOwnedTupleGo target (.ref H₀.objs.size) v) (fun _ s₂ => wpAny (model prog w) A (assign target env v) Q E s₂) E { s with heap := h1 } := by
      have fin : wpAny (model prog w) A (assign target env v) Q E { s with heap := h1 } :=
        assign_pat hh ip hk hn1 D1 (hf d (List.mem_of_getElem? hd)) fun h2 tk m' hn2 hb k2 => hQ h2 tk m' (st1.at fun o e => k2 _ o (fun q => hLI (List.mem_singleton.mp q).symm) e) hn2 hb
          ((k1.weak fun p hp => .tail _ hp).trans (k2.weak fun p hp => by rw [List.mem_singleton.mp hp]; exact .head _))
      cases ip with
      | one hx => exact wpAny_of_eq rfl fin
      | many ha =>
        obtain ⟨ds', rfl, _⟩ := hf d (List.mem_of_getElem? hd)
        cases D1 with
        | tuple _ _ _ => exact wpAny_letOwnedTupleGo_listiter st1 fin
    exact go
  · intro L s Q E hLw hLs st k hQ
    refine wpAny_pyNext_list_end hh st (lst _ _ hLs k) (by simp [hlen]) fun h1 he1 => ?_
    exact hQ h1 s.toks fun b o hb e => he1 b o (fun q => hb (q ▸ .head _)) e
  · exact fun i s Q E st hQ => wpAny_pyIter_listiter st hQ

theorem feed_range {ok : Addr → Prop} {H₀ : Heap} {a : Int} {n : Nat} {x : Str} (hh : A.handled = none) :
    Feed prog w A ok (H₀.push { cls := .type "range_iterator", data := .fields #[rawInt a, rawInt n, rawInt 1] }) H₀.objs.size [H₀.objs.size] ((List.range n).map fun (i : Nat) => Dat.int (a + i)) (.one x)
      (fun i h => IsRangeIter h H₀.objs.size (a + (i : Nat) * 1) ((n : Int) - (i : Nat)) 1) := by
  have W := Walks.range (prog := prog) (w := w) hh H₀.objs.size a 1 n
  refine ⟨fun i h h' st hk => hk _ (.head _) _ st, fun b hb => by obtain rfl := List.mem_singleton.mp hb; exact ⟨_, Heap.get?_push_size _ rfl⟩, by show IsRangeIter _ _ _ _ _; simpa using Heap.get?_push_size _ rfl, fun i h st b hb => by obtain rfl := List.mem_singleton.mp hb; exact ⟨_, st⟩, ?_, ?_, ?_⟩
  · intro i d env target s m Q E hd ip hk hLw hLs st k hn hQ
    have hi : i < n := by have := (List.getElem?_eq_some_iff.mp hd).1; simpa using this
    have hd' : d = Dat.int (a + i) := by simpa [hi] using hd.symm
    subst hd'
    refine W.item i s _ E hi st fun v h1 tk1 hv st1 k1 => ?_
    obtain ⟨t, rfl⟩ := hv
    have hLI : env.locals ≠ H₀.objs.size := fun q => hLw (q ▸ .head _)
    have hn1 : h1.Ns env.locals m := hn.at' fun o e => k1 _ o hLw e
    cases ip with
    | @one x px hx =>
    refine wpAny_of_eq rfl (assign_pat (okv := okF ok [H₀.objs.size] _) hh (.one hx) hk hn1 (by rw [Int.mul_one]; exact .int _ _) trivial fun h2 tk m' hn2 hb k2 => hQ h2 tk m' (k2 _ _ (fun q => hLI (List.mem_singleton.mp q).symm) st1) hn2 hb ?_)
    exact (KB.weak (ex := [H₀.objs.size]) k1 fun p hp => .tail _ hp).trans (k2.weak fun p hp => by rw [List.mem_singleton.mp hp]; exact .head _)
  · intro L s Q E hLw hLs st k hQ
    have e : ((List.range n).map fun (i : Nat) => Dat.int (a + i)).length = n := by simp
    rw [e] at st
    exact W.done s Q E st fun h' tk hk => hQ h' tk hk
  · exact fun i s Q E st hQ => W.self i s Q E st hQ

theorem feed_zip {ok : Addr → Prop} {H : Heap} {z TI TO i1 i2 l1 l2 : Addr} {vs ws : List Value} {ds es : List Dat} {x y : Str} (hh : A.handled = none) (D : ZipApart z TI TO i1 i2 l1 l2) (hz : IsZip H z TI TO .none) (hTI : IsPair H TI (.ref i1) (.ref i2)) (hTO : ∃ a b, IsPair H TO a b)
    (h1 : H.IsListIter i1 l1 0) (h2 : H.IsListIter i2 l2 0) (hl1 : H.IsList l1 vs.toArray) (hl2 : H.IsList l2 ws.toArray) (ok1 : ok l1) (ok2 : ok l2) (okT : ok TI)
    (hr : DSs (fun a => ok a ∧ a ∉ [z, TO, i1, i2]) H vs ds) (hs : DSs (fun a => ok a ∧ a ∉ [z, TO, i1, i2]) H ws es) :
    Feed prog w A ok H z [z, TO, i1, i2] ((ds.zip es).map fun q => Dat.tuple [q.1, q.2]) (.many [x, y])
      (fun i h => IsZip h z TI TO .none ∧ (∃ a b, IsPair h TO a b) ∧ h.IsListIter i1 l1 i ∧ h.IsListIter i2 l2 i) := by
  have hlen1 := hr.length
  have hlen2 := hs.length
  have lst : ∀ (L : Addr) (h : Heap), (∀ o, H.get? L = some o → ¬ Obj.IsSeq o) → KW ok [z, TO, i1, i2] L H h → h.IsList l1 vs.toArray ∧ h.IsList l2 ws.toArray ∧ IsPair h TI (.ref i1) (.ref i2) := by
    intro L h hL k
    refine ⟨?_, ?_, ?_⟩
    · obtain ⟨o, ho, hc, n, hd⟩ := hl1
      exact ⟨o, k l1 o ok1 (by simp [D.l1z, D.l1TO, D.l1i1, D.l1i2]) (fun q => hL o (q ▸ ho) ⟨_, n, hd⟩) ho, hc, n, hd⟩
    · obtain ⟨o, ho, hc, n, hd⟩ := hl2
      exact ⟨o, k l2 o ok2 (by simp [D.l2z, D.l2TO, D.l2i1, D.l2i2]) (fun q => hL o (q ▸ ho) ⟨_, n, hd⟩) ho, hc, n, hd⟩
    · exact k TI _ okT (by simp [D.TIz, D.TITO, D.TIi1, D.TIi2]) (fun q => hL _ (q ▸ hTI) ⟨_, _, rfl⟩) hTI
  refine ⟨?_, ?_, ⟨hz, hTO, h1, h2⟩, ?_, ?_, ?_, ?_⟩
  · rintro i h h' ⟨a, ⟨u, v, b⟩, c, d⟩ hk
    exact ⟨hk z (by simp) _ a, ⟨u, v, hk TO (by simp) _ b⟩, c.at fun o e => hk i1 (by simp) o e, d.at fun o e => hk i2 (by simp) o e⟩
  · intro b hb
    simp at hb
    obtain ⟨u, v, hTO⟩ := hTO
    obtain ⟨o1, e1, _⟩ := h1
    obtain ⟨o2, e2, _⟩ := h2
    rcases hb with rfl | rfl | rfl | rfl
    · exact ⟨_, hz⟩
    · exact ⟨_, hTO⟩
    · exact ⟨_, e1⟩
    · exact ⟨_, e2⟩
  · rintro i h ⟨hz, ⟨u, v, hTO⟩, ⟨o1, e1, _⟩, ⟨o2, e2, _⟩⟩ b hb
    simp at hb
    rcases hb with rfl | rfl | rfl | rfl
    · exact ⟨_, hz⟩
    · exact ⟨_, hTO⟩
    · exact ⟨_, e1⟩
    · exact ⟨_, e2⟩
  · intro i d env target s m Q E hd ip hk hLw hLs st k hn hQ
    obtain ⟨sz, ⟨u, v, sTO⟩, s1, s2⟩ := st
    obtain ⟨g1, g2, g3⟩ := lst _ _ hLs k
    rw [List.getElem?_map] at hd
    obtain ⟨⟨d1, d2⟩, hq, rfl⟩ := Option.map_eq_some_iff.mp hd
    obtain ⟨hd1, hd2⟩ := List.getElem?_zip_eq_some.mp hq
    obtain ⟨v1, hv1, D1⟩ := hr.get i d1 hd1
    obtain ⟨v2, hv2, D2⟩ := hs.get i d2 hd2
    refine wpAny_pyNext_zip_item D sz g3 sTO s1 s2 g1 g2 (x := v1) (y := v2) (by simpa using hv1) (by simpa using hv2) fun ha z1 t1 a1 a2 p1 sz1 ka => ?_
    cases ip with
    | @many es' xs' kk pos hna =>
    have hLs4 : env.locals ≠ z ∧ env.locals ≠ TO ∧ env.locals ≠ i1 ∧ env.locals ≠ i2 := by simpa using hLw
    refine wpAny_letOwnedTupleGo_zip z1 fun hb z2 sb => ?_
    have kb : KB [z, TO, i1, i2] s.heap hb := fun c o hc e => by
      simp at hc
      exact sb.extBut c o hc.1 (ka c o hc.1 hc.2.1 hc.2.2.1 hc.2.2.2 e)
    have hT : hb.IsTuple s.heap.objs.size [v1, v2].toArray := by
      refine ⟨_, sb.extBut _ _ ?_ p1, rfl, _, rfl⟩
      exact Nat.ne_of_gt (Heap.lt_size sz)
    have hnb : hb.Ns env.locals m := hn.at' fun o e => kb _ o hLw e
    have R1 : DS (okF ok [z, TO, i1, i2] H) hb v1 d1 := (D1.up (feed_up k hLs)).up fun b o hb' e _ => ⟨hb', kb b o hb'.2.1 e⟩
    have R2 : DS (okF ok [z, TO, i1, i2] H) hb v2 d2 := (D2.up (feed_up k hLs)).up fun b o hb' e _ => ⟨hb', kb b o hb'.2.1 e⟩
    refine assign_many (s := { s with heap := hb }) hh hna hk hnb hT (.cons R1 (.cons R2 .nil)) rfl fun h2 tk m' hn2 hbd k2 => hQ h2 tk m' ?_ hn2 hbd ?_
    · have k2' : ∀ c o, c ≠ env.locals → hb.get? c = some o → h2.get? c = some o := fun c o hc e => k2 c o (fun q => hc (List.mem_singleton.mp q)) e
      exact ⟨k2' _ _ hLs4.1.symm z2, ⟨_, _, k2' _ _ hLs4.2.1.symm (sb.extBut _ _ D.TOz t1)⟩, (a1.extBut sb.extBut D.i1z).at fun o e => k2' _ o hLs4.2.2.1.symm e, (a2.extBut sb.extBut D.i2z).at fun o e => k2' _ o hLs4.2.2.2.symm e⟩
    · exact (kb.weak fun p hp => .tail _ hp).trans (k2.weak fun p hp => by rw [List.mem_singleton.mp hp]; exact .head _)
  · rintro L s Q E hLw hLs ⟨sz, ⟨u, v, sTO⟩, s1, s2⟩ k hQ
    obtain ⟨g1, g2, g3⟩ := lst _ _ hLs k
    refine wpAny_pyNext_zip_end hh D sz g3 sTO s1 s2 g1 g2 ?_ fun h' hk => hQ h' s.toks fun c o hc e => ?_
    · rw [List.length_map, List.length_zip]
      rcases Nat.le_total ds.length es.length with h | h
      · exact .inl (by simp [hlen1, Nat.min_eq_left h])
      · exact .inr (by simp [hlen2, Nat.min_eq_right h])
    · simp at hc
      exact hk c o hc.1 hc.2.1 hc.2.2.1 hc.2.2.2 e
  · exact fun i s Q E st hQ => wpAny_pyIter_zip st.1 hQ
end
end Mine

/-! Core4 -/
namespace Mine
section
variable (prog : Program) (w : World) (A : Around) (env : Env) (ok : Addr → Prop) (s₀ : Shared)
/-- an iterated expression -/
def Src (iter : Expr) (ds : List Dat) (p : Pat) : Prop := ∀ s, Kps s₀ s → ∀ (Q : Value → Shared → Prop) (E : Value → Shared → Prop),
  (∀ I wr St s₂, Kps s s₂ → (∀ b ∈ wr, s.heap.get? b = none) → Feed prog w A ok s₂.heap I wr ds p St → Q (.ref I) s₂) → wpAny (model prog w) A (eval iter env) (fun x s₁ => wpAny (model prog w) A (pyIter x) Q E s₁) E s
end
section
variable {prog : Program} {w : World} {A : Around} {env : Env} {ok : Addr → Prop} {s₀ : Shared}

theorem none_of_kp {h h' : Heap} {a : Addr} (k : Kp h h') (e : h'.get? a = none) : h.get? a = none := by
  cases q : h.get? a with
  | none => rfl
  | some o => rw [k _ _ q] at e; cases e
theorem addr_ne {a b : Nat} (h : a < b ∨ b < a) : (show Addr from a) ≠ b := fun e => by have e' : (a : Nat) = b := e; omega
theorem none_size {h : Heap} {a : Addr} (k : h.objs.size ≤ a) : h.get? a = none := Heap.get?_none_of_le k

theorem src_list {iter : Expr} {ds : List Dat} {p : Pat} (hh : A.handled = none) (h : Ev prog w A env ok s₀ iter (.list ds)) (hf : ∀ d ∈ ds, Fits p d) : Src prog w A env ok s₀ iter ds p := fun s k Q E hQ =>
  h s k _ E fun v s1 k1 h1 => by
    cases h1 with
    | @list l vs _ hok hl hr =>
    refine wpAny_pyIter_list hl ?_
    refine hQ _ _ _ _ (k1.trans (.ofH (.push _ _))) (fun b hb => ?_) (feed_list hh hok hl hr hf)
    obtain rfl := List.mem_singleton.mp hb
    exact none_of_kp k1.kp (none_size (Nat.le_refl _))

theorem range_kp {s : Shared} {o : Obj} {t : Nat} : Kps s { s with heap := s.heap.push o, toks := t } := .of (.push _ _)
theorem src_rangeAt {s : Shared} {r : Addr} {a b : Int} {t u v : Tok} {x : Str} {Q : Value → Shared → Prop} {E : Value → Shared → Prop} (hh : A.handled = none) (hr : IsRange s.heap r a b 1 t u v) (hsm : Builtin.Range.small a b 1 = true)
    (hQ : ∀ I wr St s₂, Kps s s₂ → (∀ b ∈ wr, s.heap.get? b = none) → Feed prog w A ok s₂.heap I wr ((List.range (b - a).toNat).map fun (i : Nat) => Dat.int (a + i)) (.one x) St → Q (.ref I) s₂) :
    wpAny (model prog w) A (pyIter (.ref r)) Q E s := by
  refine wpAny_pyIter_range hr hsm ?_
  have e : Builtin.Range.rangeSize a b 1 = (((b - a).toNat : Nat) : Int) := by
    rw [rangeSize_one]; split <;> omega
  rw [e]
  refine hQ _ _ _ _ (.ofH (.push _ _)) (fun b hb => ?_) (feed_range hh)
  obtain rfl := List.mem_singleton.mp hb
  exact none_size (Nat.le_refl _)
theorem src_range1 {x : Str} {p pos : Pos} {e : Expr} {b : Int} {y : Str} (hh : A.handled = none) (hx : Has prog w A env s₀ x (.type "range")) (h : Ev prog w A env ok s₀ e (.int b)) (hsm : Builtin.Range.small 0 b 1 = true)
    (he : starEach [e] env = (false, eval e env) :: starEach [] env) : Src prog w A env ok s₀ (.Call (.Name x p) [e] [] pos) ((List.range b.toNat).map fun (i : Nat) => Dat.int i) (.one y) := fun s k Q E hQ => by
  refine Call_Name rfl (hx s k _ E p (PyProof.Rows.callWith_type1 ((evs_cons h evs_nil he) s k _ E pos fun vs s1 k1 h1 => ?_) he rfl))
  cases h1 with
  | cons h1 h2 =>
  cases h2
  cases h1
  refine call_range_1 ?_
  have kq : ∀ {o : Obj} {t : Nat}, Kps s1 { s1 with heap := s1.heap.push o, toks := t } := .of (.push _ _)
  refine src_rangeAt (x := y) (ok := ok) hh (IsRange.new ..) hsm fun I wr St s₂ k2 hw hF => hQ I wr St s₂ ((k1.trans kq).trans k2) (fun b hb => none_of_kp (k1.trans kq).kp (hw b hb)) ?_
  simpa using hF
theorem src_range2 {x : Str} {p pos : Pos} {e f : Expr} {a b : Int} {y : Str} (hh : A.handled = none) (hx : Has prog w A env s₀ x (.type "range")) (h : Ev prog w A env ok s₀ e (.int a)) (h' : Ev prog w A env ok s₀ f (.int b)) (hsm : Builtin.Range.small a b 1 = true)
    (he : starEach [e, f] env = (false, eval e env) :: starEach [f] env) (he' : starEach [f] env = (false, eval f env) :: starEach [] env) : Src prog w A env ok s₀ (.Call (.Name x p) [e, f] [] pos) ((List.range (b - a).toNat).map fun (i : Nat) => Dat.int (a + i)) (.one y) := fun s k Q E hQ => by
  refine Call_Name rfl (hx s k _ E p (PyProof.Rows.callWith_type1 ((evs_cons h (evs_cons h' evs_nil he') he) s k _ E pos fun vs s1 k1 h1 => ?_) he (by rw [he']; rfl)))
  cases h1 with
  | cons h1 h2 =>
  cases h2 with
  | cons h2 h3 =>
  cases h3
  cases h1
  cases h2
  refine call_range_2 ?_
  have kq : ∀ {o : Obj} {t : Nat}, Kps s1 { s1 with heap := s1.heap.push o, toks := t } := .of (.push _ _)
  exact src_rangeAt hh (IsRange.new ..) hsm fun I wr St s₂ k2 hw hF => hQ I wr St s₂ ((k1.trans kq).trans k2) (fun b hb => none_of_kp (k1.trans kq).kp (hw b hb)) hF

theorem src_zip {x : Str} {p pos : Pos} {e f : Expr} {ds es : List Dat} {y z : Str} (hh : A.handled = none) (fr : Free ok s₀.heap) (hx : Has prog w A env s₀ x (.type "zip")) (h : Ev prog w A env ok s₀ e (.list ds)) (h' : Ev prog w A env ok s₀ f (.list es))
    (he : starEach [e, f] env = (false, eval e env) :: starEach [f] env) (he' : starEach [f] env = (false, eval f env) :: starEach [] env) : Src prog w A env ok s₀ (.Call (.Name x p) [e, f] [] pos) ((ds.zip es).map fun q => Dat.tuple [q.1, q.2]) (.many [y, z]) := fun s k Q E hQ => by
  refine Call_Name rfl (hx s k _ E p (PyProof.Rows.callWith_type1 ((evs_cons h (evs_cons h' evs_nil he') he) s k _ E pos fun vs s1 k1 h1 => ?_) he (by rw [he']; rfl)))
  cases h1 with
  | cons h1 h2 =>
  cases h2 with
  | cons h2 h3 =>
  cases h3
  cases h1 with
  | @list l1 vs _ ok1 hl1 hr =>
  cases h2 with
  | @list l2 ws _ ok2 hl2 hs =>
  refine call_zip_2 hl1 hl2 fun h' z1 p1 p2 i1 i2 hsz kk => ?_
  refine wpAny_pyIter_zip z1 ?_
  have lt1 : @LT.lt Nat _ l1 s1.heap.objs.size := by obtain ⟨o, e, _⟩ := hl1; exact Heap.lt_size e
  have lt2 : @LT.lt Nat _ l2 s1.heap.objs.size := by obtain ⟨o, e, _⟩ := hl2; exact Heap.lt_size e
  have D : ZipApart (s1.heap.objs.size + 4) (s1.heap.objs.size + 2) (s1.heap.objs.size + 3) s1.heap.objs.size (s1.heap.objs.size + 1) l1 l2 := by constructor <;> exact addr_ne (by omega)
  have frs : Free ok s1.heap := fr.kp (k.trans k1).kp
  have nw : ∀ b o, s1.heap.get? b = some o → b ∉ [s1.heap.objs.size + 4, s1.heap.objs.size + 3, s1.heap.objs.size, s1.heap.objs.size + 1] := fun b o e q => by
    have h9 : @LT.lt Nat _ b s1.heap.objs.size := Heap.lt_size e
    simp only [List.mem_cons, List.not_mem_nil, or_false] at q
    rcases q with q | q | q | q <;> exact addr_ne (by omega) q
  refine hQ _ [s1.heap.objs.size + 4, s1.heap.objs.size + 3, s1.heap.objs.size, s1.heap.objs.size + 1] _ _ (k1.trans (.ofH kk)) (fun b hb => ?_)
    (feed_zip hh D z1 p1 ⟨_, _, p2⟩ i1 i2 (hl1.at fun o e => kk _ o e) (hl2.at fun o e => kk _ o e) ok1 ok2 (frs _ (none_size (Nat.le_add_right _ _)))
      (hr.up fun b o hb e _ => ⟨⟨hb, nw b o e⟩, kk _ _ e⟩) (hs.up fun b o hb e _ => ⟨⟨hb, nw b o e⟩, kk _ _ e⟩))
  refine none_of_kp k1.kp (none_size ?_)
  simp only [List.mem_cons, List.not_mem_nil, or_false] at hb
  rcases hb with rfl | rfl | rfl | rfl
  · exact Nat.le_add_right _ _
  · exact Nat.le_add_right _ _
  · exact Nat.le_refl _
  · exact Nat.le_add_right _ _
end
end Mine

/-! Core5 -/
namespace Mine

structure Next (ok : Addr → Prop) (s₀ : Shared) (ok₁ : Addr → Prop) (s₁ : Shared) : Prop where
  kp : Kps s₀ s₁
  old : ∀ a o, ok a → s₀.heap.get? a = some o → ok₁ a
  free : Free ok₁ s₁.heap
theorem DS.next {ok ok₁ : Addr → Prop} {s₀ s₁ : Shared} {v : Value} {d : Dat} (x : DS ok s₀.heap v d) (n : Next ok s₀ ok₁ s₁) : DS ok₁ s₁.heap v d := x.up fun b o hb e _ => ⟨n.old b o hb e, n.kp.kp _ _ e⟩

def Acc (ok : Addr → Prop) (D : Addr) (h : Heap) (ys : List Dat) : Prop := ∃ vs, h.IsList D vs.toArray ∧ DSs ok h vs ys

section
variable {prog : Program} {w : World} {A : Around} {env : Env} {ok ok₁ : Addr → Prop} {s₀ : Shared}

theorem Acc.kb {ex : List Addr} {D : Addr} {h h' : Heap} {ys : List Dat} (a : Acc ok D h ys) (k : KB ex h h') (hD : D ∉ ex) (hex : ∀ b ∈ ex, ∀ o, ok b → h.get? b = some o → ¬ Obj.IsSeq o) : Acc ok D h' ys := by
  obtain ⟨vs, hl, hr⟩ := a
  exact ⟨vs, hl.at fun o e => k _ o hD e, hr.up fun b o hb e hs => ⟨hb, k b o (fun q => hex b q o hb e hs) e⟩⟩

theorem feed_bind {target : Expr} {tail : Sem PySem.Fin} {cenv : Env} {H : Heap} {I : Addr} {wr : List Addr} {ds : List Dat} {p : Pat} {St : Nat → Heap → Prop} {s : Shared} {m : Str → Option Value} {i : Nat} {d : Dat} {Q : PySem.Fin → Shared → Prop} {E : Value → Shared → Prop}
    (F : Feed prog w A ok H I wr ds p St) (hd : ds[i]? = some d) (ip : IsPat cenv target p) (hk : cenv.scope.kind = .function) (hCw : cenv.locals ∉ wr) (hLs : ∀ o, H.get? cenv.locals = some o → ¬ Obj.IsSeq o) (st : St i s.heap) (kw : KW ok wr cenv.locals H s.heap) (hn : s.heap.Ns cenv.locals m)
    (h : ∀ h' tk m', St (i + 1) h' → h'.Ns cenv.locals m' → Bound (okF ok wr H) p d h' m m' → KB (cenv.locals :: wr) s.heap h' → wpAny (model prog w) A tail Q E { s with heap := h', toks := tk }) :
    wpAny (model prog w) A (do
      match ← pyNext (.ref I) with
      | none => pure (.done .next)
      | some v => do
        letOwnedTupleGo target (.ref I) v
        assign target cenv v
        tail : Sem PySem.Fin) Q E s := by
  refine wpAny_bind (wpAny_mono (F.step i d cenv target s m (fun _ s₂ => wpAny (model prog w) A tail Q E s₂) E hd ip hk hCw hLs st kw hn h) (fun r s1 hr => ?_) fun _ _ x => x)
  cases r with
  | none => exact hr.elim
  | some v => exact wpAny_bind (wpAny_mono hr (fun _ s2 h2 => wpAny_bind h2) fun _ _ x => x)

theorem comp_loop {e : Expr} {k : Nat} {target : Expr} {tpos : Pos} {tail : Sem PySem.Fin} {cenv : Env} {H : Heap} {I D : Addr} {wr : List Addr} {ds : List Dat} {p : Pat} {St : Nat → Heap → Prop} {R : Result → Shared → Prop} {s : Shared} {m : Str → Option Value}
    (Mi : (Str → Option Value) → Prop) (outs : Dat → List Dat) (ys₀ : List Dat)
    (hq : (Code.compLoop e k (.ref I) (.ref D) cenv).quiet = true)
    (hden : (model prog w).den (.compLoop e k (.ref I) (.ref D) cenv) = (do
      standAt tpos
      match ← pyNext (.ref I) with
      | none => pure (.done .next)
      | some v => do
        letOwnedTupleGo target (.ref I) v
        assign target cenv v
        tail : Sem PySem.Fin).onRaise (fun x => do noteFrame x cenv; theTreesLotGoes x))
    (hund : A.under (.compLoop e k (.ref I) (.ref D) cenv) = A)
    (F : Feed prog w A ok H I wr ds p St) (ip : IsPat cenv target p) (hk : cenv.scope.kind = .function) (hCw : cenv.locals ∉ wr) (hDw : D ∉ wr) (hCD : cenv.locals ≠ D)
    (hLs : ∀ o, H.get? cenv.locals = some o → ¬ Obj.IsSeq o) (hDo : ∀ b o, ok b → H.get? b = some o → b ≠ D) (hw1 : ∀ b ∈ wr, ¬ ok₁ b)
    (st0 : St 0 s.heap) (k0 : KB (cenv.locals :: D :: wr) H s.heap) (n0 : s.heap.Ns cenv.locals m) (m0 : Mi m) (a0 : Acc ok₁ D s.heap ys₀)
    (hM : ∀ d h m m', d ∈ ds → Mi m → Bound (okF ok wr H) p d h m m' → Mi m')
    (hb : ∀ d s' m m' ys, d ∈ ds → (∃ h tk, s' = { s with heap := h, toks := tk }) → KB (cenv.locals :: D :: wr) H s'.heap → s'.heap.Ns cenv.locals m' → Mi m → Bound (okF ok wr H) p d s'.heap m m' → Acc ok₁ D s'.heap ys → (∃ a b, ds = a ++ d :: b ∧ ys = ys₀ ++ a.flatMap outs) → (∀ b ∈ wr, ∃ o, s'.heap.get? b = some o) →
      ∀ (Q : PySem.Fin → Shared → Prop) (E : Value → Shared → Prop), (∀ h'' tk m'', KB [cenv.locals, D] s'.heap h'' → h''.Ns cenv.locals m'' → Mi m'' → Acc ok₁ D h'' (ys ++ outs d) → Q (.again (.compLoop e k (.ref I) (.ref D) cenv)) { s' with heap := h'', toks := tk }) → wpAny (model prog w) A tail Q E s')
    (hR : ∀ h' tk m', KB (cenv.locals :: D :: wr) H h' → h'.Ns cenv.locals m' → Acc ok₁ D h' (ys₀ ++ ds.flatMap outs) → R (.ok .next) { s with heap := h', toks := tk }) :
    codeAny (model prog w) A (.compLoop e k (.ref I) (.ref D) cenv) R s := by
  have accN : ∀ {h h' : Heap} {m : Str → Option Value} {ys : List Dat}, h.Ns cenv.locals m → Acc ok₁ D h ys → KB (cenv.locals :: wr) h h' → Acc ok₁ D h' ys := fun hn a kk => a.kb kk (by simp [hDw, Ne.symm hCD]) fun b hb o hbo e => by
    rcases List.mem_cons.mp hb with rfl | hb
    · exact ns_notSeq hn e
    · exact (hw1 b hb hbo).elim
  refine codeAny_loop hq
    (fun n s' => ∃ h' tk i m' a b, s' = { s with heap := h', toks := tk } ∧ ds = a ++ b ∧ a.length = i ∧ n = b.length + 1 ∧ St i h' ∧ KB (cenv.locals :: D :: wr) H h' ∧ h'.Ns cenv.locals m' ∧ Mi m' ∧ Acc ok₁ D h' (ys₀ ++ a.flatMap outs))
    ?_ (ds.length + 1) ⟨s.heap, s.toks, 0, m, [], ds, rfl, rfl, rfl, rfl, st0, k0, n0, m0, by simpa using a0⟩
  rintro n s' ⟨h', tk, i, m', a, b, rfl, hab, hai, rfl, st, kk, hn, hm, ac⟩
  rw [hund, hden]
  refine wpAny_noted (wpAny_bind (wpAny_standAt ?_))
  have kw : KW ok wr cenv.locals H h' := fun b o hb hbw hbL e => kk b o (by simp [hbL, hbw]; exact hDo b o hb e) e
  cases b with
  | nil =>
    rw [List.append_nil] at hab
    subst hab
    refine wpAny_bind (F.done cenv.locals _ _ _ hCw hLs (by rw [hai]; exact st) kw fun h1 tk1 k1 => ?_)
    have k1' : KB (cenv.locals :: wr) h' h1 := k1.weak fun p hp => .tail _ hp
    refine wpAny_pure (hR h1 tk1 m' (kk.trans (k1.weak fun p hp => .tail _ (.tail _ hp))) (hn.at' fun o e => k1 _ o hCw e) (accN hn ac k1'))
  | cons d b =>
    have hd : ds[i]? = some d := by subst hai; rw [hab]; simp
    have hmem : d ∈ ds := by rw [hab]; simp
    refine feed_bind F hd ip hk hCw hLs st kw hn fun h1 tk1 m1 st1 hn1 bd k1 => ?_
    have kk1 : KB (cenv.locals :: D :: wr) H h1 := kk.trans (k1.weak fun p hp => by (rcases List.mem_cons.mp hp with rfl | hp); exact .head _; exact .tail _ (.tail _ hp))
    refine hb d _ m' m1 _ hmem ⟨h1, tk1, rfl⟩ kk1 hn1 hm bd (accN hn ac k1) ⟨a, b, hab, rfl⟩ (F.live _ _ st1) _ _ fun h2 tk2 m2 k2 hn2 hm2 ac2 => ?_
    refine ⟨rfl, b.length + 1, by simp, h2, tk2, i + 1, m2, a ++ [d], b, rfl, by rw [hab]; simp, by simp [hai], rfl, ?_, kk1.trans (k2.weak fun p hp => by simp at hp ⊢; rcases hp with rfl | rfl <;> simp), hn2, hm2, ?_⟩
    · exact F.frame _ _ _ st1 fun b hbw o e => k2 b o (by intro q; simp at q; (rcases q with q | q); exact hCw (q ▸ hbw); exact hDw (q ▸ hbw)) e
    · rw [List.flatMap_append]; simpa using ac2
end
end Mine

/-! Core6 -/
namespace Mine
section
variable {prog : Program} {w : World} {A : Around} {env : Env} {ok ok₁ : Addr → Prop} {s₀ : Shared}

theorem upF {wr : List Addr} {H h : Heap} {D : Addr} (hD0 : H.get? D = none) : Up (okF ok wr H) (fun a => ok a ∧ a ≠ D ∧ a ∉ wr) h h := fun b o hb e _ => by
  refine ⟨⟨hb.1, fun q => ?_, hb.2.1⟩, e⟩
  obtain ⟨o, ho⟩ := hb.2.2
  rw [q, hD0] at ho; cases ho
theorem ev_comp_core {elt target iter : Expr} {ifs : List Expr} {rest : List Comprehension} {scope : Scope} {pos : Pos} {cl : List (Str × Addr)} {ds : List Dat} {p : Pat} (outs : Dat → List Dat) (tail : Env → Addr → Addr → Sem PySem.Fin)
    (fr : Free ok s₀.heap) (hsrc : Src prog w A env ok s₀ iter ds p) (hs : ∀ x, foldedSetIterable iter env x = pure x) (hclos : closureFor scope env = pure cl) (hcell : ∀ y ∈ scope.names, y.2 ≠ .cell) (hkind : scope.kind = .function)
    (hnames : ∀ x ∈ scope.names, x.2 = .local → scope.names.lookup x.1 = some .local) (ip : ∀ C, IsPat (compEnvC scope cl C env) target p) (hsz : (ds.flatMap outs).length ≤ sizeLine)
    (hden : ∀ C I D, (model prog w).den (.compLoop (.ListComp elt (⟨target, iter, ifs, 0⟩ :: rest) scope pos) 0 (.ref I) (.ref D) (compEnvC scope cl C env)) = (do
      standAt iter.pos
      match ← pyNext (.ref I) with
      | none => pure (.done .next)
      | some v => do
        letOwnedTupleGo target (.ref I) v
        assign target (compEnvC scope cl C env) v
        tail (compEnvC scope cl C env) I D : Sem PySem.Fin).onRaise (fun x => do noteFrame x (compEnvC scope cl C env); theTreesLotGoes x))
    (hb : ∀ d s₁ ok₁ C D I m₀ m ys, d ∈ ds → s₀.heap.get? C = none → s₀.heap.get? D = none → Next ok s₀ ok₁ s₁ → ¬ ok₁ D → (∃ o, s₁.heap.get? D = some o) → C ≠ D → s₁.heap.Ns C m → Bound ok₁ p d s₁.heap m₀ m → Acc ok₁ D s₁.heap ys → (ys ++ outs d).length ≤ sizeLine →
      ∀ (Q : PySem.Fin → Shared → Prop) (E : Value → Shared → Prop), (∀ h'' tk m'', KB [C, D] s₁.heap h'' → h''.Ns C m'' → Acc ok₁ D h'' (ys ++ outs d) → Q (.again (.compLoop (.ListComp elt (⟨target, iter, ifs, 0⟩ :: rest) scope pos) 0 (.ref I) (.ref D) (compEnvC scope cl C env))) { s₁ with heap := h'', toks := tk }) →
        wpAny (model prog w) A (tail (compEnvC scope cl C env) I D) Q E s₁) :
    Ev prog w A env ok s₀ (.ListComp elt (⟨target, iter, ifs, 0⟩ :: rest) scope pos) (.list (ds.flatMap outs)) := fun s k Q E hQ => by
  rw [eval_ListComp]
  refine wpAny_comprehension_free (use := none) rfl hs hclos hkind hnames (hsrc s k _ E fun I wr St s₂ k2 hw F => ?_)
  refine wpAny_newList (items := []) ?_ (by simp)
  generalize hH2 : s₂.heap.push { cls := .type "list", dict := none, data := .seq ([] : List Value).toArray } = H2
  refine wpAny_newFunctionEnv hcell (by intro y hy; simp at hy) (fun h₁ hns₁ hsb₁ => ?_) hkind
  dsimp only at hns₁ hsb₁ ⊢
  have hC : H2.objs.size = s₂.heap.objs.size + 1 := by rw [← hH2, Heap.size_push]
  have hDC : H2.objs.size ≠ s₂.heap.objs.size := by rw [hC]; exact Nat.ne_of_gt (Nat.lt_succ_self _)
  have old : Kp s₂.heap h₁ := fun b o e => hsb₁.extBut b o (by have := Heap.lt_size e; rw [hC]; exact Nat.ne_of_lt (Nat.lt_succ_of_lt this)) (Heap.get?_push_of_some _ (hH2 ▸ Heap.get?_push_of_some _ e))
  have hD0 : s₂.heap.get? s₂.heap.objs.size = none := none_size (Nat.le_refl _)
  have hC0 : s₂.heap.get? H2.objs.size = none := none_size (by rw [hC]; exact Nat.le_succ _)
  have hDw : s₂.heap.objs.size ∉ wr := fun q => by obtain ⟨o, e⟩ := F.wrIn _ q; rw [hD0] at e; cases e
  have hCw : H2.objs.size ∉ wr := fun q => by obtain ⟨o, e⟩ := F.wrIn _ q; rw [hC0] at e; cases e
  have accD : h₁.IsList s₂.heap.objs.size ([] : List Value).toArray := ⟨_, hsb₁.extBut _ _ (Ne.symm hDC) (Heap.get?_push_of_some _ (hH2 ▸ Heap.get?_push_size _ rfl)), rfl, _, rfl⟩
  have frs : Free ok s₂.heap := fr.kp (k.trans k2).kp
  have loop : codeAny (model prog w) A (.compLoop (.ListComp elt (⟨target, iter, ifs, 0⟩ :: rest) scope pos) 0 (.ref I) (.ref s₂.heap.objs.size) (compEnvC scope cl H2.objs.size env))
      (compPost (model prog w) A E none Q (.ref s₂.heap.objs.size) H2.objs.size) { s₂ with heap := h₁, toks := s₂.toks + ([] : List (Str × Value)).length } := by
    refine comp_loop (H := s₂.heap) (ok := ok) (ok₁ := fun a => ok a ∧ a ≠ s₂.heap.objs.size ∧ a ∉ wr) (tail := tail (compEnvC scope cl H2.objs.size env) I s₂.heap.objs.size) (Mi := fun _ => True) outs [] rfl (hden _ _ _) (Around.under_of_weight rfl rfl) F (ip _) (by simp [compEnvC, relabel, hkind]) hCw hDw hDC
      (fun o e => by rw [show (compEnvC scope cl H2.objs.size env).locals = H2.objs.size from rfl, hC0] at e; cases e) (fun b o _ e q => by rw [q, hD0] at e; cases e) (fun b hb q => q.2.2 hb) (F.frame _ _ _ F.start fun b hb o e => old b o e) (fun b o _ e => old b o e) hns₁ trivial ⟨[], accD, .nil⟩ (fun _ _ _ _ _ _ _ => trivial) ?_ ?_
    · rintro d s' m m' ys hd ⟨h', tk', rfl⟩ kb hn _ bd ac ⟨a, b, hab, hys⟩ hlive Q' E' hQ'
      have kall : ∀ b o, s.heap.get? b = some o → h'.get? b = some o := fun b o e => by
        have e2 := k2.kp b o e
        refine kb b o ?_ e2
        intro q
        simp only [List.mem_cons] at q
        rcases q with q | q | q
        · rw [q] at e2; rw [show (compEnvC scope cl H2.objs.size env).locals = H2.objs.size from rfl, hC0] at e2; cases e2
        · rw [q, hD0] at e2; cases e2
        · rw [hw b q] at e; cases e
      have same : Kps s { s₂ with heap := h', toks := tk' } := by
        obtain ⟨x, t, rfl, _⟩ := k2
        exact ⟨h', tk', rfl, kall⟩
      have hDh : ∃ o, h'.get? s₂.heap.objs.size = some o := by obtain ⟨vs, ⟨o, ho, _⟩, _⟩ := ac; exact ⟨o, ho⟩
      refine hb d _ _ H2.objs.size s₂.heap.objs.size I m m' ys hd (none_of_kp (k.trans k2).kp hC0) (none_of_kp (k.trans k2).kp hD0) ⟨k.trans same, fun a o ho e => ?_, fun a ha => ?_⟩ (fun q => q.2.1 rfl) hDh hDC hn (bd.up (upF hD0))  ac ?_ Q' E' fun h'' tk m'' k'' hn'' ac'' => hQ' h'' tk m'' k'' hn'' trivial ac''
      · have e1 := k.kp a o e
        have e2 := k2.kp a o e1
        refine ⟨ho, fun q => ?_, fun q => ?_⟩
        · rw [q, hD0] at e2; cases e2
        · rw [hw a q] at e1; cases e1
      · have e1 : s.heap.get? a = none := none_of_kp kall ha
        refine ⟨fr.kp k.kp a e1, fun q => ?_, fun q => ?_⟩
        · obtain ⟨o, ho⟩ := hDh
          rw [← q] at ho
          exact absurd (ho.symm.trans ha) (by simp)
        · obtain ⟨o, ho⟩ := hlive a q
          exact absurd (ho.symm.trans ha) (by simp)
      · subst hys
        have e : ds.flatMap outs = a.flatMap outs ++ (outs d ++ b.flatMap outs) := by rw [hab]; simp
        rw [e] at hsz
        simp only [List.length_append, List.nil_append] at hsz ⊢
        omega
    · intro h' tk m' kb hn ac
      simp only [List.nil_append] at ac
      refine ⟨m', hn, fun h'' hs'' => ?_⟩
      obtain ⟨vs, hl, hr⟩ := ac
      have kall : ∀ b o, s.heap.get? b = some o → h'.get? b = some o := fun b o e => by
        have e2 := k2.kp b o e
        refine kb b o ?_ e2
        intro q
        simp only [List.mem_cons] at q
        rcases q with q | q | q
        · rw [q] at e2; rw [show (compEnvC scope cl H2.objs.size env).locals = H2.objs.size from rfl, hC0] at e2; cases e2
        · rw [q, hD0] at e2; cases e2
        · rw [hw b q] at e; cases e
      have notC : ∀ b o, s.heap.get? b = some o → b ≠ H2.objs.size := fun b o e q => by
        have e2 := k2.kp b o e
        rw [q, hC0] at e2; cases e2
      have same : Kps s { s₂ with heap := h'', toks := tk } := by
        obtain ⟨x, t, rfl, _⟩ := k2
        exact ⟨h'', tk, rfl, fun b o e => hs''.extBut b o (notC b o e) (kall b o e)⟩
      refine hQ _ _ same (.list (frs.size) (hl.extBut hs''.extBut (Ne.symm hDC)) (hr.up fun b o hb e hs => ⟨hb.1, hs''.extBut b o (fun q => ?_) e⟩))
      exact ns_notSeq hn (q ▸ e) hs
  exact codeAny_compStart_list loop (F.self 0 _ _ _ (F.frame _ _ _ F.start fun b hb o e => old b o e) loop)
end
end Mine

/-! Core7 -/
namespace Mine
section
variable {prog : Program} {w : World} {A : Around} {env : Env} {ok ok₁ : Addr → Prop} {s₀ : Shared}

def tail1 (elt target iter : Expr) (ifs : List Expr) (scope : Scope) (pos : Pos) (env : Env) (I D : Addr) : Sem PySem.Fin := do
  let mut ok := true
  for c in ifs do
    if ok then ok ← isTrue c env (eval c env)
  if ok then
    (do let _ ← call (.builtin "list.append") [.ref D, ← eval elt env])
  again (.compLoop (.ListComp elt [⟨target, iter, ifs, 0⟩] scope pos) 0 (.ref I) (.ref D) env)

theorem den1 (elt target iter : Expr) (ifs : List Expr) (scope : Scope) (pos : Pos) (env : Env) (I D : Addr) :
    (model prog w).den (.compLoop (.ListComp elt [⟨target, iter, ifs, 0⟩] scope pos) 0 (.ref I) (.ref D) env) = (do
      standAt iter.pos
      match ← pyNext (.ref I) with
      | none => pure (.done .next)
      | some v => do
        letOwnedTupleGo target (.ref I) v
        assign target env v
        tail1 elt target iter ifs scope pos env I D : Sem PySem.Fin).onRaise (fun x => do noteFrame x env; theTreesLotGoes x) := by
  show (compTurn (.ListComp elt [⟨target, iter, ifs, 0⟩] scope pos) 0 (.ref I) (.ref D) env).onRaise (fun x => do noteFrame x env; theTreesLotGoes x) = _
  rw [compTurn_list]
  rfl

/-- emission: tests, then the element appended -/
theorem emit {elt : Expr} {ifs : List Expr} {cenv : Env} {D : Addr} {s : Shared} {ys : List Dat} {c : Bool} {y : Dat} {fin : Sem PySem.Fin} {Q : PySem.Fin → Shared → Prop} {E : Value → Shared → Prop} {m : Str → Option Value}
    (hCD : cenv.locals ≠ D) (hD1 : ¬ ok₁ D) (hn : s.heap.Ns cenv.locals m) (ac : Acc ok₁ D s.heap ys) (hsz : ys.length + (if c then 1 else 0) ≤ sizeLine)
    (ht : (ifs = [] ∧ c = true) ∨ ∃ t, ifs = [t] ∧ Tr prog w A cenv s t c) (he : c = true → Ev prog w A cenv ok₁ s elt y)
    (hQ : ∀ h' tk, KB [D] s.heap h' → h'.Ns cenv.locals m → Acc ok₁ D h' (ys ++ if c then [y] else []) → wpAny (model prog w) A fin Q E { s with heap := h', toks := tk }) :
    wpAny (model prog w) A (do
      let mut ok := true
      for c in ifs do
        if ok then ok ← isTrue c cenv (eval c cenv)
      if ok then
        (do let _ ← call (.builtin "list.append") [.ref D, ← eval elt cenv])
      fin : Sem PySem.Fin) Q E s := by
  obtain ⟨vs, hl, hr⟩ := ac
  have tests : wpAny (model prog w) A (forIn ifs true fun c r => if r = true then do let ok ← isTrue c cenv (eval c cenv); pure (ForInStep.yield ok) else pure (ForInStep.yield r)) (fun b s' => b = c ∧ Kps s s') E s := by
    rcases ht with ⟨rfl, rfl⟩ | ⟨t, rfl, ht⟩
    · exact wpAny_tests_nil ⟨rfl, .refl s⟩
    · exact wpAny_tests_one (ht s (.refl s) _ E fun s' k => ⟨rfl, k⟩)
  refine wpAny_bind (wpAny_mono tests (fun b s1 hb => ?_) fun _ _ x => x)
  obtain ⟨rfl, h1, tk1, rfl, k1⟩ := hb
  cases b with
  | false => exact hQ h1 tk1 (fun b o _ e => k1 b o e) (hn.keeps k1) ⟨vs, hl.at fun o e => k1 _ o e, by simpa using hr.kp k1⟩
  | true =>
    have hlen := hr.length
    simp only [if_true] at hsz
    refine wpAny_bind (wpAny_bind (he rfl _ (.of k1) _ E fun v s2 k2 h2 => ?_))
    obtain ⟨g2, tk2, rfl, k2⟩ := k2
    have hl2 : g2.IsList D vs.toArray := hl.at fun o e => k2 _ o (k1 _ o e)
    refine wpAny_bind (wpAny_list_append (hsz := by simp; omega) hl2 fun h3 hl3 hs3 => wpAny_pure ?_)
    have hn2 : g2.Ns cenv.locals m := (hn.keeps k1).keeps k2
    refine hQ h3 tk2 (fun b o hb e => hs3.extBut b o (fun q => hb (q ▸ .head _)) (k2 b o (k1 b o e))) (hn2.sameBut hs3 hCD) ⟨vs ++ [v], by simpa using hl3, ?_⟩
    have up : Up ok₁ ok₁ g2 h3 := fun b o hb e _ => ⟨hb, hs3.extBut b o (fun q => hD1 (q ▸ hb)) e⟩
    exact ((((hr.kp k1).kp k2).up up).append (.cons (h2.up up) .nil))

theorem ev_comp1 {elt target iter : Expr} {ifs : List Expr} {scope : Scope} {pos : Pos} {cl : List (Str × Addr)} {ds : List Dat} {p : Pat} (f : Dat → Bool) (g : Dat → Dat)
    (fr : Free ok s₀.heap) (hsrc : Src prog w A env ok s₀ iter ds p) (hs : ∀ x, foldedSetIterable iter env x = pure x) (hclos : closureFor scope env = pure cl) (hcell : ∀ y ∈ scope.names, y.2 ≠ .cell) (hkind : scope.kind = .function)
    (hnames : ∀ x ∈ scope.names, x.2 = .local → scope.names.lookup x.1 = some .local) (ip : ∀ C, IsPat (compEnvC scope cl C env) target p) (hsz : ds.length ≤ sizeLine)
    (ht : ∀ d s₁ ok₁ C m₀ m, d ∈ ds → Next ok s₀ ok₁ s₁ → s₁.heap.Ns C m → Bound ok₁ p d s₁.heap m₀ m → (ifs = [] ∧ f d = true) ∨ ∃ t, ifs = [t] ∧ Tr prog w A (compEnvC scope cl C env) s₁ t (f d))
    (he : ∀ d s₁ ok₁ C m₀ m, d ∈ ds → f d = true → Next ok s₀ ok₁ s₁ → s₁.heap.Ns C m → Bound ok₁ p d s₁.heap m₀ m → Ev prog w A (compEnvC scope cl C env) ok₁ s₁ elt (g d)) :
    Ev prog w A env ok s₀ (.ListComp elt [⟨target, iter, ifs, 0⟩] scope pos) (.list ((ds.filter f).map g)) := by
  have e : (ds.filter f).map g = ds.flatMap fun d => if f d then [g d] else [] := by
    clear hsrc hsz ht he
    induction ds with
    | nil => rfl
    | cons d r ih =>
      rw [List.flatMap_cons, ← ih]
      cases hf : f d <;> simp [hf]
  have hsz' : ((ds.filter f).map g).length ≤ sizeLine := by
    rw [List.length_map]
    exact Nat.le_trans (List.length_filter_le _ _) hsz
  rw [e] at hsz' ⊢
  refine ev_comp_core (fun d => if f d then [g d] else []) (tail1 elt target iter ifs scope pos) fr hsrc hs hclos hcell hkind hnames ip hsz' (fun C I D => den1 ..) ?_
  intro d s₁ ok₁ C D I m₀ m ys hd _ _ nx hD1 _ hCD hn bd ac hsz1 Q E hQ
  refine emit (c := f d) (y := g d) hCD hD1 hn ac ?_ (ht d s₁ ok₁ C m₀ m hd nx hn bd) (fun hf => he d s₁ ok₁ C m₀ m hd hf nx hn bd) fun h' tk kb hn' ac' => wpAny_pure (hQ h' tk m (kb.weak fun p hp => .tail _ hp) hn' ac')
  cases hf : f d <;> simp [hf] at hsz1 ⊢ <;> omega
end
end Mine

/-! Core8 -/
namespace Mine
section
variable {prog : Program} {w : World} {A : Around} {env : Env} {ok ok₁ : Addr → Prop} {s₀ : Shared}

def tail2o (elt t1 i1 t2 i2 : Expr) (ifs : List Expr) (scope : Scope) (pos : Pos) (env : Env) (I D : Addr) : Sem PySem.Fin := do
  let mut ok := true
  for c in ([] : List Expr) do
    if ok then ok ← isTrue c env (eval c env)
  if ok then
    let x ← eval i2 env
    standAt i2.pos
    let x ← foldedSetIterable i2 env x
    let _ ← runOwn (.compStart (.ListComp elt [⟨t1, i1, [], 0⟩, ⟨t2, i2, ifs, 0⟩] scope pos) 1 (← holding [x] (pyIter x)) (.ref D) env) env
  again (.compLoop (.ListComp elt [⟨t1, i1, [], 0⟩, ⟨t2, i2, ifs, 0⟩] scope pos) 0 (.ref I) (.ref D) env)
def tail2i (elt t1 i1 t2 i2 : Expr) (ifs : List Expr) (scope : Scope) (pos : Pos) (env : Env) (I D : Addr) : Sem PySem.Fin := do
  let mut ok := true
  for c in ifs do
    if ok then ok ← isTrue c env (eval c env)
  if ok then
    (do let _ ← call (.builtin "list.append") [.ref D, ← eval elt env])
  again (.compLoop (.ListComp elt [⟨t1, i1, [], 0⟩, ⟨t2, i2, ifs, 0⟩] scope pos) 1 (.ref I) (.ref D) env)

theorem den2o (elt t1 i1 t2 i2 : Expr) (ifs : List Expr) (scope : Scope) (pos : Pos) (env : Env) (I D : Addr) :
    (model prog w).den (.compLoop (.ListComp elt [⟨t1, i1, [], 0⟩, ⟨t2, i2, ifs, 0⟩] scope pos) 0 (.ref I) (.ref D) env) = (do
      standAt i1.pos
      match ← pyNext (.ref I) with
      | none => pure (.done .next)
      | some v => do
        letOwnedTupleGo t1 (.ref I) v
        assign t1 env v
        tail2o elt t1 i1 t2 i2 ifs scope pos env I D : Sem PySem.Fin).onRaise (fun x => do noteFrame x env; theTreesLotGoes x) := by rfl
theorem den2i (elt t1 i1 t2 i2 : Expr) (ifs : List Expr) (scope : Scope) (pos : Pos) (env : Env) (I D : Addr) :
    (model prog w).den (.compLoop (.ListComp elt [⟨t1, i1, [], 0⟩, ⟨t2, i2, ifs, 0⟩] scope pos) 1 (.ref I) (.ref D) env) = (do
      standAt i2.pos
      match ← pyNext (.ref I) with
      | none => pure (.done .next)
      | some v => do
        letOwnedTupleGo t2 (.ref I) v
        assign t2 env v
        tail2i elt t1 i1 t2 i2 ifs scope pos env I D : Sem PySem.Fin).onRaise (fun x => do noteFrame x env; theTreesLotGoes x) := by rfl

theorem compStart2 {elt t1 i1 t2 i2 : Expr} {ifs : List Expr} {scope : Scope} {pos : Pos} {cenv : Env} {it acc : Value} {R : Result → Shared → Prop} {s : Shared}
    (h0 : codeAny (model prog w) A (.compLoop (.ListComp elt [⟨t1, i1, [], 0⟩, ⟨t2, i2, ifs, 0⟩] scope pos) 1 it acc cenv) R s)
    (h : wpAny (model prog w) A (pyIter it) (fun it' s' => codeAny (model prog w) A (.compLoop (.ListComp elt [⟨t1, i1, [], 0⟩, ⟨t2, i2, ifs, 0⟩] scope pos) 1 it' acc cenv) R s')
      (notedBy (model prog w) A cenv fun x s' => R (.error x) s') s) :
    codeAny (model prog w) A (.compStart (.ListComp elt [⟨t1, i1, [], 0⟩, ⟨t2, i2, ifs, 0⟩] scope pos) 1 it acc cenv) R s := by
  refine codeAny_of_tree ?_
  show wpAny _ _ ((compStart (.ListComp elt [⟨t1, i1, [], 0⟩, ⟨t2, i2, ifs, 0⟩] scope pos) 1 it acc cenv).onRaise (fun x => do noteFrame x cenv; standAt theWindowsPlace)) _ _ s
  refine wpAny_notedAt ?_
  unfold compStart
  show wpAny _ _ (ask >>= _) _ _ s
  refine wpAny_bind (wpAny_askSetting (wpAny_ite ?_))
  split
  · first
      | exact wpAny_bind (wpAny_pure (wpAny_pure (And.intro rfl h0)))
      | exact wpAny_pure (And.intro rfl h0)
  · refine wpAny_bind (wpAny_rule ?_)
    show wpAny _ _ (standAt i2.pos >>= _) _ _ s
    exact wpAny_bind (wpAny_standAt (wpAny_bind (wpAny_mono h (fun it' s' h' => wpAny_pure (And.intro rfl h')) fun _ _ x => x)))

theorem flat_if {α β : Type} (f : α → Bool) (g : α → β) (l : List α) : (l.filter f).map g = l.flatMap fun d => if f d then [g d] else [] := by
  induction l with
  | nil => rfl
  | cons d r ih =>
    rw [List.flatMap_cons, ← ih]
    cases hf : f d <;> simp [hf]
theorem ev_comp2 {elt t1 i1 t2 i2 : Expr} {ifs : List Expr} {scope : Scope} {pos : Pos} {cl : List (Str × Addr)} {ds : List Dat} {x y : Str} (ds2 : Dat → List Dat) (f : Dat → Dat → Bool) (g : Dat → Dat → Dat) (hxy : x ≠ y)
    (fr : Free ok s₀.heap) (hsrc : Src prog w A env ok s₀ i1 ds (.one x)) (hs : ∀ x, foldedSetIterable i1 env x = pure x) (hclos : closureFor scope env = pure cl) (hcell : ∀ y ∈ scope.names, y.2 ≠ .cell) (hkind : scope.kind = .function)
    (hnames : ∀ x ∈ scope.names, x.2 = .local → scope.names.lookup x.1 = some .local) (ip : ∀ C, IsPat (compEnvC scope cl C env) t1 (.one x)) (ip2 : ∀ C, IsPat (compEnvC scope cl C env) t2 (.one y)) (hs2 : ∀ (C : Addr) v, foldedSetIterable i2 (compEnvC scope cl C env) v = pure v)
    (hsz : (ds.flatMap fun d => ((ds2 d).filter (f d)).map (g d)).length ≤ sizeLine)
    (hsrc2 : ∀ d s₁ ok₁ C m v, d ∈ ds → Next ok s₀ ok₁ s₁ → s₁.heap.Ns C m → m x = some v → DS ok₁ s₁.heap v d → Src prog w A (compEnvC scope cl C env) ok₁ s₁ i2 (ds2 d) (.one y))
    (ht : ∀ d d' s₁ ok₁ C m v u, d ∈ ds → d' ∈ ds2 d → Next ok s₀ ok₁ s₁ → s₁.heap.Ns C m → m x = some v → DS ok₁ s₁.heap v d → m y = some u → DS ok₁ s₁.heap u d' → (ifs = [] ∧ f d d' = true) ∨ ∃ t, ifs = [t] ∧ Tr prog w A (compEnvC scope cl C env) s₁ t (f d d'))
    (he : ∀ d d' s₁ ok₁ C m v u, d ∈ ds → d' ∈ ds2 d → f d d' = true → Next ok s₀ ok₁ s₁ → s₁.heap.Ns C m → m x = some v → DS ok₁ s₁.heap v d → m y = some u → DS ok₁ s₁.heap u d' → Ev prog w A (compEnvC scope cl C env) ok₁ s₁ elt (g d d')) :
    Ev prog w A env ok s₀ (.ListComp elt [⟨t1, i1, [], 0⟩, ⟨t2, i2, ifs, 0⟩] scope pos) (.list (ds.flatMap fun d => ((ds2 d).filter (f d)).map (g d))) := by
  refine ev_comp_core (fun d => ((ds2 d).filter (f d)).map (g d)) (tail2o elt t1 i1 t2 i2 ifs scope pos) fr hsrc hs hclos hcell hkind hnames ip hsz (fun C I D => den2o ..) ?_
  intro d s₁ ok₁ C D I m₀ m ys hd hC0 hD0 nx hD1 hDa hCD hn bd ac hsz1 Q E hQ
  obtain ⟨v, hv, rfl⟩ := bd
  have hmx : upd m₀ x v x = some v := by simp [upd]
  unfold tail2o
  refine wpAny_bind (wpAny_tests_nil ?_)
  refine wpAny_bind (wpAny_mono (hsrc2 d s₁ ok₁ C _ v hd nx hn hmx hv s₁ (.refl s₁)
    (fun it s₂ => wpAny (model prog w) A (runOwn (.compStart (.ListComp elt [⟨t1, i1, [], 0⟩, ⟨t2, i2, ifs, 0⟩] scope pos) 1 it (.ref D) (compEnvC scope cl C env)) (compEnvC scope cl C env)) (fun _ s' => wpAny (model prog w) A (again (.compLoop (.ListComp elt [⟨t1, i1, [], 0⟩, ⟨t2, i2, ifs, 0⟩] scope pos) 0 (.ref I) (.ref D) (compEnvC scope cl C env))) Q E s') E s₂) E
    fun I' wr' St' s₂ k2 hw' F' => ?_) (fun xv s1 hx => wpAny_bind (wpAny_standAt (wpAny_bind (wpAny_of_eq (hs2 C xv) (wpAny_bind (wpAny_holding (wpAny_mono hx (fun it s₂ h2 => wpAny_bind (wpAny_mono h2 (fun _ s3 h3 => h3) fun _ _ x => x)) fun _ _ x => x))))))) fun _ _ x => x)
  -- the inner loop
  have hDw : D ∉ wr' := fun q => by obtain ⟨o, e⟩ := hDa; rw [hw' D q] at e; cases e
  have hCw : C ∉ wr' := fun q => by obtain ⟨o, es, ep, e, _⟩ := hn; rw [hw' C q] at e; cases e
  have hn2 : s₂.heap.Ns C (upd m₀ x v) := hn.keeps k2.kp
  have nx2 : Next ok s₀ ok₁ s₂ := ⟨nx.kp.trans k2, nx.old, nx.free.kp k2.kp⟩
  have ac2 : Acc (fun a => ok₁ a ∧ a ∉ wr') D s₂.heap ys := by
    obtain ⟨vs, hl, hr⟩ := ac
    exact ⟨vs, hl.at fun o e => k2.kp _ o e, hr.up fun b o hb e _ => ⟨⟨hb, fun q => by rw [hw' b q] at e; cases e⟩, k2.kp _ _ e⟩⟩
  have hv2 : DS (fun a => ok₁ a ∧ a ∉ wr') s₂.heap v d := hv.up fun b o hb e _ => ⟨⟨hb, fun q => by rw [hw' b q] at e; cases e⟩, k2.kp _ _ e⟩
  have loop : codeAny (model prog w) A (.compLoop (.ListComp elt [⟨t1, i1, [], 0⟩, ⟨t2, i2, ifs, 0⟩] scope pos) 1 (.ref I') (.ref D) (compEnvC scope cl C env))
      (fun r s' => match r with | .ok fl => wpAny (model prog w) A (again (.compLoop (.ListComp elt [⟨t1, i1, [], 0⟩, ⟨t2, i2, ifs, 0⟩] scope pos) 0 (.ref I) (.ref D) (compEnvC scope cl C env))) Q E s' | .error e => cameBackBy (model prog w) A (compEnvC scope cl C env) E e s') s₂ := by
    refine comp_loop (H := s₂.heap) (ok := ok₁) (ok₁ := fun a => ok₁ a ∧ a ∉ wr') (tail := tail2i elt t1 i1 t2 i2 ifs scope pos (compEnvC scope cl C env) I' D) (Mi := fun m => m x = some v) (fun d' => if f d d' then [g d d'] else []) ys rfl (den2i ..) (Around.under_of_weight rfl rfl) F' (ip2 C) (by simp [compEnvC, relabel, hkind]) hCw hDw hCD
      (fun o e => ns_notSeq hn2 e) (fun b o hb e q => hD1 (q ▸ hb)) (fun b hb q => q.2 hb) F'.start (fun b o _ e => e) hn2 hmx ac2 ?_ ?_ ?_
    · rintro d' h m m' _ hm ⟨u, _, rfl⟩
      simp [upd, hxy, hm]
    · rintro d' s' m m' zs hd' ⟨h', tk', rfl⟩ kb hn' hm bd ac' ⟨a, b, hab, hys⟩ hlive Q' E' hQ'
      obtain ⟨u, hu, rfl⟩ := bd
      have hmx' : upd m y u x = some v := by simp [upd, hxy, hm]
      have hmy' : upd m y u y = some u := by simp [upd]
      have hDh : ∃ o, h'.get? D = some o := by obtain ⟨vs, ⟨o, ho, _⟩, _⟩ := ac'; exact ⟨o, ho⟩
      have kall : ∀ b o, s₀.heap.get? b = some o → h'.get? b = some o := fun b o e => by
        have e1 := nx.kp.kp b o e
        refine kb b o ?_ (k2.kp b o e1)
        intro q
        simp only [List.mem_cons] at q
        rcases q with q | q | q
        · rw [q, show (compEnvC scope cl C env).locals = C from rfl, hC0] at e; cases e
        · rw [q, hD0] at e; cases e
        · rw [hw' b q] at e1; cases e1
      have same : Kps s₀ { s₂ with heap := h', toks := tk' } := by
        obtain ⟨x1, t1, rfl, _⟩ := k2
        obtain ⟨x2, t2, rfl, _⟩ := nx.kp
        exact ⟨h', tk', rfl, kall⟩
      have nx3 : Next ok s₀ (fun a => ok₁ a ∧ a ∉ wr') { s₂ with heap := h', toks := tk' } := by
        refine ⟨same, fun a o ho e => ⟨nx.old a o ho e, fun q => ?_⟩, fun a ha => ⟨?_, fun q => ?_⟩⟩
        · have e1 := nx.kp.kp a o e
          rw [hw' a q] at e1; cases e1
        · refine nx2.free a ?_
          cases q : s₂.heap.get? a with
          | none => rfl
          | some o =>
            have ha' : h'.get? a = none := ha
            by_cases hx : a ∈ C :: D :: wr'
            · simp only [List.mem_cons] at hx
              rcases hx with hx | hx | hx
              · obtain ⟨o', es, ep, ho', _⟩ := hn'
                rw [hx] at ha'
                rw [show (compEnvC scope cl C env).locals = C from rfl, ha'] at ho'; cases ho'
              · obtain ⟨o', ho'⟩ := hDh
                rw [hx, ho'] at ha'; cases ha'
              · obtain ⟨o', ho'⟩ := hlive a hx
                rw [show h'.get? a = some o' from ho'] at ha'; cases ha'
            · rw [kb a o hx q] at ha'; cases ha'
        · obtain ⟨o', ho'⟩ := hlive a q
          rw [show h'.get? a = none from ha] at ho'; cases ho'
      have hv3 : DS (fun a => ok₁ a ∧ a ∉ wr') h' v d := hv2.up fun b o hb e hs => ⟨hb, kb b o (by
        intro q
        simp only [List.mem_cons] at q
        rcases q with q | q | q
        · rw [q] at e; exact ns_notSeq hn2 e hs
        · exact hD1 (q ▸ hb.1)
        · exact hb.2 q) e⟩
      have hu3 : DS (fun a => ok₁ a ∧ a ∉ wr') h' u d' := hu.up fun b o hb e _ => ⟨⟨hb.1, hb.2.1⟩, e⟩
      have hsz2 : zs.length + (if f d d' then 1 else 0) ≤ sizeLine := by
        have e : ((ds2 d).filter (f d)).map (g d) = (a.flatMap fun d' => if f d d' then [g d d'] else []) ++ ((if f d d' then [g d d'] else []) ++ b.flatMap fun d' => if f d d' then [g d d'] else []) := by
          rw [flat_if, hab]; simp
        rw [e] at hsz1
        subst hys
        simp only [List.length_append] at hsz1 ⊢
        cases hf : f d d' <;> simp [hf] at hsz1 ⊢ <;> omega
      refine emit (ok₁ := fun a => ok₁ a ∧ a ∉ wr') (c := f d d') (y := g d d') hCD (fun q => hD1 q.1) hn' ac' hsz2 (ht d d' _ _ C _ v u hd hd' nx3 hn' hmx' hv3 hmy' hu3)
        (fun hf => he d d' _ _ C _ v u hd hd' hf nx3 hn' hmx' hv3 hmy' hu3) fun h'' tk'' kb'' hn'' ac'' => wpAny_pure (hQ' h'' tk'' _ (kb''.weak fun p hp => .tail _ hp) hn'' hmx' ac'')
    · intro h' tk' m' kb hn' ac'
      have st : ({ s₂ with heap := h', toks := tk' } : Shared) = { s₁ with heap := h', toks := tk' } := by obtain ⟨x1, t1, rfl, _⟩ := k2; rfl
      show wpAny _ _ _ _ _ _
      rw [st]
      refine wpAny_pure (hQ h' tk' m' (fun b o hb e => ?_) hn' ?_)
      · refine kb b o ?_ (k2.kp b o e)
        intro q
        simp only [List.mem_cons] at q
        rcases q with q | q | q
        · exact hb (q ▸ .head _)
        · exact hb (q ▸ .tail _ (.head _))
        · rw [hw' b q] at e; cases e
      · rw [← flat_if] at ac'
        obtain ⟨vs, hl, hr⟩ := ac'
        exact ⟨vs, hl, hr.up fun b o hb e _ => ⟨hb.1, e⟩⟩
  exact wpAny_runOwn (compStart2 loop (F'.self 0 _ _ _ F'.start loop))
end
end Mine

/-! Fn -/
namespace Mine

structure Gr (K : Frag) (p : Program) (loose : List Str) (mg mb : Str → Option Value) (h : Heap) : Prop where
  X : K.In h
  T : TopRead p loose mg mb h
theorem Gr.kp {K : Frag} {p : Program} {loose : List Str} {mg mb : Str → Option Value} {h h' : Heap} (g : Gr K p loose mg mb h) (k : Kp h h') : Gr K p loose mg mb h' := ⟨g.X.keeps k, g.T.keeps k⟩

/-- lists and tuples stay -/
def SK (h h' : Heap) : Prop := ∀ b o, h.get? b = some o → Obj.IsSeq o → h'.get? b = some o
theorem SK.up {ok : Addr → Prop} {h h' : Heap} (k : SK h h') : Up ok ok h h' := fun b o hb e hs => ⟨hb, k b o e hs⟩
theorem Kp.sk {h h' : Heap} (k : Kp h h') : SK h h' := fun b o e _ => k b o e
theorem SK.trans {a b c : Heap} (x : SK a b) (y : SK b c) : SK a c := fun p o e s => y p o (x p o e s) s
theorem SK.refl (h : Heap) : SK h h := fun _ _ e _ => e
theorem sk_of_kb {ex : List Addr} {h h' : Heap} (k : KB ex h h') (hex : ∀ b ∈ ex, ∀ o, h.get? b = some o → ¬ Obj.IsSeq o) : SK h h' := fun b o e hs => k b o (fun q => hex b q o e hs) e

section
variable {prog : Program} {w : World} {A : Around} {env : Env} {ok : Addr → Prop} {s s₀ : Shared} {K : Frag} {p : Program} {loose : List Str} {mg mb : Str → Option Value}

theorem has_local {x : Str} {v : Value} {m : Str → Option Value} (hk : env.scope.kind = .function) (hl : env.kindOf x = some .local) (hn : s₀.heap.Ns env.locals m) (hv : m x = some v) (hd : (x == ("__debug__" : Str)) = false) : Has prog w A env s₀ x v :=
  fun s k Q E pos h => wpAny_Name (wpAny_loadName_local hk hl (hn.keeps k.kp) hv h) hd
theorem has_cell {x : Str} {v : Value} {c : Addr} (hk : env.scope.kind = .function) (hl : env.kindOf x = some .cell) (hc : env.cells.lookup x = some c) (hv : s₀.heap.IsCell c (some v)) (hd : (x == ("__debug__" : Str)) = false) : Has prog w A env s₀ x v :=
  fun s k Q E pos h => wpAny_Name (wpAny_loadName_cell hk hl hc (hv.keeps k.kp) h) hd
theorem has_global {x : Str} {v : Value} (G : Gr K p loose mg mb s₀.heap) (e : nsIn K mainGlobals x = some (some v)) (hg : env.globals = mainGlobals) (hk : env.scope.kind = .function) (hx : env.kindOf x = some .globalImplicit) (hd : (x == ("__debug__" : Str)) = false) : Has prog w A env s₀ x v :=
  fun s k Q E pos h => Name_function_global hk hx (loadGlobal_global (env := env) (by rw [hg]; exact G.T.g.keeps k.kp) (mg_of G.X G.T.g e) h) hd
theorem has_builtin {x : Str} {v : Value} (G : Gr K p loose mg mb s₀.heap) (e : nsIn K mainGlobals x = some none) (hv : bootBuiltins x = some v) (hn : x ≠ "__name__") (hg : env.globals = mainGlobals) (hb : env.builtins = builtinsNs) (hk : env.scope.kind = .function) (hx : env.kindOf x = some .globalImplicit) (hd : (x == ("__debug__" : Str)) = false) : Has prog w A env s₀ x v :=
  fun s k Q E pos h => Name_function_global hk hx (loadGlobal_builtin (env := env) (by rw [hg]; exact G.T.g.keeps k.kp) (mg_none_of G.X G.T.g e) (by rw [hb]; exact G.T.b.keeps k.kp) ((G.T.builtins x hn).trans hv) h) hd

/-- a def called -/
theorem call_def {f : Addr} {o : Obj} {fd : FuncData} {body : List Stmt} {vs : List Value} {binds : List (Str × Value)} {Q : Value → Shared → Prop} {E : Value → Shared → Prop}
    (hroom : A.depth < recursionLimit) (ho : s.heap.get? f = some o) (hdat : o.data = .func fd) (hlim : s.heap.NoLimit) (hcd : s.heap.CodeRec fd.code fd.qualname) (hbody : fd.body = .stmts body) (hbind : BindsTo s fd ⟨vs, []⟩ binds)
    (hcell : ∀ x ∈ fd.scope.names, x.2 ≠ .cell) (hloc : ∀ x ∈ binds, fd.scope.names.lookup x.1 = some .local)
    (hco : fd.scope.isCoroutine = false) (hgen : fd.scope.isGenerator = false) (hk : fd.scope.kind = .function)
    (h : ∀ s₁ E', s₁.heap.Ns s.heap.objs.size (fun x => binds.reverse.lookup x) → Kps s s₁ →
      wpAny (model prog w) (A.deeper (callEnv fd s.heap.objs.size f)) (execs body (callEnv fd s.heap.objs.size f)) (fun fl s' => Q (match fl with | .ret v => v | _ => .none) s') E' s₁) :
    wpAny (model prog w) A (call (.ref f) vs) Q E s :=
  wpAny_call (codeAny_call_def hroom ho hdat hlim hcd hbody hbind hcell hloc (fun h₀ hn hk₀ => h _ _ hn (.of hk₀)) hco hgen hk)

/-- statements -/
theorem run_ret {e : Expr} {pos : Pos} {rest : List Stmt} {d : Dat} {Q : Flow → Shared → Prop} {E : Value → Shared → Prop} (h : Ev prog w A env ok s e d) (hQ : ∀ v s', Kps s s' → DS ok s'.heap v d → Q (.ret v) s') :
    wpAny (model prog w) A (execs (.Return (some e) pos :: rest) env) Q E s :=
  wpAny_execs_cons (wpAny_Return_some (h s (.refl s) _ E fun v s' k hv => hQ v s' k hv))
theorem run_assign {x : Str} {px pos : Pos} {e : Expr} {rest : List Stmt} {d : Dat} {m : Str → Option Value} {Q : Flow → Shared → Prop} {E : Value → Shared → Prop} (hn : s.heap.Ns env.locals m) (h : Ev prog w A env ok s e d) (hl : env.kindOf x = some .local) (hk : env.scope.kind = .function)
    (hs : swapsWith e (some (.Name x px)) pos.line env = pure false)
    (hQ : ∀ v h' tk, KB [env.locals] s.heap h' → h'.Ns env.locals (upd m x v) → DS ok h' v d → wpAny (model prog w) A (execs rest env) Q E { s with heap := h', toks := tk }) :
    wpAny (model prog w) A (execs (.Assign [.Name x px] e pos :: rest) env) Q E s :=
  wpAny_execs_cons (wpAny_Assign_Name (h s (.refl s) _ E fun v s1 k hv => by
    obtain ⟨h1, t1, rfl, k1⟩ := k
    refine wpAny_storeName_local hl (hn.keeps k1) (fun h' hn' hs' => ?_) (store_ok hk)
    have kb : KB [env.locals] s.heap h' := fun b o hb e => hs'.extBut b o (fun q => hb (q ▸ .head _)) (k1 b o e)
    have kb' : KB [env.locals] h1 h' := fun b o hb e => hs'.extBut b o (fun q => hb (q ▸ .head _)) e
    exact hQ v h' _ kb hn' (hv.up (kb_up kb' fun o ho => ns_notSeq (hn.keeps k1) ho))) hs)
theorem run_if {test : Expr} {body orelse rest : List Stmt} {pos : Pos} {b : Bool} {Q : Flow → Shared → Prop} {E : Value → Shared → Prop} (h : Tr prog w A env s test b)
    (hQ : ∀ s', Kps s s' → wpAny (model prog w) A (execs (if b then body else orelse) env) (fun f s' => match f with | .next => wpAny (model prog w) A (execs rest env) Q E s' | f => Q f s') E s') :
    wpAny (model prog w) A (execs (.If test body orelse pos :: rest) env) Q E s :=
  wpAny_execs_cons (wpAny_If (h s (.refl s) _ E fun s' k => by
    have := hQ s' k
    cases b <;> exact this))

/-- an iterated expression whose iterator is no list and no tuple -/
def SrcN (prog : Program) (w : World) (A : Around) (env : Env) (ok : Addr → Prop) (s₀ : Shared) (iter : Expr) (ds : List Dat) (p : Pat) : Prop := ∀ s, Kps s₀ s → ∀ (Q : Value → Shared → Prop) (E : Value → Shared → Prop),
  (∀ I wr St s₂, Kps s s₂ → (∀ b ∈ wr, s.heap.get? b = none) → Feed prog w A ok s₂.heap I wr ds p St → (∀ i h, St i h → ∀ b ∈ wr, ∀ o, h.get? b = some o → ¬ Obj.IsSeq o) → Q (.ref I) s₂) → wpAny (model prog w) A (eval iter env) (fun x s₁ => wpAny (model prog w) A (pyIter x) Q E s₁) E s
theorem SrcN.src {iter : Expr} {ds : List Dat} {p : Pat} (h : SrcN prog w A env ok s₀ iter ds p) : Src prog w A env ok s₀ iter ds p := fun s k Q E hQ => h s k Q E fun I wr St s₂ k2 hw F _ => hQ I wr St s₂ k2 hw F
theorem notSeq_fields {o : Obj} {vs : Array Value} (h : o.data = .fields vs) : ¬ Obj.IsSeq o := by
  rintro ⟨xs, n, e⟩
  rw [h] at e; cases e
theorem srcN_list {iter : Expr} {ds : List Dat} {p : Pat} (hh : A.handled = none) (h : Ev prog w A env ok s₀ iter (.list ds)) (hf : ∀ d ∈ ds, Fits p d) : SrcN prog w A env ok s₀ iter ds p := fun s k Q E hQ =>
  h s k _ E fun v s1 k1 h1 => by
    cases h1 with
    | @list l vs _ hok hl hr =>
    refine wpAny_pyIter_list hl ?_
    refine hQ _ _ _ _ (k1.trans (.ofH (.push _ _))) (fun b hb => ?_) (feed_list hh hok hl hr hf) ?_
    · obtain rfl := List.mem_singleton.mp hb
      exact none_of_kp k1.kp (none_size (Nat.le_refl _))
    · intro i h st b hb o e
      obtain rfl := List.mem_singleton.mp hb
      obtain ⟨o', e', _, hd⟩ := st
      rw [e] at e'; cases e'
      exact notSeq_fields hd
theorem srcN_rangeAt {s : Shared} {r : Addr} {a b : Int} {t u v : Tok} {x : Str} {Q : Value → Shared → Prop} {E : Value → Shared → Prop} (hh : A.handled = none) (hr : IsRange s.heap r a b 1 t u v) (hsm : Builtin.Range.small a b 1 = true)
    (hQ : ∀ I wr St s₂, Kps s s₂ → (∀ b ∈ wr, s.heap.get? b = none) → Feed prog w A ok s₂.heap I wr ((List.range (b - a).toNat).map fun (i : Nat) => Dat.int (a + i)) (.one x) St → (∀ i h, St i h → ∀ b ∈ wr, ∀ o, h.get? b = some o → ¬ Obj.IsSeq o) → Q (.ref I) s₂) :
    wpAny (model prog w) A (pyIter (.ref r)) Q E s := by
  refine wpAny_pyIter_range hr hsm ?_
  have e : Builtin.Range.rangeSize a b 1 = (((b - a).toNat : Nat) : Int) := by
    rw [rangeSize_one]; split <;> omega
  rw [e]
  refine hQ _ _ _ _ (.ofH (.push _ _)) (fun b hb => ?_) (feed_range hh) ?_
  · obtain rfl := List.mem_singleton.mp hb
    exact none_size (Nat.le_refl _)
  · intro i h st b hb o e
    obtain rfl := List.mem_singleton.mp hb
    rw [show h.get? s.heap.objs.size = _ from st] at e; cases e
    exact notSeq_fields rfl
theorem srcN_range1 {x : Str} {p pos : Pos} {e : Expr} {b : Int} {y : Str} (hh : A.handled = none) (hx : Has prog w A env s₀ x (.type "range")) (h : Ev prog w A env ok s₀ e (.int b)) (hsm : Builtin.Range.small 0 b 1 = true)
    (he : starEach [e] env = (false, eval e env) :: starEach [] env) : SrcN prog w A env ok s₀ (.Call (.Name x p) [e] [] pos) ((List.range b.toNat).map fun (i : Nat) => Dat.int i) (.one y) := fun s k Q E hQ => by
  refine Call_Name rfl (hx s k _ E p (PyProof.Rows.callWith_type1 ((evs_cons h evs_nil he) s k _ E pos fun vs s1 k1 h1 => ?_) he rfl))
  cases h1 with
  | cons h1 h2 =>
  cases h2
  cases h1
  refine call_range_1 ?_
  have kq : ∀ {o : Obj} {t : Nat}, Kps s1 { s1 with heap := s1.heap.push o, toks := t } := .of (.push _ _)
  refine srcN_rangeAt (x := y) (ok := ok) hh (IsRange.new ..) hsm fun I wr St s₂ k2 hw hF hns => hQ I wr St s₂ ((k1.trans kq).trans k2) (fun b hb => none_of_kp (k1.trans kq).kp (hw b hb)) ?_ hns
  simpa using hF
theorem srcN_range2 {x : Str} {p pos : Pos} {e f : Expr} {a b : Int} {y : Str} (hh : A.handled = none) (hx : Has prog w A env s₀ x (.type "range")) (h : Ev prog w A env ok s₀ e (.int a)) (h' : Ev prog w A env ok s₀ f (.int b)) (hsm : Builtin.Range.small a b 1 = true)
    (he : starEach [e, f] env = (false, eval e env) :: starEach [f] env) (he' : starEach [f] env = (false, eval f env) :: starEach [] env) : SrcN prog w A env ok s₀ (.Call (.Name x p) [e, f] [] pos) ((List.range (b - a).toNat).map fun (i : Nat) => Dat.int (a + i)) (.one y) := fun s k Q E hQ => by
  refine Call_Name rfl (hx s k _ E p (PyProof.Rows.callWith_type1 ((evs_cons h (evs_cons h' evs_nil he') he) s k _ E pos fun vs s1 k1 h1 => ?_) he (by rw [he']; rfl)))
  cases h1 with
  | cons h1 h2 =>
  cases h2 with
  | cons h2 h3 =>
  cases h3
  cases h1
  cases h2
  refine call_range_2 ?_
  have kq : ∀ {o : Obj} {t : Nat}, Kps s1 { s1 with heap := s1.heap.push o, toks := t } := .of (.push _ _)
  exact srcN_rangeAt hh (IsRange.new ..) hsm fun I wr St s₂ k2 hw hF hns => hQ I wr St s₂ ((k1.trans kq).trans k2) (fun b hb => none_of_kp (k1.trans kq).kp (hw b hb)) hF hns

theorem feed_wp {α : Type} {T : Sem α} {target : Expr} {H : Heap} {I : Addr} {wr : List Addr} {ds : List Dat} {p : Pat} {St : Nat → Heap → Prop} {s : Shared} {m : Str → Option Value} {i : Nat} {d : Dat} {Q : α → Shared → Prop} {E E' : Value → Shared → Prop} {N : Shared → Prop}
    (F : Feed prog w A ok H I wr ds p St) (hd : ds[i]? = some d) (ip : IsPat env target p) (hk : env.scope.kind = .function) (hCw : env.locals ∉ wr) (hLs : ∀ o, H.get? env.locals = some o → ¬ Obj.IsSeq o) (st : St i s.heap) (kw : KW ok wr env.locals H s.heap) (hn : s.heap.Ns env.locals m)
    (h : ∀ h' tk m', St (i + 1) h' → h'.Ns env.locals m' → Bound (okF ok wr H) p d h' m m' → KB (env.locals :: wr) s.heap h' → wpAny (model prog w) A T Q E' { s with heap := h', toks := tk }) :
    wpAny (model prog w) A (pyNext (.ref I)) (fun r s₁ => match r with
      | none => N s₁
      | some v => wpAny (model prog w) A (letOwnedTupleGo target (.ref I) v) (fun _ s₂ => wpAny (model prog w) A (assign target env v) (fun _ s₃ => wpAny (model prog w) A T Q E' s₃) E s₂) E s₁) E s := by
  refine wpAny_mono (F.step i d env target s m (fun _ s₂ => wpAny (model prog w) A T Q E' s₂) E hd ip hk hCw hLs st kw hn h) (fun r s1 hr => ?_) fun _ _ x => x
  cases r with
  | none => exact hr.elim
  | some v => exact hr

/-- a loop by an invariant over what it has taken -/
theorem run_for {target iter : Expr} {body rest : List Stmt} {pos : Pos} {ds : List Dat} {p : Pat} {m : Str → Option Value} {Q : Flow → Shared → Prop} {E : Value → Shared → Prop} (mu : List Addr) (Inv : List Dat → Heap → (Str → Option Value) → Prop)
    (hsrc : SrcN prog w A env ok s iter ds p) (hs : ∀ x, foldedSetIterable iter env x = pure x) (hk : env.scope.kind = .function) (ip : IsPat env target p) (hn : s.heap.Ns env.locals m)
    (hmu : ∀ b ∈ mu, (∃ o, s.heap.get? b = some o) ∧ ¬ ok b ∧ b ≠ env.locals) (hst : ∀ pre h h' m, Inv pre h m → SK h h' → Inv pre h' m) (h0 : Inv [] s.heap m)
    (turn : ∀ pre d post s' m₁ m₂, ds = pre ++ d :: post → (∃ h tk, s' = { s with heap := h, toks := tk }) → KB (env.locals :: mu) s.heap s'.heap → Inv pre s'.heap m₁ → s'.heap.Ns env.locals m₂ → Bound ok p d s'.heap m₁ m₂ →
      ∀ E', wpAny (model prog w) A (execs body env) (fun f s'' => match f with
        | .ret v => Q (.ret v) s''
        | .brk => False
        | _ => ∃ h'' tk m₃, s'' = { s' with heap := h'', toks := tk } ∧ KB (env.locals :: mu) s'.heap h'' ∧ h''.Ns env.locals m₃ ∧ Inv (pre ++ [d]) h'' m₃) E' s')
    (done : ∀ h' tk m', KB (env.locals :: mu) s.heap h' → h'.Ns env.locals m' → Inv ds h' m' → wpAny (model prog w) A (execs rest env) Q E { s with heap := h', toks := tk }) :
    wpAny (model prog w) A (execs (.For target iter body [] pos :: rest) env) Q E s := by
  refine wpAny_execs_cons (wpAny_For (hsrc s (.refl s) _ E fun I wr St s₂ k2 hw F hns => ?_) hs)
  have hLw : env.locals ∉ wr := fun q => by obtain ⟨o, es, ep, e, _⟩ := hn; rw [hw _ q] at e; cases e
  have hmw : ∀ b ∈ mu, b ∉ wr := fun b hb q => by obtain ⟨⟨o, e⟩, _⟩ := hmu b hb; rw [hw b q] at e; cases e
  have hn2 : s₂.heap.Ns env.locals m := hn.keeps k2.kp
  have hLs : ∀ o, s₂.heap.get? env.locals = some o → ¬ Obj.IsSeq o := fun o e => ns_notSeq hn2 e
  have st2 : s₂ = { s with heap := s₂.heap, toks := s₂.toks } := by obtain ⟨h, t, rfl, _⟩ := k2; rfl
  refine codeAny_forLoop_any
    (fun n s' => ∃ h' tk i m' a b, s' = { s with heap := h', toks := tk } ∧ ds = a ++ b ∧ a.length = i ∧ n = b.length + 1 ∧ St i h' ∧ KB (env.locals :: (mu ++ wr)) s₂.heap h' ∧ h'.Ns env.locals m' ∧ Inv a h' m')
    ?_ (ds.length + 1) ⟨s₂.heap, s₂.toks, 0, m, [], ds, st2, rfl, rfl, rfl, F.start, fun b o _ e => e, hn2, hst _ _ _ _ h0 k2.kp.sk⟩
  rintro n s' ⟨h', tk, i, m', a, b, rfl, hab, hai, rfl, st, kk, hn', hI⟩
  have kw : KW ok wr env.locals s₂.heap h' := fun b o hb hbw hbL e => kk b o (by
    simp only [List.mem_cons, List.mem_append]
    rintro (q | q | q)
    · exact hbL q
    · exact (hmu b q).2.1 hb
    · exact hbw q) e
  have kS : KB (env.locals :: mu) s.heap h' := fun b o hb e => kk b o (by
    simp only [List.mem_cons, List.mem_append]
    rintro (q | q | q)
    · exact hb (q ▸ .head _)
    · exact hb (.tail _ q)
    · rw [hw b q] at e; cases e) (k2.kp b o e)
  cases b with
  | nil =>
    rw [List.append_nil] at hab
    subst hab
    refine F.done env.locals _ _ _ hLw hLs (by rw [hai]; exact st) kw fun h1 tk1 k1 => wpAny_execs_nil ?_
    have k1s : SK h' h1 := sk_of_kb k1 fun b hb o e => hns _ _ st b hb o e
    refine done h1 tk1 m' (fun b o hb e => k1 b o (fun q => by rw [hw b q] at e; cases e) (kS b o hb e)) (hn'.at' fun o e => k1 _ o hLw e) (hst _ _ _ _ hI k1s)
  | cons d b =>
    have hd : ds[i]? = some d := by subst hai; rw [hab]; simp
    refine feed_wp F hd ip hk hLw hLs st kw hn' fun h1 tk1 m1 st1 hn1 bd k1 => ?_
    have k1s : SK h' h1 := sk_of_kb k1 fun b hb o e => by
      rcases List.mem_cons.mp hb with rfl | hb
      · exact ns_notSeq hn' e
      · exact hns _ _ st b hb o e
    have kS1 : KB (env.locals :: mu) s.heap h1 := fun b o hb e => k1 b o (by
      rintro q
      rcases List.mem_cons.mp q with q | q
      · exact hb (q ▸ .head _)
      · rw [hw b q] at e; cases e) (kS b o hb e)
    have kk1 : KB (env.locals :: (mu ++ wr)) s₂.heap h1 := kk.trans (k1.weak fun p hp => by
      rcases List.mem_cons.mp hp with rfl | hp
      · exact .head _
      · exact .tail _ (List.mem_append.mpr (.inr hp)))
    refine wpAny_mono (turn a d b _ m' m1 hab ⟨h1, tk1, rfl⟩ kS1 (hst _ _ _ _ hI k1s) hn1 (bd.up fun b o hb e _ => ⟨hb.1, e⟩) _) (fun f s3 h3 => ?_) fun _ _ x => x
    have next : (∃ h'' tk m₃, s3 = { ({ s with heap := h1, toks := tk1 } : Shared) with heap := h'', toks := tk } ∧ KB (env.locals :: mu) h1 h'' ∧ h''.Ns env.locals m₃ ∧ Inv (a ++ [d]) h'' m₃) →
        ∃ m_1, m_1 < (d :: b).length + 1 ∧ ∃ h' tk i m' a b, s3 = { s with heap := h', toks := tk } ∧ ds = a ++ b ∧ a.length = i ∧ m_1 = b.length + 1 ∧ St i h' ∧ KB (env.locals :: (mu ++ wr)) s₂.heap h' ∧ h'.Ns env.locals m' ∧ Inv a h' m' := by
      rintro ⟨h2, tk2, m3, rfl, k2', hn3, hI3⟩
      refine ⟨b.length + 1, by simp, h2, tk2, i + 1, m3, a ++ [d], b, rfl, by rw [hab]; simp, by simp [hai], rfl, F.frame _ _ _ st1 fun c hc o e => k2' c o ?_ e, kk1.trans (k2'.weak fun p hp => ?_), hn3, hI3⟩
      · rintro q
        rcases List.mem_cons.mp q with q | q
        · exact hLw (q ▸ hc)
        · exact hmw c q hc
      · rcases List.mem_cons.mp hp with rfl | hp
        · exact .head _
        · exact .tail _ (List.mem_append.mpr (.inl hp))
    cases f with
    | next => exact next h3
    | cont => exact next h3
    | brk => exact h3.elim
    | ret v => exact h3
end
end Mine

/-! C1 -/
namespace Mine
abbrev Jb := Int × Int × Int
def jobD (j : Jb) : Dat := .tuple [.int j.1, .int j.2.1, .int j.2.2]
def jobsD (js : List Jb) : Dat := .list (js.map jobD)

/-- the contract of a def -/
def Con (P : Params) (f : Addr) (dn un : Nat) (ds : List Dat) (d : Dat) : Prop := ∀ {prog : Program} {w : World} {p : Program} {loose : List Str} {mg mb : Str → Option Value} {A : Around} {ok : Addr → Prop} {s₀ : Shared},
  Gr (Mine.hd.heap_39 P) p loose mg mb s₀.heap → Free ok s₀.heap → A.handled = none → A.depth + dn < recursionLimit → A.units + un < cLine → Cal prog w A ok s₀ (.ref f) ds d

def jobOf (n : Int) : Jb := (1 + n.fmod 6, 1 + (n.fdiv 6).fmod 5, 1 + (n.fdiv 30).fmod 15)

theorem op_fdiv {prog : Program} {w : World} {A : Around} {ok : Addr → Prop} {s₀ : Shared} {a b : Int} (hb : b ≠ 0) (hs : b.natAbs < 1073741824) : Op2 prog w A ok s₀ (binaryOp .FloorDiv) (.int a) (.int b) (.int (a.fdiv b)) := fun s _ v u hv hu Q E hQ => by
  cases hv; cases hu
  exact PyProof.Rows.floordiv_int hb (hQ _ _ .ofT (.int _ _)) (.inl (PyProof.noPylong_small hs))

set_option maxHeartbeats 4000000 in
theorem con_job (P : Params) (n : Int) : Con P 76 5 50 [.int n] (jobD (jobOf n)) := by
  intro prog w p loose mg mb A ok s₀ G fr hh hd hu s k vs hv Q E hQ
  have Gs := G.kp k.kp
  cases hv with
  | cons hv h2 =>
  cases h2
  refine call_def (by omega) (Gs.X _ _ rfl) rfl Gs.T.nolimit (codeRec_of Gs.X rfl) rfl (BindsTo.of_eq rfl) (by decide) (locs rfl) rfl rfl rfl ?_
  intro s₁ E' hn hk
  have hv0 := hv.kp hk.kp
  have fr0 : Free ok s₁.heap := (fr.kp k.kp).kp hk.kp
  refine run_ret (ok := ok) (d := jobD (jobOf n)) ?_ fun v s' k' h' => hQ v s' (hk.trans k') h'
  refine ev_tuple fr0 (evs_cons (ev_bin ev_int (ev_bin (ev_name (has_local rfl rfl hn rfl (by decide)) hv0) ev_int (op_mod (by decide))) op_add) (evs_cons (ev_bin ev_int (ev_bin (ev_bin (ev_name (has_local rfl rfl hn rfl (by decide)) hv0) ev_int (op_fdiv (by decide) (by decide))) ev_int (op_mod (by decide))) op_add) (evs_cons (ev_bin ev_int (ev_bin (ev_bin (ev_name (has_local rfl rfl hn rfl (by decide)) hv0) ev_int (op_fdiv (by decide) (by decide))) ev_int (op_mod (by decide))) op_add) evs_nil rfl) rfl) rfl) (by rw [sizeLine_eq]; simp)
end Mine

/-! Own -/
namespace Mine
section
variable {prog : Program} {w : World} {A : Around} {env : Env} {ok ok' : Addr → Prop} {s s₀ : Shared}

theorem run_newlist {x : Str} {px lpos pos : Pos} {es : List Expr} {rest : List Stmt} {ds : List Dat} {m : Str → Option Value} {Q : Flow → Shared → Prop} {E : Value → Shared → Prop} (fr : Free ok s.heap) (hn : s.heap.Ns env.locals m) (h : Evs prog w A env ok s es ds) (hsz : ds.length ≤ sizeLine) (hl : env.kindOf x = some .local) (hk : env.scope.kind = .function)
    (hs : swapsWith (.List es lpos) (some (.Name x px)) pos.line env = pure false)
    (hQ : ∀ a vs h' tk, s.heap.get? a = none → KB [env.locals] s.heap h' → h'.Ns env.locals (upd m x (.ref a)) → h'.PlainList a vs.toArray → DSs (fun b => ok b ∧ b ≠ a) h' vs ds → a ≠ env.locals → ok a → wpAny (model prog w) A (execs rest env) Q E { s with heap := h', toks := tk }) :
    wpAny (model prog w) A (execs (.Assign [.Name x px] (.List es lpos) pos :: rest) env) Q E s :=
  wpAny_execs_cons (wpAny_Assign_Name (List_ (h s (.refl s) _ E lpos fun vs s1 k hv => by
    obtain ⟨h1, t1, rfl, k1⟩ := k
    refine wpAny_newList ?_ (by rw [hv.length]; exact hsz)
    have hn1 : h1.Ns env.locals m := hn.keeps k1
    have hn2 : (h1.push { cls := .type "list", data := .seq vs.toArray }).Ns env.locals m := hn1.push _
    have hLa : h1.objs.size ≠ env.locals := Nat.ne_of_gt hn1.lt
    refine wpAny_storeName_local hl hn2 (fun h' hn' hs' => ?_) (store_ok hk)
    have kb2 : KB [env.locals] h1 h' := fun b o hb e => hs'.extBut b o (fun q => hb (q ▸ .head _)) (Heap.get?_push_of_some _ e)
    refine hQ h1.objs.size vs h' _ (none_of_kp k1 (none_size (Nat.le_refl _))) (fun b o hb e => kb2 b o hb (k1 b o e)) hn' ⟨_, hs'.extBut _ _ hLa (Heap.get?_push_size _ rfl)⟩ ?_ hLa ((fr.kp k1).size)
    exact hv.up fun b o hb e hs => ⟨⟨hb, Nat.ne_of_lt (Heap.lt_size e)⟩, kb2 b o (fun q => by rw [List.mem_singleton.mp q] at e; exact ns_notSeq hn1 e hs) e⟩)) hs)

theorem meth_list {a : Addr} {items : Array Value} {name : Str} {id : String} {pl : Sem Bool} {Q : Value × List Value → Shared → Prop} {E : Value → Shared → Prop} (hp : s.heap.PlainList a items) (slot : Slot "list" name id) (hty : typeOf (.builtin id) = pure (.type "method_descriptor"))
    (h : Q (.builtin id, [.ref a]) s) : wpAny (model prog w) A (getMethod (.ref a) name pl) Q E s := by
  obtain ⟨n, e⟩ := hp
  exact getMethod_builtin ⟨_, e, rfl⟩ PySem.F.plainAttrs_list slot hty (fun a e' => by cases e'; exact ⟨_, e, rfl⟩) h

/-- x.m(arg) for a list method that gives None -/
theorem run_meth {x name : Str} {id : String} {xp apos cpos epos : Pos} {arg : Expr} {rest : List Stmt} {pl : Sem Bool} {a : Addr} {vs : List Value} {d : Dat} {Q : Flow → Shared → Prop} {E : Value → Shared → Prop} (slot : Slot "list" name id) (hty : typeOf (.builtin id) = pure (.type "method_descriptor"))
    (hx : Has prog w A env s x (.ref a)) (hp : s.heap.PlainList a vs.toArray) (harg : Ev prog w A env ok s arg d) (hi : interactive env = false) (hsw : swapsWith (.Call (.Attribute (.Name x xp) name apos) [arg] [] cpos) none epos.line env = pure false)
    (he : starEach [arg] env = (false, eval arg env) :: starEach [] env)
    (hc : eval (.Call (.Attribute (.Name x xp) name apos) [arg] [] cpos) env = (do
      let ov ← eval (.Name x xp) env
      standAt apos.atName
      let (f, first) ← holding [ov] (getMethod ov name pl)
      callWith cpos f first (backTo cpos (starEach [arg] env)) []))
    (hQ : ∀ v s', Kps s s' → s'.heap.PlainList a vs.toArray → DS ok s'.heap v d → ∀ E', wpAny (model prog w) A (call (.builtin id) [.ref a, v]) (fun r s2 => r = .none ∧ wpAny (model prog w) A (execs rest env) Q E s2) E' s') :
    wpAny (model prog w) A (execs (.Expr (.Call (.Attribute (.Name x xp) name apos) [arg] [] cpos) epos :: rest) env) Q E s := by
  refine wpAny_execs_cons (wpAny_Expr (MethodCall_ (hx s (.refl s) _ E xp (meth_list hp slot hty (callWith_method1 ((evs_cons harg evs_nil he) s (.refl s) _ E cpos fun us s1 k1 h1 => ?_) he rfl))) hc) hi hsw)
  cases h1 with
  | cons h1 h2 =>
  cases h2
  refine wpAny_mono (hQ _ s1 k1 (hp.at fun o e => k1.kp _ o e) h1 E) (fun r s2 hr => ?_) fun _ _ x => x
  obtain ⟨rfl, h⟩ := hr
  exact h
theorem run_append {x : Str} {xp apos cpos epos : Pos} {arg : Expr} {rest : List Stmt} {pl : Sem Bool} {a : Addr} {vs : List Value} {d : Dat} {Q : Flow → Shared → Prop} {E : Value → Shared → Prop}
    (hx : Has prog w A env s x (.ref a)) (hp : s.heap.PlainList a vs.toArray) (harg : Ev prog w A env ok s arg d) (hi : interactive env = false) (hsw : swapsWith (.Call (.Attribute (.Name x xp) "append" apos) [arg] [] cpos) none epos.line env = pure false)
    (he : starEach [arg] env = (false, eval arg env) :: starEach [] env)
    (hc : eval (.Call (.Attribute (.Name x xp) "append" apos) [arg] [] cpos) env = (do
      let ov ← eval (.Name x xp) env
      standAt apos.atName
      let (f, first) ← holding [ov] (getMethod ov "append" pl)
      callWith cpos f first (backTo cpos (starEach [arg] env)) []))
    (hsz : vs.length ≤ sizeLine) (hok : ¬ ok' a) (hcv : ∀ h v, DS ok h v d → DS ok' h v d)
    (hQ : ∀ v h' tk, KB [a] s.heap h' → h'.PlainList a (vs ++ [v]).toArray → DS ok' h' v d → wpAny (model prog w) A (execs rest env) Q E { s with heap := h', toks := tk }) :
    wpAny (model prog w) A (execs (.Expr (.Call (.Attribute (.Name x xp) "append" apos) [arg] [] cpos) epos :: rest) env) Q E s := by
  refine run_meth PySem.F.slot_list_append PySem.F.type_list_append hx hp harg hi hsw he hc fun v s' k hp' hv E' => ?_
  obtain ⟨h1, t1, rfl, k1⟩ := k
  refine wpAny_list_append_plain hp' (fun h2 hp2 hs2 => ⟨rfl, ?_⟩) (by simpa using hsz)
  have kb : KB [a] h1 h2 := fun b o hb e => hs2.extBut b o (fun q => hb (q ▸ .head _)) e
  refine hQ v h2 t1 (fun b o hb e => kb b o hb (k1 b o e)) (by simpa using hp2) ((hcv _ _ hv).up fun b o hb e _ => ⟨hb, kb b o (fun q => hok (List.mem_singleton.mp q ▸ hb)) e⟩)
end

def endsL (t : Int) : List Jb → List Int
  | [] => []
  | j :: r => (t + j.1) :: endsL (t + j.1) r
theorem endsL_snoc (j : Jb) : ∀ (js : List Jb) (t : Int), endsL t (js ++ [j]) = endsL t js ++ [((t :: endsL t js).getLast (by simp)) + j.1]
  | [], t => by simp [endsL]
  | i :: r, t => by
    rw [List.cons_append, endsL, endsL_snoc j r, endsL]
    simp [List.getLast_cons]
theorem map_split {α β : Type} {f : α → β} {l : List α} {a : List β} {d : β} {b : List β} (h : l.map f = a ++ d :: b) : ∃ l1 x l2, l = l1 ++ x :: l2 ∧ a = l1.map f ∧ d = f x ∧ b = l2.map f := by
  obtain ⟨l1, l2, rfl, rfl, h2⟩ := List.map_eq_append_iff.mp h
  obtain ⟨x, l3, rfl, rfl, rfl⟩ := List.map_eq_cons_iff.mp h2
  exact ⟨l1, x, l3, rfl, rfl, rfl, rfl⟩
end Mine

/-! C2 -/
namespace Mine

theorem jobD_inj {i j : Jb} (h : jobD i = jobD j) : i = j := by
  obtain ⟨a, b, c⟩ := i
  obtain ⟨a', b', c'⟩ := j
  simpa [jobD] using h
theorem endsL_length : ∀ (js : List Jb) (t : Int), (endsL t js).length = js.length
  | [], _ => rfl
  | j :: r, t => by simp [endsL, endsL_length r]

set_option maxHeartbeats 4000000 in
theorem con_ends (P : Params) (js : List Jb) (hlen : js.length ≤ 5) : Con P 88 5 50 [jobsD js] (.list ((endsL 0 js).map Dat.int)) := by
  intro prog w p loose mg mb A ok s₀ G fr hh hd hu s k vs hv Q E hQ
  have Gs := G.kp k.kp
  cases hv with
  | cons hv h2 =>
  cases h2
  refine call_def (by omega) (Gs.X _ _ rfl) rfl Gs.T.nolimit (codeRec_of Gs.X rfl) rfl (BindsTo.of_eq rfl) (by decide) (locs rfl) rfl rfl rfl ?_
  intro s₁ E' hn hk
  have hv0 := hv.kp hk.kp
  have fr0 : Free ok s₁.heap := (fr.kp k.kp).kp hk.kp
  refine run_newlist fr0 hn (evs_cons ev_int evs_nil rfl) (by rw [sizeLine_eq]; simp) rfl rfl rfl fun a vs0 h1 t1 ha0 k1 n1 p1 d1 haL hoka => ?_
  have up1 : Up ok (fun b => ok b ∧ b ≠ a) s₁.heap h1 := fun b o hb e hs => ⟨⟨hb, fun q => by rw [q, ha0] at e; cases e⟩, k1 b o (fun q => by rw [List.mem_singleton.mp q] at e; exact ns_notSeq hn e hs) e⟩
  have hv1 := hv0.up up1
  refine run_for (ok := fun b => ok b ∧ b ≠ a) (ds := js.map jobD) (p := .many [Str.ofString "time", Str.ofString "worth", Str.ofString "due"]) [a]
    (fun pre h m => ∃ jp vs, pre = jp.map jobD ∧ m (Str.ofString "found") = some (.ref a) ∧ h.PlainList a vs.toArray ∧ DSs (fun b => ok b ∧ b ≠ a) h vs ((0 :: endsL 0 jp).map Dat.int))
    (srcN_list hh (ev_name (has_local rfl rfl n1 rfl (by decide)) hv1) ?fits) (fun _ => rfl) rfl (.many (.cons rfl (.cons rfl (.cons rfl .nil)))) n1 ?mu ?st ?h0 ?turn ?done
  case fits =>
    intro d hd
    obtain ⟨j, _, rfl⟩ := List.mem_map.mp hd
    exact ⟨_, rfl, rfl⟩
  case mu =>
    intro b hb
    obtain rfl := List.mem_singleton.mp hb
    obtain ⟨n, e⟩ := p1
    exact ⟨⟨_, e⟩, fun q => q.2 rfl, haL⟩
  case st =>
    rintro pre h h' m ⟨jp, vs, h1, h2, ⟨n, h3⟩, h4⟩ sk
    exact ⟨jp, vs, h1, h2, ⟨n, sk _ _ h3 ⟨_, _, rfl⟩⟩, h4.up sk.up⟩
  case h0 => exact ⟨[], vs0, rfl, rfl, p1, by simpa [endsL] using d1⟩
  case turn =>
    rintro pre d post s' m₁ m₂ hds ⟨h', tk', rfl⟩ kb ⟨jp, vs, rfl, hf, hp, hr⟩ hn2 bd E2
    obtain ⟨l1, j, l2, rfl, e1, rfl, e2⟩ := map_split hds
    obtain ⟨ws, ds', e3, hws, _, rfl⟩ := bd
    simp only [jobD, Dat.tuple.injEq] at e3
    subst e3
    cases hws with
    | cons w1 hws =>
    cases hws with
    | cons w2 hws =>
    cases hws with
    | cons w3 hws =>
    cases hws
    have hfd : DS ok h' (.ref a) (.list ((0 :: endsL 0 jp).map Dat.int)) := .list hoka hp.isList (hr.up fun b o hb e _ => ⟨hb.1, e⟩)
    have hj : jp = l1 := by
      have := e1
      exact (List.map_inj_right (fun a b h => jobD_inj h)).mp this
    subst hj
    have hlast : (0 :: endsL 0 jp).map Dat.int = ((0 :: endsL 0 jp).map Dat.int).dropLast ++ [Dat.int ((0 :: endsL 0 jp).getLast (by simp))] := by
      rw [← List.map_dropLast]
      conv => lhs; rw [← List.dropLast_concat_getLast (l := 0 :: endsL 0 jp) (by simp)]
      rw [List.map_append]; rfl
    rw [hlast] at hfd
    refine run_append (ok := ok) (ok' := fun b => ok b ∧ b ≠ a) (d := .int ((0 :: endsL 0 jp).getLast (by simp) + j.1)) (has_local rfl rfl hn2 hf (by decide)) hp
      (ev_bin (ev_last (ev_name (has_local rfl rfl hn2 hf (by decide)) hfd) (ev_neg ev_int) (fun _ _ => rfl)) (ev_name (has_local rfl rfl hn2 rfl (by decide)) (w1.up fun b o hb e _ => ⟨hb.1, e⟩)) op_add)
      rfl rfl rfl rfl ?_ (fun q => q.2 rfl) (fun h v hv => by cases hv; exact .int _ _) fun v h2 tk2 kb2 hp2 hv2 => wpAny_execs_nil ?_
    · have := hr.length
      simp [endsL_length] at this hlen
      rw [sizeLine_eq]
      omega
    · have hnL : h2.Ns _ _ := hn2.at' fun o e => kb2 _ o (fun q => haL (List.mem_singleton.mp q).symm) e
      refine ⟨h2, tk2, _, rfl, kb2.weak fun p hp => .tail _ hp, hnL, jp ++ [j], vs ++ [v], by simp, hf, hp2, ?_⟩
      rw [endsL_snoc]
      have hr2 := hr.up (ok' := fun b => ok b ∧ b ≠ a) (h' := h2) fun b o hb e _ => ⟨hb, kb2 b o (fun q => hb.2 (List.mem_singleton.mp q)) e⟩
      have := hr2.append (.cons hv2 .nil)
      simpa using this
  case done =>
    rintro h' tk' m' kb hn' ⟨jp, vs, e1, hf, hp, hr⟩
    have hj : jp = js := ((List.map_inj_right (fun a b h => jobD_inj h)).mp e1).symm
    subst hj
    have kall : Kps s { ({ s₁ with heap := h1, toks := t1 } : Shared) with heap := h', toks := tk' } := by
      refine ⟨h', tk', by obtain ⟨x, y, rfl, _⟩ := hk; rfl, fun b o e => ?_⟩
      have e1 := hk.kp b o e
      have hbL : b ≠ s.heap.objs.size := Nat.ne_of_lt (Heap.lt_size e)
      refine kb b o ?_ (k1 b o (fun q => hbL (List.mem_singleton.mp q)) e1)
      intro q
      simp only [List.mem_cons, List.not_mem_nil, or_false] at q
      rcases q with q | q
      · exact hbL q
      · rw [q, ha0] at e1; cases e1
    refine run_ret (ok := ok) (d := .list ((endsL 0 jp).map Dat.int)) ?_ fun v s' k' h' => hQ v s' (kall.trans k') h'
    have hfd : DS ok h' (.ref a) (.list ((0 :: endsL 0 jp).map Dat.int)) := .list hoka hp.isList (hr.up fun b o hb e _ => ⟨hb.1, e⟩)
    have fr2 : Free ok h' := (fr.kp k.kp).kp kall.kp
    have e2 : (endsL 0 jp).map Dat.int = ((0 :: endsL 0 jp).map Dat.int).drop 1 := rfl
    rw [e2]
    exact ev_from fr2 (ev_name (has_local rfl rfl hn' hf (by decide)) hfd) ev_int (by rw [sizeLine_eq]; simp [endsL_length]; omega) (fun _ _ => rfl)
end Mine

/-! C3 -/
namespace Mine
section
variable {prog : Program} {w : World} {A : Around} {env : Env} {ok : Addr → Prop} {s s₀ : Shared}

theorem ints_of {h : Heap} : ∀ {ns : List Int} {vs : List Value}, DSs ok h vs (ns.map Dat.int) → IntsAre vs ns
  | [], _, h => by cases h; exact .nil
  | n :: r, _, h => by
    cases h with
    | cons h1 h2 =>
    cases h1
    exact .cons _ _ (ints_of h2)

theorem cal_sum {ns : List Int} (hh : A.handled = none) : Cal prog w A ok s₀ (.builtin "sum") [.list (ns.map Dat.int)] (.int ns.sum) := fun s k vs hv Q E hQ => by
  cases hv with
  | cons hv h2 =>
  cases h2
  cases hv with
  | @list l us _ ha hl hr =>
  have hi := ints_of hr
  obtain ⟨xs, hx⟩ := hi.allInts.items
  have hl' : s.heap.IsList l (intItems xs) := hx ▸ hl
  refine sum_intListG hh hl' fun h' tk t' hk => ?_
  have e1 : ns = xs.toList.map (·.1) := by
    rw [← nums_intItems, ← hx]
    exact (show numsOf us.toArray.toList = ns from hi.numsOf).symm
  have e2 : preSum (numAt xs) xs.size = ns.sum := by
    rw [preSum_eq, List.take_of_length_le (by simp), e1]
  rw [e2]
  exact hQ _ _ (.of hk) (.int _ _)
theorem cal_min {ns : List Int} {M : Int} (hh : A.handled = none) (hM : M ∈ ns) (hmin : ∀ a ∈ ns, M ≤ a) : Cal prog w A ok s₀ (.builtin "min") [.list (ns.map Dat.int)] (.int M) := fun s k vs hv Q E hQ => by
  cases hv with
  | cons hv h2 =>
  cases h2
  cases hv with
  | @list l us _ ha hl hr =>
  have hi := ints_of hr
  obtain ⟨xs, e⟩ := hi.allInts.items
  have hns : ns = xs.toList.map (·.1) := by
    rw [← hi.numsOf, ← nums_intItems, ← e]
  have hne : 0 < ns.length := List.length_pos_of_mem hM
  have hsz : 0 < xs.size := by
    have h3 := hne; rw [hns, List.length_map, Array.length_toList] at h3; exact h3
  rw [e] at hl
  refine min_intList hh hl hsz fun v h' tk hv hk => ?_
  obtain ⟨t, rfl⟩ := intItems_at hv
  obtain ⟨h1, h2⟩ := argBest_lt (numAt xs) (xs.size - 1)
  have m1 : numAt xs (argBest (fun i j => decide (numAt xs i < numAt xs j)) (xs.size - 1)) ∈ ns := by
    rw [hns, numAt_eq]; exact getD_mem (by rw [List.length_map, Array.length_toList]; omega)
  have m2 : numAt xs (argBest (fun i j => decide (numAt xs i < numAt xs j)) (xs.size - 1)) ≤ M := by
    have hM' := hM
    rw [hns] at hM'
    obtain ⟨j, hj, rfl⟩ := mem_getD hM'
    rw [List.length_map, Array.length_toList] at hj
    rw [← numAt_eq]; exact h2 j (by omega)
  have e3 := Int.le_antisymm m2 (hmin _ m1)
  rw [e3]
  exact hQ _ _ (.of hk) (.int _ _)
theorem cal_max {ns : List Int} {M : Int} (hh : A.handled = none) (hM : M ∈ ns) (hmax : ∀ a ∈ ns, a ≤ M) : Cal prog w A ok s₀ (.builtin "max") [.list (ns.map Dat.int)] (.int M) := fun s k vs hv Q E hQ => by
  cases hv with
  | cons hv h2 =>
  cases h2
  cases hv with
  | @list l us _ ha hl hr =>
  have hi := ints_of hr
  obtain ⟨xs, e⟩ := hi.allInts.items
  have hns : ns = xs.toList.map (·.1) := by
    rw [← hi.numsOf, ← nums_intItems, ← e]
  have hne : 0 < ns.length := List.length_pos_of_mem hM
  have hsz : 0 < xs.size := by
    have h3 := hne; rw [hns, List.length_map, Array.length_toList] at h3; exact h3
  rw [e] at hl
  refine max_intList hh hl hsz fun v h' tk hv hk => ?_
  obtain ⟨t, rfl⟩ := intItems_at hv
  obtain ⟨h1, h2⟩ := argBest_gt (numAt xs) (xs.size - 1)
  have m1 : numAt xs (argBest (fun i j => decide (numAt xs i > numAt xs j)) (xs.size - 1)) ∈ ns := by
    rw [hns, numAt_eq]; exact getD_mem (by rw [List.length_map, Array.length_toList]; omega)
  have m2 : M ≤ numAt xs (argBest (fun i j => decide (numAt xs i > numAt xs j)) (xs.size - 1)) := by
    have hM' := hM
    rw [hns] at hM'
    obtain ⟨j, hj, rfl⟩ := mem_getD hM'
    rw [List.length_map, Array.length_toList] at hj
    rw [← numAt_eq]; exact h2 j (by omega)
  have e3 := Int.le_antisymm (hmax _ m1) m2
  rw [e3]
  exact hQ _ _ (.of hk) (.int _ _)
theorem cal_list {ds : List Dat} (fr : Free ok s₀.heap) (hsz : ds.length ≤ sizeLine) : Cal prog w A ok s₀ (.type "list") [.list ds] (.list ds) := fun s k vs hv Q E hQ => by
  cases hv with
  | cons hv h2 =>
  cases h2
  cases hv with
  | @list l us _ ha hl hr =>
  obtain ⟨o, ho, hc, n, hd⟩ := id hl
  refine call_list_seq l (.inl rfl) ho hc hd (fun h' c' hk hn => ?_) (by simp [hr.length]; exact hsz)
  exact hQ _ _ (.ofH hk) (.list (fr.kp k.kp).size ⟨_, hn, rfl, _, rfl⟩ (hr.kp hk))
end
end Mine

/-! C4 -/
namespace Mine

structure JOk (j : Jb) : Prop where
  t : 1 ≤ j.1 ∧ j.1 ≤ 6
  w : 1 ≤ j.2.1 ∧ j.2.1 ≤ 5
  d : 1 ≤ j.2.2 ∧ j.2.2 ≤ 15
structure JsOk (js : List Jb) : Prop where
  len : js.length ≤ 5
  ok : ∀ j ∈ js, JOk j
theorem small_len {n : Nat} (h : n ≤ 5) : n ≤ sizeLine := by rw [sizeLine_eq]; omega

def lateL (t : Int) : List Jb → List Int
  | [] => []
  | j :: r => (t + j.1 - j.2.2) :: lateL (t + j.1) r
def costsL (t : Int) : List Jb → List Int
  | [] => []
  | j :: r => (j.2.1 * (t + j.1)) :: costsL (t + j.1) r
def gLate : Dat → Dat
  | .tuple [.tuple [_, _, .int c], .int e] => .int (e - c)
  | d => d
def gCost : Dat → Dat
  | .tuple [.tuple [_, .int b, _], .int e] => .int (b * e)
  | d => d
def zipD (t : Int) (js : List Jb) : List Dat := ((js.map jobD).zip ((endsL t js).map Dat.int)).map fun q => Dat.tuple [q.1, q.2]
theorem zipD_cons (t : Int) (j : Jb) (r : List Jb) : zipD t (j :: r) = .tuple [jobD j, .int (t + j.1)] :: zipD (t + j.1) r := rfl
theorem zipD_mem : ∀ {js : List Jb} {t : Int} {d : Dat}, d ∈ zipD t js → ∃ j e, j ∈ js ∧ d = .tuple [jobD j, .int e]
  | [], t, d, h => by simp [zipD, endsL] at h
  | j :: r, t, d, h => by
    rw [zipD_cons] at h
    rcases List.mem_cons.mp h with rfl | h
    · exact ⟨j, _, .head _, rfl⟩
    · obtain ⟨i, e, hi, rfl⟩ := zipD_mem h
      exact ⟨i, e, .tail _ hi, rfl⟩
theorem zipD_len : ∀ (js : List Jb) (t : Int), (zipD t js).length = js.length
  | [], _ => rfl
  | j :: r, t => by rw [zipD_cons]; simp [zipD_len r]
theorem zip_late : ∀ (js : List Jb) (t : Int), ((zipD t js).filter fun _ => true).map gLate = (lateL t js).map Dat.int
  | [], _ => rfl
  | j :: r, t => by
    rw [zipD_cons, lateL, List.filter_cons_of_pos rfl, List.map_cons, List.map_cons, zip_late r]
    rfl
theorem zip_cost : ∀ (js : List Jb) (t : Int), ((zipD t js).filter fun _ => true).map gCost = (costsL t js).map Dat.int
  | [], _ => rfl
  | j :: r, t => by
    rw [zipD_cons, costsL, List.filter_cons_of_pos rfl, List.map_cons, List.map_cons, zip_cost r]
    rfl

set_option maxHeartbeats 4000000 in
theorem con_late (P : Params) (js : List Jb) (hj : JsOk js) : Con P 98 8 100 [jobsD js] (.list ((lateL 0 js).map Dat.int)) := by
  intro prog w p loose mg mb A ok s₀ G fr hh hd hu s k vs hv Q E hQ
  have Gs := G.kp k.kp
  cases hv with
  | cons hv h2 =>
  cases h2
  refine call_def (by omega) (Gs.X _ _ rfl) rfl Gs.T.nolimit (codeRec_of Gs.X rfl) rfl (BindsTo.of_eq rfl) (by decide) (locs rfl) rfl rfl rfl ?_
  intro s₁ E' hn hk
  have hv0 := hv.kp hk.kp
  have fr0 : Free ok s₁.heap := (fr.kp k.kp).kp hk.kp
  have G1 := Gs.kp hk.kp
  refine run_ret (ok := ok) (d := .list ((lateL 0 js).map Dat.int)) ?_ fun v s' k' h' => hQ v s' (hk.trans k') h'
  rw [← zip_late]
  refine ev_comp1 (p := .many [Str.ofString "job", Str.ofString "end"]) (fun _ => true) gLate fr0
    (src_zip hh fr0 (has_builtin G1 rfl rfl (by decide) rfl rfl rfl rfl (by decide)) (ev_name (has_local rfl rfl hn rfl (by decide)) hv0)
      (ev_call (has_global G1 rfl rfl rfl rfl (by decide)) (.func (G1.X _ _ rfl) rfl) (evs_cons (ev_name (has_local rfl rfl hn rfl (by decide)) hv0) evs_nil rfl) (con_ends P js hj.len G1 fr0 hh (by show A.depth + 1 + 5 < _; omega) (by show A.units + 3 + 50 < _; omega)) rfl rfl) rfl rfl)
    (fun _ => rfl) rfl (by decide) rfl (by decide) (fun C => .many (.cons rfl (.cons rfl .nil))) (by rw [zipD_len]; exact small_len hj.len) (fun d s₁ ok₁ C m₀ m hd nx hn bd => .inl ⟨rfl, rfl⟩) ?_
  intro d s₂ ok₁ C m₀ m hd _ nx hn2 bd
  obtain ⟨j, e, hjm, rfl⟩ := zipD_mem hd
  obtain ⟨ws, ds', e3, hws, _, rfl⟩ := bd
  simp only [Dat.tuple.injEq] at e3
  subst e3
  cases hws with
  | cons w1 hws =>
  cases hws with
  | cons w2 hws =>
  cases hws
  exact ev_bin (ev_name (has_local rfl rfl hn2 rfl (by decide)) w2) (ev_itemT (ds := [.int j.1, .int j.2.1, .int j.2.2]) (ev_name (has_local rfl rfl hn2 rfl (by decide)) w1) ev_int (by decide) (by decide) rfl (fun _ _ => rfl)) op_sub

set_option maxHeartbeats 4000000 in
theorem con_cost (P : Params) (js : List Jb) (hj : JsOk js) : Con P 93 8 100 [jobsD js] (.int (costsL 0 js).sum) := by
  intro prog w p loose mg mb A ok s₀ G fr hh hd hu s k vs hv Q E hQ
  have Gs := G.kp k.kp
  cases hv with
  | cons hv h2 =>
  cases h2
  refine call_def (by omega) (Gs.X _ _ rfl) rfl Gs.T.nolimit (codeRec_of Gs.X rfl) rfl (BindsTo.of_eq rfl) (by decide) (locs rfl) rfl rfl rfl ?_
  intro s₁ E' hn hk
  have hv0 := hv.kp hk.kp
  have fr0 : Free ok s₁.heap := (fr.kp k.kp).kp hk.kp
  have G1 := Gs.kp hk.kp
  refine run_ret (ok := ok) (d := .int (costsL 0 js).sum) ?_ fun v s' k' h' => hQ v s' (hk.trans k') h'
  refine ev_call (ds := [.list ((costsL 0 js).map Dat.int)]) (has_builtin G1 rfl rfl (by decide) rfl rfl rfl rfl (by decide)) (.builtin _) (evs_cons ?_ evs_nil rfl) (cal_sum hh) rfl rfl
  rw [← zip_cost]
  refine ev_comp1 (p := .many [Str.ofString "job", Str.ofString "end"]) (fun _ => true) gCost fr0
    (src_zip hh fr0 (has_builtin G1 rfl rfl (by decide) rfl rfl rfl rfl (by decide)) (ev_name (has_local rfl rfl hn rfl (by decide)) hv0)
      (ev_call (has_global G1 rfl rfl rfl rfl (by decide)) (.func (G1.X _ _ rfl) rfl) (evs_cons (ev_name (has_local rfl rfl hn rfl (by decide)) hv0) evs_nil rfl) (con_ends P js hj.len G1 fr0 hh (by show A.depth + 1 + 5 < _; omega) (by show A.units + 3 + 50 < _; omega)) rfl rfl) rfl rfl)
    (fun _ => rfl) rfl (by decide) rfl (by decide) (fun C => .many (.cons rfl (.cons rfl .nil))) (by rw [zipD_len]; exact small_len hj.len) (fun d s₁ ok₁ C m₀ m hd nx hn bd => .inl ⟨rfl, rfl⟩) ?_
  intro d s₂ ok₁ C m₀ m hd _ nx hn2 bd
  obtain ⟨j, e, hjm, rfl⟩ := zipD_mem hd
  obtain ⟨ws, ds', e3, hws, _, rfl⟩ := bd
  simp only [Dat.tuple.injEq] at e3
  subst e3
  cases hws with
  | cons w1 hws =>
  cases hws with
  | cons w2 hws =>
  cases hws
  have hw := (hj.ok j hjm).w
  exact ev_bin (ev_itemT (ds := [.int j.1, .int j.2.1, .int j.2.2]) (ev_name (has_local rfl rfl hn2 rfl (by decide)) w1) ev_int (by decide) (by decide) rfl (fun _ _ => rfl)) (ev_name (has_local rfl rfl hn2 rfl (by decide)) w2) (op_mul (.of_left (intBits_le_64 (by omega) (by omega))))
end Mine

/-! C5 -/
namespace Mine

def ltJ (a b : Int × Int × Int) : Bool :=
  if a.1 = b.1 then (if a.2.1 = b.2.1 then decide (a.2.2 < b.2.2) else decide (a.2.1 < b.2.1)) else decide (a.1 < b.1)

section
variable {prog : Program} {w : World} {A : Around} {E : Value → Shared → Prop} {s : Shared}
theorem rc_lt {x y : Int} {t u : Tok} {Q : Value → Shared → Prop} (h : Q (.bool (decide (x < y))) s) : wpAny (model prog w) A (richCompare .Lt (.int x t) (.int y u)) Q E s := wpAny_lt_int h
theorem rc_gt {x y : Int} {t u : Tok} {Q : Value → Shared → Prop} (h : Q (.bool (decide (x > y))) s) : wpAny (model prog w) A (richCompare .Gt (.int x t) (.int y u)) Q E s := SiftDown.gt_int h

theorem tuple_lt (l b : Addr) (x1 x2 x3 y1 y2 y3 : Int) (t1 t2 t3 u1 u2 u3 : Tok) (n n2 : Nat) (dd dd2 : Option Addr) (sl sl2 : Array (Option Value)) :
    Meets (Builtin.«tuple.__lt__» ⟨[.ref l, .ref b], []⟩)
      (fun A R s => s.heap.get? l = some { cls := .type "tuple", dict := dd, data := .seq #[.int x1 t1, .int x2 t2, .int x3 t3] n, slots := sl } ∧ s.heap.get? b = some { cls := .type "tuple", dict := dd2, data := .seq #[.int y1 u1, .int y2 u2, .int y3 u3] n2, slots := sl2 } ∧
        R (.ok (.ret (.bool (ltJ (x1, x2, x3) (y1, y2, y3))))) s) :=
  .of_wp fun prog w A R s h => by
    obtain ⟨hp, g, d, tk, os⟩ := s; obtain ⟨hl, hb, h⟩ := h
    have f2 := AutoSeq1.sub_tuple_tuple
    wp_walk using wpAny_loadPart' hl, wpAny_loadPart' hb, wpAny_eqBool_int
    by_cases e1 : x1 = y1
    · rw [show (x1 == y1) = true by simpa using e1]
      wp_walk using wpAny_eqBool_int
      by_cases e2 : x2 = y2
      · rw [show (x2 == y2) = true by simpa using e2]
        wp_walk using wpAny_eqBool_int
        by_cases e3 : x3 = y3
        · rw [show (x3 == y3) = true by simpa using e3]
          wp_walk
          have hj : ltJ (x1, x2, x3) (y1, y2, y3) = false := by simp [ltJ, e1, e2, e3]
          rw [hj] at h
          exact ⟨_, rfl, h⟩
        · rw [show (x3 == y3) = false by simpa using e3]
          wp_walk using rc_lt
          have hj : ltJ (x1, x2, x3) (y1, y2, y3) = decide (x3 < y3) := by simp [ltJ, e1, e2]
          rw [hj] at h
          exact ⟨_, rfl, h⟩
      · rw [show (x2 == y2) = false by simpa using e2]
        wp_walk using rc_lt
        have hj : ltJ (x1, x2, x3) (y1, y2, y3) = decide (x2 < y2) := by simp [ltJ, e1, e2]
        rw [hj] at h
        exact ⟨_, rfl, h⟩
    · rw [show (x1 == y1) = false by simpa using e1]
      wp_walk using rc_lt
      have hj : ltJ (x1, x2, x3) (y1, y2, y3) = decide (x1 < y1) := by simp [ltJ, e1]
      rw [hj] at h
      exact ⟨_, rfl, h⟩
theorem tuple_gt (l b : Addr) (x1 x2 x3 y1 y2 y3 : Int) (t1 t2 t3 u1 u2 u3 : Tok) (n n2 : Nat) (dd dd2 : Option Addr) (sl sl2 : Array (Option Value)) :
    Meets (Builtin.«tuple.__gt__» ⟨[.ref l, .ref b], []⟩)
      (fun A R s => s.heap.get? l = some { cls := .type "tuple", dict := dd, data := .seq #[.int x1 t1, .int x2 t2, .int x3 t3] n, slots := sl } ∧ s.heap.get? b = some { cls := .type "tuple", dict := dd2, data := .seq #[.int y1 u1, .int y2 u2, .int y3 u3] n2, slots := sl2 } ∧
        R (.ok (.ret (.bool (ltJ (y1, y2, y3) (x1, x2, x3))))) s) :=
  .of_wp fun prog w A R s h => by
    obtain ⟨hp, g, d, tk, os⟩ := s; obtain ⟨hl, hb, h⟩ := h
    have f2 := AutoSeq1.sub_tuple_tuple
    wp_walk using wpAny_loadPart' hl, wpAny_loadPart' hb, wpAny_eqBool_int
    by_cases e1 : x1 = y1
    · rw [show (x1 == y1) = true by simpa using e1]
      wp_walk using wpAny_eqBool_int
      by_cases e2 : x2 = y2
      · rw [show (x2 == y2) = true by simpa using e2]
        wp_walk using wpAny_eqBool_int
        by_cases e3 : x3 = y3
        · rw [show (x3 == y3) = true by simpa using e3]
          wp_walk
          have hj : ltJ (y1, y2, y3) (x1, x2, x3) = false := by simp [ltJ, e1, e2, e3]
          rw [hj] at h
          exact ⟨_, rfl, h⟩
        · rw [show (x3 == y3) = false by simpa using e3]
          wp_walk using rc_gt
          have hj : ltJ (y1, y2, y3) (x1, x2, x3) = decide (x3 > y3) := by simp [ltJ, e1, e2]
          rw [hj] at h
          exact ⟨_, rfl, h⟩
      · rw [show (x2 == y2) = false by simpa using e2]
        wp_walk using rc_gt
        have hj : ltJ (y1, y2, y3) (x1, x2, x3) = decide (x2 > y2) := by simp [ltJ, e1, Ne.symm e2]
        rw [hj] at h
        exact ⟨_, rfl, h⟩
    · rw [show (x1 == y1) = false by simpa using e1]
      wp_walk using rc_gt
      have hj : ltJ (y1, y2, y3) (x1, x2, x3) = decide (x1 > y1) := by simp [ltJ, Ne.symm e1]
      rw [hj] at h
      exact ⟨_, rfl, h⟩

def tripD (q : Int × Int × Int) : Dat := .tuple [.int q.1, .int q.2.1, .int q.2.2]
theorem trip_inv {ok : Addr → Prop} {h : Heap} {v : Value} {q : Int × Int × Int} (hv : DS ok h v (tripD q)) : ∃ a t1 t2 t3, v = .ref a ∧ ok a ∧ h.IsTuple a #[.int q.1 t1, .int q.2.1 t2, .int q.2.2 t3] := by
  unfold tripD at hv
  cases hv with
  | tuple ha ht hr =>
  cases hr with
  | cons r1 hr =>
  cases hr with
  | cons r2 hr =>
  cases hr with
  | cons r3 hr =>
  cases hr
  cases r1; cases r2; cases r3
  exact ⟨_, _, _, _, rfl, ha, ht⟩
theorem rc_ltT {ok ok' : Addr → Prop} {v u : Value} {a b : Int × Int × Int} {Q : Value → Shared → Prop} (hu : A.units < cLine) (hv : DS ok s.heap v (tripD a)) (hw : DS ok' s.heap u (tripD b)) (h : Q (.bool (ltJ a b)) s) : wpAny (model prog w) A (richCompare .Lt v u) Q E s := by
  obtain ⟨x, t1, t2, t3, rfl, _, ⟨⟨cls, dd, data, sl⟩, ho, hc, n, hd⟩⟩ := trip_inv hv
  obtain ⟨y, u1, u2, u3, rfl, _, ⟨⟨cls2, dd2, data2, sl2⟩, ho2, hc2, n2, hd2⟩⟩ := trip_inv hw
  simp only at hc hd hc2 hd2
  subst hc hd hc2 hd2
  exact richCompare_meets_room (op := .Lt) ⟨_, ho, rfl⟩ ⟨_, ho2, rfl⟩ PySem.F.slot_tuple_lt PySem.F.entry_tuple_lt (PySem.F.args_tuple_lt_2 _ _) (tuple_lt x y _ _ _ _ _ _ _ _ _ _ _ _ n n2 dd dd2 sl sl2) ⟨ho, ho2, (fun x => nomatch x), h⟩ hu
theorem rc_gtT {ok ok' : Addr → Prop} {v u : Value} {a b : Int × Int × Int} {Q : Value → Shared → Prop} (hu : A.units < cLine) (hv : DS ok s.heap v (tripD a)) (hw : DS ok' s.heap u (tripD b)) (h : Q (.bool (ltJ b a)) s) : wpAny (model prog w) A (richCompare .Gt v u) Q E s := by
  obtain ⟨x, t1, t2, t3, rfl, _, ⟨⟨cls, dd, data, sl⟩, ho, hc, n, hd⟩⟩ := trip_inv hv
  obtain ⟨y, u1, u2, u3, rfl, _, ⟨⟨cls2, dd2, data2, sl2⟩, ho2, hc2, n2, hd2⟩⟩ := trip_inv hw
  simp only at hc hd hc2 hd2
  subst hc hd hc2 hd2
  exact richCompare_meets_room (op := .Gt) ⟨_, ho, rfl⟩ ⟨_, ho2, rfl⟩ PySem.F.slot_tuple_gt PySem.F.entry_tuple_gt (PySem.F.args_tuple_gt_2 _ _) (tuple_gt x y _ _ _ _ _ _ _ _ _ _ _ _ n n2 dd dd2 sl sl2) ⟨ho, ho2, (fun x => nomatch x), h⟩ hu
theorem op_ltT {ok : Addr → Prop} {s₀ : Shared} {a b : Int × Int × Int} (hu : A.units < cLine) : Op2 prog w A ok s₀ (compareOp .Lt) (tripD a) (tripD b) (.bool (ltJ a b)) := fun s k v u hv hw Q E hQ => by
  show wpAny _ _ (richCompare .Lt v u) _ _ _
  exact rc_ltT hu hv hw (hQ _ _ (.refl s) (.bool _))
end
end Mine

/-! C6 -/
namespace Mine
section
variable {prog : Program} {w : World} {A : Around} {env : Env} {ok : Addr → Prop} {s s₀ : Shared}

theorem run_while {test : Expr} {body rest : List Stmt} {pos : Pos} {Q : Flow → Shared → Prop} {E : Value → Shared → Prop} (Inv : Nat → Shared → Prop) (n : Nat) (h0 : Inv n s)
    (turn : ∀ n s', Inv n s' → ∃ b, Tr prog w A env s' test b ∧ ∀ s'', Kps s' s'' → (b = true → ∀ E', wpAny (model prog w) A (execs body env) (fun f s3 => f = .next ∧ ∃ k, k < n ∧ Inv k s3) E' s'') ∧ (b = false → wpAny (model prog w) A (execs rest env) Q E s'')) :
    wpAny (model prog w) A (execs (.While test body [] pos :: rest) env) Q E s := by
  refine wpAny_execs_cons (wpAny_While (codeAny_whileLoop Inv (fun n s' hI => ?_) n h0))
  obtain ⟨b, ht, hb⟩ := turn n s' hI
  refine ht s' (.refl s') _ _ fun s'' k => ?_
  obtain ⟨h1, h2⟩ := hb s'' k
  cases b with
  | true =>
    simp only [if_true]
    refine wpAny_mono (h1 rfl _) (fun f s3 h3 => ?_) fun _ _ x => x
    obtain ⟨rfl, h3⟩ := h3
    exact h3
  | false =>
    simp only [Bool.false_eq_true, if_false]
    exact wpAny_execs_nil (h2 rfl)
theorem ev_none {k : Nat} {pos : Pos} : Ev prog w A env ok s₀ (.Constant .none k pos) .none := fun s _ Q E hQ => wpAny_Constant_none (hQ _ _ (.refl s) .none)
theorem op_isNone : Op2 prog w A ok s₀ (compareOp .Is) .none .none (.bool true) := fun s k v u hv hu Q E hQ => by
  cases hv; cases hu
  exact wpAny_is_self rfl (hQ _ _ (.refl s) (.bool _))
end

/-- the place that bisect_left finds in a list where the lesser ones come first -/
def firsts (p : (Int × Int × Int) → Bool) (as : List (Int × Int × Int)) : Nat := (as.takeWhile p).length
theorem firsts_le (p : (Int × Int × Int) → Bool) : ∀ as : List (Int × Int × Int), firsts p as ≤ as.length
  | [] => Nat.le_refl _
  | a :: r => by
    unfold firsts
    rw [List.takeWhile_cons]
    split
    · simpa [firsts] using firsts_le p r
    · simp
theorem firsts_eq (p : (Int × Int × Int) → Bool) : ∀ (as : List (Int × Int × Int)) (i : Nat), i ≤ as.length → (∀ (k : Nat) (b : Int × Int × Int), k < i → as[k]? = some b → p b = true) → (∀ (k : Nat) (b : Int × Int × Int), i ≤ k → as[k]? = some b → p b = false) → firsts p as = i
  | [], i, hi, _, _ => by simp at hi; subst hi; rfl
  | a :: r, 0, _, _, h2 => by
    have := h2 0 a (Nat.le_refl _) rfl
    unfold firsts
    rw [List.takeWhile_cons, this]; rfl
  | a :: r, i + 1, hi, h1, h2 => by
    have := h1 0 a (Nat.succ_pos _) rfl
    have ih := firsts_eq p r i (by simpa using hi) (fun k b hk e => h1 (k + 1) b (by omega) (by simpa using e)) (fun k b hk e => h2 (k + 1) b (by omega) (by simpa using e))
    unfold firsts at ih ⊢
    rw [List.takeWhile_cons, this]
    simp [ih]

set_option maxHeartbeats 4000000 in
theorem con_bisectL (P : Params) (as : List (Int × Int × Int)) (x : Int × Int × Int) (hlen : as.length ≤ 5) (hmono : ∀ (i j : Nat) (a b : Int × Int × Int), i ≤ j → as[i]? = some a → as[j]? = some b → ltJ b x = true → ltJ a x = true) :
    Con P 41 8 100 [.list (as.map tripD), tripD x, .int 0, .none] (.int (firsts (fun b => ltJ b x) as)) := by
  intro prog w p loose mg mb A ok s₀ G fr hh hd hu s k vs hv Q E hQ
  have Gs := G.kp k.kp
  cases hv with
  | cons ha hv =>
  cases hv with
  | cons hx hv =>
  cases hv with
  | cons hlo hv =>
  cases hv with
  | cons hhi hv =>
  cases hv
  cases hlo
  cases hhi
  refine call_def (by omega) (Gs.X _ _ rfl) rfl Gs.T.nolimit (codeRec_of Gs.X rfl) rfl (kp_binds Gs.X fun _ => rfl) (by decide) (locs rfl) rfl rfl rfl ?_
  intro s₁ E' hn hk
  have G1 := Gs.kp hk.kp
  have ha1 := ha.kp hk.kp
  have hx1 := hx.kp hk.kp
  -- if lo < 0: raise
  refine run_if (b := false) (tr_cmp (ok := ok) (a := .int 0) (b := .int 0) (ev_name (has_local rfl rfl hn rfl (by decide)) (.int _ _)) ev_int (op_lt (a := 0) (b := 0)) rfl) fun s₂ k2 => wpAny_execs_nil ?_
  have hn2 := hn.keeps k2.kp
  refine run_if (b := true) (tr_cmp (ok := ok) (a := .none) (b := .none) (ev_name (has_local rfl rfl hn2 rfl (by decide)) .none) ev_none op_isNone rfl) fun s₃ k3 => ?_
  have hn3 := hn2.keeps k3.kp
  have G3 := (G1.kp k2.kp).kp k3.kp
  have ha3 := (ha1.kp k2.kp).kp k3.kp
  have hx3 := (hx1.kp k2.kp).kp k3.kp
  simp only [if_true]
  refine run_assign (ok := ok) (d := .int (as.length : Nat)) hn3 ?_ rfl rfl rfl fun v h4 t4 kb4 hn4 hv4 => wpAny_execs_nil ?_
  · have e : as.length = (as.map tripD).length := by simp
    rw [e]
    exact ev_call (has_builtin G3 rfl rfl (by decide) rfl rfl rfl rfl (by decide)) (.builtin _) (evs_cons (ev_name (has_local rfl rfl hn3 rfl (by decide)) ha3) evs_nil rfl) (cal_len (by simp; omega)) rfl rfl
  have kall : ∀ b o, s.heap.get? b = some o → h4.get? b = some o := fun b o e => kb4 b o (fun q => Nat.ne_of_lt (Heap.lt_size e) (List.mem_singleton.mp q)) (k3.kp _ _ (k2.kp _ _ (hk.kp _ _ e)))
  refine run_if (b := true) (tr_cmp (ok := ok) (a := .none) (b := .none) (ev_name (has_local rfl rfl hn4 rfl (by decide)) .none) ev_none op_isNone rfl) fun s₅ k5 => ?_
  simp only [if_true]
  have hn5 := hn4.keeps k5.kp
  cases hv4
  rename_i tk4
  have up5 : Up ok ok s.heap s₅.heap := fun b o hb e _ => ⟨hb, k5.kp _ _ (kall b o e)⟩
  have all5 : Kp s.heap s₅.heap := fun b o e => k5.kp _ _ (kall b o e)
  have e5 : s₅ = { s with heap := s₅.heap, toks := s₅.toks } := by
    obtain ⟨a1, b1, rfl, _⟩ := k5
    obtain ⟨a1, b1, rfl, _⟩ := k3
    obtain ⟨a1, b1, rfl, _⟩ := k2
    obtain ⟨a1, b1, rfl, _⟩ := hk
    rfl
  refine run_while (fun n s' => ∃ h' tk m' lo hi t u, s' = { s with heap := h', toks := tk } ∧ Kp s.heap h' ∧ h'.Ns s.heap.objs.size m' ∧ m' (Str.ofString "a") = some _ ∧ m' (Str.ofString "x") = some _ ∧ m' (Str.ofString "lo") = some (.int ((lo : Nat) : Int) t) ∧ m' (Str.ofString "hi") = some (.int ((hi : Nat) : Int) u) ∧
      lo ≤ hi ∧ hi ≤ as.length ∧ n = hi - lo ∧ (∀ (k : Nat) (b : Int × Int × Int), k < lo → as[k]? = some b → ltJ b x = true) ∧ (∀ (k : Nat) (b : Int × Int × Int), hi ≤ k → as[k]? = some b → ltJ b x = false))
    as.length ⟨s₅.heap, s₅.toks, _, 0, as.length, _, _, e5, all5, hn5, rfl, rfl, rfl, rfl, Nat.zero_le _, Nat.le_refl _, rfl, fun k b hk => absurd hk (Nat.not_lt_zero _), fun k b hk e => ?_⟩ ?_
  · have := (List.getElem?_eq_some_iff.mp e).1; omega
  rintro n s' ⟨h', tk', m', lo, hi, t, u, rfl, kp', hn', m1, m2, m3, m4, hle, hhi, rfl, hlo1, hhi1⟩
  refine ⟨decide ((lo : Int) < (hi : Int)), tr_cmp (ok := ok) (ev_name (has_local rfl rfl hn' m3 (by decide)) (.int _ _)) (ev_name (has_local rfl rfl hn' m4 (by decide)) (.int _ _)) op_lt rfl, fun s'' k'' => ⟨fun hb E'' => ?_, fun hb => ?_⟩⟩
  · have hlt : lo < hi := by have := of_decide_eq_true hb; omega
    have hn6 := hn'.keeps k''.kp
    refine run_assign (ok := ok) (d := .int (((lo + hi : Nat) : Int).fdiv 2)) hn6 (ev_bin (ev_bin (ev_name (has_local rfl rfl hn6 m3 (by decide)) (.int _ _)) (ev_name (has_local rfl rfl hn6 m4 (by decide)) (.int _ _)) (by rw [Int.natCast_add]; exact op_add)) ev_int (op_fdiv (by decide) (by decide))) rfl rfl rfl fun v h7 t7 kb7 hn7 hv7 => ?_
    have emid : ((lo + hi : Nat) : Int).fdiv 2 = (((lo + hi) / 2 : Nat) : Int) := by
      rw [Int.fdiv_eq_ediv_of_nonneg _ (by decide)]; rfl
    rw [emid] at hv7
    cases hv7
    rename_i tm
    have hmid1 : lo ≤ (lo + hi) / 2 := by omega
    have hmid2 : (lo + hi) / 2 < hi := by omega
    have kp7 : Kp s.heap h7 := fun b o e => kb7 b o (fun q => Nat.ne_of_lt (Heap.lt_size e) (List.mem_singleton.mp q)) (k''.kp _ _ (kp' b o e))
    have e7 : ({ s'' with heap := h7, toks := t7 } : Shared) = { s with heap := h7, toks := t7 } := by obtain ⟨a1, b1, rfl, _⟩ := k''; rfl
    rw [e7]
    obtain ⟨y, hy⟩ : ∃ y, as[(lo + hi) / 2]? = some y := ⟨_, List.getElem?_eq_getElem (by omega)⟩
    have ha7 := ha.kp kp7
    have hx7 := hx.kp kp7
    refine run_if (b := ltJ y x) (tr_cmp (ok := ok) (a := tripD y) (b := tripD x) (ev_item (ev_name (has_local rfl rfl hn7 m1 (by decide)) ha7) (ev_name (has_local rfl rfl hn7 rfl (by decide)) (.int _ _)) (by omega) (by omega) (by rw [Int.toNat_natCast, List.getElem?_map, hy]; rfl) (fun _ _ => rfl)) (ev_name (has_local rfl rfl hn7 m2 (by decide)) hx7)
      (op_ltT (by show A.units + 3 < cLine; omega)) rfl) fun s8 k8 => ?_
    have hn8 := hn7.keeps k8.kp
    cases hc : ltJ y x with
    | true =>
      simp only [if_true]
      refine run_assign (ok := ok) (d := .int (((lo + hi) / 2 + 1 : Nat) : Int)) hn8 (ev_bin (ev_name (has_local rfl rfl hn8 rfl (by decide)) (.int _ _)) ev_int (by rw [Int.natCast_add]; exact op_add)) rfl rfl rfl fun v h9 t9 kb9 hn9 hv9 => wpAny_execs_nil (wpAny_execs_nil ?_)
      cases hv9
      have kp9 : Kp s.heap h9 := fun b o e => kb9 b o (fun q => Nat.ne_of_lt (Heap.lt_size e) (List.mem_singleton.mp q)) (k8.kp _ _ (kp7 b o e))
      refine ⟨rfl, hi - ((lo + hi) / 2 + 1), by omega, h9, t9, _, (lo + hi) / 2 + 1, hi, _, u, by obtain ⟨a1, b1, rfl, _⟩ := k8; rfl, kp9, hn9, m1, m2, rfl, m4, by omega, hhi, rfl, fun k b hk e => ?_, hhi1⟩
      exact hmono k _ b y (by omega) e hy hc
    | false =>
      simp only [Bool.false_eq_true, if_false]
      refine run_assign (ok := ok) (d := .int (((lo + hi) / 2 : Nat) : Int)) hn8 (ev_name (has_local rfl rfl hn8 rfl (by decide)) (.int _ _)) rfl rfl rfl fun v h9 t9 kb9 hn9 hv9 => wpAny_execs_nil (wpAny_execs_nil ?_)
      cases hv9
      have kp9 : Kp s.heap h9 := fun b o e => kb9 b o (fun q => Nat.ne_of_lt (Heap.lt_size e) (List.mem_singleton.mp q)) (k8.kp _ _ (kp7 b o e))
      refine ⟨rfl, (lo + hi) / 2 - lo, by omega, h9, t9, _, lo, (lo + hi) / 2, t, _, by obtain ⟨a1, b1, rfl, _⟩ := k8; rfl, kp9, hn9, m1, m2, m3, rfl, by omega, by omega, rfl, hlo1, fun k b hk e => ?_⟩
      cases hq : ltJ b x with
      | false => rfl
      | true => rw [hmono _ k y b hk hy e hq] at hc; cases hc
  · have hge : ¬ lo < hi := by have := of_decide_eq_false hb; omega
    have hlh : lo = hi := by omega
    subst hlh
    have hn6 := hn'.keeps k''.kp
    refine wpAny_execs_nil ?_
    refine run_ret (ok := ok) (ev_name (has_local rfl rfl hn6 m3 (by decide)) (.int _ _)) fun v s9 k9 h9 => hQ v s9 ((Kps.of kp').trans (k''.trans k9)) ?_
    rw [firsts_eq (fun b => ltJ b x) as lo hhi hlo1 hhi1]
    exact h9
end Mine

/-! C7 -/
namespace Mine

set_option maxHeartbeats 4000000 in
theorem con_bisectR (P : Params) (as : List Int) (x : Int) (i : Nat) (hlen : as.length ≤ 5) (hi : i ≤ as.length) (h1 : ∀ (k : Nat) (b : Int), k < i → as[k]? = some b → ¬ x < b) (h2 : ∀ (k : Nat) (b : Int), i ≤ k → as[k]? = some b → x < b) :
    Con P 23 8 100 [.list (as.map Dat.int), .int x] (.int i) := by
  intro prog w p loose mg mb A ok s₀ G fr hh hd hu s k vs hv Q E hQ
  have Gs := G.kp k.kp
  cases hv with
  | cons ha hv =>
  cases hv with
  | cons hx hv =>
  cases hv
  refine call_def (by omega) (Gs.X _ _ rfl) rfl Gs.T.nolimit (codeRec_of Gs.X rfl) rfl (kp_binds Gs.X fun _ => rfl) (by decide) (locs rfl) rfl rfl rfl ?_
  intro s₁ E' hn hk
  have G1 := Gs.kp hk.kp
  have ha1 := ha.kp hk.kp
  have hx1 := hx.kp hk.kp
  refine run_if (b := false) (tr_cmp (ok := ok) (a := .int 0) (b := .int 0) (ev_name (has_local rfl rfl hn rfl (by decide)) (.int _ _)) ev_int (op_lt (a := 0) (b := 0)) rfl) fun s₂ k2 => wpAny_execs_nil ?_
  have hn2 := hn.keeps k2.kp
  refine run_if (b := true) (tr_cmp (ok := ok) (a := .none) (b := .none) (ev_name (has_local rfl rfl hn2 rfl (by decide)) .none) ev_none op_isNone rfl) fun s₃ k3 => ?_
  have hn3 := hn2.keeps k3.kp
  have G3 := (G1.kp k2.kp).kp k3.kp
  have ha3 := (ha1.kp k2.kp).kp k3.kp
  have hx3 := (hx1.kp k2.kp).kp k3.kp
  simp only [if_true]
  refine run_assign (ok := ok) (d := .int (as.length : Nat)) hn3 ?_ rfl rfl rfl fun v h4 t4 kb4 hn4 hv4 => wpAny_execs_nil ?_
  · have e : as.length = (as.map Dat.int).length := by simp
    rw [e]
    exact ev_call (has_builtin G3 rfl rfl (by decide) rfl rfl rfl rfl (by decide)) (.builtin _) (evs_cons (ev_name (has_local rfl rfl hn3 rfl (by decide)) ha3) evs_nil rfl) (cal_len (by simp; omega)) rfl rfl
  have kall : ∀ b o, s.heap.get? b = some o → h4.get? b = some o := fun b o e => kb4 b o (fun q => Nat.ne_of_lt (Heap.lt_size e) (List.mem_singleton.mp q)) (k3.kp _ _ (k2.kp _ _ (hk.kp _ _ e)))
  refine run_if (b := true) (tr_cmp (ok := ok) (a := .none) (b := .none) (ev_name (has_local rfl rfl hn4 rfl (by decide)) .none) ev_none op_isNone rfl) fun s₅ k5 => ?_
  simp only [if_true]
  have hn5 := hn4.keeps k5.kp
  cases hv4
  have all5 : Kp s.heap s₅.heap := fun b o e => k5.kp _ _ (kall b o e)
  have e5 : s₅ = { s with heap := s₅.heap, toks := s₅.toks } := by
    obtain ⟨a1, b1, rfl, _⟩ := k5
    obtain ⟨a1, b1, rfl, _⟩ := k3
    obtain ⟨a1, b1, rfl, _⟩ := k2
    obtain ⟨a1, b1, rfl, _⟩ := hk
    rfl
  refine run_while (fun n s' => ∃ h' tk m' lo hi t u, s' = { s with heap := h', toks := tk } ∧ Kp s.heap h' ∧ h'.Ns s.heap.objs.size m' ∧ m' (Str.ofString "a") = some _ ∧ m' (Str.ofString "x") = some _ ∧ m' (Str.ofString "lo") = some (.int ((lo : Nat) : Int) t) ∧ m' (Str.ofString "hi") = some (.int ((hi : Nat) : Int) u) ∧
      lo ≤ i ∧ i ≤ hi ∧ hi ≤ as.length ∧ n = hi - lo)
    as.length ⟨s₅.heap, s₅.toks, _, 0, as.length, _, _, e5, all5, hn5, rfl, rfl, rfl, rfl, Nat.zero_le _, hi, Nat.le_refl _, rfl⟩ ?_
  rintro n s' ⟨h', tk', m', lo, hi, t, u, rfl, kp', hn', m1, m2, m3, m4, hlo, hhi, hle, rfl⟩
  refine ⟨decide ((lo : Int) < (hi : Int)), tr_cmp (ok := ok) (ev_name (has_local rfl rfl hn' m3 (by decide)) (.int _ _)) (ev_name (has_local rfl rfl hn' m4 (by decide)) (.int _ _)) op_lt rfl, fun s'' k'' => ⟨fun hb E'' => ?_, fun hb => ?_⟩⟩
  · have hlt : lo < hi := by have := of_decide_eq_true hb; omega
    have hn6 := hn'.keeps k''.kp
    refine run_assign (ok := ok) (d := .int (((lo + hi : Nat) : Int).fdiv 2)) hn6 (ev_bin (ev_bin (ev_name (has_local rfl rfl hn6 m3 (by decide)) (.int _ _)) (ev_name (has_local rfl rfl hn6 m4 (by decide)) (.int _ _)) (by rw [Int.natCast_add]; exact op_add)) ev_int (op_fdiv (by decide) (by decide))) rfl rfl rfl fun v h7 t7 kb7 hn7 hv7 => ?_
    have emid : ((lo + hi : Nat) : Int).fdiv 2 = (((lo + hi) / 2 : Nat) : Int) := by
      rw [Int.fdiv_eq_ediv_of_nonneg _ (by decide)]; rfl
    rw [emid] at hv7
    cases hv7
    have hmid1 : lo ≤ (lo + hi) / 2 := by omega
    have hmid2 : (lo + hi) / 2 < hi := by omega
    have kp7 : Kp s.heap h7 := fun b o e => kb7 b o (fun q => Nat.ne_of_lt (Heap.lt_size e) (List.mem_singleton.mp q)) (k''.kp _ _ (kp' b o e))
    have e7 : ({ s'' with heap := h7, toks := t7 } : Shared) = { s with heap := h7, toks := t7 } := by obtain ⟨a1, b1, rfl, _⟩ := k''; rfl
    rw [e7]
    obtain ⟨y, hy⟩ : ∃ y, as[(lo + hi) / 2]? = some y := ⟨_, List.getElem?_eq_getElem (by omega)⟩
    have ha7 := ha.kp kp7
    have hx7 := hx.kp kp7
    refine run_if (b := decide (x < y)) (tr_cmp (ok := ok) (a := .int x) (b := .int y) (ev_name (has_local rfl rfl hn7 m2 (by decide)) hx7) (ev_item (ev_name (has_local rfl rfl hn7 m1 (by decide)) ha7) (ev_name (has_local rfl rfl hn7 rfl (by decide)) (.int _ _)) (by omega) (by omega) (by rw [Int.toNat_natCast, List.getElem?_map, hy]; rfl) (fun _ _ => rfl))
      op_lt rfl) fun s8 k8 => ?_
    have hn8 := hn7.keeps k8.kp
    by_cases hc : x < y
    · have hc' : decide (x < y) = true := decide_eq_true hc
      rw [hc']
      simp only [if_true]
      have hmi : i ≤ (lo + hi) / 2 := by
        rcases Nat.lt_or_ge ((lo + hi) / 2) i with q | q
        · exact absurd hc (h1 _ y q hy)
        · exact q
      refine run_assign (ok := ok) (d := .int (((lo + hi) / 2 : Nat) : Int)) hn8 (ev_name (has_local rfl rfl hn8 rfl (by decide)) (.int _ _)) rfl rfl rfl fun v h9 t9 kb9 hn9 hv9 => wpAny_execs_nil (wpAny_execs_nil ?_)
      cases hv9
      have kp9 : Kp s.heap h9 := fun b o e => kb9 b o (fun q => Nat.ne_of_lt (Heap.lt_size e) (List.mem_singleton.mp q)) (k8.kp _ _ (kp7 b o e))
      exact ⟨rfl, (lo + hi) / 2 - lo, by omega, h9, t9, _, lo, (lo + hi) / 2, t, _, by obtain ⟨a1, b1, rfl, _⟩ := k8; rfl, kp9, hn9, m1, m2, m3, rfl, hlo, hmi, by omega, rfl⟩
    · have hc' : decide (x < y) = false := decide_eq_false hc
      rw [hc']
      simp only [Bool.false_eq_true, if_false]
      have hmi : (lo + hi) / 2 + 1 ≤ i := by
        rcases Nat.lt_or_ge ((lo + hi) / 2) i with q | q
        · exact q
        · exact absurd (h2 _ y q hy) hc
      refine run_assign (ok := ok) (d := .int (((lo + hi) / 2 + 1 : Nat) : Int)) hn8 (ev_bin (ev_name (has_local rfl rfl hn8 rfl (by decide)) (.int _ _)) ev_int (by rw [Int.natCast_add]; exact op_add)) rfl rfl rfl fun v h9 t9 kb9 hn9 hv9 => wpAny_execs_nil (wpAny_execs_nil ?_)
      cases hv9
      have kp9 : Kp s.heap h9 := fun b o e => kb9 b o (fun q => Nat.ne_of_lt (Heap.lt_size e) (List.mem_singleton.mp q)) (k8.kp _ _ (kp7 b o e))
      exact ⟨rfl, hi - ((lo + hi) / 2 + 1), by omega, h9, t9, _, (lo + hi) / 2 + 1, hi, _, u, by obtain ⟨a1, b1, rfl, _⟩ := k8; rfl, kp9, hn9, m1, m2, rfl, m4, hmi, hhi, hle, rfl⟩
  · have hge : ¬ lo < hi := by have := of_decide_eq_false hb; omega
    have hlh : lo = i := by omega
    subst hlh
    have hn6 := hn'.keeps k''.kp
    refine wpAny_execs_nil ?_
    exact run_ret (ok := ok) (ev_name (has_local rfl rfl hn6 m3 (by decide)) (.int _ _)) fun v s9 k9 h9 => hQ v s9 ((Kps.of kp').trans (k''.trans k9)) h9

/-! insort_left -/
def insJ (x : Int × Int × Int) (as : List (Int × Int × Int)) : List (Int × Int × Int) := as.take (firsts (fun b => ltJ b x) as) ++ x :: as.drop (firsts (fun b => ltJ b x) as)
/-- lesser ones first -/
def Mono (as : List (Int × Int × Int)) (x : Int × Int × Int) : Prop := ∀ (i j : Nat) (a b : Int × Int × Int), i ≤ j → as[i]? = some a → as[j]? = some b → ltJ b x = true → ltJ a x = true

section
variable {prog : Program} {w : World} {A : Around} {env : Env} {ok ok' : Addr → Prop} {s s₀ : Shared}
theorem list_insert {l : Addr} {vs : List Value} {i : Nat} {t : Tok} {y : Value} {Q : Value → Shared → Prop} {E : Value → Shared → Prop} (hp : s.heap.PlainList l vs.toArray) (hi : i ≤ vs.length) (hsz : vs.length ≤ 1000)
    (hQ : ∀ h', KB [l] s.heap h' → h'.PlainList l (vs.take i ++ y :: vs.drop i).toArray → Q .none { s with heap := h' }) :
    wpAny (model prog w) A (call (.builtin "list.insert") [.ref l, .int i t, y]) Q E s := by
  obtain ⟨n, e⟩ := hp
  have hf : Builtin.List.listFitsIndex (i : Int) = true := by
    unfold Builtin.List.listFitsIndex
    rw [Bool.and_eq_true]
    exact ⟨decide_eq_true (by omega), decide_eq_true (by omega)⟩
  have h0 : ¬ (i : Int) < 0 := by omega
  have h1 : min (i : Int).toNat vs.toArray.size = i := by rw [Int.toNat_natCast, List.size_toArray]; omega
  revert hf h0 h1
  generalize (i : Int) = x
  intro hf h0 h1
  refine call_meets PySem.F.slot_list_insert ⟨_, e, rfl⟩ PySem.F.entry_list_insert (PySem.F.args_list_insert_3 _ _ _) (PySem.AutoSeq1.list_insert_list_int_val_1 l vs.toArray n x t y (by simp [hf]) (by rw [List.size_toArray, sizeLine_eq]; omega)) ⟨e, ?_⟩
  refine hQ _ ?_ ?_
  · intro b o hb e'
    exact (Heap.get?_update_ne _ _ _ _ (fun q => hb (List.mem_singleton.mpr q))).trans e'
  · have e2 : (vs.toArray.extract 0 (if x < 0 then (x + (vs.toArray.size : Int)).toNat else min x.toNat vs.toArray.size)).push y ++ vs.toArray.extract (if x < 0 then (x + (vs.toArray.size : Int)).toNat else min x.toNat vs.toArray.size) = (vs.take i ++ y :: vs.drop i).toArray := by
      rw [if_neg h0, h1]
      exact PySem.W.kl_ins_eq vs i y
    have g := Heap.get?_update_self (Obj.mapSeq fun xs => let k := if x < 0 then (x + (xs.size : Int)).toNat else min x.toNat xs.size; (xs.extract 0 k).push y ++ xs.extract k) e rfl
    dsimp only [Obj.mapSeq] at g
    rw [← e2]
    exact ⟨_, g⟩
end
end Mine

/-! C8 -/
namespace Mine
section
variable {prog : Program} {w : World} {A : Around} {env : Env} {ok ok' : Addr → Prop} {s s₀ : Shared}
/-- x.m(args) for a list method that gives None -/
theorem run_methN {x name : Str} {id : String} {xp apos cpos epos : Pos} {e : Expr} {es : List Expr} {rest : List Stmt} {pl : Sem Bool} {a : Addr} {vs : List Value} {ds : List Dat} {Q : Flow → Shared → Prop} {E : Value → Shared → Prop} (slot : Slot "list" name id) (hty : typeOf (.builtin id) = pure (.type "method_descriptor"))
    (hx : Has prog w A env s x (.ref a)) (hp : s.heap.PlainList a vs.toArray) (harg : Evs prog w A env ok s (e :: es) ds) (hi : interactive env = false) (hsw : swapsWith (.Call (.Attribute (.Name x xp) name apos) (e :: es) [] cpos) none epos.line env = pure false)
    (he : starEach (e :: es) env = (false, eval e env) :: starEach es env) (hpl : (backTo cpos (starEach es env)).any (·.1) = false)
    (hc : eval (.Call (.Attribute (.Name x xp) name apos) (e :: es) [] cpos) env = (do
      let ov ← eval (.Name x xp) env
      standAt apos.atName
      let (f, first) ← holding [ov] (getMethod ov name pl)
      callWith cpos f first (backTo cpos (starEach (e :: es) env)) []))
    (hQ : ∀ vs' s', Kps s s' → s'.heap.PlainList a vs.toArray → DSs ok s'.heap vs' ds → ∀ E', wpAny (model prog w) A (call (.builtin id) (.ref a :: vs')) (fun r s2 => r = .none ∧ wpAny (model prog w) A (execs rest env) Q E s2) E' s') :
    wpAny (model prog w) A (execs (.Expr (.Call (.Attribute (.Name x xp) name apos) (e :: es) [] cpos) epos :: rest) env) Q E s := by
  refine wpAny_execs_cons (wpAny_Expr (MethodCall_ (hx s (.refl s) _ E xp (meth_list hp slot hty (callWith_method1 (harg s (.refl s) _ E cpos fun us s1 k1 h1 => ?_) he hpl))) hc) hi hsw)
  refine wpAny_mono (hQ us s1 k1 (hp.at fun o e => k1.kp _ o e) h1 E) (fun r s2 hr => ?_) fun _ _ x => x
  obtain ⟨rfl, h⟩ := hr
  exact h
end

set_option maxHeartbeats 4000000 in
theorem con_insort (P : Params) (as : List (Int × Int × Int)) (x : Int × Int × Int) (hlen : as.length ≤ 5) (hmono : Mono as x) {prog : Program} {w : World} {p : Program} {loose : List Str} {mg mb : Str → Option Value} {A : Around} {ok : Addr → Prop} {s : Shared}
    (G : Gr (Mine.hd.heap_39 P) p loose mg mb s.heap) (fr : ∀ b, s.heap.get? b = none → ok b) (hh : A.handled = none) (hd : A.depth + 12 < recursionLimit) (hu : A.units + 200 < cLine)
    {l : Addr} {vs : List Value} {v : Value} {Q : Value → Shared → Prop} {E : Value → Shared → Prop} (hp : s.heap.PlainList l vs.toArray) (hok : ¬ ok l) (hr : DSs ok s.heap vs (as.map tripD)) (hv : DS ok s.heap v (tripD x))
    (hQ : ∀ h' tk vs', KB [l] s.heap h' → h'.PlainList l vs'.toArray → DSs ok h' vs' ((insJ x as).map tripD) → Q .none { s with heap := h', toks := tk }) :
    wpAny (model prog w) A (call (.ref 32) [.ref l, v]) Q E s := by
  refine call_def (by omega) (G.X _ _ rfl) rfl G.T.nolimit (codeRec_of G.X rfl) rfl (kp_binds G.X fun _ => rfl) (by decide) (locs rfl) rfl rfl rfl ?_
  intro s₁ E' hn hk
  have G1 := G.kp hk.kp
  have hr1 := hr.kp hk.kp
  have hv1 := hv.kp hk.kp
  have hp1 : s₁.heap.PlainList l vs.toArray := hp.at fun o e => hk.kp _ o e
  have hll : l ≠ s.heap.objs.size := by
    obtain ⟨n, e⟩ := hp
    exact Nat.ne_of_lt (Heap.lt_size e)
  refine run_if (b := true) (tr_cmp (ok := ok) (a := .none) (b := .none) (ev_name (has_local rfl rfl hn rfl (by decide)) .none) ev_none op_isNone rfl) fun s₂ k2 => ?_
  simp only [if_true]
  have hn2 := hn.keeps k2.kp
  have G2 := G1.kp k2.kp
  have hr2 := hr1.kp k2.kp
  have hv2 := hv1.kp k2.kp
  have hp2 : s₂.heap.PlainList l vs.toArray := hp1.at fun o e => k2.kp _ o e
  have fr2 : Free (fun b => ok b ∨ b = l) s₂.heap := by
    intro b e
    left
    apply fr
    cases q : s.heap.get? b with
    | none => rfl
    | some o => rw [k2.kp _ _ (hk.kp _ _ q)] at e; cases e
  have hrw : DS (fun b => ok b ∨ b = l) s₂.heap (.ref l) (.list (as.map tripD)) := .list (.inr rfl) hp2.isList (hr2.up fun b o hb e _ => ⟨.inl hb, e⟩)
  have hvw : DS (fun b => ok b ∨ b = l) s₂.heap v (tripD x) := hv2.up fun b o hb e _ => ⟨.inl hb, e⟩
  refine run_assign (ok := fun b => ok b ∨ b = l) (d := .int (firsts (fun b => ltJ b x) as)) hn2 ?_ rfl rfl rfl fun u h3 t3 kb3 hn3 hu3 => wpAny_execs_nil ?_
  · exact ev_call (has_global G2 rfl rfl rfl rfl (by decide)) (.func (G2.X _ _ rfl) rfl)
      (evs_cons (ev_name (has_local rfl rfl hn2 rfl (by decide)) hrw) (evs_cons (ev_name (has_local rfl rfl hn2 rfl (by decide)) hvw) (evs_cons (ev_name (has_local rfl rfl hn2 rfl (by decide)) (.int _ _)) (evs_cons (ev_name (has_local rfl rfl hn2 rfl (by decide)) .none) evs_nil rfl) rfl) rfl) rfl)
      (con_bisectL P as x hlen hmono G2 fr2 hh (by show A.depth + 1 + 8 < _; omega) (by show A.units + _ + 100 < _; omega)) rfl rfl
  cases hu3
  have kp3 : Kp s.heap h3 := fun b o e => kb3 b o (fun q => Nat.ne_of_lt (Heap.lt_size e) (List.mem_singleton.mp q)) (k2.kp _ _ (hk.kp _ _ e))
  have hp3 : h3.PlainList l vs.toArray := hp.at fun o e => kp3 _ o e
  refine run_methN (ok := fun b => ok b) PySem.F.slot_list_insert PySem.F.type_list_insert (has_local rfl rfl hn3 rfl (by decide)) hp3
    (evs_cons (ev_name (has_local rfl rfl hn3 rfl (by decide)) (.int _ _)) (evs_cons (ev_name (has_local rfl rfl hn3 rfl (by decide)) (hv.kp kp3)) evs_nil rfl) rfl) rfl rfl rfl rfl rfl fun us s4 k4 hp4 hus E2 => ?_
  cases hus with
  | cons u1 hus =>
  cases hus with
  | cons u2 hus =>
  cases hus
  cases u1
  have hlv : vs.length = as.length := by rw [hr.length, List.length_map]
  refine list_insert hp4 (by rw [hlv]; exact firsts_le _ _) (by omega) fun h5 kb5 hp5 => ⟨rfl, wpAny_execs_nil ?_⟩
  have kp4 : Kp s.heap s4.heap := kp3.trans k4.kp
  have ex : Kps s s4 := by
    obtain ⟨a1, b1, rfl, _⟩ := k4
    obtain ⟨a2, b2, rfl, _⟩ := k2
    obtain ⟨a3, b3, rfl, _⟩ := hk
    exact .of kp4
  have upI : Up ok ok s4.heap h5 := fun b o hb e _ => ⟨hb, kb5 b o (fun q => hok (List.mem_singleton.mp q ▸ hb)) e⟩
  have hr5 : DSs ok h5 vs (as.map tripD) := (hr.kp kp4).up upI
  have hu5 := u2.up upI
  obtain ⟨h4, t4, rfl, _⟩ := ex
  refine hQ h5 t4 _ (fun b o hb e => kb5 b o hb (kp4 b o e)) hp5 ?_
  unfold insJ
  rw [List.map_append, List.map_cons, List.map_take, List.map_drop]
  exact (hr5.take _).append (.cons hu5 (hr5.drop _))
end Mine

/-! Ins -/
namespace Mine

theorem ltJ_iff (a b : Jb) : ltJ a b = true ↔ a.1 < b.1 ∨ (a.1 = b.1 ∧ (a.2.1 < b.2.1 ∨ (a.2.1 = b.2.1 ∧ a.2.2 < b.2.2))) := by
  unfold ltJ
  split
  · split
    · rw [decide_eq_true_iff]; omega
    · rw [decide_eq_true_iff]; omega
  · rw [decide_eq_true_iff]; omega
theorem ltJ_iff' (a b : Jb) : ltJ a b = false ↔ ¬ (a.1 < b.1 ∨ (a.1 = b.1 ∧ (a.2.1 < b.2.1 ∨ (a.2.1 = b.2.1 ∧ a.2.2 < b.2.2)))) := by
  rw [← ltJ_iff, Bool.not_eq_true]
def toDue (j : Jb) : Jb := (j.2.2, j.1, j.2.1)
def ofDue (q : Jb) : Jb := (q.2.1, q.2.2, q.1)
theorem of_to (j : Jb) : ofDue (toDue j) = j := rfl
theorem to_of (j : Jb) : toDue (ofDue j) = j := rfl
def Srt (as : List Jb) : Prop := as.Pairwise fun a b => ltJ b a = false
theorem ltJ_le_lt {a b x : Jb} (h : ltJ b a = false) (h2 : ltJ b x = true) : ltJ a x = true := by
  rw [ltJ_iff'] at h
  rw [ltJ_iff] at h2 ⊢
  omega
theorem ltJ_irrefl (a : Jb) : ltJ a a = false := by rw [ltJ_iff']; omega
theorem ltJ_antisymm {a b : Jb} (h : ltJ a b = false) (h2 : ltJ b a = false) : a = b := by
  rw [ltJ_iff'] at h h2
  obtain ⟨x, y, z⟩ := a
  obtain ⟨x', y', z'⟩ := b
  simp only at h h2
  have e1 : x = x' := by omega
  have e2 : y = y' := by omega
  have e3 : z = z' := by omega
  rw [e1, e2, e3]
theorem Srt.mono {as : List Jb} (h : Srt as) (x : Jb) : Mono as x := fun i j a b hij ha hb hlt => by
  rcases Nat.lt_or_eq_of_le hij with q | q
  · obtain ⟨hi, rfl⟩ := List.getElem?_eq_some_iff.mp ha
    obtain ⟨hj, rfl⟩ := List.getElem?_eq_some_iff.mp hb
    exact ltJ_le_lt (List.pairwise_iff_getElem.mp h i j hi hj q) hlt
  · subst q
    rw [ha] at hb; cases hb
    exact hlt
theorem insJ_nil (x : Jb) : insJ x [] = [x] := rfl
theorem insJ_cons (x a : Jb) (as : List Jb) : insJ x (a :: as) = if ltJ a x then a :: insJ x as else x :: a :: as := by
  unfold insJ firsts
  cases h : ltJ a x
  · simp [List.takeWhile_cons, h]
  · simp [List.takeWhile_cons, h]
theorem insJ_perm (x : Jb) : ∀ as : List Jb, (insJ x as).Perm (x :: as)
  | [] => .refl _
  | a :: as => by
    rw [insJ_cons]
    split
    · exact ((insJ_perm x as).cons a).trans (.swap ..)
    · exact .refl _
theorem insJ_srt (x : Jb) : ∀ as : List Jb, Srt as → Srt (insJ x as)
  | [], _ => List.pairwise_singleton ..
  | a :: as, h => by
    obtain ⟨h1, h2⟩ := List.pairwise_cons.mp h
    rw [insJ_cons]
    split
    · rename_i e
      refine List.pairwise_cons.mpr ⟨fun b hb => ?_, insJ_srt x as h2⟩
      rcases List.mem_cons.mp ((insJ_perm x as).mem_iff.mp hb) with q | q
      · subst q
        rw [ltJ_iff] at e
        rw [ltJ_iff']
        omega
      · exact h1 b q
    · rename_i e
      rw [Bool.not_eq_true] at e
      refine List.pairwise_cons.mpr ⟨fun b hb => ?_, h⟩
      rcases List.mem_cons.mp hb with q | q
      · rw [q]; exact e
      · have := h1 b q
        rw [ltJ_iff'] at e this ⊢
        omega
def dueL (js : List Jb) : List Jb := js.foldl (fun acc j => insJ (toDue j) acc) []
theorem dueL_snoc (js : List Jb) (j : Jb) : dueL (js ++ [j]) = insJ (toDue j) (dueL js) := by
  unfold dueL; rw [List.foldl_append]; rfl
theorem dueL_srt_aux : ∀ (js : List Jb) (acc : List Jb), Srt acc → Srt (js.foldl (fun acc j => insJ (toDue j) acc) acc)
  | [], _, h => h
  | j :: r, acc, h => dueL_srt_aux r _ (insJ_srt _ _ h)
theorem dueL_srt (js : List Jb) : Srt (dueL js) := dueL_srt_aux js [] .nil
theorem dueL_perm_aux : ∀ (js : List Jb) (acc : List Jb), (js.foldl (fun acc j => insJ (toDue j) acc) acc).Perm (js.map toDue ++ acc)
  | [], _ => .refl _
  | j :: r, acc => (dueL_perm_aux r _).trans (((insJ_perm _ _).append_left _).trans List.perm_middle)
theorem dueL_perm (js : List Jb) : (dueL js).Perm (js.map toDue) := by
  have := dueL_perm_aux js []
  rw [List.append_nil] at this
  exact this
theorem dueL_length (js : List Jb) : (dueL js).length = js.length := by rw [(dueL_perm js).length_eq, List.length_map]
def byDays (js : List Jb) : List Jb := (dueL js).map ofDue
theorem byDays_perm (js : List Jb) : (byDays js).Perm js := by
  have := (dueL_perm js).map ofDue
  rw [List.map_map] at this
  simpa [byDays, Function.comp_def, of_to] using this
theorem byDays_length (js : List Jb) : (byDays js).length = js.length := (byDays_perm js).length_eq
theorem byDays_due (js : List Jb) : (byDays js).Pairwise fun a b => a.2.2 ≤ b.2.2 := by
  unfold byDays
  rw [List.pairwise_map]
  refine (dueL_srt js).imp fun {a b} h => ?_
  rw [ltJ_iff'] at h
  show a.1 ≤ b.1
  omega
end Mine

/-! D1 -/
namespace Mine
section
variable {prog : Program} {w : World} {A : Around} {env : Env} {ok ok' : Addr → Prop} {s s₀ : Shared}
/-- f(x, es..) as a statement, the first a name -/
theorem run_ins {f x : Str} {fp xp pos epos : Pos} {e : Expr} {es : List Expr} {rest : List Stmt} {a : Addr} {o : Obj} {fd : FuncData} {v0 : Value} {ds : List Dat} {Q : Flow → Shared → Prop} {E : Value → Shared → Prop}
    (hf : Has prog w A env s f (.ref a)) (ho : s.heap.get? a = some o) (hdat : o.data = .func fd) (hx : Has prog w A env s x v0) (harg : Evs prog w A env ok s (e :: es) ds) (hi : interactive env = false)
    (hsw : swapsWith (.Call (.Name f fp) (.Name x xp :: e :: es) [] pos) none epos.line env = pure false) (he : starEach (.Name x xp :: e :: es) env = (false, eval (.Name x xp) env) :: starEach (e :: es) env)
    (hQ : ∀ us s', Kps s s' → DSs ok s'.heap us ds → ∀ E', wpAny (model prog w) A (call (.ref a) (v0 :: us)) (fun r s2 => r = .none ∧ wpAny (model prog w) A (execs rest env) Q E s2) E' s') :
    wpAny (model prog w) A (execs (.Expr (.Call (.Name f fp) (.Name x xp :: e :: es) [] pos) epos :: rest) env) Q E s := by
  refine wpAny_execs_cons (wpAny_Expr (Call_Name rfl (hf s (.refl s) _ E fp (PyProof.Rows.callWith_def hdat (spliced_more (hx s (.refl s) _ E xp (harg s (.refl s) _ E pos fun us s1 k1 h1 => ?_)) he) he))) hi hsw)
  refine ⟨k1.kp _ _ ho, wpAny_mono (hQ us s1 k1 h1 E) (fun r s2 hr => ?_) fun _ _ x => x⟩
  obtain ⟨rfl, h⟩ := hr
  exact h
end

theorem tripD_inj {i j : Jb} (h : tripD i = tripD j) : i = j := by
  obtain ⟨a, b, c⟩ := i
  obtain ⟨a', b', c'⟩ := j
  simpa [tripD] using h

def gOf : Dat → Dat
  | .tuple [a, b, c] => .tuple [b, c, a]
  | d => d
theorem map_gOf (qs : List Jb) : ((qs.map tripD).filter fun _ => true).map gOf = (qs.map ofDue).map jobD := by
  rw [List.filter_eq_self.mpr fun _ _ => rfl, List.map_map, List.map_map]
  rfl

set_option maxHeartbeats 4000000 in
theorem con_byDays (P : Params) (js : List Jb) (hlen : js.length ≤ 5) : Con P 103 18 400 [jobsD js] (jobsD (byDays js)) := by
  intro prog w p loose mg mb A ok s₀ G fr hh hd hu s k vs hv Q E hQ
  have Gs := G.kp k.kp
  cases hv with
  | cons hv h2 =>
  cases h2
  refine call_def (by omega) (Gs.X _ _ rfl) rfl Gs.T.nolimit (codeRec_of Gs.X rfl) rfl (BindsTo.of_eq rfl) (by decide) (locs rfl) rfl rfl rfl ?_
  intro s₁ E' hn hk
  have hv0 := hv.kp hk.kp
  have fr0 : Free ok s₁.heap := (fr.kp k.kp).kp hk.kp
  have G1 := Gs.kp hk.kp
  refine run_newlist (ds := []) fr0 hn evs_nil (by rw [sizeLine_eq]; simp) rfl rfl rfl fun a vs0 h1 t1 ha0 k1 n1 p1 d1 haL hoka => ?_
  have kp1 : Kp s.heap h1 := fun b o e => k1 b o (fun q => Nat.ne_of_lt (Heap.lt_size e) (List.mem_singleton.mp q)) (hk.kp _ _ e)
  have hv1 : DS (fun b => ok b ∧ b ≠ a) h1 _ (jobsD js) := hv.up fun b o hb e hs => ⟨⟨hb, fun q => by have e' := hk.kp _ _ e; rw [q, ha0] at e'; cases e'⟩, kp1 _ _ e⟩
  have ga : h1.get? a ≠ none := by
    obtain ⟨n, e⟩ := p1
    rw [e]; exact fun q => nomatch q
  have fr1 : Free (fun b => ok b ∧ b ≠ a) h1 := fun b e => ⟨(fr.kp k.kp).kp kp1 b e, fun q => ga (q ▸ e)⟩
  refine run_for (ok := fun b => ok b ∧ b ≠ a) (ds := js.map jobD) (p := .many [Str.ofString "time", Str.ofString "worth", Str.ofString "due"]) [a]
    (fun pre h m => ∃ jp vs, pre = jp.map jobD ∧ m (Str.ofString "order") = some (.ref a) ∧ h.PlainList a vs.toArray ∧ DSs (fun b => ok b ∧ b ≠ a) h vs ((dueL jp).map tripD))
    (srcN_list hh (ev_name (has_local rfl rfl n1 rfl (by decide)) hv1) ?fits) (fun _ => rfl) rfl (.many (.cons rfl (.cons rfl (.cons rfl .nil)))) n1 ?mu ?st ?h0 ?turn ?done
  case fits =>
    intro d hd
    obtain ⟨j, _, rfl⟩ := List.mem_map.mp hd
    exact ⟨_, rfl, rfl⟩
  case mu =>
    intro b hb
    obtain rfl := List.mem_singleton.mp hb
    obtain ⟨n, e⟩ := p1
    exact ⟨⟨_, e⟩, fun q => q.2 rfl, haL⟩
  case st =>
    rintro pre h h' m ⟨jp, vs, h1, h2, ⟨n, h3⟩, h4⟩ sk
    exact ⟨jp, vs, h1, h2, ⟨n, sk _ _ h3 ⟨_, _, rfl⟩⟩, h4.up sk.up⟩
  case h0 => exact ⟨[], vs0, rfl, rfl, p1, d1⟩
  case turn =>
    rintro pre d post s' m₁ m₂ hds ⟨h', tk', rfl⟩ kb ⟨jp, vs, rfl, hf, hp, hr⟩ hn2 bd E2
    obtain ⟨l1, j, l2, rfl, e1, rfl, e2⟩ := map_split hds
    obtain ⟨ws, ds', e3, hws, _, rfl⟩ := bd
    simp only [jobD, Dat.tuple.injEq] at e3
    subst e3
    cases hws with
    | cons w1 hws =>
    cases hws with
    | cons w2 hws =>
    cases hws with
    | cons w3 hws =>
    cases hws
    have hj : jp = l1 := (List.map_inj_right (fun a b h => jobD_inj h)).mp e1
    subst hj
    have kp2 : Kp s.heap h' := fun b o e => kb b o (by
      intro q
      simp only [List.mem_cons, List.not_mem_nil, or_false] at q
      rcases q with q | q
      · exact Nat.ne_of_lt (Heap.lt_size e) q
      · have e' := hk.kp _ _ e; rw [q, ha0] at e'; cases e') (kp1 _ _ e)
    have G2 := Gs.kp kp2
    have ga2 : h'.get? a ≠ none := by
      obtain ⟨n, e⟩ := hp
      rw [e]; exact fun q => nomatch q
    have fr2 : Free (fun b => ok b ∧ b ≠ a) h' := fun b e => ⟨(fr.kp k.kp).kp kp2 b e, fun q => ga2 (q ▸ e)⟩
    refine run_ins (ok := fun b => ok b ∧ b ≠ a) (ds := [tripD (toDue j)]) (has_global G2 rfl rfl rfl rfl (by decide)) (G2.X _ _ rfl) rfl (has_local rfl rfl hn2 hf (by decide))
      (evs_cons (ev_tuple fr2 (evs_cons (ev_name (has_local rfl rfl hn2 rfl (by decide)) w3) (evs_cons (ev_name (has_local rfl rfl hn2 rfl (by decide)) w1) (evs_cons (ev_name (has_local rfl rfl hn2 rfl (by decide)) w2) evs_nil rfl) rfl) rfl) (by rw [sizeLine_eq]; simp)) evs_nil rfl) rfl rfl rfl fun us s3 k3 h3 E3 => ?_
    cases h3 with
    | cons h3 h4 =>
    cases h4
    have G3 := G2.kp k3.kp
    refine con_insort P (dueL jp) (toDue j) (by rw [dueL_length]; simp at hlen; omega) ((dueL_srt jp).mono _) G3 (fr2.kp k3.kp) (by exact hh) (by show A.depth + 1 + 12 < _; omega) (by show A.units + _ + 200 < _; omega) (hp.at fun o e => k3.kp _ o e) (fun q => q.2 rfl) (hr.kp k3.kp) h3 ?_
    intro h5 t5 vs5 kb5 hp5 hr5
    refine ⟨rfl, wpAny_execs_nil ?_⟩
    have k5 : KB [a] h' h5 := fun b o hb e => kb5 b o hb (k3.kp _ _ e)
    have hnL : h5.Ns _ _ := hn2.at' fun o e => k5 _ o (fun q => haL (List.mem_singleton.mp q).symm) e
    obtain ⟨g3, t3, rfl, _⟩ := k3
    refine ⟨h5, t5, _, rfl, k5.weak fun p hp => .tail _ hp, hnL, jp ++ [j], vs5, by simp, hf, hp5, ?_⟩
    rw [dueL_snoc]
    exact hr5
  case done =>
    rintro h' tk' m' kb hn' ⟨jp, vs, e1, hf, hp, hr⟩
    have hj : jp = js := ((List.map_inj_right (fun a b h => jobD_inj h)).mp e1).symm
    subst hj
    have kp2 : Kp s.heap h' := fun b o e => kb b o (by
      intro q
      simp only [List.mem_cons, List.not_mem_nil, or_false] at q
      rcases q with q | q
      · exact Nat.ne_of_lt (Heap.lt_size e) q
      · have e' := hk.kp _ _ e; rw [q, ha0] at e'; cases e') (kp1 _ _ e)
    have kall : Kps s { ({ s₁ with heap := h1, toks := t1 } : Shared) with heap := h', toks := tk' } := ⟨h', tk', by obtain ⟨x, y, rfl, _⟩ := hk; rfl, kp2⟩
    refine run_ret (ok := ok) (d := jobsD (byDays jp)) ?_ fun v s' k' h' => hQ v s' (kall.trans k') h'
    have hfd : DS ok h' (.ref a) (.list ((dueL jp).map tripD)) := .list hoka hp.isList (hr.up fun b o hb e _ => ⟨hb.1, e⟩)
    have fr2 : Free ok h' := (fr.kp k.kp).kp kp2
    unfold jobsD byDays
    rw [← map_gOf]
    refine ev_comp1 (p := .many [Str.ofString "due", Str.ofString "time", Str.ofString "worth"]) (fun _ => true) gOf fr2 (src_list hh (ev_name (has_local rfl rfl hn' hf (by decide)) hfd) ?_)
      (fun _ => rfl) rfl (by decide) rfl (by decide) (fun C => .many (.cons rfl (.cons rfl (.cons rfl .nil)))) (by rw [List.length_map, dueL_length]; exact small_len hlen) (fun d s₁ ok₁ C m₀ m hd nx hn bd => .inl ⟨rfl, rfl⟩) ?_
    · intro d hd
      obtain ⟨j, _, rfl⟩ := List.mem_map.mp hd
      exact ⟨_, rfl, rfl⟩
    · intro d s₂ ok₁ C m₀ m hd _ nx hn2 bd
      obtain ⟨j, _, rfl⟩ := List.mem_map.mp hd
      obtain ⟨ws, ds', e3, hws, _, rfl⟩ := bd
      simp only [tripD, Dat.tuple.injEq] at e3
      subst e3
      cases hws with
      | cons w1 hws =>
      cases hws with
      | cons w2 hws =>
      cases hws with
      | cons w3 hws =>
      cases hws
      exact ev_tuple nx.free (evs_cons (ev_name (has_local rfl rfl hn2 rfl (by decide)) w2) (evs_cons (ev_name (has_local rfl rfl hn2 rfl (by decide)) w3) (evs_cons (ev_name (has_local rfl rfl hn2 rfl (by decide)) w1) evs_nil rfl) rfl) rfl) (by rw [sizeLine_eq]; simp)
end Mine

/-! M1 -/
namespace Mine

section
variable {prog : Program} {w : World} {A : Around} {R : Result → Shared → Prop} {I : Addr} {fp wr : List Addr} {n : Nat} {P : Nat → Value → Prop} {St : Nat → Heap → Prop}

def Stays (wr : List Addr) (S : Addr) (h h' : Heap) : Prop := ∀ b o, b ∉ wr → b ≠ S → h.get? b = some o → h'.get? b = some o
theorem Stays.trans {S : Addr} {a b c : Heap} (x : Stays wr S a b) (y : Stays wr S b c) : Stays wr S a c := fun p o h1 h2 e => y p o h1 h2 (x p o h1 h2 e)
theorem Stays.upd (S : Addr) (h : Heap) (f : Obj → Obj) : Stays wr S h (h.update S f) := fun b o _ hS e => (Heap.get?_update_other _ _ (Ne.symm hS)).trans e

/-- max by comparisons that look into the heap -/
theorem max_loopH (W : Walks prog w A.in1 I fp wr n P St) (bt : Nat → Nat → Bool) (J : Heap → Prop) (S : Addr) (hJ : ∀ h h', J h → Stays wr S h h' → J h')
    (hcmp : ∀ i j vi vj (s : Shared) (Q : Value → Shared → Prop) (E : Value → Shared → Prop), J s.heap → P i vi → P j vj → Q (.bool (bt i j)) s → wpAny (model prog w) A.in1 (richCompare .Gt vi vj) Q E s) (hSf : S ∉ fp) :
    ∀ (k j : Nat) (s : Shared) (vb : Value) (c : Nat), n - (j + 1) = k → j + 1 ≤ n → St (j + 1) s.heap → J s.heap → P (argBest bt j) vb →
    s.heap.get? S = some { cls := .type "list", dict := none, data := .seq #[vb, vb] c, slots := #[] } →
    (∀ v h' tk, P (argBest bt (n - 1)) v → Stays wr S s.heap h' → R (.ok (.ret v)) { s with heap := h', toks := tk }) →
    codeAny (model prog w) A (.builtin "max.loop" ⟨[.ref I, .none, .ref S], []⟩) R s := by
  have hSw : S ∉ wr := fun h => hSf (W.sub _ h)
  have hname : (toString "max" ++ toString ".loop" : String) = "max.loop" := by decide
  intro k
  induction k with
  | zero =>
    intro j s vb c hk hj hst _ hPb hS hR
    have hin : j + 1 = n := by omega
    refine codeAny_builtin F.entry_max_loop ?_
    rw [Around.under_plainId F.plain_max_loop _]
    show wpAny _ A.in1 (seqItems? (.ref S) >>= _) _ _ s
    refine wpAny_bind (wpAny_seqItems hS rfl ?_)
    show wpAny _ A.in1 (tryCatch (pyNext (.ref I)) _ >>= _) _ _ s
    refine wpAny_bind (wpAny_tryCatch (W.done s _ _ (hin ▸ hst) fun h' tk hk' => ?_))
    have hS' := hk' S _ hSw hS
    show wpAny _ A.in1 (updateSeq S (fun _ => #[]) >>= _) _ _ _
    refine wpAny_bind ?_
    refine wpAny_updateSeq hS' rfl (wpAny_bind (wpAny_letGo (wpAny_pure ?_)))
    exact hR vb _ tk (by rw [← hin]; exact hPb) fun b o hbw hbS e => (Heap.get?_update_other _ _ (Ne.symm hbS)).trans (hk' b o hbw e)
  | succ k ih =>
    intro j s vb c hk hj hst hJs hPb hS hR
    have hlt : j + 1 < n := by omega
    refine codeAny_builtin F.entry_max_loop ?_
    rw [Around.under_plainId F.plain_max_loop _]
    show wpAny _ A.in1 (seqItems? (.ref S) >>= _) _ _ s
    refine wpAny_bind (wpAny_seqItems hS rfl ?_)
    show wpAny _ A.in1 (tryCatch (pyNext (.ref I)) _ >>= _) _ _ s
    refine wpAny_bind (wpAny_tryCatch (W.item (j + 1) s _ _ hlt hst fun v h' tk hP hst' hk' => ?_))
    have hS' := hk' S _ hSw hS
    have st1 : Stays wr S s.heap h' := fun b o hb _ e => hk' b o hb e
    have hJ' := hJ _ _ hJs st1
    show wpAny _ A.in1 (tryCatch (holding [v, v] (richCompare .Gt v vb >>= _)) _ >>= _) _ _ _
    refine wpAny_bind (wpAny_tryCatch (wpAny_holding (wpAny_bind (hcmp (j + 1) (argBest bt j) v vb _ _ _ hJ' hP hPb ?_))))
    refine wpAny_bind (wpAny_holding (wpAny_truthy_bool ?_))
    refine wpAny_bind (wpAny_letGo (wpAny_pure ?_))
    cases hb : bt (j + 1) (argBest bt j) with
    | true =>
      simp only [if_true]
      refine wpAny_bind ?_
      refine wpAny_updateSeq hS' rfl (wpAny_bind (wpAny_letGo ?_))
      rw [hname]
      refine wpAny_pure ⟨plainId_quiet F.plain_max_loop _, ih (j + 1) _ v _ (by omega) hlt (W.frame _ _ _ hst' fun b hbf o e => ?_) (hJ _ _ hJ' (.upd _ _ _)) (by simp only [argBest, hb, if_true]; exact hP) (Heap.get?_update_self _ hS' rfl)
        fun v' h'' tk'' hP' hk'' => ?_⟩
      · exact (Heap.get?_update_other _ _ (fun h : S = b => hSf (by rw [h]; exact hbf))).trans e
      · exact hR v' h'' tk'' hP' ((st1.trans (.upd _ _ _)).trans hk'')
    | false =>
      simp only [Bool.false_eq_true, if_false]
      refine wpAny_bind (wpAny_letGo ?_)
      rw [hname]
      refine wpAny_pure ⟨plainId_quiet F.plain_max_loop _, ih (j + 1) _ vb c (by omega) hlt hst' hJ' (by simp only [argBest, hb, Bool.false_eq_true, if_false]; exact hPb) hS' fun v' h'' tk'' hP' hk'' => ?_⟩
      exact hR v' h'' tk'' hP' (st1.trans hk'')
end

theorem argBest_mem {bt : Nat → Nat → Bool} : ∀ k, argBest bt k ≤ k
  | 0 => Nat.le_refl _
  | k + 1 => by
    unfold argBest
    split
    · exact Nat.le_refl _
    · exact Nat.le_succ_of_le (argBest_mem k)
theorem argBest_best (at' : Nat → Jb) : ∀ k j, j ≤ k → ltJ (at' (argBest (fun i j => ltJ (at' j) (at' i)) k)) (at' j) = false
  | 0, j, h => by
    have : j = 0 := by omega
    subst this
    exact ltJ_irrefl _
  | k + 1, j, h => by
    have ih := argBest_best at' k
    unfold argBest
    split
    · rename_i e
      rcases Nat.lt_or_eq_of_le h with q | q
      · have := ih j (by omega)
        rw [ltJ_iff] at e
        rw [ltJ_iff'] at this ⊢
        omega
      · rw [q]; exact ltJ_irrefl _
    · rename_i e
      rcases Nat.lt_or_eq_of_le h with q | q
      · exact ih j (by omega)
      · rw [q]; exact Bool.not_eq_true _ ▸ e

section
variable {prog : Program} {w : World} {A : Around} {env : Env} {ok ok' : Addr → Prop} {s s₀ : Shared}
theorem call_maxH {x : Value} {Q : Value → Shared → Prop} {E : Value → Shared → Prop}
    (h : wpAny (model prog w) A.in1 (pyIter x) (fun it s₂ => ∃ I fp wr n P St bt, ∃ J : Heap → Prop, it = .ref I ∧ Walks prog w A.in1 I fp wr n P St ∧ St 0 s₂.heap ∧ (∀ b ∈ fp, b < s₂.heap.objs.size) ∧ 0 < n ∧ J s₂.heap ∧ (∀ S h h', s₂.heap.objs.size ≤ S → J h → Stays wr S h h' → J h') ∧
      (∀ i j vi vj (s : Shared) (Q : Value → Shared → Prop) (E : Value → Shared → Prop), J s.heap → P i vi → P j vj → Q (.bool (bt i j)) s → wpAny (model prog w) A.in1 (richCompare .Gt vi vj) Q E s) ∧
      ∀ v h' tk, P (argBest bt (n - 1)) v → (∀ b o, b ∉ wr → s₂.heap.get? b = some o → h'.get? b = some o) → Q v { s₂ with heap := h', toks := tk }) E s) :
    wpAny (model prog w) A (call (.builtin "max") [x]) Q E s := by
  have hname : (toString "max" ++ toString ".loop" : String) = "max.loop" := by decide
  refine call_function_tree F.kind_max F.plain_max F.entry_max (F.args_max1 _) ?_
  show wpAny _ A.in1 (Builtin.Builtins.bindParams "max" ["key", "default"] 0 ⟨[], []⟩ >>= _) _ _ s
  refine wpAny_bind (wpAny_of_eq (show Builtin.Builtins.bindParams "max" ["key", "default"] 0 ⟨[], []⟩ = pure [none, none] from rfl) ?_)
  refine wpAny_bind (wpAny_pure ?_)
  refine wpAny_bind (wpAny_mono h (fun it s₂ h₂ => ?_) fun _ _ e => e)
  obtain ⟨I, fp, wr, n, P, St, bt, J, rfl, W, hst, hfp, hn, hJ0, hJ, hcmp, hQ⟩ := h₂
  refine wpAny_bind (wpAny_newObj_type ?_)
  have hSf : s₂.heap.objs.size ∉ fp := fun hm => Nat.lt_irrefl _ (hfp _ hm)
  have hSw : s₂.heap.objs.size ∉ wr := fun h => hSf (W.sub _ h)
  rw [hname]
  refine wpAny_pure ⟨plainId_quiet F.plain_max_loop _, ?_⟩
  have hst1 : ∀ o : Obj, St 0 (s₂.heap.push o) := fun o => W.frame _ _ _ hst fun b _ o e => Heap.get?_push_of_some _ e
  have hJ1 : ∀ o : Obj, J (s₂.heap.push o) := fun o => hJ _ _ _ (Nat.le_refl _) hJ0 fun b o _ _ e => Heap.get?_push_of_some _ e
  refine codeAny_builtin F.entry_max_loop ?_
  rw [Around.under_plainId F.plain_max_loop _]
  show wpAny _ A.in1 (seqItems? (.ref s₂.heap.objs.size) >>= _) _ _ _
  have hS : (s₂.heap.push { cls := .type "list", data := .seq #[] }).get? s₂.heap.objs.size = some { cls := .type "list", dict := none, data := .seq #[] 0, slots := #[] } := Heap.get?_push_size _ rfl
  refine wpAny_bind (wpAny_seqItems hS rfl ?_)
  show wpAny _ A.in1 (tryCatch (pyNext (.ref I)) _ >>= _) _ _ _
  refine wpAny_bind (wpAny_tryCatch (W.item 0 _ _ _ hn (hst1 _) fun v h' tk hP hst' hk' => ?_))
  have hS' := hk' s₂.heap.objs.size _ hSw hS
  show wpAny _ A.in1 (updateSeq s₂.heap.objs.size (fun _ => #[v, v]) >>= _) _ _ _
  refine wpAny_bind ?_
  refine wpAny_updateSeq hS' rfl ?_
  rw [hname]
  have st1 : Stays wr s₂.heap.objs.size s₂.heap h' := fun b o hb _ e => hk' b o hb (Heap.get?_push_of_some _ e)
  refine wpAny_pure ⟨plainId_quiet F.plain_max_loop _, max_loopH W bt J s₂.heap.objs.size (fun h h' => hJ _ h h' (Nat.le_refl _)) hcmp hSf _ 0 _ v _ rfl hn (W.frame _ _ _ hst' fun b hbf o e => ?_) (hJ _ _ _ (Nat.le_refl _) hJ0 (st1.trans (.upd _ _ _))) hP (Heap.get?_update_self _ hS' rfl) fun v' h'' tk'' hP' hk'' => ?_⟩
  · exact (Heap.get?_update_other _ _ (fun h : s₂.heap.objs.size = b => hSf (by rw [h]; exact hbf))).trans e
  · exact hQ v' h'' tk'' hP' fun b o hbw e => ((st1.trans (.upd _ _ _)).trans hk'') b o hbw (Nat.ne_of_lt (Heap.lt_size e)) e

theorem cal_maxT {as : List Jb} {M : Jb} (hh : A.handled = none) (hu : A.units + 64 < cLine) (hM : M ∈ as) (hmax : ∀ a ∈ as, ltJ M a = false) : Cal prog w A ok s₀ (.builtin "max") [.list (as.map tripD)] (tripD M) := fun s k vs hv Q E hQ => by
  cases hv with
  | cons hv h2 =>
  cases h2
  cases hv with
  | @list l us _ ha hl hr =>
  have hlt : l < s.heap.objs.size := by obtain ⟨_, e, _⟩ := hl; exact Heap.lt_size e
  have hlen := hr.length
  rw [List.length_map] at hlen
  have hpos : 0 < as.length := List.length_pos_of_mem hM
  have hv : ∀ (h : Heap) (i : Nat) (v : Value), DSs (fun b => ok b ∧ b < s.heap.objs.size) h us (as.map tripD) → us.toArray[i]? = some v → DS (fun b => ok b ∧ b < s.heap.objs.size) h v (tripD (as[i]?.getD (0, 0, 0))) := by
    intro h i v hd e
    obtain ⟨d, hd1, hd2⟩ := hd.getv i v (by simpa using e)
    rw [List.getElem?_map] at hd1
    cases q : as[i]? with
    | none => rw [q] at hd1; cases hd1
    | some a =>
      rw [q] at hd1
      cases hd1
      exact hd2
  refine call_maxH (wpAny_pyIter_list hl ?_)
  refine ⟨_, [s.heap.objs.size, l], [s.heap.objs.size], _, _, _, fun i j => ltJ (as[j]?.getD (0, 0, 0)) (as[i]?.getD (0, 0, 0)), fun h => DSs (fun b => ok b ∧ b < s.heap.objs.size) h us (as.map tripD), rfl,
    Walks.list (A := A.in1) hh _ l (Nat.ne_of_lt hlt) us.toArray, ⟨⟨_, Heap.get?_push_size _ rfl, rfl, rfl⟩, hl.push _⟩, fun b hb => ?_, by simp; omega, ?_, ?_, ?_, ?_⟩
  · show b < (s.heap.push _).objs.size
    rw [Heap.size_push]
    rcases List.mem_cons.mp hb with rfl | hb
    · exact Nat.lt_succ_self _
    · rw [List.mem_singleton.mp hb]; exact Nat.lt_succ_of_lt hlt
  · exact hr.up fun b o hb e _ => ⟨⟨hb, Heap.lt_size e⟩, Heap.get?_push_of_some _ e⟩
  · intro S h h' hS hd st
    have hS' : s.heap.objs.size + 1 ≤ S := by
      have := hS
      change (s.heap.push _).objs.size ≤ S at this
      rw [Heap.size_push] at this
      exact this
    refine hd.up fun b o hb e _ => ⟨hb, st b o (fun q => Nat.ne_of_lt hb.2 (List.mem_singleton.mp q)) (Nat.ne_of_lt (Nat.lt_of_lt_of_le hb.2 (Nat.le_of_succ_le hS'))) e⟩
  · intro i j vi vj s' Q' E' hd hi hj hQ'
    exact rc_gtT (by show A.units + 1 < cLine; omega) (hv _ _ _ hd hi) (hv _ _ _ hd hj) hQ'
  · intro v h' tk hP hk
    have kall : Kp s.heap h' := fun b o e => hk b o (fun q => Nat.ne_of_lt (Heap.lt_size e) (List.mem_singleton.mp q)) (Heap.get?_push_of_some _ e)
    have h1 := hv h' _ v (hr.up fun b o hb e _ => ⟨⟨hb, Heap.lt_size e⟩, kall _ _ e⟩) hP
    have hM' : as[argBest (fun i j => ltJ (as[j]?.getD (0, 0, 0)) (as[i]?.getD (0, 0, 0))) (us.toArray.size - 1)]?.getD (0, 0, 0) = M := by
      have b1 := argBest_mem (bt := fun i j => ltJ (as[j]?.getD (0, 0, 0)) (as[i]?.getD (0, 0, 0))) (us.toArray.size - 1)
      have b2 := argBest_best (fun i => as[i]?.getD (0, 0, 0)) (us.toArray.size - 1)
      rw [List.size_toArray, hlen] at b1 b2 ⊢
      obtain ⟨j, hj, e⟩ := List.mem_iff_getElem.mp hM
      have b3 := b2 j (by omega)
      have e1 : as[j]?.getD (0, 0, 0) = M := by rw [List.getElem?_eq_getElem hj, e]; rfl
      rw [e1] at b3
      refine ltJ_antisymm b3 (hmax _ ?_)
      rw [List.getElem?_eq_getElem (by omega)]
      exact List.getElem_mem _
    rw [hM'] at h1
    exact hQ v _ (.of kall) (h1.up fun b o hb e _ => ⟨hb.1, e⟩)
end
end Mine

/-! M2 -/
namespace Mine
open AutoSeq1 (wpAny_loadPart')

theorem rem_loop (l : Addr) (items : Array Value) (n : Nat) (x : Value) (e : Nat → Bool) (j : Nat) (hj : j < items.size) (hit : e j = true) (k : Nat) (hs1 : items.size ≤ sizeLine) :
    ∀ i : Nat, j - i = k → i ≤ j → (∀ m (hm : m < items.size), i ≤ m → m < j → e m = false) → Meets (Builtin.«list.remove.loop» ⟨[.ref l, x, rawInt i], []⟩)
      (fun A R s => (∀ m y, items[m]? = some y → SeqAt.EqAt A.in1 s y x (e m)) ∧ s.heap.get? l = some { cls := .type "list", dict := none, data := .seq items n, slots := #[] } ∧ R (.ok (.ret .none)) { s with heap := s.heap.update l (Obj.mapSeq fun xs => xs.eraseIdxIfInBounds j) }) := by
  induction k with
  | zero =>
    intro i hk hij hno prog w A R s h
    obtain ⟨hp, g, d, tk, os⟩ := s; obtain ⟨he, hl, h⟩ := h
    have hij' : i = j := by omega
    subst hij'
    wp_walk using wpAny_loadPart' hl
    have hi : items[((i : Nat) : Int).toNat]? = some items[i] := by simp [hj]
    rw [hi]
    refine wpAny_bind (he i _ (Array.getElem?_eq_getElem hj) prog w _ _ ?_)
    rw [hit]
    have hz' : (items.eraseIdxIfInBounds i).size ≤ sizeLine + 1 := Nat.le_trans (MeetsSeq.size_erased items _) (Nat.le_succ_of_le hs1)
    wp_walk using (wpAny_updateSeq hl rfl (hz := hs1) (_hz' := hz')), wpAny_loadPart' hl
    simpa using h
  | succ k ih =>
    intro i hk hij hno prog w A R s h
    obtain ⟨hp, g, d, tk, os⟩ := s; obtain ⟨he, hl, h⟩ := h
    have hlt : i < items.size := by omega
    wp_walk using wpAny_loadPart' hl
    have hi : items[((i : Nat) : Int).toNat]? = some items[i] := by simp [hlt]
    have hc : ((i : Int) + 1) = ((i + 1 : Nat) : Int) := by push_cast; rfl
    rw [hi]
    refine wpAny_bind (he i _ (Array.getElem?_eq_getElem hlt) prog w _ _ ?_)
    rw [hno i hlt (Nat.le_refl _) (by omega)]
    wp_walk
    rw [hc]
    exact ⟨plainId_quiet MeetsSeq.plain_remove_loop _, codeAny_builtin MeetsSeq.entry_remove_loop (by
      rw [Around.under_plainId MeetsSeq.plain_remove_loop _]
      exact ih (i + 1) (by omega) (by omega) (fun m hm h1 h2 => hno m hm (by omega) h2) prog w A R _ ⟨he, hl, h⟩)⟩

theorem rem_all (l : Addr) (items : Array Value) (n : Nat) (x : Value) (e : Nat → Bool) (j : Nat) (hj : j < items.size)
    (hit : e j = true) (hno : ∀ m (hm : m < items.size), m < j → e m = false) (hs1 : items.size ≤ sizeLine) :
    Meets (Builtin.«list.remove» ⟨[.ref l, x], []⟩)
      (fun A R s => (∀ m y, items[m]? = some y → SeqAt.EqAt A.in1 s y x (e m)) ∧ s.heap.get? l = some { cls := .type "list", dict := none, data := .seq items n, slots := #[] } ∧ R (.ok (.ret .none)) { s with heap := s.heap.update l (Obj.mapSeq fun xs => xs.eraseIdxIfInBounds j) }) := by
  intro prog w A R s h
  obtain ⟨hp, g, d, tk, os⟩ := s; obtain ⟨he, hl, h⟩ := h
  wp_walk using wpAny_loadPart' hl
  exact ⟨plainId_quiet MeetsSeq.plain_remove_loop _, codeAny_builtin MeetsSeq.entry_remove_loop (by
    rw [Around.under_plainId MeetsSeq.plain_remove_loop _]
    exact rem_loop l items n x e j hj hit _ hs1 0 rfl (Nat.zero_le _) (fun m hm _ h2 => hno m hm h2) prog w A R _ ⟨he, hl, h⟩)⟩

section
variable {prog : Program} {w : World} {A : Around} {env : Env} {ok ok' : Addr → Prop} {s s₀ : Shared}
theorem trip_ok (a : Jb) : kqdOk 9 (tripD a) = true := by simp [tripD, kqdOk]
theorem list_remove {l : Addr} {vs : List Value} {v : Value} {as : List Jb} {x : Jb} {j : Nat} {Q : Value → Shared → Prop} {E : Value → Shared → Prop} (hu : A.units + 64 < cLine) (hp : s.heap.PlainList l vs.toArray) (hr : DSs ok s.heap vs (as.map tripD)) (hv : DS ok' s.heap v (tripD x)) (hok : ¬ ok l)
    (hsz : vs.length ≤ 1000) (hj : as[j]? = some x) (hno : ∀ m, m < j → as[m]? ≠ some x)
    (hQ : ∀ h' vs', KB [l] s.heap h' → h'.PlainList l vs'.toArray → DSs ok h' vs' ((as.eraseIdx j).map tripD) → Q .none { s with heap := h' }) :
    wpAny (model prog w) A (call (.builtin "list.remove") [.ref l, v]) Q E s := by
  obtain ⟨n, e⟩ := hp
  have hlen := hr.length
  rw [List.length_map] at hlen
  have hjl : j < as.length := (List.getElem?_eq_some_iff.mp hj).1
  have hjv : j < vs.toArray.size := by rw [List.size_toArray]; omega
  refine call_meets PySem.F.slot_list_remove ⟨_, e, rfl⟩ PySem.F.entry_list_remove (PySem.F.args_list_remove_2 _ _)
    (rem_all l vs.toArray n v (fun m => decide (as[m]? = some x)) j hjv (decide_eq_true hj) (fun m _ hm => decide_eq_false (hno m hm)) (by rw [List.size_toArray, sizeLine_eq]; omega)) ⟨fun m y hy => ?_, e, ?_⟩
  · obtain ⟨d, hd1, hd2⟩ := hr.getv m y (by simpa using hy)
    rw [List.getElem?_map] at hd1
    cases q : as[m]? with
    | none => rw [q] at hd1; cases hd1
    | some a =>
      rw [q] at hd1
      cases hd1
      obtain ⟨as1, r1⟩ := hd2.reads 9 (trip_ok a)
      obtain ⟨as2, r2⟩ := hv.reads 9 (trip_ok x)
      have g := SeqAt.eqAt_reads (kqdP (tripD a)) (kqdP (tripD x)) A.in1 s y v as1 as2 r1 r2 (kqd_lay 9 _ (trip_ok a)).1 (kqd_lay 9 _ (trip_ok x)).1 (by
        have := (kqd_lay 9 _ (trip_ok a)).2
        show A.units + 1 + _ < cLine
        omega)
      have e1 : PyData.eqv (kqdP (tripD a)) (kqdP (tripD x)) = decide (some a = some x) := by
        rw [Bool.eq_iff_iff, kqd_eqv 9 _ _ 9 (trip_ok a) (trip_ok x), decide_eq_true_iff]
        exact ⟨fun h => congrArg some (tripD_inj h), fun h => by cases h; rfl⟩
      rw [e1] at g
      exact g
  · have kb : KB [l] s.heap (s.heap.update l (Obj.mapSeq fun xs => xs.eraseIdxIfInBounds j)) := fun b o hb e' => (Heap.get?_update_ne _ _ _ _ (fun q => hb (List.mem_singleton.mpr q))).trans e'
    have e2 : vs.toArray.eraseIdxIfInBounds j = (vs.eraseIdx j).toArray := by
      apply Array.toList_inj.mp
      simp
    refine hQ _ (vs.eraseIdx j) kb ?_ ?_
    · have g := Heap.get?_update_self (Obj.mapSeq fun xs => xs.eraseIdxIfInBounds j) e rfl
      dsimp only [Obj.mapSeq] at g
      rw [← e2]
      exact ⟨_, g⟩
    · have hr' := hr.up (ok' := ok) (h' := s.heap.update l (Obj.mapSeq fun xs => xs.eraseIdxIfInBounds j)) fun b o hb e _ => ⟨hb, kb b o (fun q => hok (List.mem_singleton.mp q ▸ hb)) e⟩
      rw [List.eraseIdx_eq_take_drop_succ, List.eraseIdx_eq_take_drop_succ, List.map_append, List.map_take, List.map_drop]
      exact (hr'.take _).append (hr'.drop _)
end
end Mine

/-! D2 -/
namespace Mine

def maxJ : List Jb → Jb
  | [] => (0, 0, 0)
  | a :: r => r.foldl (fun b x => if ltJ b x then x else b) a
theorem maxJ_aux : ∀ (r : List Jb) (a : Jb), (r.foldl (fun b x => if ltJ b x then x else b) a) ∈ a :: r ∧ ∀ c ∈ a :: r, ltJ (r.foldl (fun b x => if ltJ b x then x else b) a) c = false
  | [], a => ⟨.head _, fun c hc => by rw [List.mem_singleton.mp hc]; exact ltJ_irrefl _⟩
  | x :: r, a => by
    rw [List.foldl_cons]
    obtain ⟨h1, h2⟩ := maxJ_aux r (if ltJ a x then x else a)
    have hx : ltJ (if ltJ a x then x else a) x = false ∧ ltJ (if ltJ a x then x else a) a = false ∧ (if ltJ a x then x else a) ∈ a :: x :: r := by
      split
      · rename_i e
        refine ⟨ltJ_irrefl _, ?_, .tail _ (.head _)⟩
        rw [ltJ_iff] at e
        rw [ltJ_iff']
        omega
      · rename_i e
        exact ⟨Bool.not_eq_true _ ▸ e, ltJ_irrefl _, .head _⟩
    refine ⟨?_, fun c hc => ?_⟩
    · rcases List.mem_cons.mp h1 with q | q
      · rw [q]; exact hx.2.2
      · exact .tail _ (.tail _ q)
    · have h0 := h2 _ (.head _)
      have tr : ∀ d, ltJ (if ltJ a x then x else a) d = false → ltJ (List.foldl (fun b x => if ltJ b x then x else b) (if ltJ a x then x else a) r) d = false := by
        intro d hd
        rw [ltJ_iff'] at h0 hd ⊢
        omega
      rcases List.mem_cons.mp hc with q | q
      · rw [q]; exact tr _ hx.2.1
      · rcases List.mem_cons.mp q with q | q
        · rw [q]; exact tr _ hx.1
        · exact h2 c (.tail _ q)
theorem maxJ_mem {as : List Jb} (h : as ≠ []) : maxJ as ∈ as := by
  cases as with
  | nil => exact absurd rfl h
  | cons a r => exact (maxJ_aux r a).1
theorem maxJ_max {as : List Jb} : ∀ c ∈ as, ltJ (maxJ as) c = false := by
  cases as with
  | nil => intro c hc; cases hc
  | cons a r => exact (maxJ_aux r a).2

def timeJ (js : List Jb) : Int := (js.map (·.1)).sum
def stepK (kept : List Jb) (j : Jb) : List Jb := if timeJ (kept ++ [j]) > j.2.2 then (kept ++ [j]).eraseIdx ((kept ++ [j]).idxOf (maxJ (kept ++ [j]))) else kept ++ [j]
def keptL (js : List Jb) : List Jb := (byDays js).foldl stepK []
theorem stepK_len (kept : List Jb) (j : Jb) : (stepK kept j).length ≤ kept.length + 1 := by
  unfold stepK
  split
  · refine Nat.le_trans (List.length_eraseIdx_le _ _) (by simp)
  · simp
theorem stepK_pos {kept : List Jb} {j : Jb} (h : timeJ (kept ++ [j]) > j.2.2) : stepK kept j = (kept ++ [j]).eraseIdx ((kept ++ [j]).idxOf (maxJ (kept ++ [j]))) := if_pos h
theorem stepK_neg {kept : List Jb} {j : Jb} (h : ¬ timeJ (kept ++ [j]) > j.2.2) : stepK kept j = kept ++ [j] := if_neg h
theorem foldK_len : ∀ (js kept : List Jb), (js.foldl stepK kept).length ≤ kept.length + js.length
  | [], _ => Nat.le_refl _
  | j :: r, kept => by
    rw [List.foldl_cons, List.length_cons]
    have h1 := foldK_len r (stepK kept j)
    have h2 := stepK_len kept j
    omega

def gTime : Dat → Dat
  | .tuple [a, _, _] => a
  | d => d
theorem map_gTime (qs : List Jb) : ((qs.map tripD).filter fun _ => true).map gTime = (qs.map (·.1)).map Dat.int := by
  rw [List.filter_eq_self.mpr fun _ _ => rfl, List.map_map, List.map_map]
  rfl

theorem jobD_tripD : jobD = tripD := rfl

set_option maxHeartbeats 4000000 in
theorem con_kept (P : Params) (js : List Jb) (hlen : js.length ≤ 5) : Con P 108 25 600 [jobsD js] (jobsD (keptL js)) := by
  intro prog w p loose mg mb A ok s₀ G fr hh hd hu s k vs hv Q E hQ
  have Gs := G.kp k.kp
  cases hv with
  | cons hv h2 =>
  cases h2
  refine call_def (by omega) (Gs.X _ _ rfl) rfl Gs.T.nolimit (codeRec_of Gs.X rfl) rfl (BindsTo.of_eq rfl) (by decide) (locs rfl) rfl rfl rfl ?_
  intro s₁ E' hn hk
  have hv0 := hv.kp hk.kp
  have fr0 : Free ok s₁.heap := (fr.kp k.kp).kp hk.kp
  have G1 := Gs.kp hk.kp
  refine run_newlist (ds := []) fr0 hn evs_nil (by rw [sizeLine_eq]; simp) rfl rfl rfl fun a vs0 h1 t1 ha0 k1 n1 p1 d1 haL hoka => ?_
  have kp1 : Kp s.heap h1 := fun b o e => k1 b o (fun q => Nat.ne_of_lt (Heap.lt_size e) (List.mem_singleton.mp q)) (hk.kp _ _ e)
  have hv1 : DS (fun b => ok b ∧ b ≠ a) h1 _ (jobsD js) := hv.up fun b o hb e hs => ⟨⟨hb, fun q => by have e' := hk.kp _ _ e; rw [q, ha0] at e'; cases e'⟩, kp1 _ _ e⟩
  have ga : h1.get? a ≠ none := by
    obtain ⟨n, e⟩ := p1
    rw [e]; exact fun q => nomatch q
  have fr1 : Free (fun b => ok b ∧ b ≠ a) h1 := fun b e => ⟨(fr.kp k.kp).kp kp1 b e, fun q => ga (q ▸ e)⟩
  have G1' := Gs.kp kp1
  refine run_for (ok := fun b => ok b ∧ b ≠ a) (ds := (byDays js).map jobD) (p := .one (Str.ofString "job")) [a]
    (fun pre h m => ∃ (jp : List Jb) (vs : List Value), pre = jp.map jobD ∧ m (Str.ofString "kept") = some (.ref a) ∧ h.PlainList a vs.toArray ∧ DSs (fun b => ok b ∧ b ≠ a) h vs ((jp.foldl stepK []).map tripD))
    (srcN_list hh (ev_call (has_global G1' rfl rfl rfl rfl (by decide)) (.func (G1'.X _ _ rfl) rfl) (evs_cons (ev_name (has_local rfl rfl n1 rfl (by decide)) hv1) evs_nil rfl) (con_byDays P js hlen G1' fr1 hh (by show A.depth + 1 + 18 < _; omega) (by show A.units + 3 + 400 < _; omega)) rfl rfl) (fun _ _ => trivial)) (fun _ => rfl) rfl (.one rfl) n1 ?mu ?st ?h0 ?turn ?done
  case mu =>
    intro b hb
    obtain rfl := List.mem_singleton.mp hb
    obtain ⟨n, e⟩ := p1
    exact ⟨⟨_, e⟩, fun q => q.2 rfl, haL⟩
  case st =>
    rintro pre h h' m ⟨jp, vs, h1, h2, ⟨n, h3⟩, h4⟩ sk
    exact ⟨jp, vs, h1, h2, ⟨n, sk _ _ h3 ⟨_, _, rfl⟩⟩, h4.up sk.up⟩
  case h0 => exact ⟨[], vs0, rfl, rfl, p1, d1⟩
  case turn =>
    rintro pre d post s' m₁ m₂ hds ⟨h', tk', rfl⟩ kb ⟨jp, vs, rfl, hf, hp, hr⟩ hn2 bd E2
    obtain ⟨l1, j, l2, e0, e1, rfl, e2⟩ := map_split hds
    obtain ⟨u, hu1, rfl⟩ := bd
    have hj : jp = l1 := (List.map_inj_right (fun a b h => jobD_inj h)).mp e1
    subst hj
    have hjl : jp.length < 5 := by
      have := congrArg List.length e0
      rw [byDays_length, List.length_append, List.length_cons] at this
      omega
    have hkl : (jp.foldl stepK []).length ≤ jp.length := by simpa using foldK_len jp []
    have hvl : vs.length ≤ 5 := by rw [hr.length, List.length_map]; omega
    have kp2 : Kp s.heap h' := fun b o e => kb b o (by
      intro q
      simp only [List.mem_cons, List.not_mem_nil, or_false] at q
      rcases q with q | q
      · exact Nat.ne_of_lt (Heap.lt_size e) q
      · have e' := hk.kp _ _ e; rw [q, ha0] at e'; cases e') (kp1 _ _ e)
    have G2 := Gs.kp kp2
    refine run_append (ok := fun b => ok b ∧ b ≠ a) (ok' := fun b => ok b ∧ b ≠ a) (d := jobD j) (has_local rfl rfl hn2 hf (by decide)) hp (ev_name (has_local rfl rfl hn2 rfl (by decide)) hu1) rfl rfl rfl rfl (by rw [sizeLine_eq]; omega) (fun q => q.2 rfl) (fun h v hv => hv)
      fun v h3 t3 kb3 hp3 hv3 => ?_
    have up3 : Up (fun b => ok b ∧ b ≠ a) (fun b => ok b ∧ b ≠ a) h' h3 := fun b o hb e _ => ⟨hb, kb3 b o (fun q => hb.2 (List.mem_singleton.mp q)) e⟩
    have hr3 : DSs (fun b => ok b ∧ b ≠ a) h3 (vs ++ [v]) ((jp.foldl stepK [] ++ [j]).map tripD) := by
      rw [List.map_append]
      exact (hr.up up3).append (.cons hv3 .nil)
    have hu3 : DS ok h3 u (jobD j) := hu1.up fun b o hb e hs => ⟨hb.1, (up3 b o hb e hs).2⟩
    have hn3 : h3.Ns _ _ := hn2.at' fun o e => kb3 _ o (fun q => haL (List.mem_singleton.mp q).symm) e
    have kp3 : Kp s.heap h3 := fun b o e => kb3 b o (fun q => by
      have e' := hk.kp _ _ e; rw [List.mem_singleton.mp q, ha0] at e'; cases e') (kp2 _ _ e)
    have G3 := Gs.kp kp3
    have fr3 : Free ok h3 := (fr.kp k.kp).kp kp3
    have hfd : DS ok h3 (.ref a) (.list ((jp.foldl stepK [] ++ [j]).map tripD)) := .list hoka hp3.isList (hr3.up fun b o hb e _ => ⟨hb.1, e⟩)
    have hl3 : (jp.foldl stepK [] ++ [j]).length ≤ 5 := by rw [List.length_append, List.length_singleton]; omega
    refine run_if (b := decide (timeJ (jp.foldl stepK [] ++ [j]) > j.2.2)) (tr_cmp (ok := ok) (a := .int (timeJ (jp.foldl stepK [] ++ [j]))) (b := .int j.2.2)
      (ev_call (ds := [.list (((jp.foldl stepK [] ++ [j]).map (·.1)).map Dat.int)]) (has_builtin G3 rfl rfl (by decide) rfl rfl rfl rfl (by decide)) (.builtin _) (evs_cons ?comp evs_nil rfl) (by exact cal_sum hh) rfl rfl)
      (ev_itemT (ds := [.int j.1, .int j.2.1, .int j.2.2]) (ev_name (has_local rfl rfl hn3 rfl (by decide)) hu3) ev_int (by decide) (by decide) rfl (fun _ _ => rfl)) op_gt rfl) fun s4 k4 => ?_
    case comp =>
      rw [← map_gTime]
      refine ev_comp1 (p := .many [Str.ofString "time", Str.ofString "worth", Str.ofString "due"]) (fun _ => true) gTime fr3 (src_list hh (ev_name (has_local rfl rfl hn3 hf (by decide)) hfd) ?_)
        (fun _ => rfl) rfl (by decide) rfl (by decide) (fun C => .many (.cons rfl (.cons rfl (.cons rfl .nil)))) (by rw [List.length_map]; exact small_len hl3) (fun d s₁ ok₁ C m₀ m hd nx hn bd => .inl ⟨rfl, rfl⟩) ?_
      · intro d hd
        obtain ⟨j, _, rfl⟩ := List.mem_map.mp hd
        exact ⟨_, rfl, rfl⟩
      · intro d s₂ ok₁ C m₀ m hd _ nx hn2 bd
        obtain ⟨j, _, rfl⟩ := List.mem_map.mp hd
        obtain ⟨ws, ds', e3, hws, _, rfl⟩ := bd
        simp only [tripD, Dat.tuple.injEq] at e3
        subst e3
        cases hws with
        | cons w1 hws =>
        cases hws with
        | cons w2 hws =>
        cases hws with
        | cons w3 hws =>
        cases hws
        exact ev_name (has_local rfl rfl hn2 rfl (by decide)) w1
    · have hn4 := hn3.keeps k4.kp
      have G4 := G3.kp k4.kp
      have hp4 : s4.heap.PlainList a (vs ++ [v]).toArray := hp3.at fun o e => k4.kp _ o e
      have hr4 := hr3.kp k4.kp
      by_cases hc : timeJ (jp.foldl stepK [] ++ [j]) > j.2.2
      · rw [decide_eq_true hc]
        simp only [if_true]
        have hne : jp.foldl stepK [] ++ [j] ≠ [] := by simp
        refine run_meth (ok := ok) PySem.F.slot_list_remove PySem.F.type_list_remove (has_local rfl rfl hn4 hf (by decide)) hp4
          (ev_call (has_builtin G4 rfl rfl (by decide) rfl rfl rfl rfl (by decide)) (.builtin _) (evs_cons (ev_name (has_local rfl rfl hn4 hf (by decide)) (hfd.kp k4.kp)) evs_nil rfl) (cal_maxT (M := maxJ (jp.foldl stepK [] ++ [j])) hh (by show A.units + 3 + 64 < _; omega) (maxJ_mem hne) maxJ_max) rfl rfl) rfl rfl rfl rfl fun v5 s5 k5 hp5 hv5 E5 => ?_
        refine list_remove (as := jp.foldl stepK [] ++ [j]) (x := maxJ (jp.foldl stepK [] ++ [j])) (j := (jp.foldl stepK [] ++ [j]).idxOf (maxJ (jp.foldl stepK [] ++ [j]))) (by show A.units + 3 + 64 < _; omega) hp5 (hr4.kp k5.kp) hv5 (fun q => q.2 rfl) (by rw [List.length_append, List.length_singleton]; omega) ?_ ?_ fun h6 vs6 kb6 hp6 hr6 => ⟨rfl, wpAny_execs_nil (wpAny_execs_nil ?_)⟩
        · rw [List.getElem?_eq_getElem (List.idxOf_lt_length_of_mem (maxJ_mem hne)), List.getElem_idxOf]
        · intro m hm e
          obtain ⟨h1, h2⟩ := List.getElem?_eq_some_iff.mp e
          have := List.not_of_lt_findIdx hm
          rw [h2] at this
          simp at this
        · have kb' : KB [a] h' h6 := fun b o hb e => kb6 b o hb (k5.kp _ _ (k4.kp _ _ (kb3 b o hb e)))
          refine ⟨h6, s5.toks, _, ?_, kb'.weak fun p hp => .tail _ hp, hn2.at' fun o e => kb' _ o (fun q => haL (List.mem_singleton.mp q).symm) e, jp ++ [j], vs6, by simp, hf, hp6, ?_⟩
          · obtain ⟨a1, b1, rfl, _⟩ := k5
            obtain ⟨a2, b2, rfl, _⟩ := k4
            rfl
          · rw [List.foldl_append]
            show DSs _ _ _ (List.map tripD (stepK _ _))
            rw [stepK_pos hc]
            exact hr6
      · rw [decide_eq_false hc]
        simp only [Bool.false_eq_true, if_false]
        refine wpAny_execs_nil (wpAny_execs_nil ?_)
        have kb' : KB [a] h' s4.heap := fun b o hb e => k4.kp _ _ (kb3 b o hb e)
        refine ⟨s4.heap, s4.toks, _, ?_, kb'.weak fun p hp => .tail _ hp, hn4, jp ++ [j], vs ++ [v], by simp, hf, hp4, ?_⟩
        · obtain ⟨a2, b2, rfl, _⟩ := k4
          rfl
        · rw [List.foldl_append]
          show DSs _ _ _ (List.map tripD (stepK _ _))
          rw [stepK_neg hc]
          exact hr4
  case done =>
    rintro h' tk' m' kb hn' ⟨jp, vs, e1, hf, hp, hr⟩
    have hj : jp = byDays js := ((List.map_inj_right (fun a b h => jobD_inj h)).mp e1).symm
    subst hj
    have kp2 : Kp s.heap h' := fun b o e => kb b o (by
      intro q
      simp only [List.mem_cons, List.not_mem_nil, or_false] at q
      rcases q with q | q
      · exact Nat.ne_of_lt (Heap.lt_size e) q
      · have e' := hk.kp _ _ e; rw [q, ha0] at e'; cases e') (kp1 _ _ e)
    have kall : Kps s { ({ s₁ with heap := h1, toks := t1 } : Shared) with heap := h', toks := tk' } := ⟨h', tk', by obtain ⟨x, y, rfl, _⟩ := hk; rfl, kp2⟩
    have hfd : DS ok h' (.ref a) (jobsD (keptL js)) := .list hoka hp.isList (hr.up fun b o hb e _ => ⟨hb.1, e⟩)
    exact run_ret (ok := ok) (ev_name (has_local rfl rfl hn' hf (by decide)) hfd) fun v s' k' h' => hQ v s' (kall.trans k') h'
end Mine

/-! D3 -/
namespace Mine
section
variable {prog : Program} {w : World} {A : Around} {env : Env} {ok : Addr → Prop} {s s₀ : Shared}
theorem has_free {x : Str} {v : Value} {c : Addr} (hk : env.scope.kind = .function) (hl : env.kindOf x = some .free) (hc : env.cells.lookup x = some c) (hv : s₀.heap.IsCell c (some v)) (hd : (x == ("__debug__" : Str)) = false) (hn : (x == ("__classdict__" : Str)) = false) : Has prog w A env s₀ x v :=
  fun s k Q E pos h => wpAny_Name (wpAny_loadName_free hk hl hc (hv.keeps k.kp) h hn) hd
theorem src_rangeN {x : Str} {p pos : Pos} {e : Expr} {n : Nat} {y : Str} (hh : A.handled = none) (hx : Has prog w A env s₀ x (.type "range")) (h : Ev prog w A env ok s₀ e (.int n)) (hn : n ≤ 1000)
    (he : starEach [e] env = (false, eval e env) :: starEach [] env) : Src prog w A env ok s₀ (.Call (.Name x p) [e] [] pos) ((List.range n).map fun (i : Nat) => Dat.int i) (.one y) := by
  have g := src_range1 (y := y) hh hx h (small_one (by decide) (by decide) (by omega) (by omega)) he (pos := pos) (p := p)
  rw [Int.toNat_natCast] at g
  exact g
/-- a def with cells called -/
theorem call_defC {f : Addr} {o : Obj} {fd : FuncData} {body : List Stmt} {vs : List Value} {binds : List (Str × Value)} {Q : Value → Shared → Prop} {E : Value → Shared → Prop}
    (hroom : A.depth < recursionLimit) (ho : s.heap.get? f = some o) (hdat : o.data = .func fd) (hlim : s.heap.NoLimit) (hcd : s.heap.CodeRec fd.code fd.qualname) (hbody : fd.body = .stmts body) (hbind : bindArgs fd ⟨vs, []⟩ = pure binds) (hclo : fd.closure = [])
    (hkind : ∀ x ∈ binds, fd.scope.names.lookup x.1 = some .local ∨ (fd.scope.names.lookup x.1 = some .cell ∧ ((cellsFrom (s.heap.objs.size + 1) fd.scope.names []).lookup x.1).isSome = true))
    (hco : fd.scope.isCoroutine = false) (hgen : fd.scope.isGenerator = false) (hk : fd.scope.kind = .function)
    (h : ∀ s₁ E', s₁.heap.Ns s.heap.objs.size (bindL (callEnvC fd s.heap.objs.size f).kindOf binds fun _ => none) → Kps s s₁ →
      (∀ n c, (callEnvC fd s.heap.objs.size f).cells.lookup n = some c → s₁.heap.IsCell c (bindC (callEnvC fd s.heap.objs.size f).kindOf binds (fun _ => none) n)) →
      wpAny (model prog w) (A.deeper (callEnvC fd s.heap.objs.size f)) (execs body (callEnvC fd s.heap.objs.size f)) (fun fl s' => Q (match fl with | .ret v => v | _ => .none) s') E' s₁) :
    wpAny (model prog w) A (call (.ref f) vs) Q E s :=
  wpAny_call (codeAny_call_cells hroom ho hdat hlim hcd hbody hbind hclo hkind (fun s₁ x => h _ _ x.toInCall.ns (by
    obtain ⟨h', tk, rfl⟩ := x.toInCall.same
    exact .of x.toInCall.keep) x.cell) hco hgen hk)
end

def ordersF : Nat → List Jb → List (List Jb)
  | 0, _ => [[]]
  | n + 1, js => (List.range js.length).flatMap fun k => (ordersF n (js.take k ++ js.drop (k + 1))).map fun r => (js[k]?.getD (0, 0, 0)) :: r
def ds2Ord (n : Nat) (js : List Jb) : Dat → List Dat
  | .int k => (ordersF n (js.take k.toNat ++ js.drop (k.toNat + 1))).map jobsD
  | _ => []
def gOrd (js : List Jb) : Dat → Dat → Dat
  | .int k, .list r => .list (jobD (js[k.toNat]?.getD (0, 0, 0)) :: r)
  | _, d => d
theorem ord_eq (n : Nat) (js : List Jb) : (((List.range js.length).map fun (i : Nat) => Dat.int i).flatMap fun d => ((ds2Ord n js d).filter fun _ => true).map (gOrd js d)) = (ordersF (n + 1) js).map jobsD := by
  rw [ordersF, List.map_flatMap, List.flatMap_map]
  congr 1
  funext k
  rw [List.filter_eq_self.mpr fun _ _ => rfl, List.map_map]
  show List.map _ (List.map jobsD _) = _
  rw [List.map_map]
  rfl

theorem ordersF_len : ∀ (n : Nat) (js : List Jb), n = js.length → n ≤ 5 → (ordersF n js).length ≤ 6 ^ n
  | 0, _, _, _ => Nat.le_refl _
  | n + 1, js, h, h5 => by
    rw [ordersF, List.length_flatMap]
    have h1 : ∀ x ∈ (List.range js.length).map fun k => ((ordersF n (js.take k ++ js.drop (k + 1))).map fun r => (js[k]?.getD (0, 0, 0)) :: r).length, x ≤ 6 ^ n := by
      intro x hx
      obtain ⟨k, hk, rfl⟩ := List.mem_map.mp hx
      rw [List.mem_range] at hk
      rw [List.length_map]
      refine ordersF_len n _ ?_ (by omega)
      rw [List.length_append, List.length_take, List.length_drop]
      omega
    have h2 : ∀ (l : List Nat) (c : Nat), (∀ x ∈ l, x ≤ c) → l.sum ≤ l.length * c := by
      intro l c
      induction l with
      | nil => intro _; simp
      | cons a r ih =>
        intro hx
        rw [List.sum_cons, List.length_cons, Nat.succ_mul]
        have := ih fun x hm => hx x (.tail _ hm)
        have := hx a (.head _)
        omega
    refine Nat.le_trans (h2 _ _ h1) ?_
    rw [List.length_map, List.length_range, Nat.pow_succ, Nat.mul_comm]
    exact Nat.mul_le_mul_left _ (by omega)

theorem ordersF_mem_len : ∀ (n : Nat) (js : List Jb), n = js.length → ∀ r ∈ ordersF n js, r.length = n
  | 0, _, _, r, hr => by
    rw [ordersF, List.mem_singleton] at hr
    rw [hr]; rfl
  | n + 1, js, h, r, hr => by
    rw [ordersF, List.mem_flatMap] at hr
    obtain ⟨k, hk, hr⟩ := hr
    rw [List.mem_range] at hk
    obtain ⟨q, hq, rfl⟩ := List.mem_map.mp hr
    rw [List.length_cons, ordersF_mem_len n _ _ q hq]
    rw [List.length_append, List.length_take, List.length_drop]
    omega

theorem jobsD_ok (js : List Jb) : kqdOk 9 (jobsD js) = true := by
  unfold jobsD
  simp only [kqdOk, List.all_eq_true]
  intro d hd
  obtain ⟨j, _, rfl⟩ := List.mem_map.mp hd
  simp [jobD, kqdOk]

set_option maxHeartbeats 4000000 in
theorem con_orders (P : Params) : ∀ (n : Nat) (js : List Jb), n = js.length → n ≤ 5 → Con P 81 (12 * (n + 1)) (60 * (n + 1) + 100) [jobsD js] (.list ((ordersF n js).map jobsD)) := by
  intro n
  induction n with
  | zero =>
    intro js hjs _ prog w p loose mg mb A ok s₀ G fr hh hd hu s k vs hv Q E hQ
    have hj0 : js = [] := List.length_eq_zero_iff.mp hjs.symm
    subst hj0
    have Gs := G.kp k.kp
    cases hv with
    | @cons jv _ _ _ hv h2 =>
    cases h2
    refine call_defC (binds := [(Str.ofString "jobs", jv)]) (by omega) (Gs.X _ _ rfl) rfl Gs.T.nolimit (codeRec_of Gs.X rfl) rfl rfl rfl (fun x hx => ?kind) rfl rfl rfl ?_
    case kind =>
      simp only [List.mem_singleton] at hx
      subst hx
      exact .inr ⟨rfl, rfl⟩
    intro s₁ E' hn hk hc
    have hv0 := hv.kp hk.kp
    have fr0 : Free ok s₁.heap := (fr.kp k.kp).kp hk.kp
    have hcj := hc (Str.ofString "jobs") _ rfl
    refine run_if (b := true) (tr_cmp (ok := ok) (a := jobsD []) (b := .list []) (ev_name (has_cell rfl rfl rfl hcj (by decide)) hv0) (ev_list (ds := []) fr0 evs_nil (by rw [sizeLine_eq]; simp))
      (op_eqD (jobsD_ok []) (by simp [kqdOk]) ⟨fun _ => rfl, fun _ => rfl⟩ (by show A.units + 3 + 64 < _; omega)) rfl) fun s₂ k2 => ?_
    simp only [if_true]
    exact run_ret (ok := ok) (ev_list (ds := [.list []]) (fr0.kp k2.kp) (evs_cons (ev_list (ds := []) (fr0.kp k2.kp) evs_nil (by rw [sizeLine_eq]; simp)) evs_nil rfl) (by rw [sizeLine_eq]; simp)) fun v s' k' h' => hQ v s' ((hk.trans k2).trans k') h'
  | succ n ih =>
    intro js hjs h5 prog w p loose mg mb A ok s₀ G fr hh hd hu s k vs hv Q E hQ
    have Gs := G.kp k.kp
    cases hv with
    | @cons jv _ _ _ hv h2 =>
    cases h2
    refine call_defC (binds := [(Str.ofString "jobs", jv)]) (by omega) (Gs.X _ _ rfl) rfl Gs.T.nolimit (codeRec_of Gs.X rfl) rfl rfl rfl (fun x hx => ?kind) rfl rfl rfl ?_
    case kind =>
      simp only [List.mem_singleton] at hx
      subst hx
      exact .inr ⟨rfl, rfl⟩
    intro s₁ E' hn hk hc
    have hv0 := hv.kp hk.kp
    have fr0 : Free ok s₁.heap := (fr.kp k.kp).kp hk.kp
    have G1 := Gs.kp hk.kp
    have hcj := hc (Str.ofString "jobs") _ rfl
    refine run_if (b := false) (tr_cmp (ok := ok) (a := jobsD js) (b := .list []) (ev_name (has_cell rfl rfl rfl hcj (by decide)) hv0) (ev_list (ds := []) fr0 evs_nil (by rw [sizeLine_eq]; simp))
      (op_eqD (jobsD_ok js) (by simp [kqdOk]) ⟨fun q => (nomatch q), fun q => by
        exfalso
        cases js with
        | nil => simp at hjs
        | cons a r => exact nomatch q⟩ (by show A.units + 3 + 64 < _; omega)) rfl) fun s₂ k2 => ?_
    simp only [Bool.false_eq_true, if_false]
    refine wpAny_execs_nil ?_
    have hv2 := hv0.kp k2.kp
    have fr2 := fr0.kp k2.kp
    have G2 := G1.kp k2.kp
    have hcj2 := hcj.keeps k2.kp
    refine run_ret (ok := ok) (d := .list ((ordersF (n + 1) js).map jobsD)) ?_ fun v s' k' h' => hQ v s' ((hk.trans k2).trans k') h'
    have hlen : ((js.map jobD).length : Int) = (js.length : Int) := by simp
    have hsz : (((List.range js.length).map fun (i : Nat) => Dat.int i).flatMap fun d => ((ds2Ord n js d).filter fun _ => true).map (gOrd js d)).length ≤ sizeLine := by
      rw [ord_eq, List.length_map, sizeLine_eq]
      refine Nat.le_trans (ordersF_len (n + 1) js hjs h5) (Nat.le_trans (Nat.pow_le_pow_right (by decide) h5) (by decide))
    rw [← ord_eq]
    refine ev_comp2 (x := Str.ofString "k") (y := Str.ofString "rest") (ds2Ord n js) (fun _ _ => true) (gOrd js) (by decide) fr2
      (src_rangeN hh (has_builtin G2 rfl rfl (by decide) rfl rfl rfl rfl (by decide)) (hlen ▸ ev_call (ds := [.list (js.map jobD)]) (has_builtin G2 rfl rfl (by decide) rfl rfl rfl rfl (by decide)) (.builtin _) (evs_cons (ev_name (has_cell rfl rfl rfl hcj2 (by decide)) hv2) evs_nil rfl) (cal_len (by simp; omega)) rfl rfl) (by omega) rfl)
      (fun _ => rfl) rfl (by decide) rfl (by decide) (fun C => .one rfl) (fun C => .one rfl) (fun _ _ => rfl) hsz ?src2 (fun d d' s₁ ok₁ C m v u _ _ _ _ _ _ _ _ => .inl ⟨rfl, rfl⟩) ?elt
    case src2 =>
      intro d s3 ok₁ C m v hd nx hn3 hm hvd
      obtain ⟨k', hk', rfl⟩ := List.mem_map.mp hd
      rw [List.mem_range] at hk'
      have G3 := G2.kp nx.kp.kp
      have hv3 : DS ok₁ s3.heap jv (.list (js.map jobD)) := hv2.next nx
      have hcj3 := hcj2.keeps nx.kp.kp
      have hlen3 : n = (js.take k' ++ js.drop (k' + 1)).length := by
        rw [List.length_append, List.length_take, List.length_drop]
        omega
      refine src_list hh ?_ fun _ _ => trivial
      refine ev_call (ds := [jobsD (js.take k' ++ js.drop (k' + 1))]) (has_global G3 rfl rfl rfl rfl (by decide)) (.func (G3.X _ _ rfl) rfl) (evs_cons ?_ evs_nil rfl) (ih _ hlen3 (by omega) G3 nx.free hh (by show A.depth + 1 + _ < _; omega) (by show A.units + 3 + _ < _; omega)) rfl rfl
      unfold jobsD
      rw [List.map_append, List.map_take, List.map_drop]
      refine ev_bin (ev_upto nx.free (ev_name (has_cell rfl rfl rfl hcj3 (by decide)) hv3) (ev_name (has_local rfl rfl hn3 hm (by decide)) hvd) (by rw [List.length_map, sizeLine_eq]; omega) (fun _ _ => rfl))
        (ev_from nx.free (ev_name (has_cell rfl rfl rfl hcj3 (by decide)) hv3) ?_ (by rw [List.length_map, sizeLine_eq]; omega) (fun _ _ => rfl)) (op_cat nx.free (by simp; rw [sizeLine_eq]; omega))
      rw [Int.natCast_add]
      exact ev_bin (ev_name (has_local rfl rfl hn3 hm (by decide)) hvd) ev_int op_add
    case elt =>
      intro d d' s3 ok₁ C m v u hd hd' _ nx hn3 hm hvd hm' hud
      obtain ⟨k', hk', rfl⟩ := List.mem_map.mp hd
      rw [List.mem_range] at hk'
      have hv3 : DS ok₁ s3.heap jv (.list (js.map jobD)) := hv2.next nx
      have hcj3 := hcj2.keeps nx.kp.kp
      obtain ⟨r, hr, rfl⟩ := List.mem_map.mp hd'
      have hrl : r.length = n := ordersF_mem_len n _ (by
        rw [Int.toNat_natCast, List.length_append, List.length_take, List.length_drop]
        omega) r hr
      refine ev_bin (ev_list (ds := [jobD (js[k']?.getD (0, 0, 0))]) nx.free (evs_cons (ev_item (ev_name (has_cell rfl rfl rfl hcj3 (by decide)) hv3) (ev_name (has_local rfl rfl hn3 hm (by decide)) hvd) (by omega) (by omega) ?_ (fun _ _ => rfl)) evs_nil rfl) (by rw [sizeLine_eq]; simp))
        (ev_name (has_local rfl rfl hn3 hm' (by decide)) hud) (op_cat nx.free (by simp; rw [sizeLine_eq]; omega))
      rw [Int.toNat_natCast, List.getElem?_map, List.getElem?_eq_getElem hk']
      rfl
end Mine

/-! T1 -/
namespace Mine

def ToldAt (ok : Addr → Prop) (h : Heap) (x : Addr) : Prop := ∃ dx es n l, ok x ∧ ok dx ∧ InstAt h x (instObj 65 dx) 65 (some (dictOf es n)) ∧ getL "comp_select_list" es = some (some (.ref l)) ∧ getL "compare" es = some none ∧ DS ok h (.ref l) (.list [.tuple [.int 2, .int 1]])
theorem ToldAt.kp {ok : Addr → Prop} {h h' : Heap} {x : Addr} (t : ToldAt ok h x) (k : Kp h h') : ToldAt ok h' x := by
  obtain ⟨dx, es, n, l, o1, o2, I, a, b, c⟩ := t
  exact ⟨dx, es, n, l, o1, o2, ⟨k _ _ I.at_, I.cls, I.no, k _ _ I.dict⟩, a, b, c.kp k⟩
theorem ToldAt.next {ok ok₁ : Addr → Prop} {s₀ s₁ : Shared} {x : Addr} (t : ToldAt ok s₀.heap x) (n : Next ok s₀ ok₁ s₁) : ToldAt ok₁ s₁.heap x := by
  obtain ⟨dx, es, m, l, o1, o2, I, a, b, c⟩ := t
  exact ⟨dx, es, m, l, n.old _ _ o1 I.at_, n.old _ _ o2 I.dict, ⟨n.kp.kp _ _ I.at_, I.cls, I.no, n.kp.kp _ _ I.dict⟩, a, b, c.next n⟩

theorem ToldAt.kb {ok : Addr → Prop} {ex : List Addr} {h h' : Heap} {x : Addr} (t : ToldAt ok h x) (k : KB ex h h') (hex : ∀ b, ok b → b ∉ ex) : ToldAt ok h' x := by
  obtain ⟨dx, es, n, l, o1, o2, I, a, b, c⟩ := t
  exact ⟨dx, es, n, l, o1, o2, ⟨k _ _ (hex _ o1) I.at_, I.cls, I.no, k _ _ (hex _ o2) I.dict⟩, a, b, c.up fun b o hb e _ => ⟨hb, k b o (hex b hb) e⟩⟩

section
variable {prog : Program} {w : World} {A : Around} {env : Env} {ok : Addr → Prop} {s s₀ : Shared} {p : Program} {loose : List Str} {mg mb : Str → Option Value}

theorem Has.run {x : Str} {v : Value} {pos : Pos} {Q : Value → Shared → Prop} {E : Value → Shared → Prop} (h : Has prog w A env s x v) (hQ : Q v s) : wpAny (model prog w) A (eval (.Name x pos) env) Q E s := h s (.refl s) Q E pos hQ
set_option maxHeartbeats 4000000 in
theorem call_told {P : Params} {v : Value} {Q : Value → Shared → Prop} {E : Value → Shared → Prop} (G : Gr (Mine.hd.heap_39 P) p loose mg mb s.heap) (fr : Free ok s.heap) (hd : A.depth + 5 < recursionLimit) (hv : DS ok s.heap v (.list [.tuple [.int 2, .int 1]]))
    (hQ : ∀ x s', Kps s s' → ToldAt ok s'.heap x → Q (.ref x) s') : wpAny (model prog w) A (call (.ref 65) [v]) Q E s := by
  obtain ⟨l, rfl⟩ : ∃ l, v = .ref l := by cases hv; exact ⟨_, rfl⟩
  have hs : s = ⟨s.heap, s.gens, s.drawn, s.toks, s.os⟩ := rfl
  refine wpAny_call ?_
  rw [hs]
  refine make_core (makes_of (K := Mine.hd.heap_39 P) G.X rfl) (looks_findIn (K := Mine.hd.heap_39 P) (r := some (.ref 55)) G.X rfl) (fun self => bind_fn (K := Mine.hd.heap_39 P) (f := 55) G.X self rfl) (.inl rfl) ?_
  have k0 : Kp s.heap ((s.heap.push emptyDict).push (instObj 65 s.heap.objs.size)) := fun b o e => Heap.get?_push_of_some _ (Heap.get?_push_of_some _ e)
  have G0 := G.kp k0
  have hx : ((s.heap.push emptyDict).push (instObj 65 s.heap.objs.size)).get? (s.heap.objs.size + 1) = some (instObj 65 s.heap.objs.size) := by heap_get
  have hdx : ((s.heap.push emptyDict).push (instObj 65 s.heap.objs.size)).get? s.heap.objs.size = some emptyDict := by heap_get
  have hsz : ((s.heap.push emptyDict).push (instObj 65 s.heap.objs.size)).objs.size = s.heap.objs.size + 2 := by rw [Heap.size_push, Heap.size_push]
  revert k0 G0 hx hdx hsz
  generalize (s.heap.push emptyDict).push (instObj 65 s.heap.objs.size) = h0
  intro k0 G0 hx hdx hsz
  refine codeAny_call_def (by show A.depth + 1 < _; omega) (G0.X 55 _ rfl) rfl G0.T.nolimit (codeRec_of G0.X rfl) rfl (BindsTo.of_eq rfl) (by decide) (locs rfl) (fun h1 hn hk => ?_) rfl rfl rfl
  have hLs : h0.objs.size = s.heap.objs.size + 2 := hsz
  have G1 : Gr (Mine.hd.heap_39 P) p loose mg mb h1 := G0.kp hk
  have F : Fr s.heap h0.objs.size h1 _ := ⟨hn, fun b o e => hk b o (k0 b o e), by rw [hLs]; exact Nat.le_add_right _ _⟩
  have hx1 := hk _ _ hx
  have hdx1 := hk _ _ hdx
  have hne1 : s.heap.objs.size + 1 ≠ h0.objs.size := by rw [hLs]; exact Nat.ne_of_lt (Nat.lt_succ_self _)
  have hne2 : s.heap.objs.size ≠ h0.objs.size := by rw [hLs]; exact Nat.ne_of_lt (Nat.lt_add_of_pos_right (by decide))
  have N : News s.heap h0.objs.size h1 [(s.heap.objs.size + 1, instObj 65 s.heap.objs.size), (s.heap.objs.size, dictOf [] 0)] := by
    intro q hq
    simp only [List.mem_cons, List.not_mem_nil, or_false] at hq
    rcases hq with rfl | rfl
    · exact ⟨hx1, hne1, Heap.get?_none_of_le (Nat.le_succ _)⟩
    · exact ⟨hdx1, hne2, Heap.get?_none_of_le (Nat.le_refl _)⟩
  have I : InstAt h1 (s.heap.objs.size + 1) (instObj 65 s.heap.objs.size) 65 (some (dictOf [] 0)) := ⟨hx1, rfl, rfl, hdx1⟩
  refine wpAny_execs_cons (plainObj_wpAny_Assign_Attribute ?_ rfl)
  refine Has.run (has_local rfl rfl hn rfl (by decide)) ?_
  refine Has.run (has_local rfl rfl hn rfl (by decide)) ?_
  refine set_dict (es := []) (n := 0) F G.X N I rfl rfl rfl rfl rfl rfl rfl (.tail (fun q => Nat.ne_of_gt (Nat.lt_succ_self _) q) (.head (fun p hp => nomatch hp))) (by show 1 ≤ 1000; decide) fun h2 F2 N2 => wpAny_execs_nil ?_
  refine ⟨rfl, hQ _ _ (.of F2.keep) ?_⟩
  exact ⟨_, _, _, _, fr _ (Heap.get?_none_of_le (Nat.le_succ _)), fr.size, .of_news N2 (.head _) (.tail _ (.head _)), rfl, rfl, hv.kp F2.keep⟩
end
end Mine

/-! T2 -/
namespace Mine
section
variable {prog : Program} {w : World} {A : Around} {env : Env} {ok : Addr → Prop} {s s₀ : Shared} {p : Program} {loose : List Str} {mg mb : Str → Option Value}

theorem ev_told {P : Params} {x : Str} {a : Addr} {xp pos : Pos} (G : Gr (Mine.hd.heap_39 P) p loose mg mb s₀.heap) (hx : Has prog w A env s₀ x (.ref a)) (T : ToldAt ok s₀.heap a)
    (he : eval (.Attribute (.Name x xp) (Str.ofString "comp_select_list") pos) env = (do
      let o ← eval (.Name x xp) env
      standAt pos.atName
      let r ← holding [o] (getAttr o (Str.ofString "comp_select_list") true)
      letTemporaryGo (.Name x xp) o r
      pure r)) :
    Ev prog w A env ok s₀ (.Attribute (.Name x xp) (Str.ofString "comp_select_list") pos) (.list [.tuple [.int 2, .int 1]]) := fun s k Q E hQ => by
  obtain ⟨dx, es, n, l, _, _, I, h1, h2, h3⟩ := T.kp k.kp
  have X := (G.kp k.kp).X
  refine Attribute_Name_ (hx s k _ E xp ?_) he
  exact get_value (K := Mine.hd.heap_39 P) X I rfl (findObj_own (K := Mine.hd.heap_39 P) (attr := none) rfl rfl rfl h1) rfl (hQ _ _ .ofT h3)

def cmpJ (a b : Jb) : Int := if a.2.2 < b.2.2 then -1 else if a.2.2 > b.2.2 then 1 else 0

set_option maxHeartbeats 4000000 in
theorem call_compare {P : Params} {x : Addr} {a b : Jb} {v u : Value} {Q : Value → Shared → Prop} {E : Value → Shared → Prop} (G : Gr (Mine.hd.heap_39 P) p loose mg mb s.heap) (fr : Free ok s.heap) (hh : A.handled = none) (hd : A.depth + 5 < recursionLimit)
    (T : ToldAt ok s.heap x) (hv : DS ok s.heap v (jobD a)) (hu : DS ok s.heap u (jobD b)) (hQ : ∀ t s', Kps s s' → Q (.int (cmpJ a b) t) s') :
    wpAny (model prog w) A (call (.ref 62) [.ref x, v, u]) Q E s := by
  refine call_def (by omega) (G.X _ _ rfl) rfl G.T.nolimit (codeRec_of G.X rfl) rfl (BindsTo.of_eq rfl) (by decide) (locs rfl) rfl rfl rfl ?_
  intro s₁ E' hn hk
  have hv1 := hv.kp hk.kp
  have hu1 := hu.kp hk.kp
  have G1 := G.kp hk.kp
  have T1 := T.kp hk.kp
  have fin : ∀ (v : Value) (h2 : Heap) (tk : Nat) (s3 : Shared) (L : Addr), L = s.heap.objs.size → KB [L] s₁.heap h2 → Kps { s₁ with heap := h2, toks := tk } s3 → DS ok s3.heap v (.int (cmpJ a b)) → Q v s3 := by
    intro v h2 tk s3 L hL kb k3 hv
    cases hv
    refine hQ _ _ (Kps.trans ?_ k3)
    have hkk := hk.kp
    obtain ⟨h1, t1, rfl, _⟩ := hk
    exact .of fun b o e => kb b o (fun q => Nat.ne_of_lt (Heap.lt_size e) (hL ▸ List.mem_singleton.mp q)) (hkk _ _ e)
  refine run_for (ok := ok) (ds := [.tuple [.int 2, .int 1]]) (p := .many [Str.ofString "index", Str.ofString "direction"]) []
    (fun pre h m => m (Str.ofString "left") = some v ∧ m (Str.ofString "right") = some u ∧ DS ok h v (jobD a) ∧ DS ok h u (jobD b) ∧ (pre ≠ [] → cmpJ a b = 0))
    (srcN_list hh (ev_told G1 (has_local rfl rfl hn rfl (by decide)) T1 (by with_unfolding_all rfl)) ?fits) (fun _ => rfl) rfl (.many (.cons rfl (.cons rfl .nil))) hn (fun b hb => nomatch hb) ?st ⟨rfl, rfl, hv1, hu1, fun q => absurd rfl q⟩ ?turn ?done
  case fits =>
    intro d hd
    obtain rfl := List.mem_singleton.mp hd
    exact ⟨_, rfl, rfl⟩
  case st =>
    rintro pre h h' m ⟨a1, a2, a3, a4, a5⟩ sk
    exact ⟨a1, a2, a3.up sk.up, a4.up sk.up, a5⟩
  case turn =>
    rintro pre d post s' m₁ m₂ hds ⟨h', tk', rfl⟩ kb ⟨a1, a2, a3, a4, a5⟩ hn2 bd E2
    obtain ⟨rfl, rfl⟩ : pre = [] ∧ d = .tuple [.int 2, .int 1] := by
      cases pre with
      | nil => simp at hds; exact ⟨rfl, hds.1.symm⟩
      | cons p r => simp at hds
    obtain ⟨ws, ds', e3, hws, _, rfl⟩ := bd
    simp only [Dat.tuple.injEq] at e3
    subst e3
    cases hws with
    | cons w1 hws =>
    cases hws with
    | cons w2 hws =>
    cases hws
    have hl : ∀ (m : Str → Option Value) x v y u q, upds m [x, y] [v, u] q = if q = y then some u else if q = x then some v else m q := fun m x v y u q => rfl
    refine run_assign (ok := ok) (d := .int a.2.2) hn2 (ev_itemT (ds := [.int a.1, .int a.2.1, .int a.2.2]) (ev_name (has_local rfl rfl hn2 a1 (by decide)) a3) (ev_name (has_local rfl rfl hn2 rfl (by decide)) w1) (by decide) (by decide) rfl (fun _ _ => rfl)) rfl rfl rfl fun v3 h3 t3 kb3 hn3 hv3 => ?_
    have b4 : DS ok h3 u (jobD b) := a4.up (kb_up kb3 fun o ho => ns_notSeq hn2 ho)
    cases w1
    refine run_assign (ok := ok) (d := .int b.2.2) hn3 (ev_itemT (ds := [.int b.1, .int b.2.1, .int b.2.2]) (ev_name (has_local rfl rfl hn3 a2 (by decide)) b4) (ev_name (has_local rfl rfl hn3 rfl (by decide)) (.int _ _)) (by decide) (by decide) rfl (fun _ _ => rfl)) rfl rfl rfl fun v4 h4 t4 kb4 hn4 hv4 => ?_
    cases hv3
    cases hv4
    cases w2
    have kb5 : KB [s.heap.objs.size] h' h4 := kb3.trans kb4
    have kb6 : KB [s.heap.objs.size] s₁.heap h4 := (show KB [s.heap.objs.size] s₁.heap h' from kb).trans kb5
    refine run_if (b := decide (a.2.2 < b.2.2)) (tr_cmp (ok := ok) (ev_name (has_local rfl rfl hn4 rfl (by decide)) (.int _ _)) (ev_name (has_local rfl rfl hn4 rfl (by decide)) (.int _ _)) op_lt rfl) fun s5 k5 => ?_
    have hn5 := hn4.keeps k5.kp
    by_cases c1 : a.2.2 < b.2.2
    · rw [decide_eq_true c1]
      simp only [if_true]
      refine run_ret (ok := ok) (ev_neg (ev_name (has_local rfl rfl hn5 rfl (by decide)) (.int _ _))) fun v6 s6 k6 h6 => ?_
      refine fin v6 h4 t4 s6 _ rfl kb6 (k5.trans k6) ?_
      unfold cmpJ
      rw [if_pos c1]
      exact h6
    · rw [decide_eq_false c1]
      simp only [Bool.false_eq_true, if_false]
      refine wpAny_execs_nil ?_
      refine run_if (b := decide (a.2.2 > b.2.2)) (tr_cmp (ok := ok) (ev_name (has_local rfl rfl hn5 rfl (by decide)) (.int _ _)) (ev_name (has_local rfl rfl hn5 rfl (by decide)) (.int _ _)) op_gt rfl) fun s6 k6 => ?_
      have hn6 := hn5.keeps k6.kp
      by_cases c2 : a.2.2 > b.2.2
      · rw [decide_eq_true c2]
        simp only [if_true]
        refine run_ret (ok := ok) (ev_name (has_local rfl rfl hn6 rfl (by decide)) (.int _ _)) fun v7 s7 k7 h7 => ?_
        refine fin v7 h4 t4 s7 _ rfl kb6 ((k5.trans k6).trans k7) ?_
        unfold cmpJ
        rw [if_neg c1, if_pos c2]
        exact h7
      · rw [decide_eq_false c2]
        simp only [Bool.false_eq_true, if_false]
        refine wpAny_execs_nil (wpAny_execs_nil ?_)
        have up5 : Up ok ok h' s6.heap := fun b o hb e hs => ⟨hb, k6.kp _ _ (k5.kp _ _ (kb5 b o (fun q => ns_notSeq hn2 (by have := List.mem_singleton.mp q; exact this ▸ e) hs) e))⟩
        refine ⟨s6.heap, s6.toks, _, ?_, fun b o hb e => k6.kp _ _ (k5.kp _ _ (kb5 b o hb e)), hn6, a1, a2, a3.up up5, a4.up up5, fun _ => ?_⟩
        · obtain ⟨g1, u1, rfl, _⟩ := k6
          obtain ⟨g2, u2, rfl, _⟩ := k5
          rfl
        · unfold cmpJ
          rw [if_neg c1, if_neg c2]
  case done =>
    rintro h' tk' m' kb hn' ⟨a1, a2, a3, a4, a5⟩
    refine run_ret (ok := ok) ev_int fun v7 s7 k7 h7 => fin v7 h' tk' s7 _ rfl kb k7 ?_
    rw [a5 (by simp)]
    exact h7
end
end Mine

/-! T3 -/
namespace Mine
section
variable {prog : Program} {w : World} {A : Around} {env : Env} {ok : Addr → Prop} {s s₀ : Shared} {p : Program} {loose : List Str} {mg mb : Str → Option Value}
theorem ev_compare {P : Params} {x : Str} {t : Addr} {xp apos pos : Pos} {e1 e2 : Expr} {a b : Jb} {pl : Sem Bool} (G : Gr (Mine.hd.heap_39 P) p loose mg mb s₀.heap) (fr : Free ok s₀.heap) (hh : A.handled = none) (hd : A.depth + 5 < recursionLimit)
    (hx : Has prog w A env s₀ x (.ref t)) (T : ToldAt ok s₀.heap t) (h1 : Ev prog w A env ok s₀ e1 (jobD a)) (h2 : Ev prog w A env ok s₀ e2 (jobD b))
    (he : starEach [e1, e2] env = (false, eval e1 env) :: starEach [e2] env) (he2 : starEach [e2] env = (false, eval e2 env) :: starEach [] env)
    (hc : eval (.Call (.Attribute (.Name x xp) (Str.ofString "compare") apos) [e1, e2] [] pos) env = (do
      let ov ← eval (.Name x xp) env
      standAt apos.atName
      let (f, first) ← holding [ov] (getMethod ov (Str.ofString "compare") pl)
      callWith pos f first (backTo pos (starEach [e1, e2] env)) [])) :
    Ev prog w A env ok s₀ (.Call (.Attribute (.Name x xp) (Str.ofString "compare") apos) [e1, e2] [] pos) (.int (cmpJ a b)) := fun s k Q E hQ => by
  obtain ⟨dx, es, n, l, _, _, I, g1, g2, g3⟩ := T.kp k.kp
  have X := (G.kp k.kp).X
  refine MethodCall_ (hx s k _ E xp ?_) hc
  refine method_fn (K := Mine.hd.heap_39 P) X I rfl rfl (f := 62) rfl rfl (by show (lookIn _ _).map _ = _; rw [lookIn_dict, g2]; rfl) ?_
  refine callWith_K (K := Mine.hd.heap_39 P) X rfl ((evs_cons h1 (evs_cons h2 evs_nil he2) he) s k _ E pos fun vs s1 k1 hv => ⟨(G.kp (k.trans k1).kp).X, ?_⟩) he (by rw [he2]; rfl)
  cases hv with
  | cons v1 hv =>
  cases hv with
  | cons v2 hv =>
  cases hv
  exact call_compare (G.kp (k.trans k1).kp) (fr.kp (k.trans k1).kp) hh hd (T.kp (k.trans k1).kp) v1 v2 fun t s' k' => hQ _ _ (k1.trans k') (.int _ _)

/-- TupleComp([(2, 1)]) -/
theorem ev_maketold {P : Params} {x : Str} {xp pos : Pos} {e : Expr} {Q : Value → Shared → Prop} {E : Value → Shared → Prop} (G : Gr (Mine.hd.heap_39 P) p loose mg mb s.heap) (fr : Free ok s.heap) (hd : A.depth + 5 < recursionLimit)
    (hx : Has prog w A env s x (.ref 65)) (h : Ev prog w A env ok s e (.list [.tuple [.int 2, .int 1]])) (he : starEach [e] env = (false, eval e env) :: starEach [] env)
    (hQ : ∀ x s', Kps s s' → ToldAt ok s'.heap x → Q (.ref x) s') : wpAny (model prog w) A (eval (.Call (.Name x xp) [e] [] pos) env) Q E s := by
  refine Call_Name rfl (hx.run ?_)
  refine callWith_K (K := Mine.hd.heap_39 P) G.X rfl ((evs_cons h evs_nil he) s (.refl s) _ E pos fun vs s1 k1 hv => ⟨(G.kp k1.kp).X, ?_⟩) he rfl
  cases hv with
  | cons v1 hv =>
  cases hv
  exact call_told (G.kp k1.kp) (fr.kp k1.kp) hd v1 fun x s' k' T => hQ x s' (k1.trans k') T
end
end Mine

/-! S0 -/
namespace Mine
def runK {α : Type} (lt : Nat → Nat → Bool) : KasT α → α
  | .ret a => a
  | .ask i j k => runK lt (k (lt i j))
def runB {α : Type} (n : Nat) (lt : Nat → Nat → Bool) : KasT α → Bool
  | .ret _ => true
  | .ask i j k => Nat.blt i n && Nat.blt j n && runB n lt (k (lt i j))
theorem runK_wp {α : Type} {cmp : Nat → Nat → (Bool → Shared → Prop) → Shared → Prop} (n : Nat) (lt : Nat → Nat → Bool) (s : Shared) (hcmp : ∀ i j C, i < n → j < n → C (lt i j) s → cmp i j C s) {Q : α → Shared → Prop} : ∀ (t : KasT α), runB n lt t = true → Q (runK lt t) s → t.kasWp cmp Q s
  | .ret a, _, h => h
  | .ask i j k, hb, h => by
    obtain ⟨h1, h2⟩ := Bool.and_eq_true_iff.mp hb
    obtain ⟨h3, h4⟩ := Bool.and_eq_true_iff.mp h1
    exact hcmp i j _ (by simpa using h3) (by simpa using h4) (runK_wp n lt s hcmp (k (lt i j)) h2 h)

def ltR (r : List Nat) (i j : Nat) : Bool := Nat.blt (r.getD i 0) (r.getD j 0)
def sorts (n : Nat) (r : List Nat) : List Nat := (runK (ltR r) (kas_sort n)).toList
/-- ascending ranks -/
def ascR (r : List Nat) : List Nat → Bool
  | [] => true
  | a :: t => (match t with | [] => true | b :: _ => Nat.ble (r.getD a 0) (r.getD b 0)) && ascR r t
def vecs (m : Nat) : Nat → List (List Nat)
  | 0 => [[]]
  | n + 1 => (List.range m).flatMap fun a => (vecs m n).map fun r => a :: r
def isRank (r : List Nat) : Bool := r.all fun a => Nat.beq a (r.countP fun b => Nat.blt b a)
def okSort1 (n : Nat) (r : List Nat) : Bool := ascR r (sorts n r) && ((sorts n r).isPerm (List.range n) && runB n (ltR r) (kas_sort n))
/-- all whose first rank is a -/
def okFrom (n a : Nat) : Bool := (vecs n (n - 1)).all fun r => !isRank (a :: r) || okSort1 n (a :: r)
theorem okTwo : ((List.range 2).all (okFrom 2)) = true := by decide +kernel
theorem okThree : ((List.range 3).all (okFrom 3)) = true := by decide +kernel
theorem okFour : ((List.range 4).all (okFrom 4)) = true := by decide +kernel
theorem okFiveA : okFrom 5 0 = true := by decide +kernel
theorem okFiveB : okFrom 5 1 = true := by decide +kernel
theorem okFiveC : okFrom 5 2 = true := by decide +kernel
theorem okFiveD : okFrom 5 3 = true := by decide +kernel
theorem okFiveE : okFrom 5 4 = true := by decide +kernel
theorem okAll {n a : Nat} (h2 : 2 ≤ n) (h5 : n ≤ 5) (ha : a < n) : okFrom n a = true := by
  match n, h2, h5, ha with
  | 2, _, _, ha => exact List.all_eq_true.mp okTwo a (List.mem_range.mpr ha)
  | 3, _, _, ha => exact List.all_eq_true.mp okThree a (List.mem_range.mpr ha)
  | 4, _, _, ha => exact List.all_eq_true.mp okFour a (List.mem_range.mpr ha)
  | 5, _, _, ha =>
    match a, ha with
    | 0, _ => exact okFiveA
    | 1, _ => exact okFiveB
    | 2, _ => exact okFiveC
    | 3, _ => exact okFiveD
    | 4, _ => exact okFiveE

theorem vecs_mem (m : Nat) : ∀ (n : Nat) (r : List Nat), r.length = n → (∀ a ∈ r, a < m) → r ∈ vecs m n
  | 0, r, h, _ => by rw [List.length_eq_zero_iff.mp h]; exact .head _
  | n + 1, [], h, _ => by simp at h
  | n + 1, a :: r, h, ha => by
    rw [vecs, List.mem_flatMap]
    exact ⟨a, List.mem_range.mpr (ha a (.head _)), List.mem_map.mpr ⟨r, vecs_mem m n r (by simpa using h) (fun b hb => ha b (.tail _ hb)), rfl⟩⟩

theorem count_le {α : Type} (p q : α → Bool) : ∀ (l : List α), (∀ a ∈ l, p a = true → q a = true) → l.countP p ≤ l.countP q
  | [], _ => Nat.le_refl _
  | a :: l, h => by
    have ih := count_le p q l fun b hb => h b (.tail _ hb)
    have ha := h a (.head _)
    rw [List.countP_cons, List.countP_cons]
    cases hp : p a
    · simp; omega
    · rw [ha hp]; simp; omega
theorem count_lt {α : Type} (p q : α → Bool) : ∀ (l : List α), (∀ a ∈ l, p a = true → q a = true) → (∃ a ∈ l, p a = false ∧ q a = true) → l.countP p < l.countP q
  | [], _, h => by obtain ⟨a, ha, _⟩ := h; cases ha
  | a :: l, h, hx => by
    have le := count_le p q l fun b hb => h b (.tail _ hb)
    have ha := h a (.head _)
    rw [List.countP_cons, List.countP_cons]
    by_cases hc : p a = false ∧ q a = true
    · rw [hc.1, hc.2]; simp; omega
    · obtain ⟨b, hb, hb1, hb2⟩ := hx
      have ih : l.countP p < l.countP q := by
        rcases List.mem_cons.mp hb with e | e
        · subst e; exact absurd ⟨hb1, hb2⟩ hc
        · exact count_lt p q l (fun b hb => h b (.tail _ hb)) ⟨b, e, hb1, hb2⟩
      cases hp : p a
      · cases hq : q a <;> simp <;> omega
      · rw [ha hp]; simp; omega

def rankJ (as : List Jb) (a : Jb) : Nat := as.countP fun b => ltJ b a
theorem ltJ_trans {a b c : Jb} (h1 : ltJ a b = true) (h2 : ltJ b c = true) : ltJ a c = true := by
  rw [ltJ_iff] at h1 h2 ⊢
  omega
theorem ltJ_asymm {a b : Jb} (h1 : ltJ a b = true) : ltJ b a = false := by
  rw [ltJ_iff] at h1
  rw [ltJ_iff']
  omega
theorem rank_lt {as : List Jb} {a b : Jb} (hb : b ∈ as) (h : ltJ b a = true) : rankJ as b < rankJ as a :=
  count_lt _ _ as (fun c _ hc => ltJ_trans hc h) ⟨b, hb, ltJ_irrefl b, h⟩
theorem rank_le {as : List Jb} {a b : Jb} (h : ltJ b a = false) : rankJ as a ≤ rankJ as b :=
  count_le _ _ as fun c _ hc => by
    rw [ltJ_iff] at hc ⊢
    rw [ltJ_iff'] at h
    omega
theorem rank_iff {as : List Jb} {a b : Jb} (hb : b ∈ as) : rankJ as b < rankJ as a ↔ ltJ b a = true := by
  constructor
  · intro h
    cases e : ltJ b a with
    | true => rfl
    | false => have := rank_le (as := as) e; omega
  · exact rank_lt hb
theorem rank_bound {as : List Jb} {a : Jb} (h : a ∈ as) : rankJ as a < as.length := by
  have := count_lt (fun b => ltJ b a) (fun _ => true) as (fun _ _ _ => rfl) ⟨a, h, ltJ_irrefl a, rfl⟩
  simpa [rankJ] using this
def ranks (as : List Jb) : List Nat := as.map (rankJ as)
theorem ranks_ok (as : List Jb) : isRank (ranks as) = true := by
  unfold isRank ranks
  rw [List.all_eq_true]
  intro x hx
  obtain ⟨a, ha, rfl⟩ := List.mem_map.mp hx
  rw [List.countP_map]
  have e : as.countP ((fun b => Nat.blt b (rankJ as a)) ∘ rankJ as) = rankJ as a := by
    conv => rhs; unfold rankJ
    apply List.countP_congr
    intro b hb
    simp only [Function.comp, Nat.blt_eq]
    exact rank_iff hb
  rw [e]
  simp
theorem okOf (as : List Jb) (h2 : 2 ≤ as.length) (h5 : as.length ≤ 5) : okSort1 as.length (ranks as) = true := by
  cases as with
  | nil => simp at h2
  | cons x xs =>
    have h := okAll h2 h5 (rank_bound (.head xs))
    unfold okFrom at h
    rw [List.all_eq_true] at h
    have := h (xs.map (rankJ (x :: xs))) (vecs_mem _ _ _ (by simp) fun y hy => by
      obtain ⟨a, ha, rfl⟩ := List.mem_map.mp hy
      exact rank_bound (.tail _ ha))
    have e : rankJ (x :: xs) x :: xs.map (rankJ (x :: xs)) = ranks (x :: xs) := rfl
    rw [e, ranks_ok] at this
    simpa using this

def atJ (as : List Jb) (i : Nat) : Jb := as[i]?.getD (0, 0, 0)
def permJ (as : List Jb) : List Nat := if 2 ≤ as.length then sorts as.length (ranks as) else List.range as.length
def sortJ (as : List Jb) : List Jb := (permJ as).map (atJ as)
theorem permJ_perm (as : List Jb) (h5 : as.length ≤ 5) : (permJ as).Perm (List.range as.length) := by
  unfold permJ
  split
  · rename_i h2
    have := okOf as h2 h5
    unfold okSort1 at this
    exact List.isPerm_iff.mp (Bool.and_eq_true_iff.mp (Bool.and_eq_true_iff.mp this).2).1
  · exact .refl _
theorem map_at (as : List Jb) : (List.range as.length).map (atJ as) = as := by
  apply List.ext_getElem
  · simp
  · intro i h1 h2
    simp [atJ, h2]
theorem sortJ_perm (as : List Jb) (h5 : as.length ≤ 5) : (sortJ as).Perm as := by
  have := (permJ_perm as h5).map (atJ as)
  rw [map_at] at this
  exact this
theorem ascR_all (r : List Nat) : ∀ (t : List Nat) (a : Nat), ascR r (a :: t) = true → ∀ b ∈ t, r.getD a 0 ≤ r.getD b 0
  | [], a, _, b, hb => nomatch hb
  | c :: t, a, h, b, hb => by
    unfold ascR at h
    obtain ⟨h1, h2⟩ := Bool.and_eq_true_iff.mp h
    have h1' : r.getD a 0 ≤ r.getD c 0 := Nat.le_of_ble_eq_true h1
    rcases List.mem_cons.mp hb with e | e
    · rw [e]; exact h1'
    · exact Nat.le_trans h1' (ascR_all r t c h2 b e)
theorem ascR_pair (r : List Nat) : ∀ (p : List Nat), ascR r p = true → p.Pairwise fun a b => r.getD a 0 ≤ r.getD b 0
  | [], _ => .nil
  | a :: t, h => by
    refine List.pairwise_cons.mpr ⟨ascR_all r t a h, ascR_pair r t ?_⟩
    unfold ascR at h
    exact (Bool.and_eq_true_iff.mp h).2
theorem ranks_at {as : List Jb} {i : Nat} (h : i < as.length) : (ranks as).getD i 0 = rankJ as (atJ as i) := by
  simp [ranks, atJ, h]
theorem at_mem {as : List Jb} {i : Nat} (h : i < as.length) : atJ as i ∈ as := by
  simp [atJ, h]
theorem sortJ_srt (as : List Jb) (h5 : as.length ≤ 5) : Srt (sortJ as) := by
  by_cases h2 : 2 ≤ as.length
  · have ok := okOf as h2 h5
    have hp := permJ_perm as h5
    unfold okSort1 at ok
    have asc := ascR_pair _ _ (Bool.and_eq_true_iff.mp ok).1
    unfold Srt sortJ
    rw [List.pairwise_map]
    have e : permJ as = sorts as.length (ranks as) := by unfold permJ; rw [if_pos h2]
    rw [← e] at asc
    refine List.Pairwise.imp_of_mem (fun {a b} ha hb hab => ?_) asc
    have ha' : a < as.length := List.mem_range.mp (hp.mem_iff.mp ha)
    have hb' : b < as.length := List.mem_range.mp (hp.mem_iff.mp hb)
    rw [ranks_at ha', ranks_at hb'] at hab
    cases q : ltJ (atJ as b) (atJ as a) with
    | false => rfl
    | true => have := rank_lt (at_mem hb') q; omega
  · have hl : (sortJ as).length = as.length := (sortJ_perm as h5).length_eq
    unfold Srt
    match h : sortJ as with
    | [] => exact .nil
    | [a] => exact List.pairwise_singleton ..
    | a :: b :: r => rw [h] at hl; simp at hl; omega
theorem srt_uniq : ∀ {a b : List Jb}, a.Perm b → Srt a → Srt b → a = b
  | [], b, p, _, _ => by rw [List.nil_perm.mp p]
  | x :: a, [], p, _, _ => by have := p.length_eq; simp at this
  | x :: a, y :: b, p, h1, h2 => by
    obtain ⟨h3, h4⟩ := List.pairwise_cons.mp h1
    obtain ⟨h5, h6⟩ := List.pairwise_cons.mp h2
    have e : x = y := by
      rcases List.mem_cons.mp (p.mem_iff.mp (.head _)) with q | q
      · exact q
      · rcases List.mem_cons.mp (p.mem_iff.mpr (.head b)) with q' | q'
        · exact q'.symm
        · exact ltJ_antisymm (h5 _ q) (h3 _ q')
    subst e
    rw [srt_uniq ((List.perm_cons _).mp p) h4 h6]
theorem sortJ_eq {as bs : List Jb} (p : as.Perm bs) (h5 : as.length ≤ 5) : sortJ as = sortJ bs :=
  srt_uniq ((sortJ_perm as h5).trans (p.trans (sortJ_perm bs (p.length_eq ▸ h5)).symm)) (sortJ_srt as h5) (sortJ_srt bs (p.length_eq ▸ h5))
end Mine

/-! S1 -/
namespace Mine
section
variable {prog : Program} {w : World} {A : Around} {env : Env} {ok : Addr → Prop} {s s₀ : Shared} {vs : List Value} {as : List Jb}

theorem lex_trip {a b : Jb} {t1 t2 t3 u1 u2 u3 : Tok} {Q : Bool → Shared → Prop} (h : Q (ltJ a b) s) :
    KatLex prog w A true false Q [(.int a.1 t1, .int b.1 u1), (.int a.2.1 t2, .int b.2.1 u2), (.int a.2.2 t3, .int b.2.2 u3)] 0 s := by
  have one : ∀ {x y : Int} {t u : Tok} {R : Bool → Shared → Prop} {E : Value → Shared → Prop}, R (decide (x < y)) s → wpAny (model prog w) A (oneLt' false (.int x t) (.int y u)) R E s := fun h => kat_one _ _ (show wpAny _ _ (richCompare .Lt _ _) _ _ _ from rc_lt h)
  refine kat_cons (wpAny_eqBool_int (kat_go (fun e => kat_yes ?_) (fun e => kat_no (oneLt_int ?_))))
  · have e1 : a.1 = b.1 := by simpa using e
    refine kat_cons (wpAny_eqBool_int (kat_go (fun e => kat_yes ?_) (fun e => kat_no (one ?_))))
    · have e2 : a.2.1 = b.2.1 := by simpa using e
      refine kat_cons (wpAny_eqBool_int (kat_go (fun e => kat_yes ?_) (fun e => kat_no (one ?_))))
      · have e3 : a.2.2 = b.2.2 := by simpa using e
        have q : ltJ a b = false := by rw [ltJ_iff']; omega
        rw [q] at h
        exact kat_nil h
      · have q : ltJ a b = decide (a.2.2 < b.2.2) := by simp [ltJ, e1, e2]
        rw [q] at h
        exact h
    · have e2 : a.2.1 ≠ b.2.1 := by simpa using e
      have q : ltJ a b = decide (a.2.1 < b.2.1) := by simp [ltJ, e1, e2]
      rw [q] at h
      exact h
  · have e1 : a.1 ≠ b.1 := by simpa using e
    have q : ltJ a b = decide (a.1 < b.1) := by simp [ltJ, e1]
    rw [q] at h
    exact h

theorem trip_lt {okd : Addr → Prop} {a b : Jb} {v u : Value} {Q : Bool → Shared → Prop} {E : Value → Shared → Prop} (hv : DS okd s.heap v (tripD a)) (hu : DS okd s.heap u (tripD b)) (h : Q (ltJ a b) s) :
    wpAny (model prog w) A (keyLt' (tuples' true) v u) Q E s := by
  obtain ⟨x, t1, t2, t3, rfl, _, ⟨ox, hx, _, n, dx⟩⟩ := trip_inv hv
  obtain ⟨y, u1, u2, u3, rfl, _, ⟨oy, hy, _, m, dy⟩⟩ := trip_inv hu
  exact kat_lt hx dx hy dy (lex_trip h)

theorem tups_of {okd : Addr → Prop} {h : Heap} : ∀ {as : List Jb} {vs : List Value}, DSs okd h vs (as.map tripD) → ∃ fs, KatTups h vs fs ∧ fs.length = as.length ∧ ∀ v ∈ fs, ∃ i t, v = .int i t
  | [], _, r => by
    cases r
    exact ⟨[], .nil, rfl, fun v hv => nomatch hv⟩
  | a :: as, _, r => by
    cases r with
    | cons r1 r2 =>
    obtain ⟨fs, h1, h2, h3⟩ := tups_of r2
    obtain ⟨x, t1, t2, t3, rfl, _, ⟨ox, hx, hc, n, dx⟩⟩ := trip_inv r1
    refine ⟨.int a.1 t1 :: fs, KatTups.cons hx hc dx rfl h1, by simp [h2], fun v hv => ?_⟩
    rcases List.mem_cons.mp hv with e | e
    · exact ⟨_, _, e⟩
    · exact h3 v e

theorem sorted_vals {okd : Addr → Prop} {h : Heap} (hr : DSs okd h vs (as.map tripD)) : ∀ (p : List Nat), (∀ i ∈ p, i < as.length) → DSs okd h (p.map fun i => vs.getD i Value.none) ((p.map (atJ as)).map tripD)
  | [], _ => .nil
  | i :: p, hp => by
    have hi := hp i (.head _)
    have hd : (as.map tripD)[i]? = some (tripD (atJ as i)) := by simp [atJ, hi]
    obtain ⟨v, hv, hd'⟩ := hr.get i _ hd
    have e : vs.getD i Value.none = v := by simp [List.getD, hv]
    rw [List.map_cons, List.map_cons, List.map_cons, e]
    exact .cons hd' (sorted_vals hr p fun j hj => hp j (.tail _ hj))

set_option maxHeartbeats 4000000 in
theorem list_sortH {a : Addr} {n : Nat} {P : PySem.Fin → Shared → Prop} {E : Value → Shared → Prop} {okd : Addr → Prop} (ho : s.heap.get? a = some (seqObj "list" vs.toArray n)) (hok : ¬ okd a) (hr : DSs okd s.heap vs (as.map tripD)) (h5 : as.length ≤ 5)
    (h : ∀ h' c, KB [a] s.heap h' → h'.get? a = some (seqObj "list" ((permJ as).map fun i => vs.getD i Value.none).toArray c) → P (.done (.ret .none)) { s with heap := h' }) :
    wpAny (model prog w) A (Builtin.«list.sort» ⟨[.ref a], []⟩) P E s := by
  have hlen : vs.length = as.length := by rw [hr.length, List.length_map]
  have s1 := Heap.SameBut.update s.heap a (Obj.mapSeq fun _ => (#[] : Array Value))
  obtain ⟨e1, ho1⟩ : ∃ e1, (s.heap.update a (Obj.mapSeq fun _ => (#[] : Array Value))).get? a = some (seqObj "list" #[] e1) := ⟨_, get?_update_seq ho fun _ => #[]⟩
  rw [list_sort_plain]
  refine wpAny_bind (listItems_at ho rfl ?_)
  refine wpAny_bind (listUpdate_at ho rfl ?_ (by rw [List.size_toArray, sizeLine_eq]; omega) (Nat.zero_le _))
  refine wpAny_bind (seqEpoch_at ho1 rfl ?_)
  refine wpAny_bind (wpAny_newTuple ?_ (by show vs.length ≤ _; rw [sizeLine_eq]; omega))
  refine wpAny_bind (wpAny_newList ?_ (Nat.zero_le _))
  refine wpAny_holding ?_
  show wpAny (model prog w) A _ P E { s with heap := ((s.heap.update a (Obj.mapSeq fun _ => (#[] : Array Value))).push (seqObj "tuple" vs.toArray 0)).push (seqObj "list" #[] 0) }
  have kb : KB [a] s.heap (((s.heap.update a (Obj.mapSeq fun _ => (#[] : Array Value))).push (seqObj "tuple" vs.toArray 0)).push (seqObj "list" #[] 0)) := fun b o hb e =>
    Heap.get?_push_of_some _ (Heap.get?_push_of_some _ ((Heap.get?_update_ne _ _ _ _ (fun q => hb (List.mem_singleton.mpr q))).trans e))
  have na : (((s.heap.update a (Obj.mapSeq fun _ => (#[] : Array Value))).push (seqObj "tuple" vs.toArray 0)).push (seqObj "list" #[] 0)).get? a = some (seqObj "list" #[] e1) := Heap.get?_push_of_some _ (Heap.get?_push_of_some _ ho1)
  revert kb na
  generalize (((s.heap.update a (Obj.mapSeq fun _ => (#[] : Array Value))).push (seqObj "tuple" vs.toArray 0)).push (seqObj "list" #[] 0)) = g
  intro kb na
  have hr2 : DSs okd g vs (as.map tripD) := hr.up fun b o hb e _ => ⟨hb, kb b o (fun q => hok (List.mem_singleton.mp q ▸ hb)) e⟩
  have fin : ∀ (out : List Value), out.length ≤ 5 → out = (permJ as).map (fun i => vs.getD i Value.none) →
      wpAny (model prog w) A (do
        let touched := (← seqEpoch a) != e1
        Builtin.List.listUpdate (.ref a) fun _ => out.toArray
        if touched then rule "list.sort.modified"; raiseError "ValueError" "list modified during sort"
        ret .none) P E { s with heap := g } := by
    intro out hol he
    obtain ⟨c2, hc2⟩ : ∃ c2, (g.update a (Obj.mapSeq fun _ => out.toArray)).get? a = some (seqObj "list" out.toArray c2) := ⟨_, get?_update_seq na fun _ => out.toArray⟩
    refine wpAny_bind (seqEpoch_at na rfl ?_)
    refine wpAny_bind (listUpdate_at na rfl ?_ (Nat.zero_le _) (by rw [List.size_toArray, sizeLine_eq]; omega))
    simp only [bne_self_eq_false, Bool.false_eq_true, if_false]
    refine wpAny_pure ?_
    rw [he] at hc2
    subst he
    exact h _ c2 (fun b o hb e => (Heap.get?_update_ne _ _ _ _ (fun q => hb (List.mem_singleton.mpr q))).trans (kb b o hb e)) hc2
  have hperm := permJ_perm as h5
  by_cases h2 : 2 ≤ as.length
  · have hn2 : ¬ vs.toArray.size < 2 := by rw [List.size_toArray]; omega
    rw [if_neg hn2, if_neg hn2]
    obtain ⟨fs, t1, t2, t3⟩ := tups_of hr2
    refine wpAny_bind (kat_kind (T := .type "int") t1 (by omega) (fun v hv => ?_) (by decide) ?_)
    · obtain ⟨i, t, rfl⟩ := t3 v hv
      exact Looks.of_pure rfl
    have hk : (Value.type "int" != Value.type "tuple") = true := by decide
    rw [hk]
    have okk := okOf as h2 h5
    unfold okSort1 at okk
    have hB := (Bool.and_eq_true_iff.mp (Bool.and_eq_true_iff.mp okk).2).2
    have ep : permJ as = sorts as.length (ranks as) := by unfold permJ; rw [if_pos h2]
    have ask : (kas_sort vs.length).kasWp (kas_ask prog w A (tuples' true) vs) (fun p s' => s' = { s with heap := g } ∧ p.toList = permJ as) { s with heap := g } := by
      rw [hlen]
      refine runK_wp as.length (ltR (ranks as)) _ (fun i j C hi hj hC => ?_) _ hB ⟨rfl, by rw [ep]; rfl⟩
      have d1 : (as.map tripD)[i]? = some (tripD (atJ as i)) := by simp [atJ, hi]
      have d2 : (as.map tripD)[j]? = some (tripD (atJ as j)) := by simp [atJ, hj]
      obtain ⟨v, v1, v2⟩ := hr2.get i _ d1
      obtain ⟨u, u1, u2⟩ := hr2.get j _ d2
      have ev : vs.getD i Value.none = v := by simp [List.getD, v1]
      have eu : vs.getD j Value.none = u := by simp [List.getD, u1]
      show wpAny (model prog w) A (keyLt' (tuples' true) (vs.getD i Value.none) (vs.getD j Value.none)) C (fun _ _ => False) _
      rw [ev, eu]
      refine trip_lt v2 u2 ?_
      have e : ltR (ranks as) i j = ltJ (atJ as i) (atJ as j) := by
        unfold ltR
        rw [ranks_at hi, ranks_at hj, Bool.eq_iff_iff, Nat.blt_eq]
        exact rank_iff (at_mem hi)
      rw [← e]
      exact hC
    refine wpAny_bind (wpAny_mono (kat_run (Q := fun st' s' => s' = { s with heap := g } ∧ failedOf st' = none ∧ (arrOf st').map (·.2) = ((permJ as).map fun i => vs.getD i Value.none).toArray) rfl (by omega) (by omega)
      (fun p' st' s' a1 a2 a3 a4 => ⟨a4.1, a3, by rw [kat_snds rfl a2, a4.2]⟩) ask) ?_ fun _ _ e => e)
    rintro ⟨⟨⟩, st'⟩ s' ⟨rfl, hf, hout⟩
    dsimp only
    rw [hout, hf]
    exact fin _ (by rw [List.length_map, hperm.length_eq, List.length_range]; exact h5) rfl
  · have hn2 : vs.toArray.size < 2 := by rw [List.size_toArray]; omega
    rw [if_pos hn2, if_pos hn2]
    refine wpAny_bind (wpAny_pure (wpAny_bind (wpAny_pure ?_)))
    dsimp only
    have ep : permJ as = List.range vs.length := by unfold permJ; rw [if_neg h2, hlen]
    have ev : (permJ as).map (fun i => vs.getD i Value.none) = vs := by
      rw [ep]
      apply List.ext_getElem
      · simp
      · intro i h1 h2
        simp [List.getD, h2]
    have ea : (arrOf (SortSt.mk' general' (vs.toArray.zip vs.toArray) #[] 7 none)).map (·.2) = vs.toArray := by
      show (vs.toArray.zip vs.toArray).map (·.2) = vs.toArray
      apply Array.toList_inj.mp
      simp
      exact List.map_snd_zip (Nat.le_refl _)
    rw [ea]
    exact fin vs (by omega) ev.symm

set_option maxHeartbeats 4000000 in
theorem cal_sorted (fr : Free ok s₀.heap) (h5 : as.length ≤ 5) : Cal prog w A ok s₀ (.builtin "sorted") [.list (as.map tripD)] (.list ((sortJ as).map tripD)) := fun s k vs0 hv Q E hQ => by
  cases hv with
  | cons hv h2 =>
  cases h2
  cases hv with
  | @list l vs _ hokl hl hr =>
  have hlen : vs.length = as.length := by rw [hr.length, List.length_map]
  refine Calls.call_function_entry kind_sorted plain_sorted entry_sorted (args_sorted1 _) ?_
  unfold Builtin.«sorted»
  refine wpAny_bind (m := checkCount "sorted" 1 1 _) (wpAny_pure ?_)
  refine wpAny_bind (collect_list hl ?_ (by rw [sizeLine_eq]; omega))
  refine wpAny_bind (wpAny_newList ?_ (by rw [sizeLine_eq]; omega))
  have hsz : ((s.heap.push (seqObj "list" #[] 0)).update s.heap.objs.size (Obj.mapSeq (· ++ vs.toArray))).objs.size = s.heap.objs.size + 1 := by
    rw [Heap.size_update, size_push']
  have hoL : (((s.heap.push (seqObj "list" #[] 0)).update s.heap.objs.size (Obj.mapSeq (· ++ vs.toArray))).push (seqObj "list" vs.toArray 0)).get? (s.heap.objs.size + 1) = some (seqObj "list" vs.toArray 0) := by
    rw [← hsz]; exact Heap.get?_push_size _ rfl
  have keep : Kp s.heap (((s.heap.push (seqObj "list" #[] 0)).update s.heap.objs.size (Obj.mapSeq (· ++ vs.toArray))).push (seqObj "list" vs.toArray 0)) := fun b o q => by
    have hlt : b < s.heap.objs.size := Heap.lt_size q
    rw [Heap.get?_push_ne _ _ _ (by rw [hsz]; exact Nat.ne_of_lt (Nat.lt_succ_of_lt hlt)), Heap.get?_update_ne _ _ _ _ (Nat.ne_of_lt hlt), Heap.get?_push_ne _ _ _ (Nat.ne_of_lt hlt)]
    exact q
  show wpAny _ _ _ _ _ { s with heap := ((s.heap.push (seqObj "list" #[] 0)).update s.heap.objs.size (Obj.mapSeq (· ++ vs.toArray))).push (seqObj "list" vs.toArray 0) }
  rw [hsz]
  revert hoL keep
  generalize (((s.heap.push (seqObj "list" #[] 0)).update s.heap.objs.size (Obj.mapSeq (· ++ vs.toArray))).push (seqObj "list" vs.toArray 0)) = g
  intro hoL keep
  have hne : ∀ b o, s.heap.get? b = some o → b ≠ s.heap.objs.size + 1 := fun b o e => Nat.ne_of_lt (Nat.lt_succ_of_lt (Heap.lt_size e))
  have hr1 : DSs (fun b => ok b ∧ b ≠ s.heap.objs.size + 1) g vs (as.map tripD) := hr.up fun b o hb e _ => ⟨⟨hb, hne b o e⟩, keep _ _ e⟩
  refine wpAny_bind (wpAny_holding (wpAny_call_entry slot_list_sort ⟨_, hoL, rfl⟩ entry_list_sort ?body (args_list_sort _)))
  refine list_sortH (s := { s with heap := g }) hoL (fun q => q.2 rfl) hr1 h5 fun h' c kb e => ⟨_, rfl, wpAny_pure ⟨_, rfl, ?_⟩⟩
  have kall : Kp s.heap h' := fun b o e' => kb b o (fun q => hne b o e' (List.mem_singleton.mp q)) (keep _ _ e')
  refine hQ _ _ (.ofH kall) (.list ((fr.kp k.kp) _ (Heap.get?_none_of_le (Nat.le_succ _))) ⟨_, e, rfl, _, rfl⟩ ?_)
  have hr2 : DSs ok h' vs (as.map tripD) := hr.kp kall
  exact sorted_vals hr2 (permJ as) fun i hi => List.mem_range.mp ((permJ_perm as h5).mem_iff.mp hi)
end
end Mine

/-! L0 -/
namespace Mine
def lawPair : List Stmt × Scope := match PySem.Challenge.pw_he0004_01.main.body.getLast? with
  | some (.FunctionDef _ _ body _ _ _ scope _ _ _) => (body, scope)
  | _ => ([], { kind := .module, names := [], isGenerator := false, isCoroutine := false })
def lawBody : List Stmt := lawPair.1
def lawScope : Scope := lawPair.2
abbrev lawEnv (L fa : Addr) (cd : Value) : Env := envOfC (Str.ofString "law") lawScope L fa cd
abbrev Any : Addr → Prop := fun _ => True
theorem anyFree (h : Heap) : Free Any h := fun _ _ => trivial

section
variable {prog : Program} {w : World} {A : Around} {env : Env} {ok : Addr → Prop} {s s₀ : Shared}
theorem tr_or {e1 e2 : Expr} {pos : Pos} (h1 : Tr prog w A env s₀ e1 false) (h2 : Tr prog w A env s₀ e2 false) : Tr prog w A env s₀ (.BoolOp .Or [e1, e2] pos) false := fun s k Q E hQ => by
  refine wpAny_isTrue_BoolOp (wpAny_allTrue_Or_cons (h1 s k _ E fun s1 k1 => ?_))
  simp only [Bool.false_eq_true, if_false]
  refine wpAny_allTrue_Or_cons (h2 s1 (k.trans k1) _ E fun s2 k2 => ?_)
  simp only [Bool.false_eq_true, if_false]
  exact wpAny_allTrue_Or_nil (hQ s2 (k1.trans k2))
theorem cell_notSeq {h : Heap} {c : Addr} {v₀ : Option Value} (hc : h.IsCell c v₀) {o : Obj} (e : h.get? c = some o) : ¬ Obj.IsSeq o := by
  obtain ⟨o', e', hd⟩ := hc
  rw [e] at e'; cases e'
  rintro ⟨xs, n, q⟩
  rw [hd] at q; cases q
theorem run_assignC {x : Str} {px pos : Pos} {e : Expr} {rest : List Stmt} {d : Dat} {c : Addr} {v₀ : Option Value} {Q : Flow → Shared → Prop} {E : Value → Shared → Prop} (hcell : s.heap.IsCell c v₀) (h : Ev prog w A env ok s e d) (hl : env.kindOf x = some .cell) (hc : env.cells.lookup x = some c) (hk : env.scope.kind = .function)
    (hs : swapsWith e (some (.Name x px)) pos.line env = pure false)
    (hQ : ∀ v h' tk, KB [c] s.heap h' → h'.IsCell c (some v) → DS ok h' v d → wpAny (model prog w) A (execs rest env) Q E { s with heap := h', toks := tk }) :
    wpAny (model prog w) A (execs (.Assign [.Name x px] e pos :: rest) env) Q E s :=
  wpAny_execs_cons (wpAny_Assign_Name (h s (.refl s) _ E fun v s1 k hv => by
    obtain ⟨h1, t1, rfl, k1⟩ := k
    refine wpAny_storeName_cell hk hl hc (hcell.keeps k1) (fun h' hn' hs' => ?_)
    have kb : KB [c] s.heap h' := fun b o hb e => hs'.extBut b o (fun q => hb (q ▸ .head _)) (k1 b o e)
    have kb' : KB [c] h1 h' := fun b o hb e => hs'.extBut b o (fun q => hb (q ▸ .head _)) e
    exact hQ v h' _ kb hn' (hv.up (kb_up kb' fun o ho => cell_notSeq (hcell.keeps k1) ho))) hs)
end
end Mine

/-! LA -/
namespace Mine
abbrev exL (L : Nat) : List Addr := [L, L + 1, L + 2, L + 3, L + 4]
abbrev okL (L : Nat) : Addr → Prop := fun b => b ∉ exL L
theorem DS.kbx {L : Nat} {h h' : Heap} {v : Value} {d : Dat} (x : DS (okL L) h v d) (k : KB (exL L) h h') : DS (okL L) h' v d := x.up fun b o hb e _ => ⟨hb, k b o hb e⟩
theorem kb1x {L c : Nat} (hc : c ∈ exL L) {h h' : Heap} (k : KB [c] h h') : KB (exL L) h h' := k.weak fun p hp => by rw [List.mem_singleton.mp hp]; exact hc
theorem freeL {L : Nat} {h : Heap} {m : Str → Option Value} {v1 v2 v3 v4 : Option Value} (hn : h.Ns L m) (c1 : h.IsCell (L + 1) v1) (c2 : h.IsCell (L + 2) v2) (c3 : h.IsCell (L + 3) v3) (c4 : h.IsCell (L + 4) v4) : Free (okL L) h := by
  intro a e q
  simp only [List.mem_cons, List.not_mem_nil, or_false] at q
  rcases q with q | q | q | q | q
  · obtain ⟨o, es, ep, e', _⟩ := hn
    rw [q, e'] at e; cases e
  · obtain ⟨o, e', _⟩ := c1
    rw [q, e'] at e; cases e
  · obtain ⟨o, e', _⟩ := c2
    rw [q, e'] at e; cases e
  · obtain ⟨o, e', _⟩ := c3
    rw [q, e'] at e; cases e
  · obtain ⟨o, e', _⟩ := c4
    rw [q, e'] at e; cases e
/-- what the law's state bears after its first three lines -/
structure LB (P : Params) (p : Program) (loose : List Str) (mg mb : Str → Option Value) (L : Nat) (s00 : Shared) (js : List Jb) (s : Shared) (m : Str → Option Value) : Prop where
  kps : Kps s00 s
  G : Gr (Mine.hd.heap_39 P) p loose mg mb s00.heap
  big : s00.heap.objs.size ≤ L
  jok : JsOk js
  ns : s.heap.Ns L m
  ord : ∃ ov, m (Str.ofString "orders") = some ov ∧ DS (okL L) s.heap ov (.list ((ordersF js.length js).map jobsD))
  cj : ∃ jv, s.heap.IsCell (L + 1) (some jv) ∧ DS (okL L) s.heap jv (jobsD js)
  ct : ∃ tx, s.heap.IsCell (L + 2) (some (.ref tx)) ∧ ToldAt (okL L) s.heap tx
  cd : ∃ dv, s.heap.IsCell (L + 3) (some dv) ∧ DS (okL L) s.heap dv (jobsD (byDays js))
  ce : ∃ v, s.heap.IsCell (L + 4) v

def gJob : Dat → Dat
  | .int n => jobD (jobOf n)
  | d => d
theorem map_gJob (ns : List Int) : (((ns.map Dat.int).take 5).filter fun _ => true).map gJob = ((ns.take 5).map jobOf).map jobD := by
  rw [List.filter_eq_self.mpr fun _ _ => rfl, ← List.map_take, List.map_map, List.map_map]
  rfl
theorem jobOf_ok (n : Int) : JOk (jobOf n) := by
  have h1 := Int.fmod_nonneg_of_pos n (show (0 : Int) < 6 by decide)
  have h2 := Int.fmod_lt_of_pos n (show (0 : Int) < 6 by decide)
  have h3 := Int.fmod_nonneg_of_pos (n.fdiv 6) (show (0 : Int) < 5 by decide)
  have h4 := Int.fmod_lt_of_pos (n.fdiv 6) (show (0 : Int) < 5 by decide)
  have h5 := Int.fmod_nonneg_of_pos (n.fdiv 30) (show (0 : Int) < 15 by decide)
  have h6 := Int.fmod_lt_of_pos (n.fdiv 30) (show (0 : Int) < 15 by decide)
  refine ⟨?_, ?_, ?_⟩ <;> unfold jobOf <;> dsimp only <;> omega
theorem jobs_ok (ns : List Int) : JsOk ((ns.take 5).map jobOf) := ⟨by rw [List.length_map, List.length_take]; omega, fun j hj => by
  obtain ⟨n, _, rfl⟩ := List.mem_map.mp hj
  exact jobOf_ok n⟩

section
variable {prog : Program} {w : World} {A : Around} {s s00 : Shared} {P : Params} {p : Program} {loose : List Str} {mg mb : Str → Option Value} {L : Nat} {fa : Addr} {cd : Value} {m : Str → Option Value} {ns : List Int} {sv : Value}

theorem kb_big {h00 h h' : Heap} {c : Addr} (k : Kp h00 h) (big : h00.objs.size ≤ c) (kb : KB [c] h h') : Kp h00 h' := fun b o e => kb b o (fun q => Nat.ne_of_lt (Nat.lt_of_lt_of_le (Heap.lt_size e) big) (List.mem_singleton.mp q)) (k b o e)
theorem kps_heap {s00 s : Shared} {h' : Heap} {tk : Nat} (k : Kps s00 s) (kp : Kp s00.heap h') : Kps s00 { s with heap := h', toks := tk } := by
  obtain ⟨h1, t1, rfl, _⟩ := k
  exact .of kp
theorem cell_kb {c b : Addr} {h h' : Heap} {v : Option Value} (hc : h.IsCell c v) (kb : KB [b] h h') (hne : c ≠ b) : h'.IsCell c v := by
  obtain ⟨o, e, hd⟩ := hc
  exact ⟨o, kb c o (fun q => hne (List.mem_singleton.mp q)) e, hd⟩

theorem kp_kbx {h00 h h' : Heap} (k : Kp h00 h) (big : h00.objs.size ≤ L) (kb : KB (exL L) h h') : Kp h00 h' := fun b o e => kb b o (fun q => by
  have hb : @LT.lt Nat _ b L := Nat.lt_of_lt_of_le (Heap.lt_size e) big
  simp only [List.mem_cons, List.not_mem_nil, or_false] at q
  rcases q with q | q | q | q | q
  all_goals
    have q' : @Eq Nat b _ := q
    omega) (k b o e)
set_option maxHeartbeats 4000000 in
theorem partA {Q : Flow → Shared → Prop} {E : Value → Shared → Prop} (hlen : ns.length ≤ 63) (hh : A.handled = none) (hd : A.depth + 150 < recursionLimit) (hu : A.units + 2000 < cLine)
    (kps : Kps s00 s) (G : Gr (Mine.hd.heap_39 P) p loose mg mb s00.heap) (big : s00.heap.objs.size ≤ L) (hn : s.heap.Ns L m) (hm : m (Str.ofString "script") = some sv) (hs : DS (okL L) s.heap sv (.list (ns.map Dat.int)))
    (c1 : s.heap.IsCell (L + 1) none) (c2 : s.heap.IsCell (L + 2) none) (c3 : s.heap.IsCell (L + 3) none) (c4 : s.heap.IsCell (L + 4) none)
    (hQ : ∀ s' m', LB P p loose mg mb L s00 ((ns.take 5).map jobOf) s' m' → wpAny (model prog w) A (execs (lawBody.drop 3) (lawEnv L fa cd)) Q E s') :
    wpAny (model prog w) A (execs lawBody (lawEnv L fa cd)) Q E s := by
  have G1 := G.kp kps.kp
  have jok := jobs_ok ns
  have fr := freeL hn c1 c2 c3 c4
  have x0 : L ∈ exL L := .head _
  have x1 : L + 1 ∈ exL L := .tail _ (.head _)
  have x2 : L + 2 ∈ exL L := .tail _ (.tail _ (.head _))
  have x3 : L + 3 ∈ exL L := .tail _ (.tail _ (.tail _ (.head _)))
  refine run_assignC (ok := okL L) (d := jobsD ((ns.take 5).map jobOf)) (c := L + 1) c1 ?_ rfl rfl rfl rfl fun jv h1 t1 kb1 cj jD => ?_
  · unfold jobsD
    rw [← map_gJob]
    refine ev_comp1 (p := .one (Str.ofString "number")) (fun _ => true) gJob fr (src_list hh (ev_upto (a := 5) fr (ev_name (has_local rfl rfl hn hm (by decide)) hs) ev_int ?_ (fun _ _ => rfl)) (fun _ _ => trivial))
      (fun _ => rfl) rfl (by decide) rfl (by decide) (fun C => .one rfl) ?_ (fun d s₁ ok₁ C m₀ m hd nx hn bd => .inl ⟨rfl, rfl⟩) ?_
    · rw [List.length_map, sizeLine_eq]; omega
    · rw [List.length_take]; exact Nat.le_trans (Nat.min_le_left _ _) (by rw [sizeLine_eq]; decide)
    · intro d s₂ ok₁ C m₀ m hd _ nx hn2 bd
      obtain ⟨u, hu1, rfl⟩ := bd
      obtain ⟨n, _, rfl⟩ := List.mem_map.mp (List.mem_of_mem_take hd)
      have G2 := G1.kp nx.kp.kp
      exact ev_call (has_global G2 rfl rfl rfl rfl (by decide)) (.func (G2.X _ _ rfl) rfl) (evs_cons (ev_name (has_local rfl rfl hn2 rfl (by decide)) hu1) evs_nil rfl) (con_job P n G2 nx.free hh (by omega) (by omega)) rfl rfl
  generalize hjs : (ns.take 5).map jobOf = js at jok jD hQ
  have kp1 : Kp s00.heap h1 := kp_kbx kps.kp big (kb1x x1 kb1)
  have G2 := G.kp kp1
  have hn1 : h1.Ns L m := hn.at' fun o e => kb1 _ o (fun q => addr_ne (a := L) (b := L + 1) (.inl (by omega)) (List.mem_singleton.mp q)) e
  have c21 : h1.IsCell (L + 2) none := cell_kb c2 kb1 (addr_ne (.inr (by omega)))
  have c31 : h1.IsCell (L + 3) none := cell_kb c3 kb1 (addr_ne (.inr (by omega)))
  have c41 : h1.IsCell (L + 4) none := cell_kb c4 kb1 (addr_ne (.inr (by omega)))
  have fr1 := freeL hn1 cj c21 c31 c41
  refine wpAny_execs_cons (PyProof.Rows.Assign_Tuple ?_)
  refine Tuple_ (spliced_more (ev_call (ok := okL L) (d := .list ((ordersF js.length js).map jobsD)) (has_global G2 rfl rfl rfl rfl (by decide)) (.func (G2.X _ _ rfl) rfl) (evs_cons (ev_name (has_cell rfl rfl rfl cj (by decide)) jD) evs_nil rfl)
    (con_orders P js.length js rfl jok.len G2 fr1 hh (by have := jok.len; omega) (by have := jok.len; omega)) rfl rfl _ (.refl _) _ _ fun ov s2 k2 hov => ?_))
  have G3 := G2.kp k2.kp
  have fr2 := fr1.kp k2.kp
  refine spliced_more (ev_maketold (ok := okL L) G3 fr2 (by omega) (has_global G3 rfl rfl rfl rfl (by decide)) (ev_list (ds := [.tuple [.int 2, .int 1]]) fr2 (evs_cons (ev_tuple (ds := [.int 2, .int 1]) fr2 (evs_cons ev_int (evs_cons ev_int evs_nil rfl) rfl) (by rw [sizeLine_eq]; simp)) evs_nil rfl) (by rw [sizeLine_eq]; simp)) rfl fun tx s3 k3 hT => ?_)
  refine spliced_none (wpAny_newTuple ?_ (by rw [sizeLine_eq]; simp))
  have k12 : Kp h1 s3.heap := fun b o e => k3.kp _ _ (k2.kp _ _ e)
  have ht : (s3.heap.push { cls := .type "tuple", data := .seq [ov, .ref tx].toArray }).IsTuple s3.heap.objs.size [ov, .ref tx].toArray := isTup_new
  refine wpAny_assign_Tuple hh ht rfl rfl fun h4 ext => ?_
  have k34 : Kp s3.heap h4 := fun b o e => ext b o (Nat.ne_of_lt (Nat.lt_of_lt_of_le (Heap.lt_size e) (by rw [Heap.size_push]; exact Nat.le_succ _))) (Heap.get?_push_of_some _ e)
  have k14 : Kp h1 h4 := k12.trans k34
  refine wpAny_assignInOrder_more (wpAny_assign_Name (wpAny_storeName_local rfl (hn1.keeps k14) (fun h5 hn5 hs5 => ?_) (store_ok rfl)))
  have kb5 : KB [L] h4 h5 := fun b o hb e => hs5.extBut b o (fun q => hb (q ▸ .head _)) e
  have hn5' : h5.Ns L _ := hn5
  have c25 : h5.IsCell (L + 2) none := cell_kb (c21.keeps k14) kb5 (addr_ne (.inr (by omega)))
  refine wpAny_assignInOrder_more (wpAny_assign_Name (wpAny_storeName_cell (c := L + 2) rfl rfl rfl c25 (fun h6 hc6 hs6 => ?_)))
  refine wpAny_pure ?_
  have kb6 : KB [L + 2] h5 h6 := fun b o hb e => hs6.extBut b o (fun q => hb (q ▸ .head _)) e
  have kb46 : KB (exL L) h4 h6 := (kb1x x0 kb5).trans (kb1x x2 kb6)
  have kp6 : Kp s00.heap h6 := kp_kbx (kp1.trans k14) big kb46
  have hn6 : h6.Ns L _ := hn5'.at' fun o e => kb6 _ o (fun q => addr_ne (a := L) (b := L + 2) (.inl (by omega)) (List.mem_singleton.mp q)) e
  have cj6 : h6.IsCell (L + 1) (some jv) := cell_kb (cell_kb (cj.keeps k14) kb5 (addr_ne (.inr (by omega)))) kb6 (addr_ne (.inl (by omega)))
  have c36 : h6.IsCell (L + 3) none := cell_kb (cell_kb (c31.keeps k14) kb5 (addr_ne (.inr (by omega)))) kb6 (addr_ne (.inr (by omega)))
  have c46 : h6.IsCell (L + 4) none := cell_kb (cell_kb (c41.keeps k14) kb5 (addr_ne (.inr (by omega)))) kb6 (addr_ne (.inr (by omega)))
  have j6 : DS (okL L) h6 jv (jobsD js) := (jD.kp k14).kbx kb46
  have o6 : DS (okL L) h6 ov (.list ((ordersF js.length js).map jobsD)) := ((hov.kp k3.kp).kp k34).kbx kb46
  have T6 : ToldAt (okL L) h6 tx := (hT.kp k34).kb kb46 fun b hb => hb
  have fr6 := freeL hn6 cj6 hc6 c36 c46
  have G6 := G.kp kp6
  refine run_assignC (ok := okL L) (d := jobsD (byDays js)) (c := L + 3) c36 (ev_call (has_global G6 rfl rfl rfl rfl (by decide)) (.func (G6.X _ _ rfl) rfl) (evs_cons (ev_name (has_cell rfl rfl rfl cj6 (by decide)) j6) evs_nil rfl) (con_byDays P js jok.len G6 fr6 hh (by omega) (by omega)) rfl rfl)
    rfl rfl rfl rfl fun dv h7 t7 kb7 cd7 dD => ?_
  have kb7x := kb1x x3 kb7
  refine hQ _ _ ⟨?_, G, big, jok, hn6.at' fun o e => kb7 _ o (fun q => addr_ne (a := L) (b := L + 3) (.inl (by omega)) (List.mem_singleton.mp q)) e, ⟨ov, rfl, o6.kbx kb7x⟩,
    ⟨jv, cell_kb cj6 kb7 (addr_ne (.inl (by omega))), j6.kbx kb7x⟩, ⟨tx, cell_kb hc6 kb7 (addr_ne (.inl (by omega))), T6.kb kb7x fun b hb => hb⟩, ⟨dv, cd7, dD⟩, ⟨_, cell_kb c46 kb7 (addr_ne (.inr (by omega)))⟩⟩
  obtain ⟨a1, b1, rfl, _⟩ := k3
  obtain ⟨a2, b2, rfl, _⟩ := k2
  obtain ⟨a3, b3, rfl, _⟩ := kps
  exact .of (kp_kbx kp6 big kb7x)
end
end Mine

/-! LBt -/
namespace Mine
section
variable {prog : Program} {w : World} {A : Around} {s s00 : Shared} {P : Params} {p : Program} {loose : List Str} {mg mb : Str → Option Value} {L : Nat} {fa : Addr} {cd : Value} {m : Str → Option Value} {js : List Jb}
theorem LB.kp {s' : Shared} (b : LB P p loose mg mb L s00 js s m) (k : Kps s s') : LB P p loose mg mb L s00 js s' m := by
  obtain ⟨b1, b2, b3, b4, b5, ⟨ov, o1, o2⟩, ⟨jv, j1, j2⟩, ⟨tx, t1, t2⟩, ⟨dv, d1, d2⟩, ⟨v, e1⟩⟩ := b
  exact ⟨b1.trans k, b2, b3, b4, b5.keeps k.kp, ⟨ov, o1, o2.kp k.kp⟩, ⟨jv, j1.keeps k.kp, j2.kp k.kp⟩, ⟨tx, t1.keeps k.kp, t2.kp k.kp⟩, ⟨dv, d1.keeps k.kp, d2.kp k.kp⟩, ⟨v, e1.keeps k.kp⟩⟩
theorem LB.fr (b : LB P p loose mg mb L s00 js s m) : Free (okL L) s.heap := by
  obtain ⟨b1, b2, b3, b4, b5, ⟨ov, o1, o2⟩, ⟨jv, j1, j2⟩, ⟨tx, t1, t2⟩, ⟨dv, d1, d2⟩, ⟨v, e1⟩⟩ := b
  exact freeL b5 j1 t1 d1 e1
theorem LB.Gs (b : LB P p loose mg mb L s00 js s m) : Gr (Mine.hd.heap_39 P) p loose mg mb s.heap := b.G.kp b.kps.kp

def fDays (dl : List Jb) : Dat → Bool
  | .int k => decide (cmpJ (atJ dl (k - 1).toNat) (atJ dl k.toNat) > 0)
  | _ => false
theorem at_some {as : List Jb} {i : Nat} (h : i < as.length) : (as.map jobD)[i]? = some (jobD (atJ as i)) := by
  simp [atJ, h]
theorem days_none (js : List Jb) (n : Nat) (hn : n = (byDays js).length) : (((List.range ((n : Int) - 1).toNat).map fun (i : Nat) => Dat.int (1 + i)).filter (fDays (byDays js))) = [] := by
  rw [List.filter_eq_nil_iff]
  intro d hd
  obtain ⟨i, hi, rfl⟩ := List.mem_map.mp hd
  rw [List.mem_range] at hi
  have h1 : i + 1 < (byDays js).length := by omega
  have e1 : ((1 + (i : Int)) - 1).toNat = i := by omega
  have e2 : (1 + (i : Int)).toNat = i + 1 := by omega
  have hp := List.pairwise_iff_getElem.mp (byDays_due js) i (i + 1) (by omega) h1 (by omega)
  show ¬ decide (cmpJ (atJ (byDays js) ((1 + (i : Int)) - 1).toNat) (atJ (byDays js) (1 + (i : Int)).toNat) > 0) = true
  rw [e1, e2, decide_eq_true_iff]
  have a1 : atJ (byDays js) i = (byDays js)[i] := by simp [atJ, show i < (byDays js).length by omega]
  have a2 : atJ (byDays js) (i + 1) = (byDays js)[i + 1] := by simp [atJ, h1]
  rw [a1, a2]
  unfold cmpJ
  split
  · decide
  · rw [if_neg (by omega)]; decide

set_option maxHeartbeats 4000000 in
theorem partB {Q : Flow → Shared → Prop} {E : Value → Shared → Prop} (hh : A.handled = none) (hd : A.depth + 150 < recursionLimit) (hu : A.units + 2000 < cLine) (b : LB P p loose mg mb L s00 js s m)
    (hQ : ∀ s', LB P p loose mg mb L s00 js s' m → wpAny (model prog w) A (execs (lawBody.drop 5) (lawEnv L fa cd)) Q E s') :
    wpAny (model prog w) A (execs (lawBody.drop 3) (lawEnv L fa cd)) Q E s := by
  have hn := b.ns
  have G := b.Gs
  have fr := b.fr
  have jok := b.jok
  obtain ⟨jv, cj, jD⟩ := b.cj
  obtain ⟨tx, ct, tD⟩ := b.ct
  obtain ⟨dv, cdv, dD⟩ := b.cd
  have hdl : (byDays js).length ≤ 5 := by rw [byDays_length]; exact jok.len
  refine run_if (b := false) (tr_or ?t1 ?t2) fun s1 k1 => ?_
  case t1 =>
    refine tr_cmp (ok := okL L) (a := .list []) (b := .list []) ?_ (ev_list (ds := []) fr evs_nil (by rw [sizeLine_eq]; simp)) (op_neD (c := true) (by simp [kqdOk]) (by simp [kqdOk]) ⟨fun _ => rfl, fun _ => rfl⟩ (by omega)) rfl
    have e := days_none js (byDays js).length rfl
    have e' : (((List.range (((byDays js).length : Int) - 1).toNat).map fun (i : Nat) => Dat.int (1 + i)).filter (fDays (byDays js))).map id = [] := by rw [e]; rfl
    rw [← e']
    refine ev_comp1 (p := .one (Str.ofString "k")) (fDays (byDays js)) id fr (src_range2 hh (has_builtin G rfl rfl (by decide) rfl rfl rfl rfl (by decide)) ev_int
        ((show (((byDays js).map jobD).length : Int) = (byDays js).length by simp) ▸ ev_call (ds := [.list ((byDays js).map jobD)]) (has_builtin G rfl rfl (by decide) rfl rfl rfl rfl (by decide)) (.builtin _) (evs_cons (ev_name (has_cell rfl rfl rfl cdv (by decide)) dD) evs_nil rfl) (cal_len (by simp; omega)) rfl rfl)
        (small_one (by decide) (by decide) (by omega) (by omega)) rfl rfl)
      (fun _ => rfl) rfl (by decide) rfl (by decide) (fun C => .one rfl) ?_ ?_ ?_
    · rw [List.length_map, List.length_range, sizeLine_eq]; omega
    · intro d s₂ ok₁ C m₀ m2 hd2 nx hn2 bd
      obtain ⟨u, hu1, rfl⟩ := bd
      obtain ⟨i, hi, rfl⟩ := List.mem_map.mp hd2
      rw [List.mem_range] at hi
      have G2 := G.kp nx.kp.kp
      have ct2 := ct.keeps nx.kp.kp
      have cd2 := cdv.keeps nx.kp.kp
      have dD2 : DS ok₁ s₂.heap dv (.list ((byDays js).map jobD)) := dD.next nx
      refine .inr ⟨_, rfl, tr_cmp (ok := ok₁) (ev_compare G2 nx.free hh (by omega) (has_cell rfl rfl rfl ct2 (by decide)) (tD.next nx)
        (ev_item (ev_name (has_cell rfl rfl rfl cd2 (by decide)) dD2) (ev_bin (ev_name (has_local rfl rfl hn2 rfl (by decide)) hu1) ev_int op_sub) (by omega) (by omega) (at_some (by omega)) (fun _ _ => rfl))
        (ev_item (ev_name (has_cell rfl rfl rfl cd2 (by decide)) dD2) (ev_name (has_local rfl rfl hn2 rfl (by decide)) hu1) (by omega) (by omega) (at_some (by omega)) (fun _ _ => rfl)) rfl rfl rfl) ev_int op_gt rfl⟩
    · intro d s₂ ok₁ C m₀ m2 hd2 _ nx hn2 bd
      obtain ⟨u, hu1, rfl⟩ := bd
      exact ev_name (has_local rfl rfl hn2 rfl (by decide)) hu1
  case t2 =>
    have e : sortJ (byDays js) = sortJ js := sortJ_eq (byDays_perm js) hdl
    refine tr_cmp (ok := okL L) (a := jobsD (sortJ js)) (b := jobsD (sortJ js)) ?_ ?_ (op_neD (c := true) (jobsD_ok _) (jobsD_ok _) ⟨fun _ => rfl, fun _ => rfl⟩ (by omega)) rfl
    · rw [← e]
      exact ev_call (ds := [.list ((byDays js).map tripD)]) (has_builtin G rfl rfl (by decide) rfl rfl rfl rfl (by decide)) (.builtin _) (evs_cons (ev_name (has_cell rfl rfl rfl cdv (by decide)) dD) evs_nil rfl) (cal_sorted fr hdl) rfl rfl
    · exact ev_call (ds := [.list (js.map tripD)]) (has_builtin G rfl rfl (by decide) rfl rfl rfl rfl (by decide)) (.builtin _) (evs_cons (ev_name (has_cell rfl rfl rfl cj (by decide)) jD) evs_nil rfl) (cal_sorted fr jok.len) rfl rfl
  simp only [Bool.false_eq_true, if_false]
  refine wpAny_execs_nil ?_
  have G := G.kp k1.kp
  have fr := fr.kp k1.kp
  have cj := cj.keeps k1.kp
  have jD := jD.kp k1.kp
  have ct := ct.keeps k1.kp
  have tD := tD.kp k1.kp
  refine run_if (b := false) ?t3 fun s2 k2 => ?_
  case t3 =>
    refine tr_cmp (ok := okL L) (a := .list []) (b := .list []) ?_ (ev_list (ds := []) fr evs_nil (by rw [sizeLine_eq]; simp)) (op_neD (c := true) (by simp [kqdOk]) (by simp [kqdOk]) ⟨fun _ => rfl, fun _ => rfl⟩ (by omega)) rfl
    have e' : ((js.map jobD).flatMap fun d => (((fun _ => js.map jobD) d).filter ((fun _ _ => false) d)).map ((fun _ _ => Dat.int 1) d)) = [] := by
      rw [List.flatMap_eq_nil_iff]
      intro d hd
      simp
    rw [← e']
    refine ev_comp2 (x := Str.ofString "one") (y := Str.ofString "other") (fun _ => js.map jobD) (fun _ _ => false) (fun _ _ => Dat.int 1) (by decide) fr
      (src_list hh (ev_name (has_cell rfl rfl rfl cj (by decide)) jD) (fun _ _ => trivial)) (fun _ => rfl) rfl (by decide) rfl (by decide) (fun C => .one rfl) (fun C => .one rfl) (fun _ _ => rfl) (by rw [e']; exact Nat.zero_le _) ?_ ?_ ?_
    · intro d s₂ ok₁ C m2 v hd2 nx hn2 hm2 hv
      exact src_list hh (ev_name (has_cell rfl rfl rfl (cj.keeps nx.kp.kp) (by decide)) (jD.next nx)) (fun _ _ => trivial)
    · intro d d' s₂ ok₁ C m2 v u hd2 hd2' nx hn2 hm2 hv hm2' hu2
      obtain ⟨a, _, rfl⟩ := List.mem_map.mp hd2
      obtain ⟨a', _, rfl⟩ := List.mem_map.mp hd2'
      have G2 := G.kp nx.kp.kp
      have ct2 := ct.keeps nx.kp.kp
      have key : ((cmpJ a a' == 0) != (a.2.2 == a'.2.2)) = false := by
        unfold cmpJ
        by_cases h1 : a.2.2 < a'.2.2
        · have h2 : ¬ a.2.2 = a'.2.2 := by omega
          simp [h1, h2]
        · by_cases h3 : a.2.2 > a'.2.2
          · have h2 : ¬ a.2.2 = a'.2.2 := by omega
            simp [h1, h3, h2]
          · have h2 : a.2.2 = a'.2.2 := by omega
            simp [h2]
      refine .inr ⟨_, rfl, ?_⟩
      rw [← key]
      exact tr_cmp (ok := ok₁) (ev_cmp (ev_compare G2 nx.free hh (by omega) (has_cell rfl rfl rfl ct2 (by decide)) (tD.next nx) (ev_name (has_local rfl rfl hn2 hm2 (by decide)) hv) (ev_name (has_local rfl rfl hn2 hm2' (by decide)) hu2) rfl rfl rfl) ev_int op_eqI rfl)
        (ev_cmp (ev_itemT (ds := [.int a.1, .int a.2.1, .int a.2.2]) (ev_name (has_local rfl rfl hn2 hm2 (by decide)) hv) ev_int (by decide) (by decide) rfl (fun _ _ => rfl)) (ev_itemT (ds := [.int a'.1, .int a'.2.1, .int a'.2.2]) (ev_name (has_local rfl rfl hn2 hm2' (by decide)) hu2) ev_int (by decide) (by decide) rfl (fun _ _ => rfl)) op_eqI rfl) op_neB rfl
    · intro d d' s₂ ok₁ C m2 v u _ _ hf
      cases hf
  simp only [Bool.false_eq_true, if_false]
  exact wpAny_execs_nil (hQ s2 (b.kp (k1.trans k2)))
end
end Mine

/-! Bub -/
namespace Mine
def badJ (a b : Jb) : Bool := decide (b.1 * a.2.1 < a.1 * b.2.1)
def swapAt (bs : List Jb) (i : Nat) : List Jb := bs.take i ++ [atJ bs (i + 1), atJ bs i] ++ bs.drop (i + 2)
def stepB (bs : List Jb) (i : Nat) : List Jb := if badJ (atJ bs i) (atJ bs (i + 1)) then swapAt bs i else bs
def passB (n : Nat) (bs : List Jb) : List Jb := (List.range (n - 1)).foldl stepB bs
def passes (n : Nat) : Nat → List Jb → List Jb
  | 0, bs => bs
  | k + 1, bs => passB n (passes n k bs)
theorem split_at {bs : List Jb} {i : Nat} (h : i + 1 < bs.length) : bs = bs.take i ++ atJ bs i :: atJ bs (i + 1) :: bs.drop (i + 2) := by
  have h1 : atJ bs i = bs[i] := by simp [atJ, show i < bs.length by omega]
  have h2 : atJ bs (i + 1) = bs[i + 1] := by simp [atJ, h]
  rw [h1, h2]
  conv => lhs; rw [← List.take_append_drop i bs]
  rw [List.drop_eq_getElem_cons (show i < bs.length by omega), List.drop_eq_getElem_cons h]
theorem swapAt_perm {bs : List Jb} {i : Nat} (h : i + 1 < bs.length) : (swapAt bs i).Perm bs := by
  unfold swapAt
  conv => rhs; rw [split_at h]
  rw [List.append_assoc]
  exact List.Perm.append_left _ (.swap ..)
theorem stepB_perm {bs : List Jb} {i : Nat} (h : i + 1 < bs.length) : (stepB bs i).Perm bs := by
  unfold stepB
  split
  · exact swapAt_perm h
  · exact .refl _
theorem foldB_perm (n : Nat) : ∀ (k : Nat) (bs : List Jb), k ≤ n - 1 → n = bs.length → ((List.range k).foldl stepB bs).Perm bs
  | 0, bs, _, _ => .refl _
  | k + 1, bs, h, hn => by
    have ih := foldB_perm n k bs (by omega) hn
    rw [List.range_succ, List.foldl_append]
    exact (stepB_perm (by rw [ih.length_eq]; omega)).trans ih
theorem passB_perm {n : Nat} {bs : List Jb} (h : n = bs.length) : (passB n bs).Perm bs := foldB_perm n (n - 1) bs (Nat.le_refl _) h
theorem passes_perm {n : Nat} : ∀ (k : Nat) (bs : List Jb), n = bs.length → (passes n k bs).Perm bs
  | 0, bs, _ => .refl _
  | k + 1, bs, h => by
    have ih := passes_perm (n := n) k bs h
    exact (passB_perm (by rw [ih.length_eq]; exact h)).trans ih
theorem JsOk.perm {as bs : List Jb} (h : JsOk as) (p : bs.Perm as) : JsOk bs := ⟨p.length_eq ▸ h.len, fun j hj => h.ok j (p.mem_iff.mp hj)⟩
theorem costs_append : ∀ (as bs : List Jb) (t : Int), costsL t (as ++ bs) = costsL t as ++ costsL (t + timeJ as) bs
  | [], bs, t => by simp [costsL, timeJ]
  | a :: as, bs, t => by
    rw [List.cons_append, costsL, costsL, costs_append as bs, List.cons_append]
    simp [timeJ, Int.add_assoc]
theorem sum_append (as bs : List Int) : (as ++ bs).sum = as.sum + bs.sum := List.sum_append
theorem cost_swap (p r : List Jb) (a b : Jb) (t : Int) : (costsL t (p ++ a :: b :: r)).sum - (costsL t (p ++ b :: a :: r)).sum = a.1 * b.2.1 - b.1 * a.2.1 := by
  rw [costs_append, costs_append, sum_append, sum_append]
  simp only [costsL, List.sum_cons]
  have e : t + timeJ p + a.1 + b.1 = t + timeJ p + b.1 + a.1 := by omega
  rw [e]
  generalize t + timeJ p = u
  generalize (costsL (u + b.1 + a.1) r).sum = z
  generalize (costsL t p).sum = y
  simp only [Int.mul_add]
  have e1 := Int.mul_comm b.2.1 a.1
  have e2 := Int.mul_comm a.2.1 b.1
  omega
theorem cost_swapAt {bs : List Jb} {i : Nat} (h : i + 1 < bs.length) : (costsL 0 bs).sum - (costsL 0 (swapAt bs i)).sum = (atJ bs i).1 * (atJ bs (i + 1)).2.1 - (atJ bs (i + 1)).1 * (atJ bs i).2.1 := by
  unfold swapAt
  conv => lhs; lhs; rw [split_at h]
  rw [List.append_assoc]
  exact cost_swap _ _ _ _ _
end Mine

/-! LC -/
namespace Mine
section
variable {prog : Program} {w : World} {A : Around} {env : Env} {ok : Addr → Prop} {s₀ : Shared}
theorem Ev.conv {e : Expr} {d d' : Dat} (h : Ev prog w A env ok s₀ e d) (q : d = d') : Ev prog w A env ok s₀ e d' := q ▸ h
theorem ev_jt {e : Expr} {j : Jb} {pos p : Pos} {k : Nat} (h : Ev prog w A env ok s₀ e (jobD j)) (hns : ∀ a b : Value, subscripted (.Constant (.int 0) k p) false a b = operate [a, b] (getItem a b)) : Ev prog w A env ok s₀ (.Subscript e (.Constant (.int 0) k p) pos) (.int j.1) :=
  ev_itemT (ds := [.int j.1, .int j.2.1, .int j.2.2]) h ev_int (by decide) (by decide) rfl hns
theorem ev_jw {e : Expr} {j : Jb} {pos p : Pos} {k : Nat} (h : Ev prog w A env ok s₀ e (jobD j)) (hns : ∀ a b : Value, subscripted (.Constant (.int 1) k p) false a b = operate [a, b] (getItem a b)) : Ev prog w A env ok s₀ (.Subscript e (.Constant (.int 1) k p) pos) (.int j.2.1) :=
  ev_itemT (ds := [.int j.1, .int j.2.1, .int j.2.2]) h ev_int (by decide) (by decide) rfl hns
theorem ev_at {e i : Expr} {pos : Pos} {bs : List Jb} {k : Nat} (h : Ev prog w A env ok s₀ e (jobsD bs)) (hi : Ev prog w A env ok s₀ i (.int (k : Int))) (hk : k < bs.length) (h5 : bs.length ≤ 5) (hns : ∀ a b : Value, subscripted i false a b = operate [a, b] (getItem a b)) : Ev prog w A env ok s₀ (.Subscript e i pos) (jobD (atJ bs k)) :=
  ev_item h hi (by omega) (by omega) (by rw [Int.toNat_natCast]; exact at_some hk) hns
theorem mulOk {j : Jb} (h : JOk j) (b : Int) : IntMulOk j.1 b := by
  have := h.t
  exact .of_left (intBits_le_64 (by omega) (by omega))
end
section
variable {prog : Program} {w : World} {A : Around} {s s00 : Shared} {P : Params} {p : Program} {loose : List Str} {mg mb : Str → Option Value} {L : Nat} {fa : Addr} {cd : Value} {m : Str → Option Value} {js : List Jb}
theorem LB.move {h' : Heap} {tk : Nat} {m' : Str → Option Value} (b : LB P p loose mg mb L s00 js s m) (kb : KB [L] s.heap h') (hn : h'.Ns L m') (ho : m' (Str.ofString "orders") = m (Str.ofString "orders")) : LB P p loose mg mb L s00 js { s with heap := h', toks := tk } m' := by
  obtain ⟨b1, b2, b3, b4, b5, ⟨ov, o1, o2⟩, ⟨jv, j1, j2⟩, ⟨tx, t1, t2⟩, ⟨dv, d1, d2⟩, ⟨v, e1⟩⟩ := b
  have kx : KB (exL L) s.heap h' := kb1x (.head _) kb
  exact ⟨kps_heap b1 (kp_kbx b1.kp b3 kx), b2, b3, b4, hn, ⟨ov, ho.trans o1, o2.kbx kx⟩, ⟨jv, cell_kb j1 kb (addr_ne (.inr (by omega))), j2.kbx kx⟩, ⟨tx, cell_kb t1 kb (addr_ne (.inr (by omega))), t2.kb kx fun b hb => hb⟩,
    ⟨dv, cell_kb d1 kb (addr_ne (.inr (by omega))), d2.kbx kx⟩, ⟨v, cell_kb e1 kb (addr_ne (.inr (by omega)))⟩⟩

set_option maxHeartbeats 4000000 in
/-- one turn of the inner loop -/
theorem turnC {bs : List Jb} {i : Nat} {bv kv : Value} {Q : Flow → Shared → Prop} {E : Value → Shared → Prop} (hh : A.handled = none) (hd : A.depth + 150 < recursionLimit) (hu : A.units + 2000 < cLine) (b : LB P p loose mg mb L s00 js s m)
    (hb : m (Str.ofString "best") = some bv) (hbd : DS (okL L) s.heap bv (jobsD bs)) (hj : JsOk bs) (hi : i + 1 < bs.length) (hk : m (Str.ofString "k") = some kv) (hkd : DS (okL L) s.heap kv (.int ((i + 1 : Nat) : Int)))
    (body : List Stmt) (hbody : body = match lawBody.drop 6 with | .For _ _ [.For _ _ body _ _] _ _ :: _ => body | _ => [])
    (hQ : ∀ h' tk m' bv', KB [L] s.heap h' → h'.Ns L m' → m' (Str.ofString "best") = some bv' → DS (okL L) h' bv' (jobsD (stepB bs i)) → m' (Str.ofString "orders") = m (Str.ofString "orders") → Q .next { s with heap := h', toks := tk }) :
    wpAny (model prog w) A (execs body (lawEnv L fa cd)) Q E s := by
  subst hbody
  have hn := b.ns
  have G := b.Gs
  have fr := b.fr
  have h5 := hj.len
  have ha : JOk (atJ bs i) := hj.ok _ (at_mem (by omega))
  have hc : JOk (atJ bs (i + 1)) := hj.ok _ (at_mem hi)
  have e1 : ((i + 1 : Nat) : Int) - 1 = ((i : Nat) : Int) := by omega
  have e2 : ((i + 1 : Nat) : Int) + 1 = ((i + 2 : Nat) : Int) := by omega
  refine run_if (b := badJ (atJ bs i) (atJ bs (i + 1))) (tr_cmp (ok := okL L)
    (ev_bin (ev_jt (ev_at (ev_name (has_local rfl rfl hn hb (by decide)) hbd) ((ev_bin (ev_name (has_local rfl rfl hn hk (by decide)) hkd) ev_int op_sub).conv (by rw [e1])) (by omega) h5 (fun _ _ => rfl)) (fun _ _ => rfl))
      (ev_jw (ev_at (ev_name (has_local rfl rfl hn hb (by decide)) hbd) (ev_name (has_local rfl rfl hn hk (by decide)) hkd) hi h5 (fun _ _ => rfl)) (fun _ _ => rfl)) (op_mul (mulOk ha _)))
    (ev_bin (ev_jt (ev_at (ev_name (has_local rfl rfl hn hb (by decide)) hbd) (ev_name (has_local rfl rfl hn hk (by decide)) hkd) hi h5 (fun _ _ => rfl)) (fun _ _ => rfl))
      (ev_jw (ev_at (ev_name (has_local rfl rfl hn hb (by decide)) hbd) ((ev_bin (ev_name (has_local rfl rfl hn hk (by decide)) hkd) ev_int op_sub).conv (by rw [e1])) (by omega) h5 (fun _ _ => rfl)) (fun _ _ => rfl)) (op_mul (mulOk hc _))) op_gt rfl) fun s1 k1 => ?_
  have hn1 := hn.keeps k1.kp
  have b1 := b.kp k1
  have G1 := b1.Gs
  have fr1 := b1.fr
  have hbd1 := hbd.kp k1.kp
  have hkd1 := hkd.kp k1.kp
  by_cases hbad : badJ (atJ bs i) (atJ bs (i + 1)) = true
  · rw [hbad]
    simp only [if_true]
    refine run_assign (ok := okL L) (d := .int ((atJ bs i).1 * (atJ bs (i + 1)).2.1 - (atJ bs (i + 1)).1 * (atJ bs i).2.1)) hn1 (ev_bin
      (ev_bin (ev_jt (ev_at (ev_name (has_local rfl rfl hn1 hb (by decide)) hbd1) ((ev_bin (ev_name (has_local rfl rfl hn1 hk (by decide)) hkd1) ev_int op_sub).conv (by rw [e1])) (by omega) h5 (fun _ _ => rfl)) (fun _ _ => rfl))
        (ev_jw (ev_at (ev_name (has_local rfl rfl hn1 hb (by decide)) hbd1) (ev_name (has_local rfl rfl hn1 hk (by decide)) hkd1) hi h5 (fun _ _ => rfl)) (fun _ _ => rfl)) (op_mul (mulOk ha _)))
      (ev_bin (ev_jt (ev_at (ev_name (has_local rfl rfl hn1 hb (by decide)) hbd1) (ev_name (has_local rfl rfl hn1 hk (by decide)) hkd1) hi h5 (fun _ _ => rfl)) (fun _ _ => rfl))
        (ev_jw (ev_at (ev_name (has_local rfl rfl hn1 hb (by decide)) hbd1) ((ev_bin (ev_name (has_local rfl rfl hn1 hk (by decide)) hkd1) ev_int op_sub).conv (by rw [e1])) (by omega) h5 (fun _ _ => rfl)) (fun _ _ => rfl)) (op_mul (mulOk hc _))) op_sub)
      rfl rfl rfl fun lv h2 t2 kb2 hn2 hlv => ?_
    have kb2' : KB [L] s1.heap h2 := kb2
    have hb2 : upd m (Str.ofString "less") lv (Str.ofString "best") = some bv := hb
    have hk2 : upd m (Str.ofString "less") lv (Str.ofString "k") = some kv := hk
    have b2 := b1.move (tk := t2) kb2' hn2 rfl
    have kx2 := kb1x (L := L) (.head _) kb2'
    have hbd2 := hbd1.kbx kx2
    have hkd2 := hkd1.kbx kx2
    have G2 := b2.Gs
    have fr2 := b2.fr
    have hbl : (bs.map jobD).length ≤ 5 := by rw [List.length_map]; exact h5
    have hbl' : (bs.map jobD).length ≤ sizeLine := small_len hbl
    have eAf : (bs.map jobD).take i ++ [jobD (atJ bs (i + 1)), jobD (atJ bs i)] ++ (bs.map jobD).drop (i + 2) = (swapAt bs i).map jobD := by
      unfold swapAt
      rw [List.map_append, List.map_append, List.map_take, List.map_drop]
      rfl
    refine run_assign (ok := okL L) (d := jobsD (swapAt bs i)) hn2 (Ev.conv (ev_bin
      (ev_bin (ev_upto fr2 (ev_name (has_local rfl rfl hn2 hb2 (by decide)) hbd2) ((ev_bin (ev_name (has_local rfl rfl hn2 hk2 (by decide)) hkd2) ev_int op_sub).conv (by rw [e1])) hbl' (fun _ _ => rfl))
        (ev_list (ds := [jobD (atJ bs (i + 1)), jobD (atJ bs i)]) fr2 (evs_cons (ev_at (ev_name (has_local rfl rfl hn2 hb2 (by decide)) hbd2) (ev_name (has_local rfl rfl hn2 hk2 (by decide)) hkd2) hi h5 (fun _ _ => rfl))
          (evs_cons (ev_at (ev_name (has_local rfl rfl hn2 hb2 (by decide)) hbd2) ((ev_bin (ev_name (has_local rfl rfl hn2 hk2 (by decide)) hkd2) ev_int op_sub).conv (by rw [e1])) (by omega) h5 (fun _ _ => rfl)) evs_nil rfl) rfl) (by rw [sizeLine_eq]; simp))
        (op_cat fr2 (by rw [List.length_take, sizeLine_eq]; simp; omega)))
      (ev_from (a := i + 2) fr2 (ev_name (has_local rfl rfl hn2 hb2 (by decide)) hbd2) ((ev_bin (ev_name (has_local rfl rfl hn2 hk2 (by decide)) hkd2) ev_int op_add).conv (by rw [e2])) hbl' (fun _ _ => rfl))
      (op_cat fr2 (by rw [List.length_append, List.length_take, List.length_drop, sizeLine_eq]; simp; omega))) (congrArg Dat.list eAf))
      rfl rfl rfl fun av h3 t3 kb3 hn3 hav => ?_
    have kb3' : KB [L] h2 h3 := kb3
    have hb3 : upd (upd m (Str.ofString "less") lv) (Str.ofString "after") av (Str.ofString "best") = some bv := hb
    have b3 := b2.move (tk := t3) kb3' hn3 rfl
    have kx3 := kb1x (L := L) (.head _) kb3'
    have hbd3 := hbd2.kbx kx3
    have G3 := b3.Gs
    have fr3 := b3.fr
    have hjA : JsOk (swapAt bs i) := hj.perm (swapAt_perm hi)
    have hcost := cost_swapAt hi
    refine run_if (b := false) ?tst fun s4 k4 => ?_
    case tst =>
      have e0 : (((costsL 0 bs).sum - (costsL 0 (swapAt bs i)).sum) != ((atJ bs i).1 * (atJ bs (i + 1)).2.1 - (atJ bs (i + 1)).1 * (atJ bs i).2.1)) = false := by rw [hcost]; simp
      rw [← e0]
      cases hlv
      exact tr_cmp (ok := okL L) (ev_bin (ev_call (has_global G3 rfl rfl rfl rfl (by decide)) (.func (G3.X _ _ rfl) rfl) (evs_cons (ev_name (has_local rfl rfl hn3 hb3 (by decide)) hbd3) evs_nil rfl) (con_cost P bs hj G3 fr3 hh (by omega) (by omega)) rfl rfl)
        (ev_call (has_global G3 rfl rfl rfl rfl (by decide)) (.func (G3.X _ _ rfl) rfl) (evs_cons (ev_name (has_local rfl rfl hn3 rfl (by decide)) hav) evs_nil rfl) (con_cost P _ hjA G3 fr3 hh (by omega) (by omega)) rfl rfl) op_sub)
        (ev_name (has_local rfl rfl hn3 rfl (by decide)) (.int _ _)) op_neI rfl
    simp only [Bool.false_eq_true, if_false]
    refine wpAny_execs_nil ?_
    have hn4 := hn3.keeps k4.kp
    refine run_assign (ok := okL L) (d := jobsD (swapAt bs i)) hn4 (ev_name (has_local rfl rfl hn4 rfl (by decide)) (hav.kp k4.kp)) rfl rfl rfl fun bv' h5' t5 kb5 hn5 hbv => wpAny_execs_nil (wpAny_execs_nil ?_)
    have e : stepB bs i = swapAt bs i := by unfold stepB; rw [hbad]; rfl
    rw [e] at hQ
    obtain ⟨g4, u4, rfl, kp4⟩ := k4
    obtain ⟨g1, u1, rfl, kp1⟩ := k1
    exact hQ h5' t5 _ bv' (fun b o hb e => (show KB [L] g4 h5' from kb5) b o hb (kp4 _ _ (kb3' b o hb (kb2' b o hb (kp1 _ _ e))))) hn5 rfl hbv rfl
  · rw [Bool.not_eq_true] at hbad
    rw [hbad]
    simp only [Bool.false_eq_true, if_false]
    refine wpAny_execs_nil (wpAny_execs_nil ?_)
    have e : stepB bs i = bs := by unfold stepB; rw [hbad]; rfl
    obtain ⟨g1, u1, rfl, kp⟩ := k1
    exact hQ g1 u1 m bv (fun b o _ e => kp b o e) hn1 hb (by rw [e]; exact hbd1) rfl
end
end Mine

/-! LD -/
namespace Mine
section
variable {prog : Program} {w : World} {A : Around} {env : Env} {ok : Addr → Prop} {s₀ : Shared}
theorem srcN_rangeN {x : Str} {p pos : Pos} {e : Expr} {n : Nat} {y : Str} (hh : A.handled = none) (hx : Has prog w A env s₀ x (.type "range")) (h : Ev prog w A env ok s₀ e (.int n)) (hn : n ≤ 1000)
    (he : starEach [e] env = (false, eval e env) :: starEach [] env) : SrcN prog w A env ok s₀ (.Call (.Name x p) [e] [] pos) ((List.range n).map fun (i : Nat) => Dat.int i) (.one y) := by
  have g := srcN_range1 (y := y) hh hx h (small_one (by decide) (by decide) (by omega) (by omega)) he (pos := pos) (p := p)
  rw [Int.toNat_natCast] at g
  exact g
theorem srcN_rangeM {x : Str} {p pos : Pos} {e f : Expr} {n : Nat} {y : Str} (hh : A.handled = none) (hx : Has prog w A env s₀ x (.type "range")) (h : Ev prog w A env ok s₀ e (.int 1)) (h' : Ev prog w A env ok s₀ f (.int n)) (hn : n ≤ 1000)
    (he : starEach [e, f] env = (false, eval e env) :: starEach [f] env) (he' : starEach [f] env = (false, eval f env) :: starEach [] env) : SrcN prog w A env ok s₀ (.Call (.Name x p) [e, f] [] pos) ((List.range (n - 1)).map fun (i : Nat) => Dat.int ((i + 1 : Nat) : Int)) (.one y) := by
  have g := srcN_range2 (y := y) hh hx h h' (small_one (by decide) (by decide) (by omega) (by omega)) he he' (pos := pos) (p := p)
  have e1 : ((n : Int) - 1).toNat = n - 1 := by omega
  have e2 : ((List.range (n - 1)).map fun (i : Nat) => Dat.int (1 + i)) = (List.range (n - 1)).map fun (i : Nat) => Dat.int ((i + 1 : Nat) : Int) := by
    refine List.map_congr_left fun i _ => ?_
    congr 1
    omega
  rw [e1, e2] at g
  exact g
theorem ev_lenJ {x : Str} {p pos : Pos} {e : Expr} {bs : List Jb} (hx : Has prog w A env s₀ x (.builtin "len")) (h : Ev prog w A env ok s₀ e (jobsD bs)) (h5 : bs.length ≤ 5) (he : starEach [e] env = (false, eval e env) :: starEach [] env) :
    Ev prog w A env ok s₀ (.Call (.Name x p) [e] [] pos) (.int (bs.length : Nat)) := by
  have g := ev_call (pos := pos) (p := p) hx (.builtin _) (evs_cons h evs_nil he) (cal_len (ds := bs.map jobD) (by simp; omega)) he rfl
  rw [List.length_map] at g
  exact g
theorem range_split {n i : Nat} {f : Nat → Dat} {pre : List Dat} {d : Dat} {post : List Dat} (h : (List.range n).map f = pre ++ d :: post) : pre.length < n ∧ d = f pre.length := by
  have h1 : ((List.range n).map f)[pre.length]? = some d := by rw [h]; simp
  rw [List.getElem?_map] at h1
  obtain ⟨k, hk, e⟩ := Option.map_eq_some_iff.mp h1
  obtain ⟨a, b⟩ := List.getElem?_eq_some_iff.mp hk
  simp at a b
  exact ⟨a, by rw [← e, b]⟩
end
section
variable {prog : Program} {w : World} {A : Around} {s s00 : Shared} {P : Params} {p : Program} {loose : List Str} {mg mb : Str → Option Value} {L : Nat} {fa : Addr} {cd : Value} {m : Str → Option Value} {js : List Jb}

set_option maxHeartbeats 4000000 in
theorem partC {Q : Flow → Shared → Prop} {E : Value → Shared → Prop} (hh : A.handled = none) (hd : A.depth + 150 < recursionLimit) (hu : A.units + 2000 < cLine) (b : LB P p loose mg mb L s00 js s m)
    (hQ : ∀ s' m' bv, LB P p loose mg mb L s00 js s' m' → m' (Str.ofString "best") = some bv → DS (okL L) s'.heap bv (jobsD (passes js.length js.length js)) → wpAny (model prog w) A (execs (lawBody.drop 7) (lawEnv L fa cd)) Q E s') :
    wpAny (model prog w) A (execs (lawBody.drop 5) (lawEnv L fa cd)) Q E s := by
  have hn := b.ns
  have G := b.Gs
  have fr := b.fr
  have jok := b.jok
  obtain ⟨jv, cj, jD⟩ := b.cj
  obtain ⟨ov, ho, _⟩ := b.ord
  refine run_assign (ok := okL L) (d := jobsD js) hn (ev_call (ds := [jobsD js]) (has_builtin G rfl rfl (by decide) rfl rfl rfl rfl (by decide)) (.type _) (evs_cons (ev_name (has_cell rfl rfl rfl cj (by decide)) jD) evs_nil rfl) (cal_list fr (by rw [List.length_map]; exact small_len jok.len)) rfl rfl)
    rfl rfl rfl fun bv h1 t1 kb1 hn1 hbv => ?_
  have kb1' : KB [L] s.heap h1 := kb1
  have b1 := b.move (tk := t1) kb1' hn1 rfl
  have G1 := b1.Gs
  obtain ⟨jv1, cj1, jD1⟩ := b1.cj
  refine run_for (ok := okL L) (ds := (List.range js.length).map fun (i : Nat) => Dat.int i) (p := .one (Str.ofString "turn")) []
    (fun pre h m => ∃ bv, m (Str.ofString "best") = some bv ∧ DS (okL L) h bv (jobsD (passes js.length pre.length js)) ∧ m (Str.ofString "orders") = some ov)
    (srcN_rangeN hh (has_builtin G1 rfl rfl (by decide) rfl rfl rfl rfl (by decide)) (ev_lenJ (has_builtin G1 rfl rfl (by decide) rfl rfl rfl rfl (by decide)) (ev_name (has_cell rfl rfl rfl cj1 (by decide)) jD1) jok.len rfl) (by have := jok.len; omega) rfl)
    (fun _ => rfl) rfl (.one rfl) hn1 (fun b hb => nomatch hb) ?st ⟨bv, rfl, hbv, ho⟩ ?turn ?done
  case st =>
    rintro pre h h' m ⟨bv, a1, a2, a3⟩ sk
    exact ⟨bv, a1, a2.up sk.up, a3⟩
  case done =>
    rintro h' tk' m' kb hn' ⟨bv', a1, a2, a3⟩
    have e : ((List.range js.length).map fun (i : Nat) => Dat.int i).length = js.length := by simp
    rw [e] at a2
    exact hQ _ _ bv' (b1.move kb hn' (a3.trans ho.symm)) a1 a2
  case turn =>
    rintro pre d post s' m₁ m₂ hds ⟨h', tk', rfl⟩ kb ⟨bv', a1, a2, a3⟩ hn2 bd E2
    obtain ⟨hpl, rfl⟩ := range_split (i := 0) hds
    obtain ⟨tv, htv, rfl⟩ := bd
    have kb' : KB [L] h1 h' := kb
    have b2 := b1.move (tk := tk') kb' hn2 (show _ = _ from a3.trans ho.symm)
    have G2 := b2.Gs
    have hperm : (passes js.length pre.length js).Perm js := passes_perm _ _ rfl
    have hjb : JsOk (passes js.length pre.length js) := jok.perm hperm
    have hbl : (passes js.length pre.length js).length = js.length := hperm.length_eq
    have a1' : upd m₁ (Str.ofString "turn") tv (Str.ofString "best") = some bv' := a1
    have a3' : upd m₁ (Str.ofString "turn") tv (Str.ofString "orders") = some ov := a3
    refine run_for (ok := okL L) (ds := (List.range ((passes js.length pre.length js).length - 1)).map fun (i : Nat) => Dat.int ((i + 1 : Nat) : Int)) (p := .one (Str.ofString "k")) []
      (fun pre2 h m => ∃ bv, m (Str.ofString "best") = some bv ∧ DS (okL L) h bv (jobsD ((List.range pre2.length).foldl stepB (passes js.length pre.length js))) ∧ m (Str.ofString "orders") = some ov)
      (srcN_rangeM hh (has_builtin G2 rfl rfl (by decide) rfl rfl rfl rfl (by decide)) ev_int (ev_lenJ (has_builtin G2 rfl rfl (by decide) rfl rfl rfl rfl (by decide)) (ev_name (has_local rfl rfl hn2 a1' (by decide)) a2) (by rw [hbl]; exact jok.len) rfl) (by have := jok.len; omega) rfl rfl)
      (fun _ => rfl) rfl (.one rfl) hn2 (fun b hb => nomatch hb) ?st2 ⟨bv', a1', a2, a3'⟩ ?turn2 ?done2
    case st2 =>
      rintro pre h h' m ⟨bv, a1, a2, a3⟩ sk
      exact ⟨bv, a1, a2.up sk.up, a3⟩
    case done2 =>
      rintro h5 tk5 m5 kb5 hn5 ⟨bv5, c1, c2, c3⟩
      refine wpAny_execs_nil ⟨h5, tk5, m5, rfl, kb5, hn5, bv5, c1, ?_, c3⟩
      have e : (List.map (fun (i : Nat) => Dat.int ((i + 1 : Nat) : Int)) (List.range ((passes js.length pre.length js).length - 1))).length = js.length - 1 := by rw [List.length_map, List.length_range, hbl]
      rw [e] at c2
      have e2 : passes js.length (pre ++ [Dat.int (pre.length : Int)]).length js = passB js.length (passes js.length pre.length js) := by
        rw [List.length_append]; rfl
      rw [e2]
      exact c2
    case turn2 =>
      rintro pre2 d2 post2 s3 m3 m4 hds2 ⟨h3, tk3, rfl⟩ kb3 ⟨bv3, c1, c2, c3⟩ hn4 bd2 E3
      obtain ⟨hpl2, rfl⟩ := range_split (i := 0) hds2
      obtain ⟨kv, hkv, rfl⟩ := bd2
      have kb3' : KB [L] h' h3 := kb3
      have b3 := b2.move (tk := tk3) kb3' hn4 (show _ = _ from c3.trans a3'.symm)
      have hp3 : ((List.range pre2.length).foldl stepB (passes js.length pre.length js)).Perm (passes js.length pre.length js) := foldB_perm js.length _ _ (by omega) hbl.symm
      refine turnC hh hd hu b3 (i := pre2.length) (bs := (List.range pre2.length).foldl stepB (passes js.length pre.length js)) (bv := bv3) (kv := kv) c1 c2 (hjb.perm hp3) (by rw [hp3.length_eq]; omega) rfl hkv _ rfl ?_
      intro h6 tk6 m6 bv6 kb6 hn6 g1 g2 g3
      refine ⟨h6, tk6, m6, rfl, kb6, hn6, bv6, g1, ?_, g3.trans c3⟩
      rw [List.length_append, List.length_singleton, List.range_succ, List.foldl_append]
      exact g2
end
end Mine

/-! LE -/
namespace Mine
def costJ (o : List Jb) : Int := (costsL 0 o).sum
def mxL (l : List Int) : Int := l.foldr (fun a b => if a < b then b else a) 0
def mxJ (o : List Jb) : Int := mxL (lateL 0 o)
def lateP (o : List Jb) : List Int := (lateL 0 o).filter fun x => decide (0 < x)
def cntJ (o : List Jb) : Nat := (lateP o).length
structure Facts (js : List Jb) : Prop where
  smith : ∀ o ∈ ordersF js.length js, costJ (passes js.length js.length js) ≤ costJ o
  best : passes js.length js.length js ∈ ordersF js.length js
  jackson : ∀ o ∈ ordersF js.length js, mxJ (byDays js) ≤ mxJ o
  days : byDays js ∈ ordersF js.length js
  few : ∀ o ∈ ordersF js.length js, (js.length : Int) - (keptL js).length ≤ cntJ o
  fewIs : ∃ o ∈ ordersF js.length js, (cntJ o : Int) = (js.length : Int) - (keptL js).length
  keptIn : lateP (byDays (keptL js)) = []
  keptOk : JsOk (keptL js)
  ordOk : ∀ o ∈ ordersF js.length js, JsOk o
  ends : (endsL 0 (byDays js)).Pairwise (· < ·)
theorem mxL_max : ∀ (l : List Int), mxL l ∈ (0 : Int) :: l ∧ ∀ a ∈ (0 : Int) :: l, a ≤ mxL l
  | [] => ⟨.head _, fun a ha => by rw [List.mem_singleton.mp ha]; exact Int.le_refl _⟩
  | x :: l => by
    obtain ⟨h1, h2⟩ := mxL_max l
    have e : mxL (x :: l) = if x < mxL l then mxL l else x := rfl
    rw [e]
    split
    · rename_i h
      refine ⟨?_, fun a ha => ?_⟩
      · rcases List.mem_cons.mp h1 with q | q
        · rw [q]; exact .head _
        · exact .tail _ (.tail _ q)
      · rcases List.mem_cons.mp ha with q | q
        · exact h2 a (q ▸ .head _)
        · rcases List.mem_cons.mp q with q | q
          · omega
          · exact h2 a (.tail _ q)
    · rename_i h
      refine ⟨.tail _ (.head _), fun a ha => ?_⟩
      rcases List.mem_cons.mp ha with q | q
      · have := h2 0 (.head _); omega
      · rcases List.mem_cons.mp q with q | q
        · omega
        · have := h2 a (.tail _ q); omega
def unJ : Dat → Jb
  | .tuple [.int a, .int b, .int c] => (a, b, c)
  | _ => (0, 0, 0)
def unJs : Dat → List Jb
  | .list ds => ds.map unJ
  | _ => []
theorem unJs_jobs (o : List Jb) : unJs (jobsD o) = o := by
  show (o.map jobD).map unJ = o
  rw [List.map_map]
  conv => rhs; rw [← List.map_id o]
  rfl
theorem map_orders (os : List (List Jb)) (f : List Jb → Int) : ((os.map jobsD).filter fun _ => true).map (fun d => Dat.int (f (unJs d))) = (os.map f).map Dat.int := by
  rw [List.filter_eq_self.mpr fun _ _ => rfl, List.map_map, List.map_map]
  refine List.map_congr_left fun o _ => ?_
  show Dat.int (f (unJs (jobsD o))) = _
  rw [unJs_jobs]; rfl
def fPos : Dat → Bool
  | .int x => decide (0 < x)
  | _ => false
theorem filter_late (l : List Int) : ((l.map Dat.int).filter fPos).map id = (l.filter fun x => decide (0 < x)).map Dat.int := by
  rw [List.map_id, List.filter_map]
  rfl
theorem orders_len (n : Nat) (js : List Jb) (h : n = js.length) (h5 : n ≤ 5) : ((ordersF n js).map jobsD).length ≤ sizeLine := by
  rw [List.length_map, sizeLine_eq]
  exact Nat.le_trans (ordersF_len n js h h5) (Nat.le_trans (Nat.pow_le_pow_right (by decide) h5) (by decide))
section
variable {prog : Program} {w : World} {A : Around} {env : Env} {ok : Addr → Prop} {s s₀ s00 : Shared} {P : Params} {p : Program} {loose : List Str} {mg mb : Str → Option Value} {L : Nat} {fa : Addr} {cd : Value} {m : Str → Option Value} {js : List Jb}

theorem Tr.conv {e : Expr} {c c' : Bool} (h : Tr prog w A env s₀ e c) (q : c = c') : Tr prog w A env s₀ e c' := q ▸ h
/-- max([0] + _law_late(e)) -/
theorem ev_mx {x y : Str} {xp yp p1 p2 p3 p4 p5 : Pos} {k0 : Nat} {e : Expr} {o : List Jb} (G : Gr (Mine.hd.heap_39 P) p loose mg mb s₀.heap) (fr : Free ok s₀.heap) (hh : A.handled = none) (hd : A.depth + 8 < recursionLimit) (hu : A.units + 100 < cLine) (hj : JsOk o)
    (hx : Has prog w A env s₀ x (.builtin "max")) (hy : Has prog w A env s₀ y (.ref 98)) (h : Ev prog w A env ok s₀ e (jobsD o))
    (he1 : starEach [.BinOp (.List [.Constant (.int 0) k0 p1] p2) .Add (.Call (.Name y yp) [e] [] p3) p4] env = (false, eval (.BinOp (.List [.Constant (.int 0) k0 p1] p2) .Add (.Call (.Name y yp) [e] [] p3) p4) env) :: starEach [] env)
    (he2 : starEach [.Constant (.int 0) k0 p1] env = (false, eval (.Constant (.int 0) k0 p1) env) :: starEach [] env) (he3 : starEach [e] env = (false, eval e env) :: starEach [] env) :
    Ev prog w A env ok s₀ (.Call (.Name x xp) [.BinOp (.List [.Constant (.int 0) k0 p1] p2) .Add (.Call (.Name y yp) [e] [] p3) p4] [] p5) (.int (mxJ o)) := by
  have hl : (lateL 0 o).length = o.length := by
    have := congrArg List.length (zip_late o 0)
    rw [List.length_map, List.length_map, List.filter_eq_self.mpr fun _ _ => rfl, zipD_len] at this
    exact this.symm
  refine ev_call (ds := [.list (((0 : Int) :: lateL 0 o).map Dat.int)]) hx (.builtin _) (evs_cons ?_ evs_nil he1) (cal_max hh (mxL_max _).1 (mxL_max _).2) he1 rfl
  exact ev_bin (d := .list ([Dat.int 0] ++ (lateL 0 o).map Dat.int)) (ev_list fr (evs_cons ev_int evs_nil he2) (by rw [sizeLine_eq]; simp)) (ev_call hy (.func (G.X _ _ rfl) rfl) (evs_cons h evs_nil he3) (con_late P o hj G fr hh hd hu) he3 rfl)
    (op_cat fr (by have := hj.len; rw [List.length_map, hl, sizeLine_eq]; simp; omega))

set_option maxHeartbeats 4000000 in
theorem partD {bv : Value} {Q : Flow → Shared → Prop} {E : Value → Shared → Prop} (F : Facts js) (hh : A.handled = none) (hd : A.depth + 150 < recursionLimit) (hu : A.units + 2000 < cLine) (b : LB P p loose mg mb L s00 js s m)
    (hb : m (Str.ofString "best") = some bv) (hbd : DS (okL L) s.heap bv (jobsD (passes js.length js.length js)))
    (hQ : ∀ s', LB P p loose mg mb L s00 js s' m → wpAny (model prog w) A (execs (lawBody.drop 9) (lawEnv L fa cd)) Q E s') :
    wpAny (model prog w) A (execs (lawBody.drop 7) (lawEnv L fa cd)) Q E s := by
  have hn := b.ns
  have G := b.Gs
  have fr := b.fr
  have jok := b.jok
  obtain ⟨ov, ho, oD⟩ := b.ord
  have hjb := F.ordOk _ F.best
  refine run_if (b := false) ?t1 fun s1 k1 => ?_
  case t1 =>
    have e0 : (costJ (passes js.length js.length js) != costJ (passes js.length js.length js)) = false := by simp
    refine Tr.conv ?_ e0
    refine tr_cmp (ok := okL L) (ev_call (has_global G rfl rfl rfl rfl (by decide)) (.func (G.X _ _ rfl) rfl) (evs_cons (ev_name (has_local rfl rfl hn hb (by decide)) hbd) evs_nil rfl) (con_cost P _ hjb G fr hh (by omega) (by omega)) rfl rfl)
      (ev_call (ds := [.list (((ordersF js.length js).map costJ).map Dat.int)]) (has_builtin G rfl rfl (by decide) rfl rfl rfl rfl (by decide)) (.builtin _) (evs_cons ?_ evs_nil rfl)
        (cal_min (M := costJ (passes js.length js.length js)) hh (List.mem_map_of_mem F.best) (fun a ha => by obtain ⟨o, h1, rfl⟩ := List.mem_map.mp ha; exact F.smith o h1)) rfl rfl) op_neI rfl
    rw [← map_orders]
    refine ev_comp1 (p := .one (Str.ofString "order")) (fun _ => true) (fun d => Dat.int (costJ (unJs d))) fr (src_list hh (ev_name (has_local rfl rfl hn ho (by decide)) oD) (fun _ _ => trivial)) (fun _ => rfl) rfl (by decide) rfl (by decide) (fun C => .one rfl) (orders_len _ _ rfl jok.len)
      (fun d s₁ ok₁ C m₀ m hd nx hn bd => .inl ⟨rfl, rfl⟩) ?_
    intro d s₂ ok₁ C m₀ m2 hd2 _ nx hn2 bd
    obtain ⟨u, hu1, rfl⟩ := bd
    obtain ⟨o, hoM, rfl⟩ := List.mem_map.mp hd2
    have G2 := G.kp nx.kp.kp
    show Ev _ _ _ _ _ _ _ (Dat.int (costJ (unJs (jobsD o))))
    rw [unJs_jobs]
    exact ev_call (has_global G2 rfl rfl rfl rfl (by decide)) (.func (G2.X _ _ rfl) rfl) (evs_cons (ev_name (has_local rfl rfl hn2 rfl (by decide)) hu1) evs_nil rfl) (con_cost P o (F.ordOk o hoM) G2 nx.free hh (by omega) (by omega)) rfl rfl
  simp only [Bool.false_eq_true, if_false]
  refine wpAny_execs_nil ?_
  have b1 := b.kp k1
  have hn := b1.ns
  have G := b1.Gs
  have fr := b1.fr
  have oD := oD.kp k1.kp
  obtain ⟨dv, cdv, dD⟩ := b1.cd
  refine run_if (b := false) ?t2 fun s2 k2 => ?_
  case t2 =>
    have e0 : (mxJ (byDays js) != mxJ (byDays js)) = false := by simp
    refine Tr.conv ?_ e0
    refine tr_cmp (ok := okL L) (ev_mx G fr hh (by omega) (by omega) (F.ordOk _ F.days) (has_builtin G rfl rfl (by decide) rfl rfl rfl rfl (by decide)) (has_global G rfl rfl rfl rfl (by decide)) (ev_name (has_cell rfl rfl rfl cdv (by decide)) dD) rfl rfl rfl)
      (ev_call (ds := [.list (((ordersF js.length js).map mxJ).map Dat.int)]) (has_builtin G rfl rfl (by decide) rfl rfl rfl rfl (by decide)) (.builtin _) (evs_cons ?_ evs_nil rfl)
        (cal_min (M := mxJ (byDays js)) hh (List.mem_map_of_mem F.days) (fun a ha => by obtain ⟨o, h1, rfl⟩ := List.mem_map.mp ha; exact F.jackson o h1)) rfl rfl) op_neI rfl
    rw [← map_orders]
    refine ev_comp1 (p := .one (Str.ofString "order")) (fun _ => true) (fun d => Dat.int (mxJ (unJs d))) fr (src_list hh (ev_name (has_local rfl rfl hn ho (by decide)) oD) (fun _ _ => trivial)) (fun _ => rfl) rfl (by decide) rfl (by decide) (fun C => .one rfl) (orders_len _ _ rfl jok.len)
      (fun d s₁ ok₁ C m₀ m hd nx hn bd => .inl ⟨rfl, rfl⟩) ?_
    intro d s₂ ok₁ C m₀ m2 hd2 _ nx hn2 bd
    obtain ⟨u, hu1, rfl⟩ := bd
    obtain ⟨o, hoM, rfl⟩ := List.mem_map.mp hd2
    have G2 := G.kp nx.kp.kp
    show Ev _ _ _ _ _ _ _ (Dat.int (mxJ (unJs (jobsD o))))
    rw [unJs_jobs]
    exact ev_mx G2 nx.free hh (by omega) (by omega) (F.ordOk o hoM) (has_builtin G2 rfl rfl (by decide) rfl rfl rfl rfl (by decide)) (has_global G2 rfl rfl rfl rfl (by decide)) (ev_name (has_local rfl rfl hn2 rfl (by decide)) hu1) rfl rfl rfl
  simp only [Bool.false_eq_true, if_false]
  exact wpAny_execs_nil (hQ s2 (b1.kp k2))
end
end Mine

/-! LF -/
namespace Mine
theorem lateL_len : ∀ (o : List Jb) (t : Int), (lateL t o).length = o.length
  | [], _ => rfl
  | j :: r, t => by simp [lateL, lateL_len r]
section
variable {prog : Program} {w : World} {A : Around} {env : Env} {ok : Addr → Prop} {s s₀ s00 : Shared} {P : Params} {p : Program} {loose : List Str} {mg mb : Str → Option Value} {L : Nat} {fa : Addr} {cd : Value} {m : Str → Option Value} {js : List Jb}

/-- [late for late in e if late > 0] -/
theorem ev_lates {e : Expr} {o : List Jb} {scope : Scope} {pos q1 q2 q3 q4 q5 : Pos} {k0 : Nat} {cl : List (Str × Addr)} (fr : Free ok s₀.heap) (hh : A.handled = none) (h5 : o.length ≤ 5) (h : Ev prog w A env ok s₀ e (.list ((lateL 0 o).map Dat.int)))
    (hs : ∀ x, foldedSetIterable e env x = pure x) (hclos : closureFor scope env = pure cl) (hcell : ∀ y ∈ scope.names, y.2 ≠ .cell) (hkind : scope.kind = .function) (hnames : ∀ x ∈ scope.names, x.2 = .local → scope.names.lookup x.1 = some .local)
    (hk : ∀ C, (compEnvC scope cl C env).kindOf (Str.ofString "late") = some .local) (hsk : ∀ C, (compEnvC scope cl C env).scope.kind = .function) :
    Ev prog w A env ok s₀ (.ListComp (.Name (Str.ofString "late") q1) [⟨.Name (Str.ofString "late") q2, e, [.Compare (.Name (Str.ofString "late") q3) [.Gt] [.Constant (.int 0) k0 q4] q5], 0⟩] scope pos) (.list ((lateP o).map Dat.int)) := by
  have hz : ((lateL 0 o).map Dat.int).length ≤ sizeLine := by rw [List.length_map, lateL_len]; exact small_len h5
  have e1 : ((lateL 0 o).map Dat.int).filter fPos = (lateP o).map Dat.int := by
    have := filter_late (lateL 0 o)
    rw [List.map_id] at this
    exact this
  have e2 : (((lateL 0 o).map Dat.int).filter fPos).map id = (lateP o).map Dat.int := by rw [List.map_id, e1]
  rw [← e2]
  refine ev_comp1 (p := .one (Str.ofString "late")) fPos id fr (src_list hh h (fun _ _ => trivial)) hs hclos hcell hkind hnames (fun C => .one (hk C)) hz ?_ ?_
  · intro d s₂ ok₁ C m₀ m2 hd2 nx hn2 bd
    obtain ⟨u, hu1, rfl⟩ := bd
    obtain ⟨x, _, rfl⟩ := List.mem_map.mp hd2
    exact .inr ⟨_, rfl, tr_cmp (ok := ok₁) (ev_name (has_local (hsk C) (hk C) hn2 (by simp [upd]) (by decide)) hu1) ev_int op_gt rfl⟩
  · intro d s₂ ok₁ C m₀ m2 hd2 _ nx hn2 bd
    obtain ⟨u, hu1, rfl⟩ := bd
    exact ev_name (has_local (hsk C) (hk C) hn2 (by simp [upd]) (by decide)) hu1

set_option maxHeartbeats 4000000 in
theorem partE {Q : Flow → Shared → Prop} {E : Value → Shared → Prop} (F : Facts js) (hh : A.handled = none) (hd : A.depth + 150 < recursionLimit) (hu : A.units + 2000 < cLine) (b : LB P p loose mg mb L s00 js s m)
    (hQ : ∀ s' m', LB P p loose mg mb L s00 js s' m' → wpAny (model prog w) A (execs (lawBody.drop 12) (lawEnv L fa cd)) Q E s') :
    wpAny (model prog w) A (execs (lawBody.drop 9) (lawEnv L fa cd)) Q E s := by
  have hn := b.ns
  have G := b.Gs
  have fr := b.fr
  have jok := b.jok
  obtain ⟨ov, ho, oD⟩ := b.ord
  obtain ⟨of, hof, hofc⟩ := F.fewIs
  refine run_assign (ok := okL L) (d := .int ((js.length : Int) - (keptL js).length)) hn ?fewest rfl rfl rfl fun fv h1 t1 kb1 hn1 hfv => ?_
  case fewest =>
    refine ev_call (ds := [.list (((ordersF js.length js).map fun o => (cntJ o : Int)).map Dat.int)]) (has_builtin G rfl rfl (by decide) rfl rfl rfl rfl (by decide)) (.builtin _) (evs_cons ?_ evs_nil rfl)
        (cal_min hh (List.mem_map.mpr ⟨of, hof, hofc⟩) (fun a ha => by obtain ⟨o, h1, rfl⟩ := List.mem_map.mp ha; exact F.few o h1)) rfl rfl
    rw [← map_orders]
    refine ev_comp1 (p := .one (Str.ofString "order")) (fun _ => true) (fun d => Dat.int (cntJ (unJs d))) fr (src_list hh (ev_name (has_local rfl rfl hn ho (by decide)) oD) (fun _ _ => trivial)) (fun _ => rfl) rfl (by decide) rfl (by decide) (fun C => .one rfl) (orders_len _ _ rfl jok.len)
      (fun d s₁ ok₁ C m₀ m hd nx hn bd => .inl ⟨rfl, rfl⟩) ?_
    intro d s₂ ok₁ C m₀ m2 hd2 _ nx hn2 bd
    obtain ⟨u, hu1, rfl⟩ := bd
    obtain ⟨o, hoM, rfl⟩ := List.mem_map.mp hd2
    have G2 := G.kp nx.kp.kp
    have hjo := F.ordOk o hoM
    show Ev _ _ _ _ _ _ _ (Dat.int (cntJ (unJs (jobsD o))))
    rw [unJs_jobs]
    have hcl : (lateP o).length ≤ 5 := by
      have h1 := List.length_filter_le (fun x => decide ((0 : Int) < x)) (lateL 0 o)
      have h2 := hjo.len
      rw [lateL_len] at h1
      unfold lateP
      omega
    have ec : ((lateP o).map Dat.int).length = cntJ o := by rw [List.length_map]; rfl
    rw [← ec]
    exact ev_call (has_builtin G2 rfl rfl (by decide) rfl rfl rfl rfl (by decide)) (.builtin _) (evs_cons (ev_lates nx.free hh hjo.len (ev_call (has_global G2 rfl rfl rfl rfl (by decide)) (.func (G2.X _ _ rfl) rfl) (evs_cons (ev_name (has_local rfl rfl hn2 rfl (by decide)) hu1) evs_nil rfl) (con_late P o hjo G2 nx.free hh (by omega) (by omega)) rfl rfl)
      (fun _ => rfl) rfl (by decide) rfl (by decide) (fun _ => rfl) (fun _ => rfl)) evs_nil rfl) (cal_len (by rw [List.length_map]; omega)) rfl rfl
  have kb1' : KB [L] s.heap h1 := kb1
  have b1 := b.move (tk := t1) kb1' hn1 rfl
  have G1 := b1.Gs
  have fr1 := b1.fr
  obtain ⟨jv, cj, jD⟩ := b1.cj
  refine run_assign (ok := okL L) (d := jobsD (keptL js)) hn1 (ev_call (has_global G1 rfl rfl rfl rfl (by decide)) (.func (G1.X _ _ rfl) rfl) (evs_cons (ev_name (has_cell rfl rfl rfl cj (by decide)) jD) evs_nil rfl) (con_kept P js jok.len G1 fr1 hh (by omega) (by omega)) rfl rfl)
    rfl rfl rfl fun kv h2 t2 kb2 hn2 hkv => ?_
  have kb2' : KB [L] h1 h2 := kb2
  have b2 := b1.move (tk := t2) kb2' hn2 rfl
  have G2 := b2.Gs
  have fr2 := b2.fr
  obtain ⟨jv2, cj2, jD2⟩ := b2.cj
  cases hfv
  have hkl := F.keptOk.len
  refine run_if (b := false) (tr_or ?t1 ?t2) fun s3 k3 => ?_
  case t1 =>
    have e0 : (((js.length : Nat) : Int) - ((keptL js).length : Nat) != ((js.length : Int) - (keptL js).length)) = false := by simp
    refine Tr.conv ?_ e0
    exact tr_cmp (ok := okL L) (ev_bin (ev_lenJ (has_builtin G2 rfl rfl (by decide) rfl rfl rfl rfl (by decide)) (ev_name (has_cell rfl rfl rfl cj2 (by decide)) jD2) jok.len rfl)
      (ev_lenJ (has_builtin G2 rfl rfl (by decide) rfl rfl rfl rfl (by decide)) (ev_name (has_local rfl rfl hn2 rfl (by decide)) hkv) hkl rfl) op_sub)
      (ev_name (has_local rfl rfl hn2 rfl (by decide)) (.int _ _)) op_neI rfl
  case t2 =>
    have hbl : (byDays (keptL js)).length ≤ 5 := by rw [byDays_length]; exact hkl
    have hbo : JsOk (byDays (keptL js)) := F.keptOk.perm (byDays_perm _)
    have e : (lateP (byDays (keptL js))).map Dat.int = [] := by rw [F.keptIn]; rfl
    refine tr_cmp (ok := okL L) (a := .list []) (b := .list []) ?_ (ev_list (ds := []) fr2 evs_nil (by rw [sizeLine_eq]; simp)) (op_neD (c := true) (by simp [kqdOk]) (by simp [kqdOk]) ⟨fun _ => rfl, fun _ => rfl⟩ (by omega)) rfl
    rw [← e]
    exact ev_lates fr2 hh hbl (ev_call (ds := [jobsD (byDays (keptL js))]) (has_global G2 rfl rfl rfl rfl (by decide)) (.func (G2.X _ _ rfl) rfl) (evs_cons
      (ev_call (ds := [jobsD (keptL js)]) (has_global G2 rfl rfl rfl rfl (by decide)) (.func (G2.X _ _ rfl) rfl) (evs_cons (ev_name (has_local rfl rfl hn2 rfl (by decide)) hkv) evs_nil rfl) (con_byDays P _ hkl G2 fr2 hh (by omega) (by omega)) rfl rfl) evs_nil rfl)
      (con_late P _ hbo G2 fr2 hh (by omega) (by omega)) rfl rfl) (fun _ => rfl) rfl (by decide) rfl (by decide) (fun _ => rfl) (fun _ => rfl)
  simp only [Bool.false_eq_true, if_false]
  exact wpAny_execs_nil (hQ s3 _ (b2.kp k3))

set_option maxHeartbeats 4000000 in
theorem partF {Q : Flow → Shared → Prop} {E : Value → Shared → Prop} (F : Facts js) (hh : A.handled = none) (hd : A.depth + 150 < recursionLimit) (hu : A.units + 2000 < cLine) (b : LB P p loose mg mb L s00 js s m)
    (hQ : ∀ s', Kps s00 s' → Q (.ret (.bool true)) s') :
    wpAny (model prog w) A (execs (lawBody.drop 12) (lawEnv L fa cd)) Q E s := by
  have hn := b.ns
  have G := b.Gs
  have fr := b.fr
  have jok := b.jok
  obtain ⟨dv, cdv, dD⟩ := b.cd
  obtain ⟨v0, ce⟩ := b.ce
  have hdl : (byDays js).length ≤ 5 := by rw [byDays_length]; exact jok.len
  have hel : (endsL 0 (byDays js)).length ≤ 5 := by rw [endsL_length]; exact hdl
  refine run_assignC (ok := okL L) (d := .list ((endsL 0 (byDays js)).map Dat.int)) (c := L + 4) ce (ev_call (has_global G rfl rfl rfl rfl (by decide)) (.func (G.X _ _ rfl) rfl) (evs_cons (ev_name (has_cell rfl rfl rfl cdv (by decide)) dD) evs_nil rfl) (con_ends P _ hdl G fr hh (by omega) (by omega)) rfl rfl)
    rfl rfl rfl rfl fun ev h1 t1 kb1 ce1 hev => ?_
  have kx : KB (exL L) s.heap h1 := kb1x (.tail _ (.tail _ (.tail _ (.tail _ (.head _))))) kb1
  have kp1 : Kp s00.heap h1 := kp_kbx b.kps.kp b.big kx
  have ks1 : Kps s00 { s with heap := h1, toks := t1 } := kps_heap b.kps kp1
  have G1 := b.G.kp kp1
  obtain ⟨jv, cj, _⟩ := b.cj
  obtain ⟨tx, ct, _⟩ := b.ct
  have fr1 : Free (okL L) h1 := freeL (hn.at' fun o e => kb1 _ o (fun q => addr_ne (a := L) (b := L + 4) (.inl (by omega)) (List.mem_singleton.mp q)) e) (cell_kb cj kb1 (addr_ne (.inl (by omega)))) (cell_kb ct kb1 (addr_ne (.inl (by omega)))) (cell_kb cdv kb1 (addr_ne (.inl (by omega)))) ce1
  refine run_ret (ok := okL L) (d := .bool true) ?_ fun v s2 k2 hv => ?_
  · refine ev_cmp (a := .list []) (b := .list []) ?_ (ev_list (ds := []) fr1 evs_nil (by rw [sizeLine_eq]; simp)) (op_eqD (by simp [kqdOk]) (by simp [kqdOk]) ⟨fun _ => rfl, fun _ => rfl⟩ (by omega)) rfl
    have e : ((((List.range (endsL 0 (byDays js)).length).map fun (i : Nat) => Dat.int i).filter fun _ => false).map id) = [] := by simp
    rw [← e]
    have hlen : (((endsL 0 (byDays js)).map Dat.int).length : Int) = ((endsL 0 (byDays js)).length : Nat) := by simp
    refine ev_comp1 (p := .one (Str.ofString "k")) (fun _ => false) id fr1 (src_rangeN hh (has_builtin G1 rfl rfl (by decide) rfl rfl rfl rfl (by decide)) (hlen ▸ ev_call (ds := [.list ((endsL 0 (byDays js)).map Dat.int)]) (has_builtin G1 rfl rfl (by decide) rfl rfl rfl rfl (by decide)) (.builtin _) (evs_cons (ev_name (has_cell rfl rfl rfl ce1 (by decide)) hev) evs_nil rfl) (cal_len (by simp; omega)) rfl rfl) (by omega) rfl)
      (fun _ => rfl) rfl (by decide) rfl (by decide) (fun C => .one rfl) ?_ ?_ ?_
    · rw [List.length_map, List.length_range]; exact small_len hel
    · intro d s₂ ok₁ C m₀ m2 hd2 nx hn2 bd
      obtain ⟨u, hu1, rfl⟩ := bd
      obtain ⟨i, hi, rfl⟩ := List.mem_map.mp hd2
      rw [List.mem_range] at hi
      have G2 := G1.kp nx.kp.kp
      have ce2 := ce1.keeps nx.kp.kp
      have hev2 : DS ok₁ s₂.heap ev (.list ((endsL 0 (byDays js)).map Dat.int)) := hev.next nx
      have hp := List.pairwise_iff_getElem.mp F.ends
      have r1 : ∀ (k : Nat) (b : Int), k < i + 1 → (endsL 0 (byDays js))[k]? = some b → ¬ (endsL 0 (byDays js))[i] < b := by
        intro k b hk e
        obtain ⟨hk2, rfl⟩ := List.getElem?_eq_some_iff.mp e
        rcases Nat.lt_or_eq_of_le (Nat.le_of_lt_succ hk) with q | q
        · have := hp k i hk2 hi q; omega
        · subst q; omega
      have r2 : ∀ (k : Nat) (b : Int), i + 1 ≤ k → (endsL 0 (byDays js))[k]? = some b → (endsL 0 (byDays js))[i] < b := by
        intro k b hk e
        obtain ⟨hk2, rfl⟩ := List.getElem?_eq_some_iff.mp e
        exact hp i k hi hk2 (by omega)
      have e0 : ((((i + 1 : Nat) : Int)) != ((i : Int) + 1)) = false := by simp
      refine .inr ⟨_, rfl, Tr.conv ?_ e0⟩
      have hat : ((endsL 0 (byDays js)).map Dat.int)[((i : Nat) : Int).toNat]? = some (Dat.int (endsL 0 (byDays js))[i]) := by
        rw [Int.toNat_natCast, List.getElem?_map, List.getElem?_eq_getElem hi]; rfl
      exact tr_cmp (ok := ok₁) (ev_call (has_global G2 rfl rfl rfl rfl (by decide)) (.func (G2.X _ _ rfl) rfl) (evs_cons (ev_name (has_cell rfl rfl rfl ce2 (by decide)) hev2) (evs_cons (ev_item (ev_name (has_cell rfl rfl rfl ce2 (by decide)) hev2) (ev_name (has_local rfl rfl hn2 rfl (by decide)) hu1) (by omega) (by omega) hat (fun _ _ => rfl)) evs_nil rfl) rfl)
        (con_bisectR P _ _ (i + 1) hel (by omega) r1 r2 G2 nx.free hh (by omega) (by omega)) rfl rfl)
        (ev_bin (ev_name (has_local rfl rfl hn2 rfl (by decide)) hu1) ev_int op_add) op_neI rfl
    · intro d s₂ ok₁ C m₀ m2 hd2 hf
      cases hf
  · cases hv
    exact hQ s2 (ks1.trans k2)
end
end Mine

/-! Pl1 -/
namespace Mine

theorem take_drop_at {js : List Jb} {k : Nat} (hk : k < js.length) : ((atJ js k) :: (js.take k ++ js.drop (k + 1))).Perm js := by
  have e : js = js.take k ++ atJ js k :: js.drop (k + 1) := by
    have h1 : atJ js k = js[k] := by simp [atJ, hk]
    rw [h1, ← List.drop_eq_getElem_cons hk, List.take_append_drop]
  conv => rhs; rw [e]
  exact List.perm_middle.symm
theorem ordersF_perm : ∀ (n : Nat) (js : List Jb), n = js.length → ∀ o ∈ ordersF n js, o.Perm js
  | 0, js, h, o, ho => by
    rw [ordersF, List.mem_singleton] at ho
    rw [ho, List.length_eq_zero_iff.mp h.symm]
  | n + 1, js, h, o, ho => by
    rw [ordersF, List.mem_flatMap] at ho
    obtain ⟨k, hk, ho⟩ := ho
    rw [List.mem_range] at hk
    obtain ⟨r, hr, rfl⟩ := List.mem_map.mp ho
    have hl : n = (js.take k ++ js.drop (k + 1)).length := by
      rw [List.length_append, List.length_take, List.length_drop]; omega
    exact ((ordersF_perm n _ hl r hr).cons _).trans (take_drop_at hk)
theorem ordersF_mem : ∀ (n : Nat) (js o : List Jb), n = js.length → o.Perm js → o ∈ ordersF n js
  | 0, js, o, h, p => by
    have e := List.length_eq_zero_iff.mp h.symm
    rw [e] at p
    rw [List.perm_nil.mp p]
    exact .head _
  | n + 1, js, [], h, p => by have := p.length_eq; simp at this; omega
  | n + 1, js, a :: r, h, p => by
    obtain ⟨k, hk, e⟩ := List.mem_iff_getElem.mp (p.mem_iff.mp (.head _))
    have ha : atJ js k = a := by simp [atJ, hk, e]
    have hl : n = (js.take k ++ js.drop (k + 1)).length := by
      rw [List.length_append, List.length_take, List.length_drop]; omega
    have q := take_drop_at hk
    rw [ha] at q
    have pr : r.Perm (js.take k ++ js.drop (k + 1)) := (List.perm_cons a).mp (p.trans q.symm)
    rw [ordersF, List.mem_flatMap]
    refine ⟨k, List.mem_range.mpr hk, List.mem_map.mpr ⟨r, ordersF_mem n _ r hl pr, ?_⟩⟩
    show atJ js k :: r = _
    rw [ha]

theorem ends_gt : ∀ (js : List Jb) (t : Int), (∀ j ∈ js, 1 ≤ j.1) → ∀ x ∈ endsL t js, t < x
  | [], _, _, x, hx => nomatch hx
  | j :: r, t, h, x, hx => by
    have hj := h j (.head _)
    rw [endsL] at hx
    rcases List.mem_cons.mp hx with q | q
    · omega
    · have := ends_gt r (t + j.1) (fun i hi => h i (.tail _ hi)) x q
      omega
theorem ends_up : ∀ (js : List Jb) (t : Int), (∀ j ∈ js, 1 ≤ j.1) → (endsL t js).Pairwise (· < ·)
  | [], _, _ => .nil
  | j :: r, t, h => by
    rw [endsL]
    exact List.pairwise_cons.mpr ⟨fun x hx => ends_gt r _ (fun i hi => h i (.tail _ hi)) x hx, ends_up r _ fun i hi => h i (.tail _ hi)⟩

/-! lateness -/
theorem time_append (a b : List Jb) : timeJ (a ++ b) = timeJ a + timeJ b := by
  unfold timeJ; rw [List.map_append]; exact List.sum_append
theorem time_cons (a : Jb) (b : List Jb) : timeJ (a :: b) = a.1 + timeJ b := by
  unfold timeJ; rw [List.map_cons]; exact List.sum_cons
theorem time_nil : timeJ [] = 0 := rfl
theorem time_perm {a b : List Jb} (p : a.Perm b) : timeJ a = timeJ b := by
  induction p with
  | nil => rfl
  | cons x _ ih => rw [time_cons, time_cons, ih]
  | swap x y l => rw [time_cons, time_cons, time_cons, time_cons]; omega
  | trans _ _ ih1 ih2 => rw [ih1, ih2]
theorem time_nonneg : ∀ (a : List Jb), (∀ j ∈ a, 1 ≤ j.1) → 0 ≤ timeJ a
  | [], _ => by rw [time_nil]; exact Int.le_refl _
  | j :: r, h => by
    have := h j (.head _)
    have := time_nonneg r fun i hi => h i (.tail _ hi)
    rw [time_cons]; omega
theorem late_append : ∀ (as bs : List Jb) (t : Int), lateL t (as ++ bs) = lateL t as ++ lateL (t + timeJ as) bs
  | [], bs, t => by simp [lateL, timeJ]
  | a :: as, bs, t => by
    rw [List.cons_append, lateL, lateL, late_append as bs, List.cons_append, time_cons, Int.add_assoc]
theorem late_mem : ∀ (o : List Jb) (t x : Int), x ∈ lateL t o → ∃ p j q, o = p ++ j :: q ∧ x = t + timeJ (p ++ [j]) - j.2.2
  | [], _, _, h => nomatch h
  | a :: o, t, x, h => by
    rw [lateL] at h
    rcases List.mem_cons.mp h with e | h
    · exact ⟨[], a, o, rfl, by rw [e, List.nil_append, time_cons, time_nil]; omega⟩
    · obtain ⟨p, j, q, e, ex⟩ := late_mem o (t + a.1) x h
      exact ⟨a :: p, j, q, by rw [e]; rfl, by rw [ex, List.cons_append, time_cons]; omega⟩
theorem mem_late (p : List Jb) (j : Jb) (q : List Jb) (t : Int) : t + timeJ (p ++ [j]) - j.2.2 ∈ lateL t (p ++ j :: q) := by
  rw [late_append]
  refine List.mem_append_right _ ?_
  rw [lateL, time_append, time_cons, time_nil]
  have e : t + (timeJ p + (j.1 + 0)) - j.2.2 = t + timeJ p + j.1 - j.2.2 := by omega
  rw [e]
  exact .head _

/-- the last of a to be done -/
theorem last_of (a : List Jb) (ha : a ≠ []) (h1 : ∀ j ∈ a, 1 ≤ j.1) : ∀ (n : Nat) (o b : List Jb), o.length = n → (∀ j ∈ b, 1 ≤ j.1) → o.Perm (a ++ b) → ∃ u i v, o = u ++ i :: v ∧ i ∈ a ∧ timeJ a ≤ timeJ (u ++ [i]) := by
  intro n
  induction n with
  | zero =>
    intro o b hn _ p
    have := p.length_eq
    rw [hn, List.length_append] at this
    have : a.length = 0 := by omega
    exact absurd (List.length_eq_zero_iff.mp this) ha
  | succ n ih =>
    intro o b hn hb p
    have hne : o ≠ [] := fun e => by rw [e] at hn; simp at hn
    have eo := List.dropLast_concat_getLast hne
    generalize o.dropLast = o' at eo
    generalize o.getLast hne = x at eo
    by_cases hx : x ∈ a
    · refine ⟨o', x, [], eo.symm, hx, ?_⟩
      rw [eo, time_perm p, time_append]
      have := time_nonneg b hb
      omega
    · have hxb : x ∈ b := by
        have : x ∈ a ++ b := p.mem_iff.mp (by rw [← eo]; simp)
        rcases List.mem_append.mp this with q | q
        · exact absurd q hx
        · exact q
      obtain ⟨b1, b2, rfl⟩ := List.append_of_mem hxb
      have p2 : o'.Perm (a ++ (b1 ++ b2)) := by
        rw [← eo] at p
        have q1 : (x :: o').Perm (o' ++ [x]) := (List.perm_append_singleton x o').symm
        have q2 : (a ++ (b1 ++ x :: b2)).Perm (x :: (a ++ (b1 ++ b2))) := by
          rw [← List.append_assoc, ← List.append_assoc]
          exact List.perm_middle
        exact (List.perm_cons x).mp ((q1.trans p).trans q2)
      have hl : o'.length = n := by
        have := congrArg List.length eo
        rw [List.length_append, List.length_singleton] at this
        omega
      obtain ⟨u, i, v, e, hi, ht⟩ := ih o' (b1 ++ b2) hl (fun j hj => hb j (by
        rcases List.mem_append.mp hj with q | q
        · exact List.mem_append_left _ q
        · exact List.mem_append_right _ (.tail _ q))) p2
      exact ⟨u, i, v ++ [x], by rw [← eo, e]; simp, hi, ht⟩

/-- Jackson: by days due the latest is least -/
theorem jackson {d o : List Jb} (hd : d.Pairwise fun a b => a.2.2 ≤ b.2.2) (h1 : ∀ j ∈ d, 1 ≤ j.1) (p : o.Perm d) : mxJ d ≤ mxJ o := by
  obtain ⟨m1, m2⟩ := mxL_max (lateL 0 d)
  obtain ⟨n1, n2⟩ := mxL_max (lateL 0 o)
  rcases List.mem_cons.mp m1 with q | q
  · show mxL (lateL 0 d) ≤ mxL (lateL 0 o)
    rw [q]; exact n2 0 (.head _)
  · obtain ⟨x, j, y, e, ex⟩ := late_mem d 0 _ q
    have ed : d = (x ++ [j]) ++ y := by rw [e]; simp
    rw [ed] at p h1 hd
    obtain ⟨u, i, v, eo, hi, ht⟩ := last_of (x ++ [j]) (by simp) (fun k hk => h1 k (List.mem_append_left _ hk)) o.length o y rfl (fun k hk => h1 k (List.mem_append_right _ hk)) p
    have hdue : i.2.2 ≤ j.2.2 := by
      rcases List.mem_append.mp hi with q | q
      · have hp := (List.pairwise_append.mp hd).1
        exact (List.pairwise_append.mp hp).2.2 i q j (.head _)
      · rw [List.mem_singleton.mp q]; exact Int.le_refl _
    have hm := n2 _ (.tail _ (eo ▸ mem_late u i v 0))
    show mxL (lateL 0 d) ≤ mxL (lateL 0 o)
    rw [ex]
    omega
end Mine

/-! Pl2 -/
namespace Mine
/-- a may go before b -/
def Rt (a b : Jb) : Prop := a.1 * b.2.1 ≤ b.1 * a.2.1
theorem bad_iff (a b : Jb) : badJ a b = true ↔ ¬ Rt a b := by
  unfold badJ Rt
  rw [decide_eq_true_iff]
  omega
theorem Rt.total {a b : Jb} (h : ¬ Rt a b) : Rt b a := by
  unfold Rt at h ⊢
  omega
theorem Rt.refl (a : Jb) : Rt a a := by unfold Rt; exact Int.le_refl _
theorem Rt.trans {a b c : Jb} (ha : JOk a) (hb : JOk b) (hc : JOk c) (h1 : Rt a b) (h2 : Rt b c) : Rt a c := by
  unfold Rt at h1 h2 ⊢
  have wb : 0 < b.2.1 := by have := hb.w; omega
  have wa : 0 ≤ a.2.1 := by have := ha.w; omega
  have wc : 0 ≤ c.2.1 := by have := hc.w; omega
  have e1 := Int.mul_le_mul_of_nonneg_right h1 wc
  have e2 := Int.mul_le_mul_of_nonneg_right h2 wa
  have e3 : a.1 * b.2.1 * c.2.1 = a.1 * c.2.1 * b.2.1 := by rw [Int.mul_assoc, Int.mul_comm b.2.1, ← Int.mul_assoc]
  have e4 : b.1 * a.2.1 * c.2.1 = b.1 * c.2.1 * a.2.1 := by rw [Int.mul_assoc, Int.mul_comm a.2.1, ← Int.mul_assoc]
  have e5 : c.1 * b.2.1 * a.2.1 = c.1 * a.2.1 * b.2.1 := by rw [Int.mul_assoc, Int.mul_comm b.2.1, ← Int.mul_assoc]
  rw [e3, e4] at e1
  rw [e5] at e2
  exact Int.le_of_mul_le_mul_right (Int.le_trans e1 e2) wb

/-- a pass, as a list function -/
def pas : Jb → List Jb → List Jb
  | x, [] => [x]
  | x, y :: r => if badJ x y then y :: pas x r else x :: pas y r
theorem pas_nil (x : Jb) : pas x [] = [x] := rfl
theorem pas_cons (x y : Jb) (r : List Jb) : pas x (y :: r) = if badJ x y then y :: pas x r else x :: pas y r := rfl
theorem at_pre (p : List Jb) (x : Jb) (r : List Jb) : atJ (p ++ x :: r) p.length = x := by simp [atJ]
theorem at_pre1 (p : List Jb) (x y : Jb) (r : List Jb) : atJ (p ++ x :: y :: r) (p.length + 1) = y := by
  have e : p ++ x :: y :: r = (p ++ [x]) ++ y :: r := by simp
  have h := at_pre (p ++ [x]) y r
  rw [List.length_append, List.length_singleton] at h
  rw [e, h]
theorem swap_pre (p : List Jb) (x y : Jb) (r : List Jb) : swapAt (p ++ x :: y :: r) p.length = p ++ y :: x :: r := by
  unfold swapAt
  rw [at_pre, at_pre1, List.take_left]
  have e : (p ++ x :: y :: r).drop (p.length + 2) = r := by
    rw [← List.drop_drop, List.drop_left]; rfl
  rw [e]
  simp
theorem fold_pas : ∀ (r : List Jb) (p : List Jb) (x : Jb), (List.range' p.length r.length).foldl stepB (p ++ x :: r) = p ++ pas x r
  | [], p, x => rfl
  | y :: r, p, x => by
    rw [List.length_cons, List.range'_succ, List.foldl_cons, pas_cons]
    have hs : stepB (p ++ x :: y :: r) p.length = if badJ x y then p ++ y :: x :: r else p ++ x :: y :: r := by
      unfold stepB
      rw [at_pre, at_pre1, swap_pre]
    rw [hs]
    split
    · have ih := fold_pas r (p ++ [y]) x
      rw [List.length_append, List.length_singleton, List.append_assoc, List.append_assoc] at ih
      exact ih
    · have ih := fold_pas r (p ++ [x]) y
      rw [List.length_append, List.length_singleton, List.append_assoc, List.append_assoc] at ih
      exact ih
theorem passB_pas (x : Jb) (r : List Jb) : passB (r.length + 1) (x :: r) = pas x r := by
  have h := fold_pas r [] x
  unfold passB
  rw [List.range_eq_range']
  exact h
def Asc (l : List Jb) : Prop := l.Pairwise Rt
theorem pas_asc : ∀ (r : List Jb) (x : Jb), Asc (x :: r) → pas x r = x :: r
  | [], x, _ => rfl
  | y :: r, x, h => by
    obtain ⟨h1, h2⟩ := List.pairwise_cons.mp h
    have hb : badJ x y = false := by
      rw [← Bool.not_eq_true, bad_iff]
      exact fun q => q (h1 y (.head _))
    rw [pas_cons, hb, pas_asc r y h2]
    rfl
/-- a pass lays the greatest of a at its end, and leaves b -/
theorem pas_split (ok : ∀ (x y z : Jb), Prop) : ∀ (a : List Jb) (x : Jb) (b : List Jb), (∀ j ∈ x :: a, JOk j) → (∀ i ∈ x :: a, ∀ j ∈ b, Rt i j) → Asc b →
    ∃ q m, pas x (a ++ b) = q ++ m :: b ∧ (q ++ [m]).Perm (x :: a) ∧ ∀ i ∈ q, Rt i m
  | [], x, b, _, h2, h3 => ⟨[], x, by
      rw [List.nil_append, pas_asc b x (List.pairwise_cons.mpr ⟨fun j hj => h2 x (.head _) j hj, h3⟩)]; rfl, .refl _, fun i hi => nomatch hi⟩
  | y :: a, x, b, h1, h2, h3 => by
    rw [List.cons_append, pas_cons]
    split
    · rename_i hb
      rw [bad_iff] at hb
      obtain ⟨q, m, e, p, hm⟩ := pas_split ok a x b (fun j hj => h1 j (by rcases List.mem_cons.mp hj with r | r; exact r ▸ .head _; exact .tail _ (.tail _ r))) (fun i hi => h2 i (by rcases List.mem_cons.mp hi with r | r; exact r ▸ .head _; exact .tail _ (.tail _ r))) h3
      refine ⟨y :: q, m, by rw [e]; rfl, ((p.cons y).trans (.swap ..)), fun i hi => ?_⟩
      rcases List.mem_cons.mp hi with r | r
      · rw [r]
        have hx : x = m ∨ x ∈ q := by
          have := p.mem_iff.mpr (.head a)
          rcases List.mem_append.mp this with s | s
          · exact .inr s
          · exact .inl (List.mem_singleton.mp s)
        have hmm : m ∈ x :: a := p.mem_iff.mp (by simp)
        have okm : JOk m := h1 m (by rcases List.mem_cons.mp hmm with r | r; exact r ▸ .head _; exact .tail _ (.tail _ r))
        rcases hx with s | s
        · exact s ▸ Rt.total hb
        · exact Rt.trans (h1 y (.tail _ (.head _))) (h1 x (.head _)) okm (Rt.total hb) (hm x s)
      · exact hm i r
    · rename_i hb
      rw [bad_iff, Classical.not_not] at hb
      obtain ⟨q, m, e, p, hm⟩ := pas_split ok a y b (fun j hj => h1 j (.tail _ hj)) (fun i hi => h2 i (.tail _ hi)) h3
      refine ⟨x :: q, m, by rw [e]; rfl, p.cons x, fun i hi => ?_⟩
      rcases List.mem_cons.mp hi with r | r
      · rw [r]
        have hy : y = m ∨ y ∈ q := by
          have := p.mem_iff.mpr (.head a)
          rcases List.mem_append.mp this with s | s
          · exact .inr s
          · exact .inl (List.mem_singleton.mp s)
        have hmm : m ∈ y :: a := p.mem_iff.mp (by simp)
        rcases hy with s | s
        · exact s ▸ hb
        · exact Rt.trans (h1 x (.head _)) (h1 y (.tail _ (.head _))) (h1 m (.tail _ hmm)) hb (hm y s)
      · exact hm i r
theorem passes_split (js : List Jb) (hj : ∀ j ∈ js, JOk j) : ∀ (k : Nat), ∃ a b, passes js.length k js = a ++ b ∧ (a ++ b).Perm js ∧ (k ≤ b.length ∨ a = []) ∧ Asc b ∧ ∀ i ∈ a, ∀ j ∈ b, Rt i j
  | 0 => ⟨js, [], by rw [List.append_nil]; rfl, by rw [List.append_nil], .inl (Nat.zero_le _), .nil, fun _ _ _ h => nomatch h⟩
  | k + 1 => by
    obtain ⟨a, b, e, p, hl, hb, hab⟩ := passes_split js hj k
    have hlen : (a ++ b).length = js.length := p.length_eq
    show ∃ a b, passB js.length (passes js.length k js) = a ++ b ∧ _
    rw [e]
    cases a with
    | nil =>
      refine ⟨[], b, ?_, p, .inr rfl, hb, fun _ h => nomatch h⟩
      cases b with
      | nil =>
        rw [← hlen]
        rfl
      | cons x r =>
        have hl2 : js.length = r.length + 1 := by rw [← hlen]; simp
        rw [List.nil_append, hl2, passB_pas, pas_asc r x hb]
    | cons x a =>
      have hl2 : js.length = (a ++ b).length + 1 := by rw [← hlen]; simp
      have hxa : ∀ j ∈ x :: a, JOk j := fun j hj' => hj j (p.mem_iff.mp (List.mem_append_left _ hj'))
      obtain ⟨q, m, e2, p2, hm⟩ := pas_split (fun _ _ _ => True) a x b hxa hab hb
      have hmm : m ∈ x :: a := p2.mem_iff.mp (by simp)
      refine ⟨q, m :: b, ?_, ?_, ?_, ?_, ?_⟩
      · rw [List.cons_append, hl2, passB_pas, e2]
      · have : (q ++ m :: b) = (q ++ [m]) ++ b := by simp
        rw [this]
        exact (p2.append_right b).trans p
      · left
        rcases hl with h | h
        · rw [List.length_cons]; omega
        · cases h
      · exact List.pairwise_cons.mpr ⟨fun j hj' => hab m hmm j hj', hb⟩
      · intro i hi j hj'
        rcases List.mem_cons.mp hj' with r | r
        · rw [r]; exact hm i hi
        · exact hab i (p2.mem_iff.mp (List.mem_append_left _ hi)) j r
theorem passes_asc (js : List Jb) (hj : ∀ j ∈ js, JOk j) : Asc (passes js.length js.length js) := by
  obtain ⟨a, b, e, p, hl, hb, hab⟩ := passes_split js hj js.length
  have ha : a = [] := by
    rcases hl with h | h
    · have := p.length_eq
      rw [List.length_append] at this
      exact List.length_eq_zero_iff.mp (by omega)
    · exact h
  rw [e, ha]
  exact hb

theorem cost_front (x : Jb) (v : List Jb) : ∀ (u : List Jb) (t : Int), (∀ a ∈ u, Rt x a) → (costsL t (x :: (u ++ v))).sum ≤ (costsL t (u ++ x :: v)).sum
  | [], t, _ => Int.le_refl _
  | a :: u, t, h => by
    have ih := cost_front x v u (t + a.1) fun b hb => h b (.tail _ hb)
    have sw := cost_swap [] (u ++ v) a x t
    have ha := h a (.head _)
    unfold Rt at ha
    have e1 : (costsL t (a :: x :: (u ++ v))).sum = a.2.1 * (t + a.1) + (costsL (t + a.1) (x :: (u ++ v))).sum := by rw [costsL, List.sum_cons]
    have e2 : (costsL t (a :: u ++ x :: v)).sum = a.2.1 * (t + a.1) + (costsL (t + a.1) (u ++ x :: v)).sum := by rw [List.cons_append, costsL, List.sum_cons]
    rw [List.nil_append, List.nil_append] at sw
    rw [e2, List.cons_append]
    omega
/-- Smith: in the order of times by worths the cost is least -/
theorem smith : ∀ (s o : List Jb) (t : Int), Asc s → o.Perm s → (costsL t s).sum ≤ (costsL t o).sum
  | [], o, t, _, p => by rw [List.perm_nil.mp p]; exact Int.le_refl _
  | x :: s, o, t, h, p => by
    obtain ⟨h1, h2⟩ := List.pairwise_cons.mp h
    obtain ⟨u, v, rfl⟩ := List.append_of_mem (p.mem_iff.mpr (.head s))
    have p2 : (u ++ v).Perm s := (List.perm_cons x).mp (List.perm_middle.symm.trans p)
    have f := cost_front x v u t fun a ha => h1 a (p2.mem_iff.mp (List.mem_append_left _ ha))
    have ih := smith s (u ++ v) (t + x.1) h2 p2
    have e1 : (costsL t (x :: s)).sum = x.2.1 * (t + x.1) + (costsL (t + x.1) s).sum := by rw [costsL, List.sum_cons]
    have e2 : (costsL t (x :: (u ++ v))).sum = x.2.1 * (t + x.1) + (costsL (t + x.1) (u ++ v)).sum := by rw [costsL, List.sum_cons]
    omega
end Mine

/-! Pl3 -/
namespace Mine
def Feas (l : List Jb) : Prop := ∀ x ∈ lateL 0 l, x ≤ 0
theorem feas_mx {l : List Jb} (h : mxJ l ≤ 0) : Feas l := fun x hx => by
  obtain ⟨_, m2⟩ := mxL_max (lateL 0 l)
  have := m2 x (.tail _ hx)
  have h' : mxL (lateL 0 l) ≤ 0 := h
  omega
theorem mx_feas {l : List Jb} (h : Feas l) : mxJ l ≤ 0 := by
  obtain ⟨m1, _⟩ := mxL_max (lateL 0 l)
  rcases List.mem_cons.mp m1 with q | q
  · show mxL (lateL 0 l) ≤ 0
    omega
  · exact h _ q
theorem feas_at {l : List Jb} : Feas l ↔ ∀ p j q, l = p ++ j :: q → timeJ (p ++ [j]) ≤ j.2.2 := by
  constructor
  · intro h p j q e
    have := h _ (e ▸ mem_late p j q 0)
    omega
  · intro h x hx
    obtain ⟨p, j, q, e, ex⟩ := late_mem l 0 x hx
    have := h p j q e
    omega

/-- one without one of the longest has room for as many, that take no longer -/
theorem grow : ∀ {Y Z : List Jb}, Y.Sublist Z → Y.length < Z.length → ∃ Y' z, Y'.Sublist Z ∧ z ∈ Z ∧ Y'.length = Y.length + 1 ∧ timeJ Y' = timeJ Y + z.1 := by
  intro Y Z h
  induction h with
  | slnil => intro h; simp at h
  | @cons Y Z a s ih => exact fun _ => ⟨a :: Y, a, s.cons_cons a, .head _, rfl, by rw [time_cons]; omega⟩
  | @cons_cons Y Z a s ih =>
    intro h
    obtain ⟨Y', z, h1, h2, h3, h4⟩ := ih (by simpa using h)
    exact ⟨a :: Y', z, h1.cons_cons a, .tail _ h2, by simp [h3], by rw [time_cons, time_cons, h4]; omega⟩
theorem trade {A B S : List Jb} {m : Jb} (hm : ∀ z ∈ A ++ B, z.1 ≤ m.1) (hs : S.Sublist (A ++ m :: B)) (hl : S.length < (A ++ m :: B).length) : ∃ S', S'.Sublist (A ++ B) ∧ S'.length = S.length ∧ timeJ S' ≤ timeJ S := by
  obtain ⟨S1, S2, rfl, h1, h2⟩ := List.sublist_append_iff.mp hs
  rcases List.sublist_cons_iff.mp h2 with h2 | ⟨S3, rfl, h3⟩
  · exact ⟨S1 ++ S2, h1.append h2, rfl, Int.le_refl _⟩
  · have hlt : (S1 ++ S3).length < (A ++ B).length := by
      rw [List.length_append, List.length_append, List.length_cons, List.length_cons] at hl
      rw [List.length_append, List.length_append]
      omega
    obtain ⟨Y', z, g1, g2, g3, g4⟩ := grow (h1.append h3) hlt
    refine ⟨Y', g1, by rw [g3, List.length_append, List.length_append, List.length_cons]; omega, ?_⟩
    have := hm z g2
    rw [g4, time_append, time_append, time_cons]
    omega

theorem erase_split : ∀ (X : List Jb) (m : Jb), m ∈ X → ∃ A B, X = A ++ m :: B ∧ X.eraseIdx (X.idxOf m) = A ++ B
  | [], m, h => nomatch h
  | a :: X, m, h => by
    by_cases e : a = m
    · subst e
      exact ⟨[], X, rfl, by simp⟩
    · have hm : m ∈ X := by
        rcases List.mem_cons.mp h with q | q
        · exact absurd q.symm e
        · exact q
      obtain ⟨A, B, h1, h2⟩ := erase_split X m hm
      refine ⟨a :: A, B, by rw [List.cons_append, ← h1], ?_⟩
      have e1 : (a :: X).idxOf m = X.idxOf m + 1 := by
        rw [List.idxOf_cons]
        have : (a == m) = false := by simp [e]
        rw [this]
        rfl
      rw [e1, List.eraseIdx_cons_succ, h2]
      rfl

structure MH (p K : List Jb) : Prop where
  sub : K.Sublist p
  feas : Feas K
  opt : ∀ S, S.Sublist p → Feas S → ∃ S', S'.Sublist K ∧ S'.length = S.length ∧ timeJ S' ≤ timeJ S
theorem feas_pre {a b : List Jb} (h : Feas (a ++ b)) : Feas a := fun x hx => h x (by rw [late_append]; exact List.mem_append_left _ hx)
theorem snoc_split {Y p : List Jb} {j : Jb} (h : Y.Sublist (p ++ [j])) : Y.Sublist p ∨ ∃ S, Y = S ++ [j] ∧ S.Sublist p := by
  obtain ⟨S1, S2, rfl, h1, h2⟩ := List.sublist_append_iff.mp h
  rcases List.sublist_cons_iff.mp h2 with h2 | ⟨r, rfl, h3⟩
  · rw [List.sublist_nil.mp h2, List.append_nil]; exact .inl h1
  · rw [List.sublist_nil.mp h3]; exact .inr ⟨S1, rfl, h1⟩

theorem MH.step {p K : List Jb} {j : Jb} (h : MH p K) (ht : ∀ a ∈ p ++ [j], 1 ≤ a.1) (hd : ∀ a ∈ p, a.2.2 ≤ j.2.2) : MH (p ++ [j]) (stepK K j) := by
  obtain ⟨hs, hf, ho⟩ := h
  have hX : (K ++ [j]).Sublist (p ++ [j]) := hs.append (.refl _)
  -- each in time within K ++ [j]
  have opt1 : ∀ S, S.Sublist (p ++ [j]) → Feas S → (∃ S', S'.Sublist (K ++ [j]) ∧ S'.length = S.length ∧ timeJ S' ≤ timeJ S ∧ (timeJ (K ++ [j]) > j.2.2 → S'.length < (K ++ [j]).length)) := by
    intro S hS hfS
    rcases snoc_split hS with h1 | ⟨S0, rfl, h1⟩
    · obtain ⟨S', g1, g2, g3⟩ := ho S h1 hfS
      refine ⟨S', g1.trans (List.sublist_append_left K [j]), g2, g3, fun _ => ?_⟩
      have := g1.length_le
      rw [List.length_append, List.length_singleton]
      omega
    · obtain ⟨S', g1, g2, g3⟩ := ho S0 h1 (feas_pre hfS)
      refine ⟨S' ++ [j], g1.append (.refl _), by rw [List.length_append, List.length_append, g2], by rw [time_append, time_append]; omega, fun hgt => ?_⟩
      rw [List.length_append, List.length_append, List.length_singleton]
      rcases Nat.lt_or_ge S'.length K.length with q | q
      · omega
      · exfalso
        have e := g1.eq_of_length_le q
        have hlast := feas_at.mp hfS S0 j [] rfl
        rw [time_append] at hgt hlast
        rw [e] at g3
        omega
  by_cases hc : timeJ (K ++ [j]) > j.2.2
  · rw [stepK_pos hc]
    have hne : K ++ [j] ≠ [] := by simp
    have hmem := maxJ_mem hne
    have hmax : ∀ z ∈ K ++ [j], z.1 ≤ (maxJ (K ++ [j])).1 := fun z hz => by
      have := maxJ_max z hz
      rw [ltJ_iff'] at this
      omega
    obtain ⟨A, B, e1, e2⟩ := erase_split (K ++ [j]) _ hmem
    rw [e2]
    generalize maxJ (K ++ [j]) = mx at hmem hmax e1
    have hAB : (A ++ B).Sublist (A ++ mx :: B) := (List.Sublist.refl A).append (List.sublist_cons_self mx B)
    refine ⟨(e1 ▸ hAB).trans hX, ?_, fun S hS hfS => ?_⟩
    · -- in time
      rw [feas_at]
      intro u i v e
      have htK : ∀ a ∈ K ++ [j], 1 ≤ a.1 := fun a ha => ht a (hX.subset ha)
      -- where is i
      have hAK : ∀ u' i' v', A = u' ++ i' :: v' → timeJ (u' ++ [i']) ≤ i'.2.2 := by
        intro u' i' v' eA
        have e3 : K ++ [j] = u' ++ i' :: (v' ++ mx :: B) := by rw [e1, eA]; simp
        rcases List.eq_nil_or_concat B with rfl | ⟨B', b, rfl⟩
        · have e4 : K = u' ++ i' :: v' := by
            have e5 : K ++ [j] = (u' ++ i' :: v') ++ [mx] := by rw [e3]; simp
            exact (List.append_inj' e5 rfl).1
          exact feas_at.mp hf u' i' v' e4
        · have e4 : K = u' ++ i' :: (v' ++ mx :: B') := by
            have e5 : K ++ [j] = (u' ++ i' :: (v' ++ mx :: B')) ++ [b] := by rw [e3]; simp
            exact (List.append_inj' e5 rfl).1
          exact feas_at.mp hf u' i' _ e4
      rcases List.append_eq_append_iff.mp e with ⟨w, e3, e4⟩ | ⟨w, e3, e4⟩
      · -- u = A ++ w, B = w ++ i :: v
        have hm1 : mx.1 ≥ i.1 := hmax i (by rw [e1, e4]; simp)
        rcases List.eq_nil_or_concat v with rfl | ⟨v', b, rfl⟩
        · -- i is j
          have e5 : K ++ [j] = (A ++ mx :: w) ++ [i] := by rw [e1, e4]; simp
          obtain ⟨eK, ej⟩ := List.append_inj' e5 rfl
          have ej' : j = i := by simpa using ej
          have hTK : timeJ K ≤ j.2.2 := by
            rcases List.eq_nil_or_concat K with rfl | ⟨K', k, rfl⟩
            · simp at eK
            · have h1 := feas_at.mp hf K' k [] (by simp)
              have h2 := hd k (hs.subset (by simp))
              rw [List.concat_eq_append]
              omega
          rw [eK, time_append, time_cons] at hTK
          rw [e3, time_append, time_append, time_cons, time_nil, ← ej']
          rw [← ej'] at hm1
          omega
        · have e5 : K ++ [j] = (A ++ mx :: (w ++ i :: v')) ++ [b] := by rw [e1, e4]; simp
          have eK := (List.append_inj' e5 rfl).1
          have h1 := feas_at.mp hf (A ++ mx :: w) i v' (by rw [eK]; simp)
          rw [time_append, time_append, time_cons] at h1
          rw [e3, time_append, time_append]
          have := htK mx hmem
          omega
      · -- A = u ++ w, i :: v = w ++ B
        cases w with
        | nil =>
          rw [List.nil_append] at e4
          rw [List.append_nil] at e3
          have hm1 : mx.1 ≥ i.1 := hmax i (by rw [e1, ← e4]; simp)
          rcases List.eq_nil_or_concat v with rfl | ⟨v', b, rfl⟩
          · have e5 : K ++ [j] = (A ++ [mx]) ++ [i] := by rw [e1, ← e4]; simp
            obtain ⟨eK, ej⟩ := List.append_inj' e5 rfl
            have ej' : j = i := by simpa using ej
            have hTK : timeJ K ≤ j.2.2 := by
              rcases List.eq_nil_or_concat K with rfl | ⟨K', k, rfl⟩
              · simp at eK
              · have h1 := feas_at.mp hf K' k [] (by simp)
                have h2 := hd k (hs.subset (by simp))
                rw [List.concat_eq_append]
                omega
            rw [eK, time_append, time_cons, time_nil] at hTK
            rw [← e3, time_append, time_cons, time_nil, ← ej']
            rw [← ej'] at hm1
            omega
          · have e5 : K ++ [j] = (A ++ mx :: (i :: v')) ++ [b] := by rw [e1, ← e4]; simp
            have eK := (List.append_inj' e5 rfl).1
            have h1 := feas_at.mp hf (A ++ [mx]) i v' (by rw [eK]; simp)
            rw [time_append, time_append, time_cons, time_nil] at h1
            rw [← e3, time_append]
            have := htK mx hmem
            omega
        | cons i' w =>
          rw [List.cons_append, List.cons.injEq] at e4
          obtain ⟨rfl, e4⟩ := e4
          exact hAK u i w e3
    · obtain ⟨S', g1, g2, g3, g4⟩ := opt1 S hS hfS
      rw [e1] at g1 g4
      obtain ⟨S2, k1, k2, k3⟩ := trade (fun z hz => hmax z (by
        rw [e1]
        rcases List.mem_append.mp hz with q | q
        · exact List.mem_append_left _ q
        · exact List.mem_append_right _ (.tail _ q))) g1 (g4 (e1 ▸ hc))
      exact ⟨S2, k1, k2.trans g2, by omega⟩
  · rw [stepK_neg hc]
    refine ⟨hX, ?_, fun S hS hfS => ?_⟩
    · intro x hx
      rw [late_append] at hx
      rcases List.mem_append.mp hx with q | q
      · exact hf x q
      · rw [lateL, lateL, List.mem_singleton] at q
        rw [time_append, time_cons, time_nil] at hc
        omega
    · obtain ⟨S', g1, g2, g3, _⟩ := opt1 S hS hfS
      exact ⟨S', g1, g2, g3⟩
theorem mh_fold : ∀ (n : Nat) (d : List Jb), d.length = n → (∀ a ∈ d, 1 ≤ a.1) → (d.Pairwise fun a b => a.2.2 ≤ b.2.2) → MH d (d.foldl stepK [])
  | 0, d, h, _, _ => by
    rw [List.length_eq_zero_iff.mp h]
    exact ⟨.slnil, fun x hx => (nomatch hx), fun S hS _ => ⟨[], .slnil, by rw [List.sublist_nil.mp hS], by rw [List.sublist_nil.mp hS]; exact Int.le_refl _⟩⟩
  | n + 1, d, h, ht, hp => by
    rcases List.eq_nil_or_concat d with rfl | ⟨p, j, rfl⟩
    · simp at h
    · rw [List.concat_eq_append] at h ht hp ⊢
      obtain ⟨h1, _, h3⟩ := List.pairwise_append.mp hp
      have ih := mh_fold n p (by simpa using h) (fun a ha => ht a (List.mem_append_left _ ha)) h1
      rw [List.foldl_append]
      exact ih.step ht fun a ha => h3 a ha j (.head _)
end Mine

/-! Pl4 -/
namespace Mine
/-- those in time -/
def inTime (t : Int) : List Jb → List Jb
  | [] => []
  | j :: r => if t + j.1 - j.2.2 ≤ 0 then j :: inTime (t + j.1) r else inTime (t + j.1) r
theorem inTime_sub : ∀ (o : List Jb) (t : Int), (inTime t o).Sublist o
  | [], _ => .slnil
  | j :: r, t => by
    rw [inTime]
    split
    · exact (inTime_sub r _).cons_cons j
    · exact (inTime_sub r _).cons j
theorem inTime_late : ∀ (o : List Jb) (t u : Int), (∀ j ∈ o, 1 ≤ j.1) → u ≤ t → ∀ x ∈ lateL u (inTime t o), x ≤ 0
  | [], _, _, _, _, x, hx => nomatch hx
  | j :: r, t, u, h, hu, x, hx => by
    have hj := h j (.head _)
    rw [inTime] at hx
    split at hx
    · rw [lateL] at hx
      rcases List.mem_cons.mp hx with q | q
      · omega
      · exact inTime_late r (t + j.1) (u + j.1) (fun i hi => h i (.tail _ hi)) (by omega) x q
    · exact inTime_late r (t + j.1) u (fun i hi => h i (.tail _ hi)) (by omega) x hx
theorem inTime_len : ∀ (o : List Jb) (t : Int), (inTime t o).length + ((lateL t o).filter fun x => decide (0 < x)).length = o.length
  | [], _ => rfl
  | j :: r, t => by
    have ih := inTime_len r (t + j.1)
    rw [inTime, lateL]
    split
    · rename_i h
      have e : decide (0 < t + j.1 - j.2.2) = false := decide_eq_false (by omega)
      rw [List.filter_cons_of_neg (by rw [e]; exact Bool.false_ne_true), List.length_cons, List.length_cons]
      omega
    · rename_i h
      have e : decide (0 < t + j.1 - j.2.2) = true := decide_eq_true (by omega)
      rw [List.filter_cons_of_pos (p := fun x : Int => decide (0 < x)) e, List.length_cons, List.length_cons]
      omega
theorem facts (js : List Jb) (h : JsOk js) : Facts js := by
  have hp := byDays_perm js
  have ht : ∀ j ∈ byDays js, 1 ≤ j.1 := fun j hj => (h.ok j (hp.mem_iff.mp hj)).t.1
  have mh : MH (byDays js) (keptL js) := mh_fold _ (byDays js) rfl ht (byDays_due js)
  have few : ∀ o ∈ ordersF js.length js, (js.length : Int) - (keptL js).length ≤ cntJ o := by
    intro o ho
    have po := ordersF_perm _ js rfl o ho
    have hto : ∀ j ∈ o, 1 ≤ j.1 := fun j hj => (h.ok j (po.mem_iff.mp hj)).t.1
    obtain ⟨l, pl, sl⟩ := List.exists_perm_sublist (inTime_sub o 0) (po.trans hp.symm)
    have fl : Feas l := feas_mx (Int.le_trans (jackson ((byDays_due js).sublist sl) (fun j hj => ht j (sl.subset hj)) pl.symm) (mx_feas (inTime_late o 0 0 hto (Int.le_refl _))))
    obtain ⟨S', g1, g2, _⟩ := mh.opt l sl fl
    have h1 := g1.length_le
    have h2 := inTime_len o 0
    have h3 := po.length_eq
    have h4 := pl.length_eq
    have h5 : cntJ o = ((lateL 0 o).filter fun x => decide (0 < x)).length := rfl
    omega
  refine ⟨?_, ?_, ?_, ?_, few, ?_, ?_, ?_, ?_, ?_⟩
  · intro o ho
    have po := ordersF_perm _ js rfl o ho
    have pp : (passes js.length js.length js).Perm js := passes_perm _ js rfl
    exact smith _ o 0 (passes_asc js h.ok) (po.trans pp.symm)
  · exact ordersF_mem _ js _ rfl (passes_perm _ js rfl)
  · intro o ho
    exact jackson (byDays_due js) ht ((ordersF_perm _ js rfl o ho).trans hp.symm)
  · exact ordersF_mem _ js _ rfl hp
  · obtain ⟨r, pr⟩ := mh.sub.exists_perm_append
    have po : (keptL js ++ r).Perm js := pr.symm.trans hp
    have hm := ordersF_mem _ js _ rfl po
    refine ⟨_, hm, Int.le_antisymm ?_ (few _ hm)⟩
    have e : lateP (keptL js ++ r) = (lateL (0 + timeJ (keptL js)) r).filter fun x => decide (0 < x) := by
      unfold lateP
      rw [late_append, List.filter_append]
      have : ((lateL 0 (keptL js)).filter fun x => decide (0 < x)) = [] := by
        rw [List.filter_eq_nil_iff]
        intro x hx
        have := mh.feas x hx
        rw [decide_eq_true_iff]
        omega
      rw [this, List.nil_append]
    have h1 : cntJ (keptL js ++ r) ≤ r.length := by
      unfold cntJ
      rw [e]
      exact Nat.le_trans (List.length_filter_le _ _) (Nat.le_of_eq (lateL_len _ _))
    have h2 := po.length_eq
    rw [List.length_append] at h2
    omega
  · have pk := byDays_perm (keptL js)
    have htk : ∀ j ∈ byDays (keptL js), 1 ≤ j.1 := fun j hj => ht j (mh.sub.subset (pk.mem_iff.mp hj))
    have fk : Feas (byDays (keptL js)) := feas_mx (Int.le_trans (jackson (byDays_due _) htk pk.symm) (mx_feas mh.feas))
    unfold lateP
    rw [List.filter_eq_nil_iff]
    intro x hx
    have := fk x hx
    rw [decide_eq_true_iff]
    omega
  · refine ⟨?_, fun j hj => h.ok j (hp.mem_iff.mp (mh.sub.subset hj))⟩
    have h1 := mh.sub.length_le
    rw [byDays_length] at h1
    exact Nat.le_trans h1 h.len
  · intro o ho
    exact h.perm (ordersF_perm _ js rfl o ho)
  · exact ends_up _ 0 ht
end Mine

/-! LG -/
namespace Mine
section
variable {prog : Program} {w : World} {A : Around} {s s00 : Shared} {P : Params} {p : Program} {loose : List Str} {mg mb : Str → Option Value} {L : Nat} {fa : Addr} {cd : Value} {m : Str → Option Value} {ns : List Int} {sv : Value}
theorem law_all {Q : Flow → Shared → Prop} {E : Value → Shared → Prop} (hlen : ns.length ≤ 63) (hh : A.handled = none) (hd : A.depth + 150 < recursionLimit) (hu : A.units + 2000 < cLine)
    (kps : Kps s00 s) (G : Gr (Mine.hd.heap_39 P) p loose mg mb s00.heap) (big : s00.heap.objs.size ≤ L) (hn : s.heap.Ns L m) (hm : m (Str.ofString "script") = some sv) (hs : DS (okL L) s.heap sv (.list (ns.map Dat.int)))
    (c1 : s.heap.IsCell (L + 1) none) (c2 : s.heap.IsCell (L + 2) none) (c3 : s.heap.IsCell (L + 3) none) (c4 : s.heap.IsCell (L + 4) none)
    (hQ : ∀ s', Kps s00 s' → Q (.ret (.bool true)) s') :
    wpAny (model prog w) A (execs lawBody (lawEnv L fa cd)) Q E s := by
  have F := facts _ (jobs_ok ns)
  exact partA hlen hh hd hu kps G big hn hm hs c1 c2 c3 c4 fun s1 m1 b1 => partB hh hd hu b1 fun s2 b2 => partC hh hd hu b2 fun s3 m3 bv b3 h1 h2 => partD F hh hd hu b3 h1 h2 fun s4 b4 => partE F hh hd hu b4 fun s5 m5 b5 => partF F hh hd hu b5 hQ
end
theorem dss_ints {ok : Addr → Prop} {h : Heap} : ∀ {vs : List Value} {ns : List Int}, IntsAre vs ns → DSs ok h vs (ns.map Dat.int)
  | _, _, .nil => .nil
  | _, _, .cons _ _ r => .cons (.int _ _) (dss_ints r)
end Mine

theorem PySem.Challenge.cw_he0004_01_holds : PySem.Challenge.rw_he0004_01.Holds := by
  refine Mine.hd ?_
  k_go0
  all_goals try k_fold
  rename_i ns hs hlay0 hL1 hr1 hl2 la1 la2 sc vs la3 hL ra w1 r0 hI hr hc1 hc2 K0 hD h1 tk1 F o4 o3 o2 o1 d4 d3 d2 d1 N0 X0
  have hlt := Heap.lt_size hL.choose_spec.1
  refine Mine.law_all (ns := ns) (sv := .ref sc) (by have := Int.not_lt.mp hc1; omega) rfl (by show callerA.depth + 1 + 150 < _; decide) (by show callerA.units + 3 + 2000 < _; decide) (.of F.keep) ⟨by assumption, topRead_of (by assumption)⟩ (Nat.le_refl _) F.ns rfl
    (.list (fun q => ?ok) (hL.at fun o e => F.keep _ _ e) (Mine.dss_ints hI)) ⟨o1, (N0 _ (.tail _ (.tail _ (.tail _ (.head _))))).1, d1.trans rfl⟩ ⟨o2, (N0 _ (.tail _ (.tail _ (.head _)))).1, d2.trans rfl⟩ ⟨o3, (N0 _ (.tail _ (.head _))).1, d3.trans rfl⟩ ⟨o4, (N0 _ (.head _)).1, d4.trans rfl⟩ ?fin
  case ok =>
    have hb : @LT.lt Nat _ sc _ := hlt
    simp only [List.mem_cons, List.not_mem_nil, or_false] at q
    rcases q with q | q | q | q | q
    all_goals
      have q' : @Eq Nat sc _ := q
      omega
  case fin =>
    intro s' k
    have kk := k.kp
    obtain ⟨h', tk, rfl, _⟩ := k
    show GoodW _ _ _ _ _ (.ok (.ret (.bool true))) _
    refine ⟨.inl ⟨.bool true, .bool true, [], rfl, fun _ => rfl, .bool _, ?post, fun _ => ⟨.nil, fun a ha => nomatch ha⟩⟩, kk, rfl, by assumption⟩
    case post => wrow_post

