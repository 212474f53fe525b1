import PyProof.Rows.All
import Wide.All
import OpenK.AllK
import Wide.FinOn
import PySem.Challenge.RW_qc0008_02
section
open PySem PySem.W PyProof.Rows
set_option Elab.async false
set_option maxRecDepth 100000
namespace Mine

abbrev Kp (h h' : Heap) : Prop := ∀ b o, h.get? b = some o → h'.get? b = some o

/-- sequences outside X are kept -/
def SK (X : List Addr) (h h' : Heap) : Prop := ∀ b o xs n, h.get? b = some o → o.data = .seq xs n → b ∉ X → h'.get? b = some o

theorem SK.of_kp {X : List Addr} {h h' : Heap} (k : Kp h h') : SK X h h' := fun b o _ _ e _ _ => k b o e
theorem SK.trans {X : List Addr} {h h' h'' : Heap} (a : SK X h h') (b : SK X h' h'') : SK X h h'' := fun c o xs n e d hx => b c o xs n (a c o xs n e d hx) d hx
theorem SK.of_ns {X : List Addr} {h h' : Heap} {L : Addr} {m} (hn : h.Ns L m) (hs : Heap.SameBut L h h') : SK X h h' := fun b o xs n e d _ => by
  refine (hs.2 b ?_).trans e
  rintro rfl
  obtain ⟨o', es, ep, e', d', _⟩ := hn
  rw [e] at e'; cases e'; rw [d] at d'; cases d'
theorem SK.of_cell {X : List Addr} {h h' : Heap} {c : Addr} {v} (hn : h.IsCell c v) (hs : Heap.SameBut c h h') : SK X h h' := fun b o xs n e d _ => by
  refine (hs.2 b ?_).trans e
  rintro rfl
  obtain ⟨o', e', d'⟩ := hn
  rw [e] at e'; cases e'; rw [d] at d'; cases d'
theorem SK.of_mem {X : List Addr} {h h' : Heap} {a : Addr} (ha : a ∈ X) (hs : Heap.SameBut a h h') : SK X h h' := fun b o _ _ e _ hx =>
  (hs.2 b (by rintro rfl; exact hx ha)).trans e

mutual
inductive Rel (X : List Addr) (h : Heap) : Value → PyData → Prop
  | none : Rel X h .none .none
  | bool (b) : Rel X h (.bool b) (.bool b)
  | int (i t) : Rel X h (.int i t) (.int i)
  | str (x t) : Rel X h (.str x t) (.str x)
  | list {a vs xs} : a ∉ X → h.PlainList a vs → RelL X h vs.toList xs → Rel X h (.ref a) (.list xs)
  | tuple {a vs xs} : a ∉ X → h.IsTuple a vs → RelL X h vs.toList xs → Rel X h (.ref a) (.tuple xs)
inductive RelL (X : List Addr) (h : Heap) : List Value → List PyData → Prop
  | nil : RelL X h [] []
  | cons {v vs d ds} : Rel X h v d → RelL X h vs ds → RelL X h (v :: vs) (d :: ds)
end

mutual
theorem Rel.keep {X : List Addr} {h h' : Heap} (k : SK X h h') : ∀ {v d}, Rel X h v d → Rel X h' v d
  | _, _, .none => .none
  | _, _, .bool b => .bool b
  | _, _, .int i t => .int i t
  | _, _, .str x t => .str x t
  | _, _, .list hx hl r => .list hx (let ⟨n, e⟩ := hl; ⟨n, k _ _ _ n e rfl hx⟩) (RelL.keep k r)
  | _, _, .tuple hx hl r => .tuple hx (let ⟨o, e, c, n, d⟩ := hl; ⟨o, k _ o _ n e d hx, c, n, d⟩) (RelL.keep k r)
theorem RelL.keep {X : List Addr} {h h' : Heap} (k : SK X h h') : ∀ {vs ds}, RelL X h vs ds → RelL X h' vs ds
  | _, _, .nil => .nil
  | _, _, .cons a b => .cons (Rel.keep k a) (RelL.keep k b)
end

mutual
theorem Rel.less {X Y : List Addr} {h : Heap} (k : ∀ a ∈ Y, a ∈ X) : ∀ {v d}, Rel X h v d → Rel Y h v d
  | _, _, .none => .none
  | _, _, .bool b => .bool b
  | _, _, .int i t => .int i t
  | _, _, .str x t => .str x t
  | _, _, .list hx hl r => .list (fun hy => hx (k _ hy)) hl (RelL.less k r)
  | _, _, .tuple hx hl r => .tuple (fun hy => hx (k _ hy)) hl (RelL.less k r)
theorem RelL.less {X Y : List Addr} {h : Heap} (k : ∀ a ∈ Y, a ∈ X) : ∀ {vs ds}, RelL X h vs ds → RelL Y h vs ds
  | _, _, .nil => .nil
  | _, _, .cons a b => .cons (Rel.less k a) (RelL.less k b)
end

-- every address borne is live: one that is not in the heap may be added to X
mutual
theorem Rel.more {X Y : List Addr} {h : Heap} (k : ∀ a ∈ Y, a ∈ X ∨ h.get? a = none) : ∀ {v d}, Rel X h v d → Rel Y h v d
  | _, _, .none => .none
  | _, _, .bool b => .bool b
  | _, _, .int i t => .int i t
  | _, _, .str x t => .str x t
  | _, _, .list hx hl r => .list (fun hy => (k _ hy).elim hx (fun e => by obtain ⟨n, e'⟩ := hl; rw [e] at e'; cases e')) hl (RelL.more k r)
  | _, _, .tuple hx hl r => .tuple (fun hy => (k _ hy).elim hx (fun e => by obtain ⟨o, e', _⟩ := hl; rw [e] at e'; cases e')) hl (RelL.more k r)
theorem RelL.more {X Y : List Addr} {h : Heap} (k : ∀ a ∈ Y, a ∈ X ∨ h.get? a = none) : ∀ {vs ds}, RelL X h vs ds → RelL Y h vs ds
  | _, _, .nil => .nil
  | _, _, .cons a b => .cons (Rel.more k a) (RelL.more k b)
end

mutual
theorem Rel.reads {X : List Addr} {h : Heap} : ∀ {v d}, Rel X h v d → ∃ as, Reads h v d as
  | _, _, .none => ⟨_, .none⟩
  | _, _, .bool b => ⟨_, .bool b⟩
  | _, _, .int i t => ⟨_, .int i t⟩
  | _, _, .str x t => ⟨_, .str x t⟩
  | _, _, .list _ hl r => let ⟨_, e⟩ := hl; let ⟨_, q⟩ := RelL.reads r; ⟨_, .list e rfl rfl q⟩
  | _, _, .tuple _ hl r => let ⟨_, e, c, _, d⟩ := hl; let ⟨_, q⟩ := RelL.reads r; ⟨_, .tuple e c d q⟩
theorem RelL.reads {X : List Addr} {h : Heap} : ∀ {vs ds}, RelL X h vs ds → ∃ as, ReadsAll h vs ds as
  | _, _, .nil => ⟨_, .nil⟩
  | _, _, .cons a b => let ⟨_, p⟩ := Rel.reads a; let ⟨_, q⟩ := RelL.reads b; ⟨_, .cons p q⟩
end

theorem RelL.length {X h} : ∀ {vs ds}, RelL X h vs ds → vs.length = ds.length
  | _, _, .nil => rfl
  | _, _, .cons _ b => by simp [RelL.length b]
theorem RelL.append {X h} : ∀ {vs ds ws es}, RelL X h vs ds → RelL X h ws es → RelL X h (vs ++ ws) (ds ++ es)
  | _, _, _, _, .nil, k => k
  | _, _, _, _, .cons a b, k => .cons a (RelL.append b k)
theorem RelL.get {X h} : ∀ {vs ds}, RelL X h vs ds → ∀ (i : Nat) (d : PyData), ds[i]? = some d → ∃ v, vs[i]? = some v ∧ Rel X h v d
  | _, _, .nil, i, d, e => by simp at e
  | _, _, .cons a b, 0, d, e => by simp at e; subst e; exact ⟨_, rfl, a⟩
  | _, _, .cons a b, i + 1, d, e => by
    obtain ⟨v, h1, h2⟩ := RelL.get b i d (by simpa using e)
    exact ⟨v, by simpa using h1, h2⟩
theorem RelL.get' {X h} : ∀ {vs ds}, RelL X h vs ds → ∀ (i : Nat) (v : Value), vs[i]? = some v → ∃ d, ds[i]? = some d ∧ Rel X h v d
  | _, _, .nil, i, d, e => by simp at e
  | _, _, .cons a b, 0, d, e => by simp at e; subst e; exact ⟨_, rfl, a⟩
  | _, _, .cons a b, i + 1, d, e => by
    obtain ⟨v, h1, h2⟩ := RelL.get' b i d (by simpa using e)
    exact ⟨v, by simpa using h1, h2⟩
theorem RelL.take {X h} : ∀ {vs ds}, RelL X h vs ds → ∀ n, RelL X h (vs.take n) (ds.take n)
  | _, _, .nil, n => by simp; exact .nil
  | _, _, .cons a b, 0 => by simp; exact .nil
  | _, _, .cons a b, n + 1 => by simp; exact .cons a (RelL.take b n)
theorem RelL.drop {X h} : ∀ {vs ds}, RelL X h vs ds → ∀ n, RelL X h (vs.drop n) (ds.drop n)
  | _, _, .nil, n => by simp; exact .nil
  | _, _, .cons a b, 0 => by simp; exact .cons a b
  | _, _, .cons a b, n + 1 => by simp; exact RelL.drop b n

/-- a list of values bearing data, top address of no matter -/
def LRel (X : List Addr) (h : Heap) (v : Value) (ds : List PyData) : Prop := ∃ a vs, v = .ref a ∧ h.IsList a vs ∧ RelL X h vs.toList ds

def Ks (s s' : Shared) : Prop := PySem.Keeps s s'
theorem Ks.refl (s : Shared) : Ks s s := ⟨s.heap, s.toks, rfl, fun _ _ e => e⟩
theorem Ks.trans {s s' s'' : Shared} (a : Ks s s') (b : Ks s' s'') : Ks s s'' := by
  obtain ⟨h, t, rfl, k⟩ := a; obtain ⟨h', t', rfl, k'⟩ := b
  exact ⟨h', t', rfl, fun b o e => k' b o (k b o e)⟩
theorem Ks.kp {s s' : Shared} (a : Ks s s') : Kp s.heap s'.heap := by
  obtain ⟨h, t, rfl, k⟩ := a; exact k
theorem Ks.toks (s : Shared) (t : Nat) : Ks s { s with toks := t } := ⟨s.heap, t, rfl, fun _ _ e => e⟩
theorem Ks.push (s : Shared) (o : Obj) (t : Nat) : Ks s { s with heap := s.heap.push o, toks := t } := ⟨_, t, rfl, fun _ _ e => Heap.get?_push_of_some _ e⟩
end Mine
end

section
open PySem PySem.W PyProof.Rows
set_option Elab.async false
set_option maxRecDepth 100000
namespace Mine

structure Cx where
  prog : Program
  w : World
  mg : Str → Option Value
  mb : Str → Option Value
  H0 : Heap
  g : H0.Ns mainGlobals mg
  b : H0.Ns builtinsNs mb
  lim : H0.NoLimit

inductive Pd where
  | d (x : PyData)
  | l (xs : List PyData)

def RelP (X : List Addr) (h : Heap) (v : Value) : Pd → Prop
  | .d x => Rel X h v x
  | .l xs => LRel X h v xs

theorem LRel.keep' {X : List Addr} {h h' : Heap} (k : Kp h h') {v ds} (r : LRel X h v ds) : LRel X h' v ds := by
  obtain ⟨a, vs, e, hl, hr⟩ := r
  exact ⟨a, vs, e, hl.at fun o x => k _ o x, hr.keep (.of_kp k)⟩
theorem RelP.keep {X : List Addr} {h h' : Heap} (k : Kp h h') {v p} (r : RelP X h v p) : RelP X h' v p := by
  cases p with
  | d x => exact Rel.keep (.of_kp k) r
  | l xs => exact LRel.keep' k r
theorem RelP.open' {X : List Addr} {h : Heap} {v xs} (r : RelP X h v (.d (.list xs))) : RelP X h v (.l xs) := by
  cases r with
  | list hx hl r => exact ⟨_, _, rfl, hl.isList, r⟩

def VarAt (env : Env) (h : Heap) (x : Str) (v : Value) : Prop :=
  (env.kindOf x = some .local ∧ ∃ m, h.Ns env.locals m ∧ m x = some v) ∨ (env.kindOf x = some .cell ∧ ∃ a, env.cells.lookup x = some a ∧ h.IsCell a (some v))
theorem VarAt.keep {env : Env} {h h' : Heap} {x v} (k : Kp h h') (r : VarAt env h x v) : VarAt env h' x v := by
  rcases r with ⟨a, m, n, e⟩ | ⟨a, b, e, i⟩
  · exact .inl ⟨a, m, n.keeps k, e⟩
  · exact .inr ⟨a, b, e, i.keeps k⟩

structure EnvOk (env : Env) : Prop where
  kind : env.scope.kind = .function
  glob : env.globals = mainGlobals
  bui : env.builtins = builtinsNs

structure Bs (c : Cx) (X : List Addr) (h : Heap) : Prop where
  base : Kp c.H0 h
  live : ∀ a ∈ X, ∃ o, h.get? a = some o
theorem Bs.keep {c X} {h h' : Heap} (r : Bs c X h) (k : Kp h h') : Bs c X h' := ⟨fun b o e => k b o (r.base b o e), fun a ha => let ⟨o, e⟩ := r.live a ha; ⟨o, k _ _ e⟩⟩
theorem Bs.fresh {c X} {h : Heap} (r : Bs c X h) : h.objs.size ∉ X := fun hx => by
  obtain ⟨o, e⟩ := r.live _ hx
  exact Nat.lt_irrefl _ (Heap.lt_size e)

structure StE (c : Cx) (X : List Addr) (env : Env) (ρ : List (Str × Pd)) (h : Heap) : Prop where
  bs : Bs c X h
  ok : EnvOk env
  var : ∀ x p, (x, p) ∈ ρ → ∃ v, VarAt env h x v ∧ RelP X h v p
theorem StE.keep {c X env ρ} {h h' : Heap} (r : StE c X env ρ h) (k : Kp h h') : StE c X env ρ h' :=
  ⟨r.bs.keep k, r.ok, fun x p hx => let ⟨v, a, b⟩ := r.var x p hx; ⟨v, a.keep k, b.keep k⟩⟩

/-- t gives a value that bears p, and keeps all objects -/
def Gv (c : Cx) (A : Around) (X : List Addr) (t : Sem Value) (p : Pd) (s : Shared) : Prop :=
  wpAny (model c.prog c.w) A t (fun v s' => RelP X s'.heap v p ∧ Ks s s') (fun _ _ => False) s

def Ev (c : Cx) (A : Around) (X : List Addr) (env : Env) (ρ : List (Str × Pd)) (e : Expr) (p : Pd) : Prop :=
  ∀ s, StE c X env ρ s.heap → Gv c A X (eval e env) p s

def Tst (c : Cx) (A : Around) (X : List Addr) (env : Env) (ρ : List (Str × Pd)) (e : Expr) (b : Bool) : Prop :=
  ∀ s, StE c X env ρ s.heap → wpAny (model c.prog c.w) A (isTrue e env (eval e env)) (fun b' s' => b' = b ∧ Ks s s') (fun _ _ => False) s

section
variable {c : Cx} {A : Around} {X : List Addr} {env : Env} {ρ : List (Str × Pd)}

theorem Ev.name {x : Str} {pos : Pos} {p : Pd} (hx : (x, p) ∈ ρ) (hd : (x == ("__debug__" : Str)) = false := by decide) : Ev c A X env ρ (.Name x pos) p := fun s st => by
  obtain ⟨v, hv, hr⟩ := st.var x p hx
  rcases hv with ⟨hk, m, hn, hm⟩ | ⟨hk, a, ha, hc⟩
  · exact wpAny_Name (wpAny_loadName_local st.ok.kind hk hn hm ⟨hr, Ks.refl s⟩) hd
  · exact wpAny_Name (wpAny_loadName_cell st.ok.kind hk ha hc ⟨hr, Ks.refl s⟩) hd

theorem Ev.opn {e xs} (h : Ev c A X env ρ e (.d (.list xs))) : Ev c A X env ρ e (.l xs) := fun s st =>
  wpAny_mono (h s st) (fun _ _ r => ⟨r.1.open', r.2⟩) fun _ _ f => f

theorem Ev.int {i : Int} {k pos} : Ev c A X env ρ (.Constant (.int i) k pos) (.d (.int i)) := fun s _ => wpAny_Constant_int ⟨.int _ _, Ks.toks s _⟩
theorem Ev.str {x : Str} {k pos} : Ev c A X env ρ (.Constant (.str x) k pos) (.d (.str x)) := fun s _ => Calls.Constant_str ⟨.str _ _, Ks.toks s _⟩
theorem Ev.bool {b : Bool} {k pos} : Ev c A X env ρ (.Constant (.bool b) k pos) (.d (.bool b)) := fun s _ => Constant_bool ⟨.bool _, Ks.refl s⟩

theorem Ev.binop {l r : Expr} {op : Operator} {pos : Pos} {p1 p2 p : Pd} (h1 : Ev c A X env ρ l p1) (h2 : Ev c A X env ρ r p2)
    (hop : ∀ s v1 v2, Bs c X s.heap → RelP X s.heap v1 p1 → RelP X s.heap v2 p2 → Gv c A X (binaryOp op v1 v2) p s) :
    Ev c A X env ρ (.BinOp l op r pos) p := fun s st => by
  refine wpAny_BinOp (wpAny_mono (h1 s st) (fun v1 s1 r1 => ?_) fun _ _ f => f)
  have st1 := st.keep r1.2.kp
  refine wpAny_mono (h2 s1 st1) (fun v2 s2 r2 => ?_) fun _ _ f => f
  have st2 := st1.keep r2.2.kp
  refine wpAny_mono (hop s2 v1 v2 st2.bs (r1.1.keep r2.2.kp) r2.1) (fun v s3 r3 => ?_) fun _ _ f => f
  exact ⟨r3.1, (r1.2.trans r2.2).trans r3.2⟩

theorem Ev.cmp {l r : Expr} {op : CmpOp} {pos : Pos} {p1 p2 p : Pd} (h1 : Ev c A X env ρ l p1) (h2 : Ev c A X env ρ r p2)
    (hop : ∀ s v1 v2, Bs c X s.heap → RelP X s.heap v1 p1 → RelP X s.heap v2 p2 → Gv c A X (compareOp op v1 v2) p s)
    (hm : behindInMarks op r = false := by with_unfolding_all rfl) :
    Ev c A X env ρ (.Compare l [op] [r] pos) p := fun s st => by
  refine wpAny_Compare1 (wpAny_mono (h1 s st) (fun v1 s1 r1 => ?_) fun _ _ f => f) hm
  have st1 := st.keep r1.2.kp
  refine wpAny_mono (h2 s1 st1) (fun v2 s2 r2 => ?_) fun _ _ f => f
  have st2 := st1.keep r2.2.kp
  refine wpAny_mono (hop s2 v1 v2 st2.bs (r1.1.keep r2.2.kp) r2.1) (fun v s3 r3 => ?_) fun _ _ f => f
  exact ⟨r3.1, (r1.2.trans r2.2).trans r3.2⟩

theorem Tst.cmp {l r : Expr} {op : CmpOp} {pos : Pos} {p1 p2 : Pd} {b : Bool} (h1 : Ev c A X env ρ l p1) (h2 : Ev c A X env ρ r p2)
    (hop : ∀ s v1 v2, Bs c X s.heap → RelP X s.heap v1 p1 → RelP X s.heap v2 p2 → Gv c A X (compareOp op v1 v2) (.d (.bool b)) s)
    (hm : behindInMarks op r = false := by with_unfolding_all rfl) :
    Tst c A X env ρ (.Compare l [op] [r] pos) b := fun s st => by
  refine wpAny_isTrue_Compare1 (wpAny_mono (h1 s st) (fun v1 s1 r1 => ?_) fun _ _ f => f) hm
  have st1 := st.keep r1.2.kp
  refine wpAny_mono (h2 s1 st1) (fun v2 s2 r2 => ?_) fun _ _ f => f
  have st2 := st1.keep r2.2.kp
  refine wpAny_mono (hop s2 v1 v2 st2.bs (r1.1.keep r2.2.kp) r2.1) (fun v s3 r3 => ?_) fun _ _ f => f
  obtain ⟨r31, r32⟩ := r3
  cases r31
  exact wpAny_truthy_bool ⟨rfl, (r1.2.trans r2.2).trans r32⟩

theorem Tst.not {x : Expr} {pos : Pos} {b : Bool} (h : Tst c A X env ρ x b) : Tst c A X env ρ (.UnaryOp .Not x pos) (!b) := fun s st =>
  isTrue_not (wpAny_mono (h s st) (fun _ _ r => ⟨by rw [r.1], r.2⟩) fun _ _ f => f)

theorem Tst.and_nil {pos : Pos} : Tst c A X env ρ (.BoolOp .And [] pos) true := fun s _ => isTrue_and_nil ⟨rfl, Ks.refl s⟩
theorem Tst.or_nil {pos : Pos} : Tst c A X env ρ (.BoolOp .Or [] pos) false := fun s _ => isTrue_or_nil ⟨rfl, Ks.refl s⟩
end
end Mine
end

section
open PySem PySem.W PyProof.Rows
set_option Elab.async false
set_option maxRecDepth 100000
namespace Mine

/-- the words' signs as a text -/
def S (l : List Nat) : Str := ⟨l.toArray⟩
@[simp] theorem S_len (l : List Nat) : (S l).length = l.length := by simp [S, Str.length]
@[simp] theorem S_cps (l : List Nat) : (S l).cps.toList = l := by simp [S]
theorem S_of (x : Str) : S x.cps.toList = x := by cases x; simp [S]
theorem S_append (a b : List Nat) : S a ++ S b = S (a ++ b) := by
  show Str.append (S a) (S b) = _
  simp [S, Str.append]
theorem S_inj {a b : List Nat} : S a = S b ↔ a = b := by simp [S]
theorem S_beq (a b : List Nat) : (S a == S b) = (a == b) := by
  rw [Bool.eq_iff_iff]; simp [S_inj]

def sl {α : Type} (l : List α) (lo hi : Option Int) : List α :=
  (l.drop (lo.elim 0 (clipAt l.length))).take (hi.elim l.length (clipAt l.length) - lo.elim 0 (clipAt l.length))

theorem slicePick_sl (items : Array Value) (lo hi : Option Int) : slicePick items lo hi none = (sl items.toList lo hi).toArray := by
  rw [slicePick_plain]; simp [sl]

theorem strIdx (l u : Option Int) (n : Nat) : Builtin.Str.strSliceIndices l u 1 n = (List.range (u.elim n (clipAt n) - l.elim 0 (clipAt n))).map ((l.elim 0 (clipAt n)) + ·) := by
  have e : Builtin.Str.strSliceIndices l u 1 n = sliceRange (sliceBounds l u none n).1 (sliceBounds l u none n).2.1 (sliceBounds l u none n).2.2 := rfl
  rw [e, sliceBounds_plain, sliceRange_one]

theorem slice_sl (x : List Nat) (l u : Option Int) : Txt.slice (S x) l u = S (sl x l u) := by
  unfold Txt.slice
  have e : (Builtin.Str.strSliceIndices l u 1 (S x).length).filterMap ((S x).cps[·]?) = sl x l u := by
    rw [strIdx, pick_run]; simp [sl]
  split
  · rename_i h
    have h2 : (Builtin.Str.strSliceIndices l u 1 (S x).length).length = (S x).length := by simpa using h
    rw [strIdx] at h2
    simp only [List.length_map, List.length_range, S_len] at h2
    have : sl x l u = x := by
      unfold sl
      have h3 : u.elim x.length (clipAt x.length) ≤ x.length := by
        cases u with
        | none => simp
        | some i => simp only [Option.elim, clipAt]; omega
      have h4 : l.elim 0 (clipAt x.length) = 0 ∨ x.length = 0 := by omega
      rcases h4 with h4 | h4
      · rw [h4] at h2 ⊢
        simp only [List.drop_zero]
        rw [List.take_of_length_le (by omega)]
      · have : x = [] := List.eq_nil_of_length_eq_zero h4
        subst this; simp
    rw [this]
  · rw [e]; rfl

section
variable {c : Cx} {A : Around} {X : List Addr} {env : Env} {ρ : List (Str × Pd)}

def EvO (c : Cx) (A : Around) (X : List Addr) (env : Env) (ρ : List (Str × Pd)) : Option Expr → Option Int → Prop
  | none, none => True
  | some e, some i => Ev c A X env ρ e (.d (.int i))
  | _, _ => False

theorem EvO.run {e i} (h : EvO c A X env ρ e i) (s : Shared) (st : StE c X env ρ s.heap) :
    wpAny (model c.prog c.w) A (evalPart e env) (fun v s' => (∃ p : Option (Int × Tok), v = partValue p ∧ p.map (·.1) = i) ∧ Ks s s') (fun _ _ => False) s := by
  cases e with
  | none =>
    cases i with
    | none => exact wpAny_pure ⟨⟨none, rfl, rfl⟩, Ks.refl s⟩
    | some i => exact h.elim
  | some e =>
    cases i with
    | none => exact h.elim
    | some i =>
      refine wpAny_mono (h s st) (fun v s' r => ?_) fun _ _ f => f
      obtain ⟨r, k⟩ := r
      cases r with
      | int _ t => exact ⟨⟨some (i, t), rfl, rfl⟩, k⟩

theorem partIs {p : Option (Int × Tok)} : IsPart (partValue p) (p.map (·.1)) := by
  cases p with
  | none => exact .none
  | some q => exact .int _ _

theorem Ev.slice_str {value : Expr} {lower upper : Option Expr} {p pos : Pos} {x : List Nat} {lo hi : Option Int}
    (h : Ev c A X env ρ value (.d (.str (S x)))) (hl : EvO c A X env ρ lower lo) (hu : EvO c A X env ρ upper hi) (hsz : x.length ≤ sizeLine) :
    Ev c A X env ρ (.Subscript value (.Slice lower upper none p) pos) (.d (.str (S (sl x lo hi)))) := fun s st => by
  refine Subscript_ (wpAny_mono (h s st) (fun v s1 r1 => ?_) fun _ _ f => f)
  obtain ⟨r1, k1⟩ := r1
  cases r1 with
  | str _ t =>
  have st1 := st.keep k1.kp
  refine wpAny_Slice (wpAny_mono (hl.run s1 st1) (fun vl s2 r2 => ?_) fun _ _ f => f)
  obtain ⟨⟨pl, rfl, rfl⟩, k2⟩ := r2
  have st2 := st1.keep k2.kp
  refine wpAny_mono (hu.run s2 st2) (fun vu s3 r3 => ?_) fun _ _ f => f
  obtain ⟨⟨pu, rfl, rfl⟩, k3⟩ := r3
  rw [evalPart_none]
  refine wpAny_pure ?_
  refine tail_any (ops := [_, _]) (typeIs_str _ _ t) F.slot_str_getitem.lookup (wpAny_getItem_str_slice (l := pl) (u := pu) (st := none) ⟨_, Heap.get?_push_size _ rfl, rfl, rfl⟩ rfl ?_) (by with_unfolding_all rfl)
  refine post_val_or_str (y := S x) (z := _) ⟨?_, fun t' k => ?_⟩
  · show (Txt.slice (S x) _ _).length ≤ sizeLine
    exact Nat.le_trans (Txt.slice_le _ _ _) (by simpa using hsz)
  · have e : (Txt.slice (S x) (pl.map (·.1)) (pu.map (·.1))) = S (sl x (pl.map (·.1)) (pu.map (·.1))) := slice_sl ..
    refine ⟨?_, ((k1.trans k2).trans k3).trans (Ks.push s3 _ k)⟩
    show Rel X _ (.str (Txt.slice (S x) (pl.map (·.1)) (pu.map (·.1))) t') _
    rw [e]; exact .str _ _

theorem RelL.sl {h : Heap} {vs : List Value} {ds : List PyData} (r : RelL X h vs ds) (lo hi : Option Int) : RelL X h (sl vs lo hi) (Mine.sl ds lo hi) := by
  unfold Mine.sl
  rw [r.length]
  exact (r.drop _).take _

theorem Ev.slice_list {value : Expr} {lower upper : Option Expr} {p pos : Pos} {xs : List PyData} {lo hi : Option Int}
    (h : Ev c A X env ρ value (.l xs)) (hl : EvO c A X env ρ lower lo) (hu : EvO c A X env ρ upper hi) (hsz : xs.length ≤ sizeLine) :
    Ev c A X env ρ (.Subscript value (.Slice lower upper none p) pos) (.d (.list (sl xs lo hi))) := fun s st => by
  refine Subscript_ (wpAny_mono (h s st) (fun v s1 r1 => ?_) fun _ _ f => f)
  obtain ⟨⟨a, vs, rfl, hla, hr⟩, k1⟩ := r1
  have st1 := st.keep k1.kp
  refine wpAny_Slice (wpAny_mono (hl.run s1 st1) (fun vl s2 r2 => ?_) fun _ _ f => f)
  obtain ⟨⟨pl, rfl, rfl⟩, k2⟩ := r2
  have st2 := st1.keep k2.kp
  refine wpAny_mono (hu.run s2 st2) (fun vu s3 r3 => ?_) fun _ _ f => f
  obtain ⟨⟨pu, rfl, rfl⟩, k3⟩ := r3
  have st3 := st2.keep k3.kp
  rw [evalPart_none]
  refine wpAny_pure ?_
  have hl3 : s3.heap.IsList a vs := hla.at fun o e => k3.kp _ _ (k2.kp _ _ e)
  have hl4 := hl3.push { cls := .type "slice", data := .fields #[partValue pl, partValue pu, .none] }
  have hlen : vs.size ≤ sizeLine := by have := hr.length; simp at this; omega
  refine tail_any (ops := [_, _]) hl4.typeIs list_getitem_lookup (wpAny_getItem_list_slice hl4 (Heap.IsSliceOf.new ..) partIs partIs .none (by simp) ?_ hlen) (by with_unfolding_all rfl)
  have K3 : Ks s3 _ := (Ks.push s3 { cls := .type "slice", data := .fields #[partValue pl, partValue pu, .none] } s3.toks)
  have K4 : Ks _ _ := (Ks.push { s3 with heap := s3.heap.push { cls := .type "slice", data := .fields #[partValue pl, partValue pu, .none] } } { cls := .type "list", data := .seq (slicePick vs (pl.map (·.1)) (pu.map (·.1)) none) } s3.toks)
  have K5 := K3.trans K4
  refine ⟨?_, ((k1.trans k2).trans k3).trans K5⟩
  refine .list (vs := slicePick vs (pl.map (·.1)) (pu.map (·.1)) none) ?_ ⟨_, Heap.get?_push_size _ rfl⟩ ?_
  · exact ((st3.bs.keep K3.kp).fresh)
  · show RelL X _ (slicePick vs (pl.map (·.1)) (pu.map (·.1)) none).toList _
    rw [show (slicePick vs (pl.map (·.1)) (pu.map (·.1)) none).toList = sl vs.toList (pl.map (·.1)) (pu.map (·.1)) from by rw [slicePick_sl]]
    have r3 := hr.keep (X := X) (.of_kp fun b o e => K5.kp _ _ (k3.kp _ _ (k2.kp _ _ e)))
    exact RelL.sl r3 _ _
end
end Mine
end

section
open PySem PySem.W PyProof.Rows
set_option Elab.async false
set_option maxRecDepth 100000
namespace Mine

def RelPL (X : List Addr) (h : Heap) : List Value → List Pd → Prop
  | [], [] => True
  | v :: vs, p :: ps => RelP X h v p ∧ RelPL X h vs ps
  | _, _ => False
theorem RelPL.keep {X : List Addr} {h h' : Heap} (k : Kp h h') : ∀ {vs ps}, RelPL X h vs ps → RelPL X h' vs ps
  | [], [], _ => trivial
  | _ :: _, _ :: _, ⟨a, b⟩ => ⟨a.keep k, RelPL.keep k b⟩
  | [], _ :: _, f => f.elim
  | _ :: _, [], f => f.elim

def EvL (c : Cx) (A : Around) (X : List Addr) (env : Env) (ρ : List (Str × Pd)) : List Expr → List Pd → Prop
  | [], [] => True
  | e :: es, p :: ps => starEach (e :: es) env = (false, eval e env) :: starEach es env ∧ Ev c A X env ρ e p ∧ EvL c A X env ρ es ps
  | _, _ => False

section
variable {c : Cx} {A : Around} {X : List Addr} {env : Env} {ρ : List (Str × Pd)}

theorem EvL.run {pos : Pos} : ∀ {es ps}, EvL c A X env ρ es ps → ∀ (s : Shared), StE c X env ρ s.heap →
    wpAny (model c.prog c.w) A (spliced (backTo pos (starEach es env))) (fun vs s' => RelPL X s'.heap vs ps ∧ Ks s s') (fun _ _ => False) s
  | [], [], _, s, _ => wpAny_items_nil ⟨trivial, Ks.refl s⟩
  | e :: es, p :: ps, h, s, st => by
    obtain ⟨he, h1, h2⟩ := h
    refine wpAny_items_cons (wpAny_mono (h1 s st) (fun v s1 r1 => ?_) fun _ _ f => f) he
    have st1 := st.keep r1.2.kp
    refine wpAny_mono (EvL.run h2 s1 st1) (fun vs s2 r2 => ?_) fun _ _ f => f
    exact ⟨⟨r1.1.keep r2.2.kp, r2.1⟩, r1.2.trans r2.2⟩
  | [], _ :: _, h, _, _ => h.elim
  | _ :: _, [], h, _, _ => h.elim
theorem EvL.plain {pos : Pos} : ∀ {es ps}, EvL c A X env ρ es ps → (backTo pos (starEach es env)).any (·.1) = false
  | [], [], _ => rfl
  | e :: es, p :: ps, h => by
    obtain ⟨he, h1, h2⟩ := h
    rw [he]
    show (false || (backTo pos (starEach es env)).any (·.1)) = false
    rw [EvL.plain h2]; rfl
  | [], _ :: _, h => h.elim
  | _ :: _, [], h => h.elim
theorem EvL.plain' {pos : Pos} : ∀ {es ps}, EvL c A X env ρ es ps → (backTo pos (starEach es env)).all (fun x => !x.1) = true
  | [], [], _ => rfl
  | e :: es, p :: ps, h => by
    obtain ⟨he, h1, h2⟩ := h
    rw [he]
    show (true && (backTo pos (starEach es env)).all (fun x => !x.1)) = true
    rw [EvL.plain' h2]; rfl
  | [], _ :: _, h => h.elim
  | _ :: _, [], h => h.elim

/-- a global name that is looked up in the module's table -/
theorem ldGlob {x : Str} {pos : Pos} {v : Value} {Q : Value → Shared → Prop} {s : Shared} (st : StE c X env ρ s.heap) (hk : env.kindOf x = some .globalImplicit) (hv : c.mg x = some v) (h : Q v s)
    (hd : (x == ("__debug__" : Str)) = false := by decide) {E} : wpAny (model c.prog c.w) A (eval (.Name x pos) env) Q E s :=
  Calls.Name_function_global st.ok.kind hk (Calls.loadGlobal_global (by rw [st.ok.glob]; exact c.g.keeps st.bs.base) hv h) hd
theorem ldBui {x : Str} {pos : Pos} {v : Value} {Q : Value → Shared → Prop} {s : Shared} (st : StE c X env ρ s.heap) (hk : env.kindOf x = some .globalImplicit) (hm : c.mg x = none) (hv : c.mb x = some v) (h : Q v s)
    (hd : (x == ("__debug__" : Str)) = false := by decide) {E} : wpAny (model c.prog c.w) A (eval (.Name x pos) env) Q E s :=
  Calls.Name_function_global st.ok.kind hk (Calls.loadGlobal_builtin (by rw [st.ok.glob]; exact c.g.keeps st.bs.base) hm (by rw [st.ok.bui]; exact c.b.keeps st.bs.base) hv h) hd

/-- what a def of the text gives -/
def Fn (c : Cx) (A : Around) (f : Str) (ps : List Pd) (p : Pd) : Prop :=
  ∃ a o fd, c.mg f = some (.ref a) ∧ c.H0.get? a = some o ∧ o.data = .func fd ∧
    ∀ X s vs, Bs c X s.heap → RelPL X s.heap vs ps → Gv c A X (call (.ref a) vs) p s
/-- what a built-in function gives -/
def Bf (c : Cx) (A : Around) (id : String) (ps : List Pd) (p : Pd) : Prop :=
  ∀ X s vs, Bs c X s.heap → RelPL X s.heap vs ps → Gv c A X (call (.builtin id) vs) p s

theorem Ev.fn {f : Str} {fp pos : Pos} {e : Expr} {es : List Expr} {ps : List Pd} {p : Pd} (hk : env.kindOf f = some .globalImplicit) (hf : Fn c A f ps p) (ha : EvL c A X env ρ (e :: es) ps)
    (hd : (f == ("__debug__" : Str)) = false := by decide) : Ev c A X env ρ (.Call (.Name f fp) (e :: es) [] pos) p := fun s st => by
  obtain ⟨a, o, fd, h1, h2, h3, h4⟩ := hf
  refine Call_ (ldGlob st hk h1 ?_ hd) rfl
  refine callWith_def (o := o) h3 (wpAny_mono (ha.run s st) (fun vs s1 r1 => ?_) fun _ _ f => f) (by cases ps with | nil => exact ha.elim | cons p ps => exact ha.1)
  have st1 := st.keep r1.2.kp
  refine ⟨st1.bs.base _ _ h2, wpAny_mono (h4 X s1 vs st1.bs r1.1) (fun v s2 r2 => ?_) fun _ _ f => f⟩
  exact ⟨r2.1, r1.2.trans r2.2⟩

theorem Ev.bf {f : Str} {id : String} {fp pos : Pos} {e : Expr} {es : List Expr} {ps : List Pd} {p : Pd} (hk : env.kindOf f = some .globalImplicit) (hm : c.mg f = none) (hb : c.mb f = some (.builtin id))
    (hf : Bf c A id ps p) (ha : EvL c A X env ρ (e :: es) ps)
    (hd : (f == ("__debug__" : Str)) = false := by decide) : Ev c A X env ρ (.Call (.Name f fp) (e :: es) [] pos) p := fun s st => by
  refine Call_ (ldBui st hk hm hb ?_ hd) rfl
  refine callWith_builtin1 (wpAny_mono (ha.run s st) (fun vs s1 r1 => ?_) fun _ _ f => f) (by cases ps with | nil => exact ha.elim | cons p ps => exact ha.1) (by cases ps with | nil => exact ha.elim | cons p ps => exact EvL.plain ha.2.2)
  have st1 := st.keep r1.2.kp
  refine wpAny_mono (hf X s1 vs st1.bs r1.1) (fun v s2 r2 => ?_) fun _ _ f => f
  exact ⟨r2.1, r1.2.trans r2.2⟩

/-- a method of a text -/
theorem Ev.meth {o : Expr} {name : Str} {id : String} {apos pos : Pos} {args : List Expr} {ps : List Pd} {p : Pd} {x : Str}
    (ho : Ev c A X env ρ o (.d (.str x))) (slot : Slot "str" name id) (ty : typeOf (.builtin id) = pure (.type "method_descriptor"))
    (ha : EvL c A X env ρ args ps) (hf : Bf c A id (.d (.str x) :: ps) p)
    (hline : (apos.endLine == pos.line) = true) (hlen : args.length < 30)
    (hbase : attributeBase o name env (eval o env) = eval o env := by rfl) :
    Ev c A X env ρ (.Call (.Attribute o name apos) args [] pos) p := fun s st => by
  refine wpAny_Call_method_lateS hbase ?_ hline (wpAny_mono (ho s st) (fun v s1 r1 => ?_) fun _ _ f => f)
  · rw [EvL.plain' ha]
    show (true && true && decide (args.length + 0 + 0 < 30)) = true
    simp; omega
  obtain ⟨r1, k1⟩ := r1
  cases r1 with
  | str _ t =>
  have st1 := st.keep k1.kp
  refine ⟨"str", id, F.plainAttrs_str, slot, ty, typeIs_str _ _ _, (fun _ e => nomatch e), ?_⟩
  have fin : ∀ s2 vs, RelPL X s2.heap vs ps → Ks s1 s2 → wpAny (model c.prog c.w) A (call (.builtin id) ([.str x t] ++ vs)) (fun v s' => RelP X s'.heap v p ∧ Ks s s') (fun _ _ => False) s2 := fun s2 vs r2 k2 => by
    refine wpAny_mono (hf X s2 (.str x t :: vs) (st1.bs.keep k2.kp) ⟨.str _ _, r2⟩) (fun v s3 r3 => ?_) fun _ _ f => f
    exact ⟨r3.1, (k1.trans k2).trans r3.2⟩
  cases args with
  | nil =>
    cases ps with
    | cons p ps => exact ha.elim
    | nil => exact callWith_method0 (by simpa using fin s1 [] trivial (Ks.refl s1))
  | cons e es =>
    cases ps with
    | nil => exact ha.elim
    | cons p ps =>
      refine callWith_method1 (wpAny_mono (ha.run s1 st1) (fun vs s2 r2 => fin s2 vs r2.1 r2.2) fun _ _ f => f) ha.1 (EvL.plain ha.2.2)

/-- list and tuple displays -/
theorem RelPL.rel {h : Heap} : ∀ {vs : List Value} {ds : List PyData}, RelPL X h vs (ds.map .d) → RelL X h vs ds
  | [], [], _ => .nil
  | _ :: _, _ :: _, ⟨a, b⟩ => .cons a (RelPL.rel b)
  | [], _ :: _, f => f.elim
  | _ :: _, [], f => f.elim
theorem Bs.pushed {h : Heap} (b : Bs c X h) (o : Obj) : Bs c X (h.push o) := b.keep fun _ _ e => Heap.get?_push_of_some _ e

theorem newListRel {s : Shared} {vs : List Value} {ds : List PyData} (b : Bs c X s.heap) (r : RelL X s.heap vs ds) :
    Rel X (s.heap.push { cls := .type "list", data := .seq vs.toArray }) (.ref s.heap.objs.size) (.list ds) :=
  .list (vs := vs.toArray) b.fresh ⟨_, Heap.get?_push_size _ rfl⟩ (by simpa using r.keep (.of_kp fun _ _ e => Heap.get?_push_of_some _ e))

theorem Ev.list {es : List Expr} {pos : Pos} {ds : List PyData} (h : EvL c A X env ρ es (ds.map .d)) (hsz : ds.length ≤ 1000) : Ev c A X env ρ (.List es pos) (.d (.list ds)) := fun s st => by
  refine wpAny_List (wpAny_mono (h.run s st) (fun vs s1 r1 => ?_) fun _ _ f => f)
  have st1 := st.keep r1.2.kp
  have r := r1.1.rel
  refine ⟨?_, newListRel st1.bs r, r1.2.trans (Ks.push s1 _ s1.toks)⟩
  rw [r.length, sizeLine_eq]; omega
theorem Ev.tup {es : List Expr} {pos : Pos} {k : Nat} {ds : List PyData} (h : EvL c A X env ρ es (ds.map .d)) (hsz : ds.length ≤ 1000) : Ev c A X env ρ (.Tuple es k pos) (.d (.tuple ds)) := fun s st => by
  refine wpAny_Tuple (wpAny_mono (h.run s st) (fun vs s1 r1 => ?_) fun _ _ f => f)
  have st1 := st.keep r1.2.kp
  have r := r1.1.rel
  refine ⟨?_, ?_, r1.2.trans (Ks.push s1 _ s1.toks)⟩
  · rw [r.length, sizeLine_eq]; omega
  · exact .tuple (vs := vs.toArray) st1.bs.fresh ⟨_, Heap.get?_push_size _ rfl, rfl, _, rfl⟩ (by simpa using r.keep (.of_kp fun _ _ e => Heap.get?_push_of_some _ e))

/-- an item at a known place -/
theorem Ev.item_list {value i : Expr} {pos : Pos} {xs : List PyData} {k : Int} {d : PyData} (h : Ev c A X env ρ value (.l xs)) (hi : Ev c A X env ρ i (.d (.int k)))
    (hx : (if k < 0 then xs[(k + xs.length).toNat]? else xs[k.toNat]?) = some d) (hlo : k < 0 → -(xs.length : Int) ≤ k) (hsz : xs.length ≤ sizeLine)
    (hs : ∀ a b u, subscripted i false (.ref a) (.int b u) = operate [.ref a, .int b u] (getItem (.ref a) (.int b u)) := by intro _ _ _; with_unfolding_all rfl) :
    Ev c A X env ρ (.Subscript value i pos) (.d d) := fun s st => by
  refine Subscript_ (wpAny_mono (h s st) (fun v s1 r1 => ?_) fun _ _ f => f)
  obtain ⟨⟨a, vs, rfl, hla, hr⟩, k1⟩ := r1
  have st1 := st.keep k1.kp
  refine wpAny_mono (hi s1 st1) (fun v2 s2 r2 => ?_) fun _ _ f => f
  obtain ⟨r2, k2⟩ := r2
  cases r2 with
  | int _ t =>
  have hl2 : s2.heap.IsList a vs := hla.at fun o e => k2.kp _ _ e
  have hr2 : RelL X s2.heap vs.toList xs := hr.keep (.of_kp k2.kp)
  have hlen := hr2.length
  simp only [Array.length_toList] at hlen
  rw [sizeLine_eq] at hsz
  refine tail_any (ops := [_, _]) hl2.typeIs slot_list_getitem.lookup ?_ (hs _ _ _)
  by_cases hn : k < 0
  · rw [if_pos hn] at hx
    obtain ⟨w, hw, hrel⟩ := hr2.get _ _ hx
    have hlo' := hlo hn
    refine wpAny_getItem_list_neg hl2 hn (by omega) (by omega) (x := w) ?_ ⟨hrel, k1.trans k2⟩
    rw [hlen]; simpa using hw
  · rw [if_neg hn] at hx
    obtain ⟨w, hw, hrel⟩ := hr2.get _ _ hx
    have : k.toNat < xs.length := by
      rcases Nat.lt_or_ge k.toNat xs.length with h | h
      · exact h
      · rw [List.getElem?_eq_none h] at hx; cases hx
    exact wpAny_getItem_list hl2 (by omega) (by omega) (by simpa using hw) ⟨hrel, k1.trans k2⟩
end
end Mine
end

section
open PySem PySem.W PyProof.Rows PySem.SeqAt
set_option Elab.async false
set_option maxRecDepth 100000
namespace Mine

structure Rm (A : Around) (n : Nat) : Prop where
  depth : A.depth + n < recursionLimit
  units : A.units + 8 * n + 200 < cLine
  handled : A.handled = none
theorem Rm.less {A n m} (h : Rm A n) (hm : m ≤ n) : Rm A m := ⟨by have := h.depth; omega, by have := h.units; omega, h.handled⟩
theorem Rm.deeper {A n env} (h : Rm A (n + 1)) : Rm (A.deeper env) n :=
  ⟨by have := h.depth; show A.depth + 1 + n < _; omega, by have := h.units; show A.units + 3 + 8 * n + 200 < _; omega, h.handled⟩

section
variable {c : Cx} {A : Around} {X : List Addr} {env : Env} {ρ : List (Str × Pd)}

/-- what a comparison gives -/
def Cmp (c : Cx) (A : Around) (op : CmpOp) (p1 p2 : Pd) (b : Bool) : Prop :=
  ∀ X s v1 v2, Bs c X s.heap → RelP X s.heap v1 p1 → RelP X s.heap v2 p2 → Gv c A X (compareOp op v1 v2) (.d (.bool b)) s
/-- what an operation gives -/
def Bin (c : Cx) (A : Around) (op : Operator) (p1 p2 p : Pd) : Prop :=
  ∀ X s v1 v2, Bs c X s.heap → RelP X s.heap v1 p1 → RelP X s.heap v2 p2 → Gv c A X (binaryOp op v1 v2) p s

theorem Cmp.int {op : CmpOp} {a b : Int} {r : Bool} (h : ∀ {t u s Q E}, Q (.bool r) s → wpAny (model c.prog c.w) A (compareOp op (.int a t) (.int b u)) Q E s) : Cmp c A op (.d (.int a)) (.d (.int b)) r := fun X s v1 v2 _ r1 r2 => by
  cases r1; cases r2; exact h ⟨.bool _, Ks.refl s⟩
theorem Cmp.eq_int {a b : Int} : Cmp c A .Eq (.d (.int a)) (.d (.int b)) (a == b) := .int PyProof.Rows.eq_int
theorem Cmp.ne_int {a b : Int} : Cmp c A .NotEq (.d (.int a)) (.d (.int b)) (a != b) := .int PyProof.Rows.ne_int
theorem Cmp.lt_int {a b : Int} : Cmp c A .Lt (.d (.int a)) (.d (.int b)) (decide (a < b)) := .int PyProof.Rows.lt_int
theorem Cmp.le_int {a b : Int} : Cmp c A .LtE (.d (.int a)) (.d (.int b)) (decide (a ≤ b)) := .int PyProof.Rows.le_int
theorem Cmp.gt_int {a b : Int} : Cmp c A .Gt (.d (.int a)) (.d (.int b)) (decide (b < a)) := .int PyProof.Rows.gt_int
theorem Cmp.ge_int {a b : Int} : Cmp c A .GtE (.d (.int a)) (.d (.int b)) (decide (b ≤ a)) := .int PyProof.Rows.ge_int
theorem Cmp.eq_str {a b : Str} : Cmp c A .Eq (.d (.str a)) (.d (.str b)) (a == b) := fun X s v1 v2 _ r1 r2 => by
  cases r1; cases r2; exact PyProof.Rows.eq_str ⟨.bool _, Ks.refl s⟩
theorem Cmp.ne_str {a b : Str} : Cmp c A .NotEq (.d (.str a)) (.d (.str b)) (a != b) := fun X s v1 v2 _ r1 r2 => by
  cases r1; cases r2; exact PyProof.Rows.ne_str ⟨.bool _, Ks.refl s⟩
theorem Cmp.notIn_str {a b : Str} : Cmp c A .NotIn (.d (.str a)) (.d (.str b)) (!(!(Builtin.Str.occurrences b a 0 b.length 1).isEmpty)) := fun X s v1 v2 _ r1 r2 => by
  cases r1; cases r2; exact PyProof.Rows.notIn_str ⟨.bool _, Ks.refl s⟩
theorem Cmp.is_bool {a b : Bool} : Cmp c A .Is (.d (.bool a)) (.d (.bool b)) (a == b) := fun X s v1 v2 _ r1 r2 => by
  cases r1; cases r2
  refine wpAny_is_plain rfl ⟨?_, Ks.refl s⟩
  have : (Value.bool a == Value.bool b) = (a == b) := by cases a <;> cases b <;> decide
  rw [this]; exact .bool _
theorem Cmp.isNot_bool {a b : Bool} : Cmp c A .IsNot (.d (.bool a)) (.d (.bool b)) (!(a == b)) := fun X s v1 v2 _ r1 r2 => by
  cases r1; cases r2
  refine wpAny_isNot_plain rfl ⟨?_, Ks.refl s⟩
  have : (Value.bool a == Value.bool b) = (a == b) := by cases a <;> cases b <;> decide
  rw [this]; exact .bool _

def Pd.data : Pd → PyData
  | .d x => x
  | .l xs => .list xs
theorem RelP.reads {h : Heap} {v : Value} {p : Pd} (r : RelP X h v p) : ∃ as, Reads h v p.data as := by
  cases p with
  | d x => exact Rel.reads r
  | l xs =>
    obtain ⟨a, vs, rfl, ⟨o, e, c, n, d⟩, r⟩ := r
    obtain ⟨as, q⟩ := r.reads
    exact ⟨_, .list e c d q⟩

theorem Cmp.eq_data {p1 p2 : Pd} (h1 : shaped p1.data = true) (h2 : shaped p2.data = true) (hA : Rm A 0) : Cmp c A .Eq p1 p2 (PyData.eqv p1.data p2.data) := fun X s v1 v2 _ r1 r2 => by
  obtain ⟨as, q1⟩ := r1.reads; obtain ⟨bs, q2⟩ := r2.reads
  exact compareEq_shaped q1 q2 h1 h2 (by have := hA.units; omega) ⟨.bool _, Ks.refl s⟩
theorem Cmp.ne_data {p1 p2 : Pd} (h1 : shaped p1.data = true) (h2 : shaped p2.data = true) (hA : Rm A 0) : Cmp c A .NotEq p1 p2 (!PyData.eqv p1.data p2.data) := fun X s v1 v2 _ r1 r2 => by
  obtain ⟨as, q1⟩ := r1.reads; obtain ⟨bs, q2⟩ := r2.reads
  exact compareNe_shaped q1 q2 h1 h2 (by have := hA.units; omega) ⟨.bool _, Ks.refl s⟩
theorem Cmp.notIn_list {p1 : Pd} {xs : List PyData} (h1 : shaped p1.data = true) (h2 : PyData.canLayAll0 xs = true) (hA : Rm A 0) : Cmp c A .NotIn p1 (.l xs) (!xs.any fun y => PyData.eqv y p1.data) := fun X s v1 v2 _ r1 r2 => by
  obtain ⟨as, q1⟩ := r1.reads; obtain ⟨bs, q2⟩ := r2.reads
  refine SeqAt.notIn_list_reads q2 q1 h2 (canLay_of_shaped h1) ?_ ⟨.bool _, Ks.refl s⟩
  have := hA.units
  have := depth_of_shaped h1
  omega

theorem Bin.add_int {a b : Int} : Bin c A .Add (.d (.int a)) (.d (.int b)) (.d (.int (a + b))) := fun X s v1 v2 _ r1 r2 => by
  cases r1; cases r2; exact PyProof.Rows.add_int ⟨.int _ _, Ks.toks s _⟩
theorem Bin.sub_int {a b : Int} : Bin c A .Sub (.d (.int a)) (.d (.int b)) (.d (.int (a - b))) := fun X s v1 v2 _ r1 r2 => by
  cases r1; cases r2; exact PyProof.Rows.sub_int ⟨.int _ _, Ks.toks s _⟩
theorem Bin.mul_int {a b : Int} (h : IntMulOk a b) : Bin c A .Mult (.d (.int a)) (.d (.int b)) (.d (.int (a * b))) := fun X s v1 v2 _ r1 r2 => by
  cases r1; cases r2; exact PyProof.Rows.mul_int ⟨.int _ _, Ks.toks s _⟩ h
theorem Bin.mod_int {a b : Int} (h : b ≠ 0) : Bin c A .Mod (.d (.int a)) (.d (.int b)) (.d (.int (a.fmod b))) := fun X s v1 v2 _ r1 r2 => by
  cases r1; cases r2; exact PyProof.Rows.mod_int' h ⟨.int _ _, Ks.toks s _⟩
theorem Bin.add_str {a b : List Nat} (hsz : a.length + b.length ≤ sizeLine) : Bin c A .Add (.d (.str (S a))) (.d (.str (S b))) (.d (.str (S (a ++ b)))) := fun X s v1 v2 _ r1 r2 => by
  cases r1; cases r2
  refine PyProof.Rows.add_str (fun t' tk => ⟨?_, Ks.toks s _⟩) (by simpa using hsz)
  rw [S_append]; exact .str _ _
theorem Bin.add_list {a b : List PyData} (hsz : a.length + b.length ≤ 100000) : Bin c A .Add (.l a) (.l b) (.d (.list (a ++ b))) := fun X s v1 v2 bs r1 r2 => by
  obtain ⟨l, vs, rfl, hl, hr⟩ := r1
  obtain ⟨l2, ws, rfl, hl2, hr2⟩ := r2
  obtain ⟨⟨cls, dd, data, sl⟩, ho, hc, n, hd⟩ := id hl
  obtain ⟨⟨cls2, dd2, data2, sl2⟩, ho2, hc2, n2, hd2⟩ := id hl2
  simp only at hc hd hc2 hd2
  subst hc hd hc2 hd2
  have e1 := hr.length; have e2 := hr2.length
  simp only [Array.length_toList] at e1 e2
  refine concat_meets ⟨_, ho, rfl⟩ ⟨_, ho2, rfl⟩ noFill_list_add seq_list_add PySem.F.slot_list_add PySem.F.entry_list_add (PySem.F.args_list_add_2 _ _) (list_addW l l2 vs ws n n2 dd dd2 sl sl2 (by rw [sizeLine_eq]; omega)) ⟨ho, ho2, ?_⟩
  refine ⟨?_, Ks.push s _ s.toks⟩
  have := newListRel bs (hr.append hr2)
  rw [show vs ++ ws = (vs.toList ++ ws.toList).toArray by simp]
  exact this

theorem RelL.rep {h : Heap} {vs : List Value} {ds : List PyData} (r : RelL X h vs ds) : ∀ k, RelL X h (List.replicate k vs).flatten (List.replicate k ds).flatten
  | 0 => by simpa using RelL.nil
  | k + 1 => by simpa [List.replicate_succ] using r.append (r.rep k)

theorem Ev.bin {l r : Expr} {op : Operator} {pos : Pos} {p1 p2 p : Pd} (h1 : Ev c A X env ρ l p1) (h2 : Ev c A X env ρ r p2) (h : Bin c A op p1 p2 p) : Ev c A X env ρ (.BinOp l op r pos) p := Ev.binop h1 h2 fun s v1 v2 => h X s v1 v2
theorem Ev.cm {l r : Expr} {op : CmpOp} {pos : Pos} {p1 p2 : Pd} {b : Bool} (h1 : Ev c A X env ρ l p1) (h2 : Ev c A X env ρ r p2) (h : Cmp c A op p1 p2 b)
    (hm : behindInMarks op r = false := by with_unfolding_all rfl) : Ev c A X env ρ (.Compare l [op] [r] pos) (.d (.bool b)) := Ev.cmp h1 h2 (fun s v1 v2 => h X s v1 v2) hm
theorem Tst.cm {l r : Expr} {op : CmpOp} {pos : Pos} {p1 p2 : Pd} {b : Bool} (h1 : Ev c A X env ρ l p1) (h2 : Ev c A X env ρ r p2) (h : Cmp c A op p1 p2 b)
    (hm : behindInMarks op r = false := by with_unfolding_all rfl) : Tst c A X env ρ (.Compare l [op] [r] pos) b := Tst.cmp h1 h2 (fun s v1 v2 => h X s v1 v2) hm

theorem Ev.neg {e : Expr} {pos : Pos} {a : Int} (h : Ev c A X env ρ e (.d (.int a))) : Ev c A X env ρ (.UnaryOp .USub e pos) (.d (.int (-a))) := fun s st => by
  refine UnaryOp_ (wpAny_mono (h s st) (fun v s1 r1 => ?_) fun _ _ f => f)
  obtain ⟨r1, k1⟩ := r1; cases r1
  exact PyProof.Rows.neg_int ⟨.int _ _, k1.trans (Ks.toks s1 _)⟩

/-- truth of a value -/
def Tru (c : Cx) (A : Around) (p : Pd) (b : Bool) : Prop :=
  ∀ X s v, Bs c X s.heap → RelP X s.heap v p → wpAny (model c.prog c.w) A (truthy v) (fun b' s' => b' = b ∧ Ks s s') (fun _ _ => False) s
theorem Tru.bool {b : Bool} : Tru c A (.d (.bool b)) b := fun X s v _ r => by cases r; exact wpAny_truthy_bool ⟨rfl, Ks.refl s⟩
theorem Tru.none : Tru c A (.d .none) false := fun X s v _ r => by cases r; exact truthy_none ⟨rfl, Ks.refl s⟩
theorem Tru.str {x : List Nat} (hsz : x.length ≤ 100000) : Tru c A (.d (.str (S x))) (!x.isEmpty) := fun X s v _ r => by
  cases r
  refine PySem.P.truthy_str (by simp; omega) ⟨?_, Ks.toks s _⟩
  cases x <;> simp
  omega

theorem Tst.plain {e : Expr} {p : Pd} {b : Bool} (h : Ev c A X env ρ e p) (ht : Tru c A p b)
    (he : ∀ whole, isTrue e env whole = (do let v ← whole; standAt e.pos; holding [v] (truthy v)) := by intro _; rfl) : Tst c A X env ρ e b := fun s st =>
  isTrue_plain (wpAny_mono (h s st) (fun v s1 r1 => wpAny_mono (ht X s1 v (st.keep r1.2.kp).bs r1.1) (fun _ _ q => ⟨q.1, r1.2.trans q.2⟩) fun _ _ f => f) fun _ _ f => f) (he _)

theorem Tst.and {x : Expr} {rest : List Expr} {pos : Pos} {b b' : Bool} (h : Tst c A X env ρ x b) (h' : b = true → Tst c A X env ρ (.BoolOp .And rest pos) b') : Tst c A X env ρ (.BoolOp .And (x :: rest) pos) (b && b') := fun s st => by
  refine isTrue_and (wpAny_mono (h s st) (fun b1 s1 r1 => ?_) fun _ _ f => f)
  obtain ⟨rfl, k1⟩ := r1
  cases b1 with
  | false => exact ⟨rfl, k1⟩
  | true =>
    have := h' rfl s1 (st.keep k1.kp)
    exact wpAny_mono this (fun _ _ q => ⟨q.1, k1.trans q.2⟩) fun _ _ f => f
theorem Tst.or {x : Expr} {rest : List Expr} {pos : Pos} {b b' : Bool} (h : Tst c A X env ρ x b) (h' : b = false → Tst c A X env ρ (.BoolOp .Or rest pos) b') : Tst c A X env ρ (.BoolOp .Or (x :: rest) pos) (b || b') := fun s st => by
  refine isTrue_or (wpAny_mono (h s st) (fun b1 s1 r1 => ?_) fun _ _ f => f)
  obtain ⟨rfl, k1⟩ := r1
  cases b1 with
  | true => exact ⟨rfl, k1⟩
  | false =>
    have := h' rfl s1 (st.keep k1.kp)
    exact wpAny_mono this (fun _ _ q => ⟨q.1, k1.trans q.2⟩) fun _ _ f => f

/-- and, or as values -/
theorem Ev.and2 {e1 e2 : Expr} {pos : Pos} {a b : Bool} (h1 : Ev c A X env ρ e1 (.d (.bool a))) (h2 : a = true → Ev c A X env ρ e2 (.d (.bool b))) : Ev c A X env ρ (.BoolOp .And [e1, e2] pos) (.d (.bool (a && b))) := fun s st => by
  refine BoolOp_and (wpAny_mono (h1 s st) (fun v s1 r1 => ?_) fun _ _ f => f)
  obtain ⟨r1, k1⟩ := r1; cases r1
  refine wpAny_truthy_bool ?_
  cases a with
  | false => exact ⟨.bool _, k1⟩
  | true => exact BoolOp_one (wpAny_mono (h2 rfl s1 (st.keep k1.kp)) (fun _ _ q => ⟨q.1, k1.trans q.2⟩) fun _ _ f => f)
theorem Ev.and3 {e1 e2 e3 : Expr} {pos : Pos} {a b d : Bool} (h1 : Ev c A X env ρ e1 (.d (.bool a))) (h2 : a = true → Ev c A X env ρ (.BoolOp .And [e2, e3] pos) (.d (.bool (b && d)))) : Ev c A X env ρ (.BoolOp .And [e1, e2, e3] pos) (.d (.bool (a && (b && d)))) := fun s st => by
  refine BoolOp_and (wpAny_mono (h1 s st) (fun v s1 r1 => ?_) fun _ _ f => f)
  obtain ⟨r1, k1⟩ := r1; cases r1
  refine wpAny_truthy_bool ?_
  cases a with
  | false => exact ⟨.bool _, k1⟩
  | true => exact wpAny_mono (h2 rfl s1 (st.keep k1.kp)) (fun _ _ q => ⟨q.1, k1.trans q.2⟩) fun _ _ f => f
theorem Ev.or2 {e1 e2 : Expr} {pos : Pos} {a b : Bool} (h1 : Ev c A X env ρ e1 (.d (.bool a))) (h2 : a = false → Ev c A X env ρ e2 (.d (.bool b))) : Ev c A X env ρ (.BoolOp .Or [e1, e2] pos) (.d (.bool (a || b))) := fun s st => by
  refine BoolOp_or (wpAny_mono (h1 s st) (fun v s1 r1 => ?_) fun _ _ f => f)
  obtain ⟨r1, k1⟩ := r1; cases r1
  refine wpAny_truthy_bool ?_
  cases a with
  | true => exact ⟨.bool _, k1⟩
  | false => exact BoolOp_one (wpAny_mono (h2 rfl s1 (st.keep k1.kp)) (fun _ _ q => ⟨q.1, k1.trans q.2⟩) fun _ _ f => f)
theorem Ev.not {e : Expr} {pos : Pos} {p : Pd} {b : Bool} (h : Ev c A X env ρ e p) (ht : Tru c A p b) : Ev c A X env ρ (.UnaryOp .Not e pos) (.d (.bool (!b))) := fun s st => by
  refine UnaryOp_ (wpAny_mono (h s st) (fun v s1 r1 => ?_) fun _ _ f => f)
  refine not_of (wpAny_mono (ht X s1 v (st.keep r1.2.kp).bs r1.1) (fun b' s2 q => ?_) fun _ _ f => f)
  obtain ⟨rfl, k2⟩ := q
  exact ⟨.bool _, r1.2.trans k2⟩

-- built-in functions
theorem RelPL.one {h : Heap} {vs : List Value} {p : Pd} (r : RelPL X h vs [p]) : ∃ v, vs = [v] ∧ RelP X h v p := by
  cases vs with
  | nil => exact r.elim
  | cons v vs =>
    obtain ⟨r1, r2⟩ := r
    cases vs with
    | nil => exact ⟨v, rfl, r1⟩
    | cons _ _ => exact r2.elim
theorem RelPL.uncons {h : Heap} {vs : List Value} {p : Pd} {ps : List Pd} (r : RelPL X h vs (p :: ps)) : ∃ v ws, vs = v :: ws ∧ RelP X h v p ∧ RelPL X h ws ps := by
  cases vs with
  | nil => exact r.elim
  | cons v vs => exact ⟨v, vs, rfl, r.1, r.2⟩
theorem RelPL.two {h : Heap} {vs : List Value} {p q : Pd} (r : RelPL X h vs [p, q]) : ∃ v w, vs = [v, w] ∧ RelP X h v p ∧ RelP X h w q := by
  obtain ⟨v, ws, rfl, r1, r2⟩ := r.uncons
  obtain ⟨w, rfl, r3⟩ := r2.one
  exact ⟨v, w, rfl, r1, r3⟩
theorem Bf.len_list {xs : List PyData} (hsz : xs.length ≤ 100000) : Bf c A "len" [.l xs] (.d (.int xs.length)) := fun X s vs _ r => by
  obtain ⟨v, rfl, a, ws, rfl, hl, hr⟩ := r.one
  have e1 := hr.length
  simp only [Array.length_toList] at e1
  have e2 : (2 : Int) ^ 63 = 9223372036854775808 := by decide
  refine PyProof.Rows.len_list hl (by rw [e2]; omega) ⟨?_, Ks.toks s _⟩
  rw [e1]; exact .int _ _
theorem Bf.len_str {x : List Nat} (hsz : x.length ≤ 100000) : Bf c A "len" [.d (.str (S x))] (.d (.int x.length)) := fun X s vs _ r => by
  obtain ⟨v, rfl, r'⟩ := r.one
  cases r' with
  | str _ t =>
  refine PyProof.Rows.len_str (by simp; omega) ⟨?_, Ks.toks s _⟩
  rw [S_len]; exact .int _ _
end
end Mine
end

section
open PySem PySem.W PyProof.Rows PySem.SeqAt
open PySem.Builtin PySem.Builtin.Str
set_option Elab.async false
set_option maxRecDepth 100000
namespace Mine

section
variable {c : Cx} {A : Around} {X : List Addr} {env : Env} {ρ : List (Str × Pd)}

theorem Bf.startswith {x y : Str} : Bf c A "str.startswith" [.d (.str x), .d (.str y)] (.d (.bool (Txt.startswith x y))) := fun X s vs _ r => by
  obtain ⟨v, w, rfl, r1, r2⟩ := r.two
  cases r1; cases r2
  exact SC.startswith ⟨.bool _, Ks.refl s⟩
theorem Bf.endswith {x y : Str} : Bf c A "str.endswith" [.d (.str x), .d (.str y)] (.d (.bool (Txt.endswith x y))) := fun X s vs _ r => by
  obtain ⟨v, w, rfl, r1, r2⟩ := r.two
  cases r1; cases r2
  exact SC.endswith ⟨.bool _, Ks.refl s⟩
theorem Bf.find {x y : Str} : Bf c A "str.find" [.d (.str x), .d (.str y)] (.d (.int (Txt.find x y))) := fun X s vs _ r => by
  obtain ⟨v, w, rfl, r1, r2⟩ := r.two
  cases r1; cases r2
  exact SC.find ⟨.int _ _, Ks.toks s _⟩
theorem Bf.count {x y : Str} : Bf c A "str.count" [.d (.str x), .d (.str y)] (.d (.int (Txt.count x y))) := fun X s vs _ r => by
  obtain ⟨v, w, rfl, r1, r2⟩ := r.two
  cases r1; cases r2
  exact SC.count ⟨.int _ _, Ks.toks s _⟩

def find4 (x y : Str) (i j : Int) : Int := match occurrences x y (fromIndex x.length i) (min (fromIndex x.length j) x.length) 1 with | k :: _ => (k : Int) | [] => -1
theorem gives_find4 (x y : Str) (i j : Int) (t u v w : Tok) : Gives («str.find» ⟨[.str x t, .str y u, .int i v, .int j w], []⟩) (.int (find4 x y i j)) := by
  show Gives (match occurrences x y (fromIndex x.length i) (min (fromIndex x.length j) x.length) 1 with | k :: _ => retInt k | [] => (do rule "str.find.not-found"; retInt (-1))) _
  unfold find4
  cases occurrences x y (fromIndex x.length i) (min (fromIndex x.length j) x.length) 1 with
  | nil => exact .rule (.of_eq rfl)
  | cons k _ => exact .of_eq rfl
theorem Bf.find4 {x y : Str} {i j : Int} : Bf c A "str.find" [.d (.str x), .d (.str y), .d (.int i), .d (.int j)] (.d (.int (find4 x y i j))) := fun X s vs _ r => by
  obtain ⟨v, ws, rfl, r1, q1⟩ := r.uncons
  obtain ⟨v2, ws2, rfl, r2, q2⟩ := q1.uncons
  obtain ⟨v3, v4, rfl, r3, r4⟩ := q2.two
  cases r1 with | str _ t1 =>
  cases r2 with | str _ t2 =>
  cases r3 with | int _ t3 =>
  cases r4 with | int _ t4 =>
  have hp : (Made.int (Mine.find4 x y i j)).post (fun v s' => RelP X s'.heap v (Pd.d (PyData.int (Mine.find4 x y i j))) ∧ Ks s s') s := ⟨.int _ _, Ks.toks s _⟩
  exact call_gives F.slot_str_find (typeIs_str s x t1) F.entry_str_find (F.args_str_find_4 _ _ _ _) (gives_find4 x y i j t1 t2 t3 t4) hp

theorem Bf.lower {x : Str} (h : (Txt.lower x).length ≤ 100000) : Bf c A "str.lower" [.d (.str x)] (.d (.str (Txt.lower x))) := fun X s vs _ r => by
  obtain ⟨v, rfl, r1⟩ := r.one
  cases r1
  refine SC.lower ?_ ⟨.str _ _, Ks.toks s _⟩
  unfold tooLong; rw [sizeLine_eq]; simp; omega
theorem Bf.upper {x : Str} (h : (Txt.upper x).length ≤ 100000) : Bf c A "str.upper" [.d (.str x)] (.d (.str (Txt.upper x))) := fun X s vs _ r => by
  obtain ⟨v, rfl, r1⟩ := r.one
  cases r1
  refine SC.upper ?_ ⟨.str _ _, Ks.toks s _⟩
  unfold tooLong; rw [sizeLine_eq]; simp; omega

theorem RelL.strs {h : Heap} : ∀ {vs : List Value} {ys : List Str}, RelL X h vs (ys.map .str) → StrsAre vs ys
  | _, [], .nil => .nil
  | _, y :: ys, .cons a b => by
    cases a with
    | str _ t => exact .cons y t (RelL.strs b)
theorem Bf.join {x : Str} {ys : List Str} (h : (ys.map (·.length)).sum + ys.length * x.length ≤ 16777216) : Bf c A "str.join" [.d (.str x), .l (ys.map .str)] (.d (.str (Str.join x ys))) := fun X s vs _ r => by
  obtain ⟨v, w, rfl, r1, a, ws, rfl, hl, hr⟩ := r.two
  cases r1
  refine join_list hl (RelL.strs hr) h fun t' k => ⟨?_, Ks.toks s _⟩
  rw [show Txt.join x ys = Str.join x ys from StrLaws.glued_eq_join x ys]
  exact .str _ _

/-- t gives a list that is new -/
def GvN (c : Cx) (A : Around) (X : List Addr) (t : Sem Value) (ds : List PyData) (s : Shared) : Prop :=
  wpAny (model c.prog c.w) A t (fun v s' => ∃ a vs, v = .ref a ∧ s.heap.get? a = none ∧ s'.heap.PlainList a vs ∧ RelL (a :: X) s'.heap vs.toList ds ∧ Ks s s') (fun _ _ => False) s

theorem strValues_rel {h : Heap} : ∀ (l : List (Str × Tok)), RelL X h (strValues l) ((l.map (·.1)).map .str)
  | [] => .nil
  | (x, t) :: r => .cons (.str x t) (strValues_rel r)

theorem fresh_none (h : Heap) : h.get? h.objs.size = none := by
  cases e : h.get? h.objs.size with
  | none => rfl
  | some o => exact absurd (Heap.lt_size e) (Nat.lt_irrefl _)

theorem splitNew {x y : Str} {t u : Tok} {s : Shared} (hy : (y.length == 0) = false) (hx : x.length ≤ 100000) (hn : (partsBetween x (occurrences x y 0 x.length (x.length + 1)) y.length).length ≤ 100001) :
    GvN c A X (call (.builtin "str.split") [.str x t, .str y u]) ((Txt.split x y).map .str) s := by
  have fin : ∀ (l : List (Str × Tok)) k, l.map (·.1) = Txt.split x y →
      ∃ a vs, Value.ref s.heap.objs.size = .ref a ∧ s.heap.get? a = none ∧ (s.heap.push { cls := .type "list", data := .seq (strValues l).toArray }).PlainList a vs ∧
        RelL (a :: X) (s.heap.push { cls := .type "list", data := .seq (strValues l).toArray }) vs.toList ((Txt.split x y).map .str) ∧ Ks s { s with heap := s.heap.push { cls := .type "list", data := .seq (strValues l).toArray }, toks := k } := fun l k e =>
    ⟨_, (strValues l).toArray, rfl, fresh_none _, ⟨_, Heap.get?_push_size _ rfl⟩, by rw [← e]; simpa using strValues_rel l, Ks.push s _ k⟩
  have hsz : x.length ≤ sizeLine := by rw [sizeLine_eq]; omega
  have hsz2 : (partsBetween x (occurrences x y 0 x.length (x.length + 1)) y.length).length ≤ sizeLine := by rw [sizeLine_eq]; omega
  unfold GvN
  cases h1 : (decide (x.length < y.length) || decide (strKind x < strKind y))
  · cases hf : (occurrences x y 0 x.length (x.length + 1)).isEmpty
    · refine call_meets F.slot_str_split (typeIs_str _ _ _) F.entry_str_split (F.args_str_split_2 _ _) (meets_str_split_sep x y t u h1 hy hf hsz hsz2) ?_
      show wants _ _ _ { s with toks := _, heap := s.heap.push { cls := .type "list", data := .seq (strsFrom s.toks (partsBetween x (occurrences x y 0 x.length (x.length + 1)) y.length)).toArray } }
      rw [strsFrom_eq]
      exact fin (numbered s.toks _) _ ((numbered_texts _ _).trans ((if_neg (ne_true_of_eq_false h1)).trans (if_neg (ne_true_of_eq_false hf))).symm)
    · exact call_meets F.slot_str_split (typeIs_str _ _ _) F.entry_str_split (F.args_str_split_2 _ _) (meets_str_split_not_found x y t u h1 hy hf)
        (fin [(x, t)] s.toks ((if_neg (ne_true_of_eq_false h1)).trans (if_pos hf)).symm)
  · exact call_meets F.slot_str_split (typeIs_str _ _ _) F.entry_str_split (F.args_str_split_2 _ _) (meets_str_split_cannot_occur x y t u h1)
      (fin [(x, t)] s.toks (if_pos h1).symm)

theorem RelL.ints {h : Heap} : ∀ {vs : List Value} {ys : List Int}, RelL X h vs (ys.map .int) → IntsAre vs ys
  | _, [], .nil => .nil
  | _, y :: ys, .cons a b => by
    cases a with
    | int _ t => exact .cons y t (RelL.ints b)
end
end Mine
end

section
open PySem PySem.W PyProof.Rows PySem.SeqAt
set_option Elab.async false
set_option maxRecDepth 100000
namespace Mine

def FS (d : Data) : Prop := (∃ xs n, d = .seq xs n) ∨ ∃ vs, d = .fields vs

/-- kept but for wr -/
def Kb (wr : List Addr) (h h' : Heap) : Prop := ∀ b o, b ∉ wr → h.get? b = some o → h'.get? b = some o
theorem Kb.of_kp {wr : List Addr} {h h' : Heap} (k : Kp h h') : Kb wr h h' := fun b o _ e => k b o e
theorem Kb.trans {wr : List Addr} {h h' h'' : Heap} (a : Kb wr h h') (b : Kb wr h' h'') : Kb wr h h'' := fun c o hc e => b c o hc (a c o hc e)
theorem Kb.sk {wr X : List Addr} {h h' : Heap} (a : Kb wr h h') (hx : ∀ b ∈ wr, b ∈ X) : SK X h h' := fun b o _ _ e _ hb => a b o (fun h => hb (hx b h)) e

structure Itn (c : Cx) (A : Around) (X : List Addr) (target : Expr) (I : Addr) (wr fp : List Addr) (ds : List PyData) (gh : List (Value × PyData)) (St : Nat → Heap → Prop) : Prop where
  sub : ∀ b ∈ wr, b ∈ fp
  kind : ∀ i h, St i h → ∀ b ∈ fp, ∃ o, h.get? b = some o ∧ FS o.data
  frm : ∀ i h h', St i h → (∀ q ∈ gh, Rel X h' q.1 q.2) → (∀ b ∈ fp, ∀ o, h.get? b = some o → h'.get? b = some o) → St i h'
  ghost : ∀ i h, St i h → ∀ q ∈ gh, Rel X h q.1 q.2
  item : ∀ i d (s : Shared) (Q : Option Value → Shared → Prop) E, (∀ a ∈ X, a < s.heap.objs.size) → ds[i]? = some d → St i s.heap →
    (∀ v h' tk, Kb wr s.heap h' → (∀ (Q' : Unit → Shared → Prop), (∀ h'', St (i + 1) h'' → Kb wr h' h'' → Rel X h'' v d → Q' () { s with heap := h'', toks := tk }) →
      wpAny (model c.prog c.w) A (letOwnedTupleGo target (.ref I) v) Q' E { s with heap := h', toks := tk }) → Q (some v) { s with heap := h', toks := tk }) →
    wpAny (model c.prog c.w) A (pyNext (.ref I)) Q E s
  done : ∀ (s : Shared) (Q : Option Value → Shared → Prop) E, St ds.length s.heap → (∀ h' tk, Kb wr s.heap h' → Q none { s with heap := h', toks := tk }) → wpAny (model c.prog c.w) A (pyNext (.ref I)) Q E s
  self : ∀ i (s : Shared) (Q : Value → Shared → Prop) E, St i s.heap → Q (.ref I) s → wpAny (model c.prog c.w) A (pyIter (.ref I)) Q E s

theorem Itn.frame {c : Cx} {A : Around} {X : List Addr} {target : Expr} {I : Addr} {wr fp : List Addr} {ds : List PyData} {gh : List (Value × PyData)} {St : Nat → Heap → Prop} (It : Itn c A X target I wr fp ds gh St)
    (i : Nat) (h h' : Heap) (st : St i h) (sk : SK X h h') (hf : ∀ b ∈ fp, ∀ o, h.get? b = some o → h'.get? b = some o) : St i h' :=
  It.frm i h h' st (fun q hq => (It.ghost i h st q hq).keep sk) hf
theorem RelL.of_zip {X : List Addr} {h : Heap} : ∀ {vs : List Value} {ds : List PyData}, vs.length = ds.length → (∀ q ∈ vs.zip ds, Rel X h q.1 q.2) → RelL X h vs ds
  | [], [], _, _ => .nil
  | v :: vs, d :: ds, e, k => .cons (k (v, d) (by simp)) (RelL.of_zip (by simpa using e) fun q hq => k q (by simp [hq]))
  | [], _ :: _, e, _ => by simp at e
  | _ :: _, [], e, _ => by simp at e
theorem RelL.zip_all {X : List Addr} {h : Heap} : ∀ {vs : List Value} {ds : List PyData}, RelL X h vs ds → ∀ q ∈ vs.zip ds, Rel X h q.1 q.2
  | _, _, .nil, q, hq => by simp at hq
  | _, _, .cons a b, q, hq => by
    rw [List.zip_cons_cons] at hq
    rcases List.mem_cons.mp hq with e | hq
    · subst e; exact a
    · exact b.zip_all q hq

/-- an iterable expression and what is drawn of it -/
def IterE (c : Cx) (A : Around) (X : List Addr) (env : Env) (ρ : List (Str × Pd)) (iter target : Expr) (ds : List PyData) (g : Bool) : Prop :=
  ∀ s, StE c X env ρ s.heap → wpAny (model c.prog c.w) A (eval iter env) (fun xv s1 => Ks s s1 ∧ wpAny (model c.prog c.w) A (pyIter xv) (fun it s2 => Ks s s2 ∧
    ∃ I wr fp, it = .ref I ∧ (∀ b ∈ wr, s.heap.get? b = none) ∧ (∀ b ∈ fp, b < s2.heap.objs.size) ∧ (g = true → ∀ b ∈ fp, b ∉ X) ∧
      ∀ Y, (∀ a ∈ wr, a ∈ Y) → (∀ a ∈ Y, a ∈ X ∨ a ∈ wr ∨ s2.heap.get? a = none) → ∃ gh St, Itn c A Y target I wr fp ds gh St ∧ St 0 s2.heap) (fun _ _ => False) s1) (fun _ _ => False) s

def isTarget : Expr → Bool
  | .Name .. => true
  | .Tuple .. => true
  | _ => false

section
variable {c : Cx} {A : Around} {X : List Addr} {env : Env} {ρ : List (Str × Pd)}

theorem letGo_listiter {target : Expr} {s : Shared} {I l : Addr} {i : Nat} {v : Value} {Q : Unit → Shared → Prop} {E} (ht : isTarget target = true) (hit : s.heap.IsListIter I l i) (h : Q () s) :
    wpAny (model c.prog c.w) A (letOwnedTupleGo target (.ref I) v) Q E s := by
  cases target <;> simp [isTarget] at ht
  case Name => exact wpAny_pure h
  case Tuple elts k pos =>
    cases v <;> first | exact wpAny_letOwnedTupleGo_listiter hit h | (unfold letOwnedTupleGo; exact wpAny_pure h)

theorem Itn.list {Y : List Addr} {target : Expr} {I ax : Addr} {items : Array Value} {ds : List PyData} (hh : A.handled = none) (ht : isTarget target = true) (hne : ax ≠ I) (hI : I ∈ Y) :
    Itn c A Y target I [I] [I, ax] ds (items.toList.zip ds) (fun i h => (h.IsListIter I ax i ∧ h.IsList ax items) ∧ RelL Y h items.toList ds) where
  sub := fun b hb => by simp at hb; simp [hb]
  kind := fun i h st b hb => by
    obtain ⟨⟨⟨o, e, _, d⟩, ⟨o2, e2, _, n, d2⟩⟩, _⟩ := st
    simp at hb
    rcases hb with rfl | rfl
    · exact ⟨o, e, .inr ⟨_, d⟩⟩
    · exact ⟨o2, e2, .inl ⟨_, _, d2⟩⟩
  frm := fun i h h' st hk hf => ⟨(Walks.list (prog := c.prog) (w := c.w) (A := A) hh I ax hne items).frame i h h' st.1 hf, RelL.of_zip st.2.length hk⟩
  ghost := fun i h st => st.2.zip_all
  item := fun i d s Q E _ hd st hQ => by
    obtain ⟨v, hv, hr⟩ := st.2.get i d hd
    have hlt : i < items.size := by
      rcases Nat.lt_or_ge i items.size with h | h
      · exact h
      · rw [List.getElem?_eq_none (by simpa using h)] at hv; cases hv
    refine (Walks.list (prog := c.prog) (w := c.w) (A := A) hh I ax hne items).item i s Q E hlt st.1 fun v' h' tk hP hst hk => ?_
    have e : v' = v := by
      have : items.toList[i]? = some v' := by simpa using hP
      rw [hv] at this; exact (Option.some.inj this).symm
    subst e
    have hsk : SK Y s.heap h' := Kb.sk (wr := [I]) hk (by simpa using hI)
    refine hQ v' h' tk hk fun Q' hQ' => ?_
    refine letGo_listiter ht hst.1 (hQ' h' ⟨hst, st.2.keep hsk⟩ (fun _ _ _ e => e) (hr.keep hsk))
  done := fun s Q E st hQ => by
    have e := st.2.length
    simp only [Array.length_toList] at e
    refine (Walks.list (prog := c.prog) (w := c.w) (A := A) hh I ax hne items).done s Q E (by rw [e]; exact st.1) fun h' tk hk => hQ h' tk hk
  self := fun i s Q E st hQ => (Walks.list (prog := c.prog) (w := c.w) (A := A) hh I ax hne items).self i s Q E st.1 hQ

theorem iterList {target : Expr} {ds : List PyData} {s s1 : Shared} {a : Addr} {vs : Array Value} {g : Bool} (hb : Bs c X s.heap) (k1 : Ks s s1) (hl : s1.heap.IsList a vs) (hr : RelL X s1.heap vs.toList ds) (hh : A.handled = none) (ht : isTarget target = true) (hg : g = true → a ∉ X) :
    wpAny (model c.prog c.w) A (pyIter (.ref a)) (fun it s2 => Ks s s2 ∧
    ∃ I wr fp, it = .ref I ∧ (∀ b ∈ wr, s.heap.get? b = none) ∧ (∀ b ∈ fp, b < s2.heap.objs.size) ∧ (g = true → ∀ b ∈ fp, b ∉ X) ∧
      ∀ Y, (∀ a ∈ wr, a ∈ Y) → (∀ a ∈ Y, a ∈ X ∨ a ∈ wr ∨ s2.heap.get? a = none) → ∃ gh St, Itn c A Y target I wr fp ds gh St ∧ St 0 s2.heap) (fun _ _ => False) s1 := by
  have hI : s.heap.get? s1.heap.objs.size = none := by
    cases e : s.heap.get? s1.heap.objs.size with
    | none => rfl
    | some o => exact absurd (Heap.lt_size (k1.kp _ _ e)) (Nat.lt_irrefl _)
  refine wpAny_pyIter_list hl ⟨k1.trans (Ks.push s1 _ s1.toks), s1.heap.objs.size, [s1.heap.objs.size], [s1.heap.objs.size, a], rfl, ?_, ?_, ?_, fun Y hw hY => ?_⟩
  · intro b hb
    simp at hb; subst hb
    exact hI
  · intro b hb
    obtain ⟨o, e, _⟩ := hl
    have := Heap.lt_size e
    simp at hb
    rw [Heap.size_push]
    rcases hb with h | h
    · rw [h]; exact Nat.lt_succ_self _
    · rw [h]; exact Nat.lt_succ_of_lt this
  · intro hgt b hb'
    simp at hb'
    rcases hb' with h | h
    · rw [h]; intro hx; obtain ⟨o, e⟩ := hb.live _ hx; rw [hI] at e; cases e
    · rw [h]; exact hg hgt
  · obtain ⟨o, e, _⟩ := id hl
    have hlt := Heap.lt_size e
    refine ⟨_, _, Itn.list (items := vs) hh ht (Nat.ne_of_lt hlt) (hw _ (by simp)), ⟨⟨_, Heap.get?_push_size _ rfl, rfl, rfl⟩, hl.push _⟩, ?_⟩
    refine RelL.keep (.of_kp fun _ _ e => Heap.get?_push_of_some _ e) (RelL.more (fun b hb => ?_) hr)
    rcases hY b hb with h | h | h
    · exact .inl h
    · simp at h; subst h; exact .inr (fresh_none _)
    · refine .inr ?_
      cases e : s1.heap.get? b with
      | none => rfl
      | some o =>
        have h2 := Heap.get?_push_of_some { cls := .type "list_iterator", data := .fields #[.ref a, .int 0 0] } e
        have h3 : (s1.heap.push { cls := .type "list_iterator", data := .fields #[.ref a, .int 0 0] }).get? b = none := h
        rw [h2] at h3; cases h3

theorem IterE.list {iter target : Expr} {ds : List PyData} (h : Ev c A X env ρ iter (.l ds)) (hh : A.handled = none) (ht : isTarget target = true) : IterE c A X env ρ iter target ds false := fun s st => by
  refine wpAny_mono (h s st) (fun xv s1 r1 => ?_) fun _ _ f => f
  obtain ⟨⟨a, vs, rfl, hl, hr⟩, k1⟩ := r1
  exact ⟨k1, iterList st.bs k1 hl hr hh ht (fun h => by cases h)⟩
theorem IterE.listD {iter target : Expr} {ds : List PyData} {g : Bool} (h : Ev c A X env ρ iter (.d (.list ds))) (hh : A.handled = none) (ht : isTarget target = true) : IterE c A X env ρ iter target ds g := fun s st => by
  refine wpAny_mono (h s st) (fun xv s1 r1 => ?_) fun _ _ f => f
  obtain ⟨r1, k1⟩ := r1
  cases r1 with
  | list hx hl hr => exact ⟨k1, iterList st.bs k1 hl.isList hr hh ht (fun _ => hx)⟩

/-- ranges -/
def rng (a : Int) (n : Nat) : List PyData := (List.range n).map fun (i : Nat) => PyData.int (a + (i : Int))
theorem rng_length (a : Int) (n : Nat) : (rng a n).length = n := by simp [rng]

theorem Itn.range {Y : List Addr} {x : Str} {px : Pos} {I : Addr} {a : Int} {n : Nat} (hh : A.handled = none) :
    Itn c A Y (.Name x px) I [I] [I] (rng a n) [] (fun i h => IsRangeIter h I (a + (i : Nat) * 1) ((n : Int) - (i : Nat)) 1) where
  sub := fun b hb => hb
  kind := fun i h st b hb => by simp at hb; subst hb; exact ⟨_, st, .inr ⟨_, rfl⟩⟩
  frm := fun i h h' st _ hf => hf I (by simp) _ st
  ghost := fun i h st q hq => by cases hq
  item := fun i d s Q E _ hd st hQ => by
    have hlt : i < n := by
      rcases Nat.lt_or_ge i n with h | h
      · exact h
      · rw [List.getElem?_eq_none (by simpa [rng] using h)] at hd; cases hd
    have hd' : d = .int (a + (i : Int)) := by
      simp [rng, hlt] at hd; exact hd.symm
    refine (Walks.range (prog := c.prog) (w := c.w) (A := A) hh I a 1 n).item i s Q E hlt st fun v' h' tk hP hst hk => ?_
    obtain ⟨t, rfl⟩ := hP
    refine hQ _ h' tk hk fun Q' hQ' => ?_
    refine wpAny_pure (hQ' h' hst (fun _ _ _ e => e) ?_)
    subst hd'
    rw [Int.mul_one]; exact .int _ _
  done := fun s Q E st hQ => by
    rw [rng_length] at st
    exact (Walks.range (prog := c.prog) (w := c.w) (A := A) hh I a 1 n).done s Q E st fun h' tk hk => hQ h' tk hk
  self := fun i s Q E st hQ => (Walks.range (prog := c.prog) (w := c.w) (A := A) hh I a 1 n).self i s Q E st hQ

theorem rangeSize_is (a b : Int) : Builtin.Range.rangeSize a b 1 = ((b - a).toNat : Int) := by
  unfold Builtin.Range.rangeSize
  simp only [show (1 : Int) > 0 by decide, if_true]
  split
  · rw [Int.ediv_one]; omega
  · omega
theorem range_small {a b : Int} (ha : -1000000 ≤ a) (hb : b ≤ 1000000) (ha' : a ≤ 1000000) (hb' : -1000000 ≤ b) : Builtin.Range.small a b 1 = true := by
  have e : (2 : Int) ^ 63 = 9223372036854775808 := by decide
  unfold Builtin.Range.small
  rw [rangeSize_is]
  simp only [Builtin.Range.rangeFitsLong, e, Bool.and_eq_true, Bool.or_eq_true, decide_eq_true_eq, show (1 : Int) > 0 by decide, if_true]
  omega

theorem rangeItn {s s1 : Shared} {g : Bool} {r : Addr} {a b : Int} {t u v : Tok} {x : Str} {px : Pos} (hh : A.handled = none) (hbs : Bs c X s.heap) (k1 : Ks s s1) (hr : IsRange s1.heap r a b 1 t u v) (ha : -1000000 ≤ a) (hb : b ≤ 1000000) (ha' : a ≤ 1000000) (hb' : -1000000 ≤ b) :
    wpAny (model c.prog c.w) A (pyIter (.ref r)) (fun it s2 => Ks s s2 ∧
    ∃ I wr fp, it = .ref I ∧ (∀ b ∈ wr, s.heap.get? b = none) ∧ (∀ b ∈ fp, b < s2.heap.objs.size) ∧ (g = true → ∀ b ∈ fp, b ∉ X) ∧
      ∀ Y, (∀ a ∈ wr, a ∈ Y) → (∀ a ∈ Y, a ∈ X ∨ a ∈ wr ∨ s2.heap.get? a = none) → ∃ gh St, Itn c A Y (.Name x px) I wr fp (rng a (b - a).toNat) gh St ∧ St 0 s2.heap) (fun _ _ => False) s1 := by
  refine wpAny_pyIter_range hr (range_small ha hb ha' hb') ⟨k1.trans (Ks.push s1 _ s1.toks), s1.heap.objs.size, [s1.heap.objs.size], [s1.heap.objs.size], rfl, ?_, ?_, ?_, fun Y hw hY => ?_⟩
  · intro b hb
    simp at hb; subst hb
    cases e : s.heap.get? s1.heap.objs.size with
    | none => rfl
    | some o => exact absurd (Heap.lt_size (k1.kp _ _ e)) (Nat.lt_irrefl _)
  · intro b hb
    simp at hb
    rw [Heap.size_push, hb]; omega
  · intro _ b hb'
    simp at hb'
    rw [hb']; intro hx; obtain ⟨o, e⟩ := hbs.live _ hx
    exact absurd (Heap.lt_size (k1.kp _ _ e)) (Nat.lt_irrefl _)
  · refine ⟨_, _, Itn.range (a := a) (n := (b - a).toNat) hh, ?_⟩
    have e2 : a + ((0 : Nat) : Int) * 1 = a := by omega
    have e3 : (((b - a).toNat : Nat) : Int) - ((0 : Nat) : Int) = Builtin.Range.rangeSize a b 1 := by rw [rangeSize_is]; omega
    show IsRangeIter _ _ (a + ((0 : Nat) : Int) * 1) ((((b - a).toNat : Nat) : Int) - ((0 : Nat) : Int)) 1
    rw [e2, e3]
    exact Heap.get?_push_size _ rfl

/-- the name of a type among the built-ins -/
theorem IterE.range1 {g : Bool} {f : Str} {fp pos : Pos} {e : Expr} {n : Int} {x : Str} {px : Pos} (hk : env.kindOf f = some .globalImplicit) (hm : c.mg f = none) (hb : c.mb f = some (.type "range")) (hh : A.handled = none)
    (he : Ev c A X env ρ e (.d (.int n))) (hn : n ≤ 1000000) (hn' : -1000000 ≤ n)
    (hs : starEach [e] env = [(false, eval e env)] := by rfl) (hd : (f == ("__debug__" : Str)) = false := by decide) :
    IterE c A X env ρ (.Call (.Name f fp) [e] [] pos) (.Name x px) (rng 0 n.toNat) g := fun s st => by
  refine Call_ (ldBui st hk hm hb ?_ hd) rfl
  have hL : EvL c A X env ρ [e] [.d (.int n)] := ⟨hs, he, trivial⟩
  refine callWith_type1 (wpAny_mono (hL.run s st) (fun vs s1 r1 => ?_) fun _ _ f => f) hs rfl
  obtain ⟨v, rfl, r⟩ := r1.1.one
  cases r with
  | int _ t =>
  refine call_range_1 ⟨r1.2.trans (Ks.push s1 _ _), ?_⟩
  have := rangeItn (c := c) (X := X) (g := g) (x := x) (px := px) (a := 0) (b := n) hh st.bs (r1.2.trans (Ks.push s1 { cls := .type "range", data := .fields #[.int 0 s1.toks, .int n t, .int 1 (s1.toks + 1)] } (s1.toks + 1 + 1))) (Heap.get?_push_size _ rfl) (by omega) hn (by omega) hn'
  rw [Int.sub_zero] at this
  exact this
theorem IterE.range2 {g : Bool} {f : Str} {fp pos : Pos} {e1 e2 : Expr} {a b : Int} {x : Str} {px : Pos} (hk : env.kindOf f = some .globalImplicit) (hm : c.mg f = none) (hb : c.mb f = some (.type "range")) (hh : A.handled = none)
    (he1 : Ev c A X env ρ e1 (.d (.int a))) (he2 : Ev c A X env ρ e2 (.d (.int b))) (h1 : -1000000 ≤ a) (h2 : b ≤ 1000000) (h3 : a ≤ 1000000) (h4 : -1000000 ≤ b)
    (hs : starEach [e1, e2] env = [(false, eval e1 env), (false, eval e2 env)] := by rfl) (hs2 : starEach [e2] env = [(false, eval e2 env)] := by rfl) (hd : (f == ("__debug__" : Str)) = false := by decide) :
    IterE c A X env ρ (.Call (.Name f fp) [e1, e2] [] pos) (.Name x px) (rng a (b - a).toNat) g := fun s st => by
  refine Call_ (ldBui st hk hm hb ?_ hd) rfl
  have hL : EvL c A X env ρ [e1, e2] [.d (.int a), .d (.int b)] := ⟨by rw [hs, hs2], he1, hs2, he2, trivial⟩
  refine callWith_type1 (wpAny_mono (hL.run s st) (fun vs s1 r1 => ?_) fun _ _ f => f) (by rw [hs, hs2]) (by rw [hs2]; rfl)
  obtain ⟨v, w, rfl, q1, q2⟩ := r1.1.two
  cases q1 with
  | int _ t =>
  cases q2 with
  | int _ u =>
  refine call_range_2 ⟨r1.2.trans (Ks.push s1 _ _), ?_⟩
  exact rangeItn (X := X) (x := x) (px := px) (a := a) (b := b) hh st.bs (r1.2.trans (Ks.push s1 { cls := .type "range", data := .fields #[.int a t, .int b u, .int 1 s1.toks] } (s1.toks + 1))) (Heap.get?_push_size _ rfl) h1 h2 h3 h4

/-- zip of two lists -/
def zipT (xs ys : List PyData) : List PyData := List.zipWith (fun a b => PyData.tuple [a, b]) xs ys
theorem zipT_length (xs ys : List PyData) : (zipT xs ys).length = min xs.length ys.length := by simp [zipT]
theorem zipT_get {xs ys : List PyData} {i : Nat} {d : PyData} (h : (zipT xs ys)[i]? = some d) : ∃ a b, xs[i]? = some a ∧ ys[i]? = some b ∧ d = .tuple [a, b] := by
  unfold zipT at h
  rw [List.getElem?_zipWith] at h
  cases h1 : xs[i]? with
  | none => rw [h1] at h; simp at h
  | some a =>
    cases h2 : ys[i]? with
    | none => rw [h1, h2] at h; simp at h
    | some b => rw [h1, h2] at h; simp at h; exact ⟨a, b, rfl, rfl, h.symm⟩

def ZSt (z TI TO i1 i2 l1 l2 : Addr) (xs ys : Array Value) (i : Nat) (h : Heap) : Prop :=
  IsZip h z TI TO .none ∧ IsPair h TI (.ref i1) (.ref i2) ∧ (∃ a b, IsPair h TO a b) ∧ h.IsListIter i1 l1 i ∧ h.IsListIter i2 l2 i ∧ h.IsList l1 xs ∧ h.IsList l2 ys

theorem Itn.zip {Y : List Addr} {elts : List Expr} {k : Nat} {tp : Pos} {z TI TO i1 i2 l1 l2 : Addr} {xs ys : Array Value} {dx dy : List PyData} (hh : A.handled = none) (D : ZipApart z TI TO i1 i2 l1 l2)
    (hY : ∀ a ∈ [z, TO, i1, i2], a ∈ Y) :
    Itn c A Y (.Tuple elts k tp) z [z, TO, i1, i2] [z, TI, TO, i1, i2, l1, l2] (zipT dx dy) (xs.toList.zip dx ++ ys.toList.zip dy) (fun i h => ZSt z TI TO i1 i2 l1 l2 xs ys i h ∧ RelL Y h xs.toList dx ∧ RelL Y h ys.toList dy) where
  sub := (WalksT.zip2 (prog := c.prog) (w := c.w) (A := A) hh z TI TO i1 i2 l1 l2 D xs ys).sub
  kind := fun i h st b hb => by
    obtain ⟨⟨hz, hTI, ⟨a, b', hTO⟩, ⟨o1, e1, _, d1⟩, ⟨o2, e2, _, d2⟩, ⟨o3, e3, _, n3, d3⟩, ⟨o4, e4, _, n4, d4⟩⟩, _⟩ := st
    simp at hb
    rcases hb with rfl | rfl | rfl | rfl | rfl | rfl | rfl
    · exact ⟨_, hz, .inr ⟨_, rfl⟩⟩
    · exact ⟨_, hTI, .inl ⟨_, _, rfl⟩⟩
    · exact ⟨_, hTO, .inl ⟨_, _, rfl⟩⟩
    · exact ⟨_, e1, .inr ⟨_, d1⟩⟩
    · exact ⟨_, e2, .inr ⟨_, d2⟩⟩
    · exact ⟨_, e3, .inl ⟨_, _, d3⟩⟩
    · exact ⟨_, e4, .inl ⟨_, _, d4⟩⟩
  frm := fun i h h' st hk hf => ⟨(WalksT.zip2 (prog := c.prog) (w := c.w) (A := A) hh z TI TO i1 i2 l1 l2 D xs ys).frame i h h' st.1 hf,
    RelL.of_zip st.2.1.length fun q hq => hk q (List.mem_append.mpr (.inl hq)), RelL.of_zip st.2.2.length fun q hq => hk q (List.mem_append.mpr (.inr hq))⟩
  ghost := fun i h st q hq => (List.mem_append.mp hq).elim (st.2.1.zip_all q) (st.2.2.zip_all q)
  item := fun i d s Q E hlive hd st hQ => by
    obtain ⟨a, b, ha, hb, rfl⟩ := zipT_get hd
    obtain ⟨va, hva, hra⟩ := st.2.1.get i a ha
    obtain ⟨vb, hvb, hrb⟩ := st.2.2.get i b hb
    have h1 : i < xs.size := by
      rcases Nat.lt_or_ge i xs.size with h | h
      · exact h
      · rw [List.getElem?_eq_none (by simpa using h)] at hva; cases hva
    have h2 : i < ys.size := by
      rcases Nat.lt_or_ge i ys.size with h | h
      · exact h
      · rw [List.getElem?_eq_none (by simpa using h)] at hvb; cases hvb
    refine (WalksT.zip2 (prog := c.prog) (w := c.w) (A := A) hh z TI TO i1 i2 l1 l2 D xs ys).item i s Q E (by omega) st.1 fun T vals h' tk hP hT hIT hMid hk => ?_
    obtain ⟨x, y, hx, hy, rfl⟩ := hP
    have ex : x = va := by have : xs.toList[i]? = some x := by simpa using hx
                           rw [hva] at this; exact (Option.some.inj this).symm
    have ey : y = vb := by have : ys.toList[i]? = some y := by simpa using hy
                           rw [hvb] at this; exact (Option.some.inj this).symm
    subst ex ey
    have hTY : T ∉ Y := fun hm => Nat.lt_irrefl _ (Nat.lt_of_lt_of_le (hlive T hm) hT)
    refine hQ _ h' tk hk fun Q' hQ' => ?_
    have hT' := (WalksT.zip2 (prog := c.prog) (w := c.w) (A := A) hh z TI TO i1 i2 l1 l2 D xs ys).apart i T h' hMid
    refine (WalksT.zip2 (prog := c.prog) (w := c.w) (A := A) hh z TI TO i1 i2 l1 l2 D xs ys).go elts k tp i T _ Q' E hMid fun h'' hst hk'' => ?_
    have sk1 : SK Y s.heap h'' := (Kb.sk (wr := [z, TO, i1, i2]) hk hY).trans (Kb.sk (wr := [z, TO, i1, i2]) hk'' hY)
    refine hQ' h'' ⟨hst, st.2.1.keep sk1, st.2.2.keep sk1⟩ hk'' ?_
    refine .tuple hTY (hIT.at fun o e => hk'' _ _ hT' e) ?_
    exact .cons (hra.keep sk1) (.cons (hrb.keep sk1) .nil)
  done := fun s Q E st hQ => by
    have e1 := st.2.1.length
    have e2 := st.2.2.length
    simp only [Array.length_toList] at e1 e2
    rw [zipT_length, ← e1, ← e2] at st
    exact (WalksT.zip2 (prog := c.prog) (w := c.w) (A := A) hh z TI TO i1 i2 l1 l2 D xs ys).done s Q E st.1 fun h' tk hk => hQ h' tk hk
  self := fun i s Q E st hQ => (WalksT.zip2 (prog := c.prog) (w := c.w) (A := A) hh z TI TO i1 i2 l1 l2 D xs ys).self i s Q E st.1 hQ

theorem none_of_kp {h h' : Heap} (k : Kp h h') {b : Addr} (e : h'.get? b = none) : h.get? b = none := by
  cases e' : h.get? b with
  | none => rfl
  | some o => rw [k _ _ e'] at e; cases e
theorem none_of_le {h : Heap} {b : Addr} (hb : h.objs.size ≤ b) : h.get? b = none := by
  cases e : h.get? b with
  | none => rfl
  | some o => exact absurd (Heap.lt_size e) (Nat.not_lt.mpr hb)

theorem IterE.zip {g : Bool} {f : Str} {fp pos : Pos} {e1 e2 : Expr} {xs ys : List PyData} {elts : List Expr} {k : Nat} {tp : Pos} (hk : env.kindOf f = some .globalImplicit) (hm : c.mg f = none) (hb : c.mb f = some (.type "zip")) (hh : A.handled = none)
    (he1 : Ev c A X env ρ e1 (.d (.list xs))) (he2 : Ev c A X env ρ e2 (.d (.list ys)))
    (hs : starEach [e1, e2] env = [(false, eval e1 env), (false, eval e2 env)] := by rfl) (hs2 : starEach [e2] env = [(false, eval e2 env)] := by rfl) (hd : (f == ("__debug__" : Str)) = false := by decide) :
    IterE c A X env ρ (.Call (.Name f fp) [e1, e2] [] pos) (.Tuple elts k tp) (zipT xs ys) g := fun s st => by
  refine Call_ (ldBui st hk hm hb ?_ hd) rfl
  have hL : EvL c A X env ρ [e1, e2] [.d (.list xs), .d (.list ys)] := ⟨by rw [hs, hs2], he1, hs2, he2, trivial⟩
  refine callWith_type1 (wpAny_mono (hL.run s st) (fun vs s1 r1 => ?_) fun _ _ f => f) (by rw [hs, hs2]) (by rw [hs2]; rfl)
  obtain ⟨v, w, rfl, q1, q2⟩ := r1.1.two
  cases q1 with
  | @list a1 vs1 _ hx1 hp1 hr1 =>
  cases q2 with
  | @list a2 vs2 _ hx2 hp2 hr2 =>
  have hl1 := hp1.isList
  have hl2 := hp2.isList
  have lt1 : @LT.lt Nat _ a1 s1.heap.objs.size := by obtain ⟨o, e, _⟩ := hl1; exact Heap.lt_size e
  have lt2 : @LT.lt Nat _ a2 s1.heap.objs.size := by obtain ⟨o, e, _⟩ := hl2; exact Heap.lt_size e
  have old : ∀ n, s.heap.get? (s1.heap.objs.size + n) = none := fun n => none_of_kp r1.2.kp (none_of_le (Nat.le_add_right _ _))
  refine call_zip_2 hl1 hl2 fun h' hz hTI hTO hi1 hi2 hsz hkp => ⟨r1.2.trans ⟨h', s1.toks, rfl, hkp⟩, ?_⟩
  refine wpAny_pyIter_zip hz ⟨r1.2.trans ⟨h', s1.toks, rfl, hkp⟩, s1.heap.objs.size + 4, [s1.heap.objs.size + 4, s1.heap.objs.size + 3, s1.heap.objs.size, s1.heap.objs.size + 1],
    [s1.heap.objs.size + 4, s1.heap.objs.size + 2, s1.heap.objs.size + 3, s1.heap.objs.size, s1.heap.objs.size + 1, a1, a2], rfl, ?_, ?_, ?_, fun Y hw hY => ?_⟩
  · intro b hb
    simp at hb
    rcases hb with rfl | rfl | rfl | rfl
    · exact old 4
    · exact old 3
    · exact old 0
    · exact old 1
  · intro b hb
    simp at hb
    show @LT.lt Nat _ b h'.objs.size
    rw [hsz]
    rcases hb with h | h | h | h | h | h | h <;> rw [h] <;> omega
  · intro _ b hb'
    simp at hb'
    have nx : ∀ n, s1.heap.objs.size + n ∉ X := fun n hx => by obtain ⟨o, e⟩ := st.bs.live _ hx; rw [old n] at e; cases e
    rcases hb' with h | h | h | h | h | h | h <;> rw [h]
    · exact nx 4
    · exact nx 2
    · exact nx 3
    · exact nx 0
    · exact nx 1
    · exact hx1
    · exact hx2
  · have D : ZipApart (s1.heap.objs.size + 4) (s1.heap.objs.size + 2) (s1.heap.objs.size + 3) s1.heap.objs.size (s1.heap.objs.size + 1) a1 a2 := by
      constructor <;> (first | exact @Nat.ne_of_lt _ _ (by omega) | exact @Nat.ne_of_gt _ _ (by omega))
    have hY1 : ∀ b ∈ Y, b ∈ X ∨ s1.heap.get? b = none := fun b hb => by
      rcases hY b hb with h | h | h
      · exact .inl h
      · refine .inr (none_of_le ?_)
        simp at h
        rcases h with h | h | h | h <;> rw [h] <;> omega
      · exact .inr (none_of_kp hkp h)
    refine ⟨_, _, Itn.zip (xs := vs1) (ys := vs2) hh D hw, ⟨hz, hTI, ⟨_, _, hTO⟩, hi1, hi2, hl1.at fun o e => hkp _ _ e, hl2.at fun o e => hkp _ _ e⟩, ?_, ?_⟩
    · exact RelL.keep (.of_kp hkp) (RelL.more hY1 hr1)
    · exact RelL.keep (.of_kp hkp) (RelL.more hY1 hr2)
end
end Mine
end

section
open PySem PySem.W PyProof.Rows PySem.SeqAt
set_option Elab.async false
set_option maxRecDepth 100000
namespace Mine

/-- a target takes a datum in a comprehension's own frame -/
def AsgC (c : Cx) (A : Around) (X : List Addr) (cenv : Env) (target : Expr) (d : PyData) (ρt : List (Str × Pd)) : Prop :=
  ∀ (s : Shared) m v (Q : Unit → Shared → Prop) E, (∀ a ∈ X, a < s.heap.objs.size) → s.heap.Ns cenv.locals m → Rel X s.heap v d →
    (∀ h' tk m', (∀ b o, b ≠ cenv.locals → s.heap.get? b = some o → h'.get? b = some o) → h'.Ns cenv.locals m' → (∀ x p, (x, p) ∈ ρt → ∃ v, m' x = some v ∧ RelP X h' v p) → Q () { s with heap := h', toks := tk }) →
    wpAny (model c.prog c.w) A (assign target cenv v) Q E s

section
variable {c : Cx} {A : Around} {X : List Addr} {env cenv : Env} {ρ : List (Str × Pd)}

theorem AsgC.name {x : Str} {px : Pos} {d : PyData} (hx : cenv.kindOf x = some .local) (hk : cenv.scope.kind = .function) : AsgC c A X cenv (.Name x px) d [(x, .d d)] := fun s m v Q E _ hn hr hQ => by
  refine wpAny_assign_Name (wpAny_storeName_local hx hn (fun h' hn' hs' => ?_) (by rw [hk]; rfl))
  refine hQ h' _ _ (fun b o hb e => hs'.extBut b o hb e) hn' fun y p hy => ?_
  simp at hy
  obtain ⟨rfl, rfl⟩ := hy
  exact ⟨v, by simp, hr.keep (.of_ns hn hs')⟩

theorem AsgC.pair {x y : Str} {px py tp : Pos} {k : Nat} {d e : PyData} (hh : A.handled = none) (hx : cenv.kindOf x = some .local) (hy : cenv.kindOf y = some .local) (hk : cenv.scope.kind = .function) (hxy : x ≠ y) :
    AsgC c A X cenv (.Tuple [.Name x px, .Name y py] k tp) (.tuple [d, e]) [(x, .d d), (y, .d e)] := fun s m v Q E hlive hn hr hQ => by
  cases hr with
  | @tuple a vs _ hxa ht hrr =>
  obtain ⟨vl⟩ := vs
  obtain ⟨v1, vl2, rfl⟩ : ∃ v1 vl2, vl = v1 :: vl2 := by cases hrr with | cons a b => exact ⟨_, _, rfl⟩
  cases hrr with
  | cons r1 hrr2 =>
  obtain ⟨v2, vl3, rfl⟩ : ∃ v2 vl3, vl2 = v2 :: vl3 := by cases hrr2 with | cons a b => exact ⟨_, _, rfl⟩
  cases hrr2 with
  | cons r2 hrr3 =>
  have : vl3 = [] := by cases hrr3; rfl
  subst this
  refine wpAny_assign_Tuple hh ht rfl rfl fun h1 hs1 => ?_
  have k1 : Kp s.heap h1 := fun b o e => hs1 b o (Nat.ne_of_lt (Heap.lt_size e)) e
  show wpAny _ A (holding [v2] (assign (.Name x px) cenv v1) >>= fun _ => (holding [] (assign (.Name y py) cenv v2) >>= fun _ => pure ())) Q E _
  refine wpAny_bind (wpAny_holding (wpAny_assign_Name (wpAny_storeName_local hx (hn.keeps k1) (fun h2 hn2 hs2 => ?_) (by rw [hk]; rfl))))
  refine wpAny_bind (wpAny_holding (wpAny_assign_Name (wpAny_storeName_local hy hn2 (fun h3 hn3 hs3 => wpAny_pure ?_) (by rw [hk]; rfl))))
  have sk : SK X s.heap h3 := ((SK.of_kp k1).trans (.of_ns (hn.keeps k1) hs2)).trans (.of_ns hn2 hs3)
  refine hQ h3 _ _ (fun b o hb e => hs3.extBut b o hb (hs2.extBut b o hb (k1 b o e))) hn3 fun z p hz => ?_
  simp at hz
  rcases hz with ⟨rfl, rfl⟩ | ⟨rfl, rfl⟩
  · exact ⟨v1, by simp [hxy], r1.keep sk⟩
  · exact ⟨v2, by simp, r2.keep sk⟩

/-- the tests of a clause -/
def TstC (c : Cx) (A : Around) (X : List Addr) (cenv : Env) (ρ : List (Str × Pd)) (ifs : List Expr) (b : Bool) : Prop :=
  ∀ (s : Shared), StE c X cenv ρ s.heap →
    wpAny (model c.prog c.w) A (forIn ifs true fun e r => if r = true then do let ok ← isTrue e cenv (eval e cenv); pure (ForInStep.yield ok) else pure (ForInStep.yield r)) (fun ok s' => ok = b ∧ Ks s s') (fun _ _ => False) s
theorem TstC.nil : TstC c A X cenv ρ [] true := fun s _ => wpAny_tests_nil ⟨rfl, Ks.refl s⟩
theorem TstC.one {e : Expr} {b : Bool} (h : Tst c A X cenv ρ e b) : TstC c A X cenv ρ [e] b := fun s st => wpAny_tests_one (h s st)

theorem compLoop {target iter elt : Expr} {ifs : List Expr} {scope : Scope} {pos : Pos} {hb : Heap} {s : Shared} {I D : Addr} {wr fp : List Addr} {ds : List PyData} {St : Nat → Heap → Prop} {gh : List (Value × PyData)}
    {ρf : List (Str × Pd)} {ρt : PyData → List (Str × Pd)} {p : PyData → Bool} {f : PyData → PyData} {m : Str → Option Value} {ys₀ : Array Value} {acc₀ : List PyData} {R : Result → Shared → Prop}
    (hq : Code.quiet (.compLoop (.ListComp elt [⟨target, iter, ifs, 0⟩] scope pos) 0 (.ref I) (.ref D) cenv) = true)
    (hden : (model c.prog c.w).den (.compLoop (.ListComp elt [⟨target, iter, ifs, 0⟩] scope pos) 0 (.ref I) (.ref D) cenv) = (compTurn (.ListComp elt [⟨target, iter, ifs, 0⟩] scope pos) 0 (.ref I) (.ref D) cenv).onRaise (fun x => do noteFrame x cenv; theTreesLotGoes x))
    (hA : A.under (.compLoop (.ListComp elt [⟨target, iter, ifs, 0⟩] scope pos) 0 (.ref I) (.ref D) cenv) = A)
    (It : Itn c A X target I wr fp ds gh St) (hwX : ∀ b ∈ wr, b ∈ X) (hD : D ∈ X) (hDf : D ∉ fp) (hCf : cenv.locals ∉ fp) (hDC : D ≠ cenv.locals)
    (ok : EnvOk cenv) (hb0 : Kp c.H0 hb) (hbw : ∀ b ∈ wr, hb.get? b = none) (hbD : hb.get? D = none) (hbC : hb.get? cenv.locals = none)
    (hfree : ∀ x q, (x, q) ∈ ρf → ∃ v, VarAt cenv hb x v ∧ RelP X hb v q)
    (hkind : ∀ d, d ∈ ds → ∀ x q, (x, q) ∈ ρt d → cenv.kindOf x = some .local)
    (hasg : ∀ d, d ∈ ds → AsgC c A X cenv target d (ρt d))
    (htst : ∀ d, d ∈ ds → TstC c A X cenv (ρt d ++ ρf) ifs (p d))
    (helt : ∀ d, d ∈ ds → p d = true → Ev c A X cenv (ρt d ++ ρf) elt (.d (f d)))
    (hst : St 0 s.heap) (hkb : Kp hb s.heap) (hn : s.heap.Ns cenv.locals m) (hl : s.heap.PlainList D ys₀) (hr : RelL X s.heap ys₀.toList acc₀) (hlive : ∀ a ∈ X, ∃ o, s.heap.get? a = some o)
    (hsz : acc₀.length + ds.length ≤ 100000)
    (fin : ∀ h' tk m' ys, Kp hb h' → h'.Ns cenv.locals m' → h'.PlainList D ys → RelL X h' ys.toList (acc₀ ++ (ds.filter p).map f) → (∀ a ∈ X, a ∉ wr → ∃ o, h'.get? a = some o) → (∀ b o, b ∉ wr → b ≠ D → b ≠ cenv.locals → s.heap.get? b = some o → h'.get? b = some o) →
      R (.ok .next) { s with heap := h', toks := tk }) :
    codeAny (model c.prog c.w) A (.compLoop (.ListComp elt [⟨target, iter, ifs, 0⟩] scope pos) 0 (.ref I) (.ref D) cenv) R s := by
  refine codeAny_loop hq (fun k s' => ∃ h' tk m' ys i, s' = { s with heap := h', toks := tk } ∧ St i h' ∧ Kp hb h' ∧ h'.Ns cenv.locals m' ∧ h'.PlainList D ys ∧ RelL X h' ys.toList (acc₀ ++ ((ds.take i).filter p).map f) ∧
      (∀ a ∈ X, ∃ o, h'.get? a = some o) ∧ i ≤ ds.length ∧ k = ds.length + 1 - i ∧ (∀ b o, b ∉ wr → b ≠ D → b ≠ cenv.locals → s.heap.get? b = some o → h'.get? b = some o)) ?_ (ds.length + 1)
      ⟨s.heap, s.toks, m, ys₀, 0, rfl, hst, hkb, hn, hl, by simpa using hr, hlive, Nat.zero_le _, rfl, fun _ _ _ _ _ e => e⟩
  rintro k s' ⟨H, tk, m', ys, i, rfl, hst', hkb', hn', hl', hr', hlive', hi, rfl, hkk⟩
  rw [hA, hden]
  refine wpAny_noted ?_
  rw [compTurn_list]
  have hCw : cenv.locals ∉ wr := fun h => hCf (It.sub _ h)
  have hDw : D ∉ wr := fun h => hDf (It.sub _ h)
  have hlt : ∀ a ∈ X, a < H.objs.size := fun a ha => let ⟨o, e⟩ := hlive' a ha; Heap.lt_size e
  refine wpAny_bind (wpAny_standAt (wpAny_bind ?_))
  by_cases hlen : i < ds.length
  · have hd : ds[i]? = some ds[i] := List.getElem?_eq_getElem hlen
    generalize hdd : ds[i] = d at hd
    have hmem : d ∈ ds := List.mem_of_getElem? hd
    refine It.item i d _ _ _ hlt hd hst' fun v h1 tk1 k1 hgo => ?_
    refine wpAny_bind (hgo _ fun h2 st2 k2 r2 => ?_)
    have K2 : Kb wr H h2 := Kb.trans k1 k2
    have live2 : ∀ a ∈ X, ∃ o, h2.get? a = some o := fun a ha => by
      by_cases haw : a ∈ wr
      · obtain ⟨o, e, _⟩ := It.kind _ _ st2 a (It.sub a haw); exact ⟨o, e⟩
      · obtain ⟨o, e⟩ := hlive' a ha; exact ⟨o, K2 a o haw e⟩
    have hn2 : h2.Ns cenv.locals m' := hn'.at' fun o e => K2 _ o hCw e
    refine wpAny_bind (hasg d hmem _ _ _ _ _ (fun a ha => let ⟨o, e⟩ := live2 a ha; Heap.lt_size e) hn2 r2 fun h3 tk3 m3 k3 hn3 hv3 => ?_)
    have nC : ∀ {b o}, hb.get? b = some o → b ≠ cenv.locals := fun e h => by rw [h, hbC] at e; cases e
    have nW : ∀ {b o}, hb.get? b = some o → b ∉ wr := fun e h => by rw [hbw _ h] at e; cases e
    have nD : ∀ {b o}, hb.get? b = some o → b ≠ D := fun e h => by rw [h, hbD] at e; cases e
    have kb3 : Kp hb h3 := fun b o e => k3 b o (nC e) (K2 b o (nW e) (hkb' b o e))
    have CX : cenv.locals ∉ X ∨ cenv.locals ∈ X := (Classical.em _).symm
    have live3 : ∀ a ∈ X, ∃ o, h3.get? a = some o := fun a ha => by
      by_cases hac : a = cenv.locals
      · obtain ⟨o, es, ep, e, _⟩ := hn3; exact ⟨o, hac ▸ e⟩
      · obtain ⟨o, e⟩ := live2 a ha; exact ⟨o, k3 a o hac e⟩
    have sk3 : SK X H h3 := fun b o xs n e dd hbx => by
      have hbw' : b ∉ wr := fun h => hbx (hwX b h)
      refine k3 b o ?_ (K2 b o hbw' e)
      rintro rfl
      obtain ⟨o', es, ep, e', d', _⟩ := hn'
      rw [e] at e'; cases e'; rw [dd] at d'; cases d'
    have fp3 : ∀ b ∈ fp, ∀ o, h2.get? b = some o → h3.get? b = some o := fun b hbf o e => k3 b o (fun h => hCf (h ▸ hbf)) e
    have sk23 : SK X h2 h3 := fun b o xs n e dd hbx => by
      refine k3 b o ?_ e
      rintro rfl
      obtain ⟨o', es, ep, e', d', _⟩ := hn2
      rw [e] at e'; cases e'; rw [dd] at d'; cases d'
    have st3 : St (i + 1) h3 := It.frame _ _ _ st2 sk23 fp3
    have SE3 : ∀ h, Kp h3 h → StE c X cenv (ρt d ++ ρf) h := fun h kh => ⟨⟨fun b o e => kh b o (kb3 b o (hb0 b o e)), fun a ha => let ⟨o, e⟩ := live3 a ha; ⟨o, kh _ _ e⟩⟩, ok, fun x q hx => by
      rcases List.mem_append.mp hx with hx | hx
      · obtain ⟨v, hv, hrv⟩ := hv3 x q hx
        exact ⟨v, .inl ⟨hkind d hmem x q hx, m3, hn3.keeps kh, hv⟩, hrv.keep kh⟩
      · obtain ⟨v, hv, hrv⟩ := hfree x q hx
        exact ⟨v, hv.keep fun b o e => kh b o (kb3 b o e), hrv.keep fun b o e => kh b o (kb3 b o e)⟩⟩
    refine wpAny_bind (wpAny_mono (htst d hmem _ (SE3 _ fun _ _ e => e)) (fun okb s4 q4 => ?_) fun _ _ f => f.elim)
    obtain ⟨rfl, h4, tk4, rfl, k4⟩ := q4
    have k4' : Kp h3 h4 := k4
    have hl3 : h3.PlainList D ys := hl'.at fun o e => k3 D o hDC (K2 D o hDw e)
    have hr3 := hr'.keep sk3
    have htk : (ds.take (i + 1)).filter p = (ds.take i).filter p ++ (if p d then [d] else []) := take_succ_filter p ds i d hd
    have hkk3 : ∀ b o, b ∉ wr → b ≠ D → b ≠ cenv.locals → s.heap.get? b = some o → h3.get? b = some o := fun b o h1 h2 h3' e => k3 b o h3' (K2 b o h1 (hkk b o h1 h2 h3' e))
    cases hp : p d with
    | false =>
      refine wpAny_pure ⟨rfl, ds.length + 1 - (i + 1), by omega, h4, tk4, m3, ys, i + 1, rfl, It.frame _ _ _ st3 (.of_kp k4') (fun b _ o e => k4' b o e), fun b o e => k4' b o (kb3 b o e), hn3.keeps k4', hl3.at fun o e => k4' _ o e, ?_,
        fun a ha => let ⟨o, e⟩ := live3 a ha; ⟨o, k4' _ _ e⟩, hlen, rfl, fun b o h1 h2 h3' e => k4' b o (hkk3 b o h1 h2 h3' e)⟩
      rw [htk, hp]
      simpa using hr3.keep (.of_kp k4')
    | true =>
      refine wpAny_bind (wpAny_bind (wpAny_mono (helt d hmem hp _ (SE3 _ k4')) (fun y s5 q5 => ?_) fun _ _ f => f.elim))
      obtain ⟨ry, h5, tk5, rfl, k5⟩ := q5
      have k5' : Kp h4 h5 := k5
      have k35 : Kp h3 h5 := fun b o e => k5' b o (k4' b o e)
      have hl5 : h5.PlainList D ys := hl3.at fun o e => k35 _ o e
      have hlen5 := hr3.length
      have hsz5 : ys.size ≤ sizeLine := by
        rw [sizeLine_eq]
        have e1 : (((ds.take i).filter p).map f).length ≤ ds.length := by
          rw [List.length_map]
          exact Nat.le_trans (List.length_filter_le _ _) (by rw [List.length_take]; omega)
        rw [List.length_append] at hlen5
        simp only [Array.length_toList] at hlen5
        omega
      refine wpAny_bind (wpAny_list_append_plain hl5 (fun h6 hl6 hs6 => ?_) hsz5)
      have sk6 : SK X h5 h6 := .of_mem hD hs6
      refine wpAny_pure (wpAny_pure ⟨rfl, ds.length + 1 - (i + 1), by omega, h6, tk5, m3, ys.push y, i + 1, rfl, ?_, ?_, (hn3.keeps k35).sameBut hs6 (Ne.symm hDC), hl6, ?_, ?_, hlen, rfl, ?_⟩)
      · exact It.frame _ _ _ st3 ((SK.of_kp k35).trans sk6) fun b hbf o e => hs6.extBut b o (fun h => hDf (h ▸ hbf)) (k35 b o e)
      · exact fun b o e => hs6.extBut b o (nD e) (k35 b o (kb3 b o e))
      · rw [htk, hp]
        have hy : RelL X h6 [y] [f d] := .cons (Rel.keep sk6 ry) .nil
        have := (hr3.keep ((SK.of_kp k35).trans sk6)).append hy
        simpa [List.append_assoc] using this
      · intro a ha
        by_cases haD : a = D
        · obtain ⟨n, e⟩ := hl6; exact ⟨_, haD ▸ e⟩
        · obtain ⟨o, e⟩ := live3 a ha
          exact ⟨o, hs6.extBut a o haD (k35 _ _ e)⟩
      · exact fun b o h1 h2 h3' e => hs6.extBut b o h2 (k35 b o (hkk3 b o h1 h2 h3' e))
  · have hi' : i = ds.length := by omega
    subst hi'
    refine It.done _ _ _ hst' fun h1 tk1 k1 => wpAny_pure ?_
    have k1' : Kb wr H h1 := k1
    have nW : ∀ {b o}, hb.get? b = some o → b ∉ wr := fun e h => by rw [hbw _ h] at e; cases e
    refine fin h1 tk1 m' ys (fun b o e => k1' b o (nW e) (hkb' b o e)) (hn'.at' fun o e => k1' _ o hCw e) (hl'.at fun o e => k1' _ o hDw e) ?_ (fun a ha haw => let ⟨o, e⟩ := hlive' a ha; ⟨o, k1' a o haw e⟩) (fun b o h1 h2 h3 e => k1' b o h1 (hkk b o h1 h2 h3 e))
    have := hr'.keep (Kb.sk k1' hwX)
    rwa [List.take_of_length_le (Nat.le_refl _)] at this
end
end Mine
end

section
open PySem PySem.W PyProof.Rows PySem.SeqAt
set_option Elab.async false
set_option maxRecDepth 100000
namespace Mine

/-- the captured names that a comprehension reads -/
def FreeL (env : Env) (scope : Scope) (cl : List (Str × Addr)) (ρ : List (Str × Pd)) : List (Str × Pd) → Prop
  | [] => True
  | (x, q) :: r => ((x, q) ∈ ρ ∧ env.kindOf x = some .cell ∧ (relabel scope env).names.lookup x = some .cell ∧ cl.lookup x = env.cells.lookup x) ∧ FreeL env scope cl ρ r
theorem FreeL.all {env scope cl ρ} : ∀ {ρf : List (Str × Pd)}, FreeL env scope cl ρ ρf → ∀ x q, (x, q) ∈ ρf → (x, q) ∈ ρ ∧ env.kindOf x = some .cell ∧ (relabel scope env).names.lookup x = some .cell ∧ cl.lookup x = env.cells.lookup x
  | (_, _) :: _, ⟨h, _⟩, _, _, .head _ => h
  | _ :: _, ⟨_, r⟩, _, _, .tail _ m => r.all _ _ m

section
variable {c : Cx} {A : Around} {X : List Addr} {env : Env} {ρ : List (Str × Pd)}

theorem Bs.lt {h : Heap} (b : Bs c X h) : ∀ a ∈ X, a < h.objs.size := fun a ha => let ⟨_, e⟩ := b.live a ha; Heap.lt_size e

theorem under_comp {cenv : Env} {elt target iter : Expr} {ifs : List Expr} {scope : Scope} {pos : Pos} {it acc : Value} {gs : List Comprehension} {n : Nat} :
    A.under (.compLoop (.ListComp elt gs scope pos) n it acc cenv) = A := Around.under_of_weight rfl rfl

theorem compGen {elt target iter : Expr} {ifs : List Expr} {scope : Scope} {pos : Pos} {cl : List (Str × Addr)} {use : Option (Value → Sem Unit)} {Q : Value → Shared → Prop} {s : Shared} {ipos : Pos}
    {ρf : List (Str × Pd)} {ρt : PyData → List (Str × Pd)} {p : PyData → Bool} {f : PyData → PyData} {ds : List PyData} {g : Bool}
    (st : StE c X env ρ s.heap) (hclos : closureFor scope env = pure cl) (hcell : ∀ y ∈ scope.names, y.2 ≠ .cell) (hkind : scope.kind = .function)
    (hnames : ∀ y ∈ scope.names, y.2 = .local → scope.names.lookup y.1 = some .local)
    (hfr : FreeL env scope cl ρ ρf) (hit : IterE c A X env ρ iter target ds g)
    (hkl : ∀ d, d ∈ ds → ∀ x q, (x, q) ∈ ρt d → scope.names.lookup x = some .local)
    (hasg : ∀ Y C d, d ∈ ds → AsgC c A Y (compEnvC scope cl C env) target d (ρt d))
    (htst : ∀ Y C d, d ∈ ds → TstC c A Y (compEnvC scope cl C env) (ρt d ++ ρf) ifs (p d))
    (helt : ∀ Y C d, d ∈ ds → p d = true → Ev c A Y (compEnvC scope cl C env) (ρt d ++ ρf) elt (.d (f d)))
    (hsz : ds.length ≤ 100000)
    (hs : ∀ x, foldedSetIterable iter env x = pure x)
    (fin : ∀ D C m' s', s.heap.get? D = none → s.heap.get? C = none → D ≠ C → Ks s s' → s'.heap.Ns C m' → Rel X s'.heap (.ref D) (.list ((ds.filter p).map f)) → (∃ ys, s'.heap.PlainList D ys ∧ RelL X s'.heap ys.toList ((ds.filter p).map f)) → (∀ a ∈ X, ∃ o, s'.heap.get? a = some o) →
      compPost (model c.prog c.w) A (fun _ _ => False) use Q (.ref D) C (.ok .next) s') :
    wpAny (model c.prog c.w) A (comprehension (.ListComp elt [⟨target, iter, ifs, 0⟩] scope pos) scope env ipos (newList []) false (eval iter env) use) Q (fun _ _ => False) s := by
  refine wpAny_comprehension_free (g := ⟨target, iter, ifs, 0⟩) (gs := []) rfl hs hclos hkind hnames ?_
  refine wpAny_mono (hit s st) (fun xv s1 r1 => ?_) fun _ _ f => f
  obtain ⟨k1, r1⟩ := r1
  refine wpAny_mono r1 (fun it s2 r2 => ?_) fun _ _ f => f
  obtain ⟨k2, I, wr, fp, rfl, hwr, hfp, _, hItn⟩ := r2
  refine wpAny_newObj_type (wpAny_newFunctionEnv hcell (by intro y hy; simp at hy) (fun h₁ hns₁ hsb₁ => ?_) hkind)
  dsimp only at hns₁ hsb₁ ⊢
  generalize hH2 : s2.heap.push { cls := .type "list", dict := none, data := .seq ([] : List Value).toArray } = H2 at hns₁ hsb₁ ⊢
  have hC : H2.objs.size = s2.heap.objs.size + 1 := by rw [← hH2, Heap.size_push]
  have hDC : s2.heap.objs.size ≠ H2.objs.size := by rw [hC]; exact Nat.ne_of_lt (Nat.lt_succ_self _)
  have old : Kp s2.heap h₁ := fun b o e => hsb₁.extBut b o (by rw [hC]; exact Nat.ne_of_lt (Nat.lt_succ_of_lt (Heap.lt_size e))) (Heap.get?_push_of_some _ (hH2 ▸ Heap.get?_push_of_some _ e))
  have hacc : h₁.PlainList s2.heap.objs.size #[] := ⟨_, hsb₁.extBut _ _ hDC (Heap.get?_push_of_some _ (hH2 ▸ Heap.get?_push_size _ rfl))⟩
  have hDs : s.heap.get? s2.heap.objs.size = none := none_of_kp k2.kp (fresh_none _)
  have hCs : s.heap.get? H2.objs.size = none := none_of_kp k2.kp (none_of_le (by rw [hC]; exact Nat.le_succ _))
  have hD2 : s2.heap.get? s2.heap.objs.size = none := fresh_none _
  obtain ⟨gh, St, It, hst0⟩ := hItn (s2.heap.objs.size :: (wr ++ X)) (fun a ha => .tail _ (List.mem_append.mpr (.inl ha))) (fun a ha => by
    rcases List.mem_cons.mp ha with h | h
    · exact .inr (.inr (h ▸ hD2))
    · rcases List.mem_append.mp h with h | h
      · exact .inr (.inl h)
      · exact .inl h)
  have hYs : ∀ a ∈ s2.heap.objs.size :: (wr ++ X), a ∈ X ∨ s.heap.get? a = none := fun a ha => by
    rcases List.mem_cons.mp ha with h | h
    · exact .inr (h ▸ hDs)
    · rcases List.mem_append.mp h with h | h
      · exact .inr (hwr a h)
      · exact .inl h
  have hDf : s2.heap.objs.size ∉ fp := fun hm => Nat.lt_irrefl _ (hfp _ hm)
  have hCf : H2.objs.size ∉ fp := fun hm => by have := hfp _ hm; rw [hC] at this; exact Nat.lt_irrefl _ (Nat.lt_of_succ_lt this)
  have loop : ∀ s₃ : Shared, s₃ = { s2 with heap := h₁, toks := s2.toks + ([] : List (Str × Value)).length } →
      codeAny (model c.prog c.w) A (.compLoop (.ListComp elt [⟨target, iter, ifs, 0⟩] scope pos) 0 (.ref I) (.ref s2.heap.objs.size) (compEnvC scope cl H2.objs.size env))
        (compPost (model c.prog c.w) A (fun _ _ => False) use Q (.ref s2.heap.objs.size) H2.objs.size) s₃ := by
    rintro s₃ rfl
    refine compLoop (cenv := compEnvC scope cl H2.objs.size env) (hb := s.heap) (acc₀ := []) (ρf := ρf) (ρt := ρt) (p := p) (f := f) (target := target) (iter := iter) (elt := elt) (ifs := ifs) rfl rfl (Around.under_of_weight rfl rfl) It
      (fun b hb => .tail _ (List.mem_append.mpr (.inl hb))) (.head _) hDf hCf hDC ⟨hkind, st.ok.glob, st.ok.bui⟩ st.bs.base hwr hDs hCs ?_ ?_ (fun d hd => hasg _ _ d hd) (fun d hd => htst _ _ d hd) (fun d hd hp => helt _ _ d hd hp)
      (It.frame _ _ _ hst0 (.of_kp old) fun b _ o e => old b o e) (fun b o e => old b o (k2.kp b o e)) hns₁ hacc .nil ?_ (by simpa using hsz) ?_
    · intro x q hx
      obtain ⟨h1, h2, h3, h4⟩ := hfr.all x q hx
      obtain ⟨v, hv, hrv⟩ := st.var x q h1
      refine ⟨v, ?_, ?_⟩
      · rcases hv with ⟨hk', _⟩ | ⟨_, a, ha, hc⟩
        · rw [h2] at hk'; cases hk'
        · exact .inr ⟨h3, a, by show cl.lookup x = some a; rw [h4]; exact ha, hc⟩
      · cases q with
        | d x => exact Rel.more hYs hrv
        | l xs =>
          obtain ⟨a, vs, e, hl, hr⟩ := hrv
          exact ⟨a, vs, e, hl, RelL.more hYs hr⟩
    · intro d hd x q hx
      exact lookup_relabel_local (hkl d hd x q hx)
    · intro a ha
      rcases List.mem_cons.mp ha with h | h
      · obtain ⟨n, e⟩ := hacc; exact ⟨_, h ▸ e⟩
      · rcases List.mem_append.mp h with h | h
        · obtain ⟨o, e, _⟩ := It.kind _ _ hst0 a (It.sub a h); exact ⟨o, old _ _ e⟩
        · obtain ⟨o, e⟩ := st.bs.live a h; exact ⟨o, old _ _ (k2.kp _ _ e)⟩
    · intro h' tk m' ys kb hn' hl' hr' hlive' hkk
      have ks : Ks s { s2 with heap := h', toks := tk } := by
        obtain ⟨hh, tt, e, _⟩ := k2
        subst e
        exact ⟨h', tk, rfl, kb⟩
      have hrX := RelL.less (Y := X) (fun a ha => .tail _ (List.mem_append.mpr (.inr ha))) hr'
      refine fin _ _ m' _ hDs hCs hDC ks hn' ?_ ⟨ys, hl', by simpa using hrX⟩ (fun a ha => let ⟨o, e⟩ := st.bs.live a ha; ⟨o, kb _ _ e⟩)
      refine .list (vs := ys) (fun hm => ?_) hl' (by simpa using hrX)
      obtain ⟨o, e⟩ := st.bs.live _ hm
      rw [hDs] at e; cases e
  exact codeAny_compStart_list (loop _ rfl) (It.self 0 _ _ _ (It.frame _ _ _ hst0 (.of_kp old) fun b _ o e => old b o e) (loop _ rfl))

theorem Ev.comp {elt target iter : Expr} {ifs : List Expr} {scope : Scope} {pos : Pos} {cl : List (Str × Addr)}
    {ρf : List (Str × Pd)} {ρt : PyData → List (Str × Pd)} {p : PyData → Bool} {f : PyData → PyData} {ds : List PyData} {g : Bool}
    (hclos : closureFor scope env = pure cl) (hcell : ∀ y ∈ scope.names, y.2 ≠ .cell) (hkind : scope.kind = .function)
    (hnames : ∀ y ∈ scope.names, y.2 = .local → scope.names.lookup y.1 = some .local)
    (hfr : FreeL env scope cl ρ ρf) (hit : IterE c A X env ρ iter target ds g)
    (hkl : ∀ d, d ∈ ds → ∀ x q, (x, q) ∈ ρt d → scope.names.lookup x = some .local)
    (hasg : ∀ Y C d, d ∈ ds → AsgC c A Y (compEnvC scope cl C env) target d (ρt d))
    (htst : ∀ Y C d, d ∈ ds → TstC c A Y (compEnvC scope cl C env) (ρt d ++ ρf) ifs (p d))
    (helt : ∀ Y C d, d ∈ ds → p d = true → Ev c A Y (compEnvC scope cl C env) (ρt d ++ ρf) elt (.d (f d)))
    (hsz : ds.length ≤ 100000)
    (hs : ∀ x, foldedSetIterable iter env x = pure x := by intro _; rfl) :
    Ev c A X env ρ (.ListComp elt [⟨target, iter, ifs, 0⟩] scope pos) (.d (.list ((ds.filter p).map f))) := fun s st => by
  unfold Gv
  rw [eval_ListComp]
  refine compGen (use := none) st hclos hcell hkind hnames hfr hit hkl hasg htst helt hsz hs ?_
  intro D C m' s' hD hC hDC ks hn hr hl hlive
  refine ⟨m', hn, fun h' hs' => ⟨?_, ?_⟩⟩
  · exact hr.keep (.of_ns hn hs')
  · obtain ⟨hh, tt, e, k⟩ := ks
    subst e
    exact ⟨h', tt, rfl, fun b o e => hs'.extBut b o (fun h => by rw [h, hC] at e; cases e) (k b o e)⟩
end
end Mine
end

section
open PySem PySem.W PyProof.Rows PySem.SeqAt
set_option Elab.async false
set_option maxRecDepth 100000
namespace Mine

def VarM (env : Env) (m cm : Str → Option Value) (x : Str) (v : Value) : Prop :=
  (env.kindOf x = some .local ∧ m x = some v) ∨ (env.kindOf x = some .cell ∧ (∃ a, env.cells.lookup x = some a) ∧ cm x = some v)

abbrev Om := List (Str × Addr × List PyData)
def omρ (ω : Om) : List (Str × Pd) := ω.map fun w => (w.1, .l w.2.2)

/-- what else must stand: objects; values that bear data -/
structure Pn where
  l : List (Addr × Obj) := []
  g : List (Value × PyData) := []

structure FIn (c : Cx) (s₀ : Shared) (X : List Addr) (env : Env) (ρ : List (Str × Pd)) (ω : Om) (P : Pn) (m cm : Str → Option Value) (s : Shared) : Prop where
  ok : EnvOk env
  fr : InCallC s₀ env.locals m env.cells cm s
  var : ∀ x p, (x, p) ∈ ρ → ∃ v, VarM env m cm x v ∧ RelP X s.heap v p
  own : ∀ x a ds, (x, a, ds) ∈ ω → VarM env m cm x (.ref a) ∧ a ∈ X ∧ s₀.heap.get? a = none ∧ ∃ vs, s.heap.PlainList a vs ∧ RelL X s.heap vs.toList ds
  bs : Bs c X s.heap
  pin : ∀ q ∈ P.l, s.heap.get? q.1 = some q.2 ∧ FS q.2.data
  gh : ∀ q ∈ P.g, Rel X s.heap q.1 q.2
  b0 : Kp c.H0 s₀.heap

def FSt (c : Cx) (s₀ : Shared) (X : List Addr) (env : Env) (ρ : List (Str × Pd)) (ω : Om) (P : Pn) (s : Shared) : Prop := ∃ m cm, FIn c s₀ X env ρ ω P m cm s

section
variable {c : Cx} {A : Around} {X : List Addr} {env : Env} {ρ : List (Str × Pd)} {ω : Om} {P : Pn} {s₀ s s' : Shared} {m cm : Str → Option Value}

theorem VarM.at {x : Str} {v : Value} (fr : InCallC s₀ env.locals m env.cells cm s) (h : VarM env m cm x v) : VarAt env s.heap x v := by
  rcases h with ⟨hk, hm⟩ | ⟨hk, ⟨a, ha⟩, hm⟩
  · exact .inl ⟨hk, m, fr.toInCall.ns, hm⟩
  · exact .inr ⟨hk, a, ha, hm ▸ fr.cell x a ha⟩

theorem FIn.se (S : FIn c s₀ X env ρ ω P m cm s) : StE c X env (ρ ++ omρ ω) s.heap := ⟨S.bs, S.ok, fun x p hx => by
  rcases List.mem_append.mp hx with hx | hx
  · obtain ⟨v, h1, h2⟩ := S.var x p hx
    exact ⟨v, h1.at S.fr, h2⟩
  · obtain ⟨⟨y, a, ds⟩, hw, e⟩ := List.mem_map.mp hx
    cases e
    obtain ⟨h1, _, _, vs, h2, h3⟩ := S.own _ _ _ hw
    exact ⟨_, h1.at S.fr, a, vs, rfl, h2.isList, h3⟩⟩
theorem FSt.se (S : FSt c s₀ X env ρ ω P s) : StE c X env (ρ ++ omρ ω) s.heap := let ⟨_, _, h⟩ := S; h.se

theorem inCallC_keep (x : InCallC s₀ env.locals m env.cells cm s) (k : Ks s s') : InCallC s₀ env.locals m env.cells cm s' := by
  obtain ⟨h', tk, rfl, hk⟩ := k
  obtain ⟨h, t, e⟩ := x.toInCall.same
  exact ⟨⟨⟨h', tk, by rw [e]⟩, x.toInCall.ns.keeps hk, fun b o e => hk b o (x.toInCall.keep b o e), x.toInCall.fresh⟩, fun n a ha => (x.cell n a ha).keeps hk, x.apart, x.above⟩

theorem FIn.keep (S : FIn c s₀ X env ρ ω P m cm s) (k : Ks s s') : FIn c s₀ X env ρ ω P m cm s' :=
  ⟨S.ok, inCallC_keep S.fr k, fun x p hx => let ⟨v, a, b⟩ := S.var x p hx; ⟨v, a, b.keep k.kp⟩,
    fun x a ds hx => let ⟨h1, h2, h3, vs, h4, h5⟩ := S.own x a ds hx; ⟨h1, h2, h3, vs, h4.at fun _ e => k.kp _ _ e, h5.keep (.of_kp k.kp)⟩, S.bs.keep k.kp, fun q hq => ⟨k.kp _ _ (S.pin q hq).1, (S.pin q hq).2⟩, fun q hq => (S.gh q hq).keep (.of_kp k.kp), S.b0⟩
theorem FSt.keep (S : FSt c s₀ X env ρ ω P s) (k : Ks s s') : FSt c s₀ X env ρ ω P s' := let ⟨m, cm, h⟩ := S; ⟨m, cm, h.keep k⟩
theorem FSt.ks (S : FSt c s₀ X env ρ ω P s) : Ks s₀ s := by
  obtain ⟨m, cm, h⟩ := S
  obtain ⟨h', tk, e, k⟩ := h.fr.done
  exact ⟨h', tk, e, k⟩
theorem FSt.weak {ρ' : List (Str × Pd)} {ω' : Om} {P' : Pn} (S : FSt c s₀ X env ρ ω P s) (h1 : ∀ q ∈ ρ', q ∈ ρ) (h2 : ∀ q ∈ ω', q ∈ ω) (h3 : ∀ q ∈ P'.l, q ∈ P.l) (h4 : ∀ q ∈ P'.g, q ∈ P.g) : FSt c s₀ X env ρ' ω' P' s := by
  obtain ⟨m, cm, h⟩ := S
  exact ⟨m, cm, h.ok, h.fr, fun x p hx => h.var x p (h1 _ hx), fun x a ds hx => h.own x a ds (h2 _ hx), h.bs, fun q hq => h.pin q (h3 _ hq), fun q hq => h.gh q (h4 _ hq), h.b0⟩

def KindOk (env : Env) (x : Str) : Prop := env.kindOf x = some .local ∨ (env.kindOf x = some .cell ∧ (env.cells.lookup x).isSome = true)

theorem VarM.other {m' cm' : Str → Option Value} {x y : Str} {v : Value} (hm : ∀ z, z ≠ x → m' z = m z) (hc : ∀ z, z ≠ x → cm' z = cm z) (hy : y ≠ x) (h : VarM env m cm y v) : VarM env m' cm' y v := by
  rcases h with ⟨a, b⟩ | ⟨a, b, d⟩
  · exact .inl ⟨a, by rw [hm y hy]; exact b⟩
  · exact .inr ⟨a, b, by rw [hc y hy]; exact d⟩

theorem FSt.store' {x : Str} {v : Value} {p : Pd} {ρ' : List (Str × Pd)} {ω' : Om} {Q : Unit → Shared → Prop} {E} (S : FSt c s₀ X env ρ ω P s) (hk : KindOk env x) (hr : RelP X s.heap v p)
    (hρ : ∀ y q, (y, q) ∈ ρ' → (y = x ∧ q = p) ∨ (y ≠ x ∧ (y, q) ∈ ρ)) (hω : ∀ w ∈ ω', w.1 ≠ x ∧ w ∈ ω)
    (k : ∀ s', (∃ m cm, FIn c s₀ X env ρ' ω' P m cm s' ∧ VarM env m cm x v) → (∀ b o, s.heap.get? b = some o → b ≠ env.locals → (∀ n a, env.cells.lookup n = some a → b ≠ a) → s'.heap.get? b = some o) → Q () s') : wpAny (model c.prog c.w) A (storeName env x v) Q E s := by
  obtain ⟨m, cm, S⟩ := S
  have common : ∀ (h' : Heap) (tk : Nat) (m' cm' : Str → Option Value) (a : Addr), Heap.SameBut a s.heap h' → (∀ Y, SK Y s.heap h') → (∀ q ∈ P.l, q.1 ≠ a) → (∀ y b ds, (y, b, ds) ∈ ω → b ≠ a) →
      (∀ z, z ≠ x → m' z = m z) → (∀ z, z ≠ x → cm' z = cm z) → VarM env m' cm' x v → InCallC s₀ env.locals m' env.cells cm' { s with heap := h', toks := tk } → s₀.heap.objs.size ≤ a → h'.get? a ≠ none → ∃ m cm, FIn c s₀ X env ρ' ω' P m cm { s with heap := h', toks := tk } ∧ VarM env m cm x v := by
    intro h' tk m' cm' a hs sk hP hω2 hm hc hx fr hab hne
    have kd : Kp s₀.heap h' := fr.toInCall.keep
    refine ⟨m', cm', ⟨S.ok, fr, ?_, ?_, ⟨?_, ?_⟩, ?_, fun q hq => (S.gh q hq).keep (sk X), S.b0⟩, hx⟩
    · intro y q hy
      rcases hρ y q hy with ⟨rfl, rfl⟩ | ⟨hne, hm2⟩
      · refine ⟨v, hx, ?_⟩
        cases q with
        | d x => exact Rel.keep (sk X) hr
        | l xs =>
          obtain ⟨a', vs, e, ⟨o, e2, c2, n, d2⟩, r⟩ := hr
          exact ⟨a', vs, e, ⟨o, sk [] _ _ _ _ e2 d2 (by simp), c2, n, d2⟩, r.keep (sk X)⟩
      · obtain ⟨u, h1, h2⟩ := S.var y q hm2
        refine ⟨u, h1.other hm hc hne, ?_⟩
        cases q with
        | d x => exact Rel.keep (sk X) h2
        | l xs =>
          obtain ⟨a', vs, e, ⟨o, e2, c2, n, d2⟩, r⟩ := h2
          exact ⟨a', vs, e, ⟨o, sk [] _ _ _ _ e2 d2 (by simp), c2, n, d2⟩, r.keep (sk X)⟩
    · intro y b ds hy
      obtain ⟨hne, hm2⟩ := hω _ hy
      obtain ⟨h1, h2, h3, vs, h4, h5⟩ := S.own y b ds hm2
      exact ⟨h1.other hm hc hne, h2, h3, vs, h4.at fun o e => hs.extBut b o (hω2 y b ds hm2) e, h5.keep (sk X)⟩
    · exact fun b o e => kd b o (S.b0 b o e)
    · intro b hb
      by_cases hba : b = a
      · subst hba
        cases e : h'.get? b with
        | none => exact absurd e hne
        | some o => exact ⟨o, rfl⟩
      · obtain ⟨o, e⟩ := S.bs.live b hb; exact ⟨o, hs.extBut b o hba e⟩
    · exact fun q hq => ⟨hs.extBut _ _ (hP q hq) (S.pin q hq).1, (S.pin q hq).2⟩
  have fsne : ∀ {b a : Addr} {o o' : Obj}, s.heap.get? b = some o → FS o.data → s.heap.get? a = some o' → (¬ FS o'.data) → b ≠ a := fun e f e' f' h => by
    subst h; rw [e] at e'; cases e'; exact f' f
  rcases hk with hk | ⟨hk, hcs⟩
  · obtain ⟨o, es, ep, ho, hd, _⟩ := id S.fr.toInCall.ns
    have nf : ¬ FS o.data := by rw [hd]; rintro (⟨_, _, h⟩ | ⟨_, h⟩) <;> cases h
    refine wpAny_storeName_local hk S.fr.toInCall.ns (fun h' hn' hs' => k _ ?_ (fun b o e hb _ => hs'.extBut b o hb e)) (by rw [S.ok.kind]; rfl)
    refine common h' _ (fun y => if y = x then some v else m y) cm env.locals hs' (fun Y => .of_ns S.fr.toInCall.ns hs') (fun q hq => fsne (S.pin q hq).1 (S.pin q hq).2 ho nf)
      (fun y b ds hy => by obtain ⟨_, _, _, vs, ⟨n, e⟩, _⟩ := S.own y b ds hy; exact fsne e (.inl ⟨_, _, rfl⟩) ho nf)
      (fun z hz => by simp [hz]) (fun z _ => rfl) (.inl ⟨hk, by simp⟩) ?_ S.fr.toInCall.fresh ?_
    · refine ⟨⟨?_, hn', fun b o e => ?_, S.fr.toInCall.fresh⟩, fun n a ha => ?_, S.fr.apart, S.fr.above⟩
      · obtain ⟨h₁, tk, e⟩ := S.fr.toInCall.same
        exact ⟨h', _, by rw [e]⟩
      · exact hs'.extBut b o (Nat.ne_of_lt (Nat.lt_of_lt_of_le (Heap.lt_size e) S.fr.toInCall.fresh)) (S.fr.toInCall.keep b o e)
      · exact (S.fr.cell n a ha).sameBut hs' (Nat.ne_of_gt (S.fr.above n a (PySem.mem_of_lookup ha)))
    · obtain ⟨o', _, _, e', _⟩ := hn'; rw [e']; simp
  · obtain ⟨a, ha⟩ := Option.isSome_iff_exists.mp hcs
    have hLa := S.fr.above x a (PySem.mem_of_lookup ha)
    have hcell := S.fr.cell x a ha
    obtain ⟨o, ho, hd⟩ := id hcell
    have nf : ¬ FS o.data := by rw [hd]; rintro (⟨_, _, h⟩ | ⟨_, h⟩) <;> cases h
    refine wpAny_storeName_cell S.ok.kind hk ha hcell fun h' hc' hs' => k { s with heap := h', toks := s.toks } ?_ (fun b o e _ hb => hs'.extBut b o (hb x a ha) e)
    refine common h' _ m (fun y => if y = x then some v else cm y) a hs' (fun Y => .of_cell hcell hs') (fun q hq => fsne (S.pin q hq).1 (S.pin q hq).2 ho nf)
      (fun y b ds hy => by obtain ⟨_, _, _, vs, ⟨n, e⟩, _⟩ := S.own y b ds hy; exact fsne e (.inl ⟨_, _, rfl⟩) ho nf)
      (fun z _ => rfl) (fun z hz => by simp [hz]) (.inr ⟨hk, ⟨a, ha⟩, by simp⟩) ?_ (Nat.le_of_lt (Nat.lt_of_le_of_lt S.fr.toInCall.fresh hLa)) ?_
    · refine ⟨⟨?_, S.fr.toInCall.ns.sameBut hs' (Nat.ne_of_lt hLa), fun b o e => ?_, S.fr.toInCall.fresh⟩, fun n a' ha' => ?_, S.fr.apart, S.fr.above⟩
      · obtain ⟨h₁, tk, e⟩ := S.fr.toInCall.same
        exact ⟨h', _, by rw [e]⟩
      · exact hs'.extBut b o (Nat.ne_of_lt (Nat.lt_trans (Nat.lt_of_lt_of_le (Heap.lt_size e) S.fr.toInCall.fresh) hLa)) (S.fr.toInCall.keep b o e)
      · by_cases hnx : n = x
        · subst hnx
          rw [ha] at ha'; cases ha'
          simpa using hc'
        · show h'.IsCell a' (if n = x then some v else cm n)
          rw [if_neg hnx]
          exact (S.fr.cell n a' ha').sameBut hs' fun e => hnx (name_of_addr S.fr.apart (PySem.mem_of_lookup ha') (e ▸ PySem.mem_of_lookup ha))
    · obtain ⟨o', e', _⟩ := hc'; rw [e']; simp
theorem FSt.store {x : Str} {v : Value} {p : Pd} {ρ' : List (Str × Pd)} {ω' : Om} {Q : Unit → Shared → Prop} {E} (S : FSt c s₀ X env ρ ω P s) (hk : KindOk env x) (hr : RelP X s.heap v p)
    (hρ : ∀ y q, (y, q) ∈ ρ' → (y = x ∧ q = p) ∨ (y ≠ x ∧ (y, q) ∈ ρ)) (hω : ∀ w ∈ ω', w.1 ≠ x ∧ w ∈ ω)
    (k : ∀ s', FSt c s₀ X env ρ' ω' P s' → Q () s') : wpAny (model c.prog c.w) A (storeName env x v) Q E s := S.store' hk hr hρ hω fun s' ⟨m, cm, S', _⟩ _ => k s' ⟨m, cm, S'⟩

/-- another frame's table turns -/
theorem FSt.sameBut {C : Addr} {m' : Str → Option Value} {h' : Heap} (S : FSt c s₀ X env ρ ω P s) (hn : s.heap.Ns C m') (hs : Heap.SameBut C s.heap h') (h0 : s₀.heap.get? C = none) (hL : C ≠ env.locals)
    (hcs : ∀ n a, env.cells.lookup n = some a → C ≠ a) (hX : C ∉ X) : FSt c s₀ X env ρ ω P { s with heap := h' } := by
  obtain ⟨m, cm, S⟩ := S
  have sk : ∀ Y, SK Y s.heap h' := fun Y => .of_ns hn hs
  obtain ⟨o, es, ep, ho, hd, _⟩ := id hn
  have nf : ¬ FS o.data := by rw [hd]; rintro (⟨_, _, h⟩ | ⟨_, h⟩) <;> cases h
  have fsne : ∀ {b : Addr} {o' : Obj}, s.heap.get? b = some o' → FS o'.data → b ≠ C := fun e f h => by
    subst h; rw [e] at ho; cases ho; exact nf f
  have k0 : Kp s₀.heap h' := fun b o e => hs.extBut b o (fun h => by rw [h, h0] at e; cases e) (S.fr.toInCall.keep b o e)
  refine ⟨m, cm, S.ok, ⟨⟨?_, S.fr.toInCall.ns.sameBut hs (Ne.symm hL), k0, S.fr.toInCall.fresh⟩, fun n a ha => (S.fr.cell n a ha).sameBut hs (Ne.symm (hcs n a ha)), S.fr.apart, S.fr.above⟩, ?_, ?_, ⟨fun b o e => k0 b o (S.b0 b o e), ?_⟩, ?_, fun q hq => (S.gh q hq).keep (sk X), S.b0⟩
  · obtain ⟨h₁, tk, e⟩ := S.fr.toInCall.same
    exact ⟨h', tk, by rw [e]⟩
  · intro y q hy
    obtain ⟨u, h1, h2⟩ := S.var y q hy
    refine ⟨u, h1, ?_⟩
    cases q with
    | d x => exact Rel.keep (sk X) h2
    | l xs =>
      obtain ⟨a', vs, e, ⟨o, e2, c2, n, d2⟩, r⟩ := h2
      exact ⟨a', vs, e, ⟨o, sk [] _ _ _ _ e2 d2 (by simp), c2, n, d2⟩, r.keep (sk X)⟩
  · intro y b ds hy
    obtain ⟨h1, h2, h3, vs, ⟨n, h4⟩, h5⟩ := S.own y b ds hy
    exact ⟨h1, h2, h3, vs, ⟨n, hs.extBut b _ (fsne h4 (.inl ⟨_, _, rfl⟩)) h4⟩, h5.keep (sk X)⟩
  · intro b hb
    obtain ⟨o, e⟩ := S.bs.live b hb; exact ⟨o, hs.extBut b o (fun h => hX (h ▸ hb)) e⟩
  · exact fun q hq => ⟨hs.extBut _ _ (fsne (S.pin q hq).1 (S.pin q hq).2) (S.pin q hq).1, (S.pin q hq).2⟩
end
end Mine
end

section
open PySem PySem.W PyProof.Rows PySem.SeqAt
set_option Elab.async false
set_option maxRecDepth 100000
namespace Mine

section
variable {c : Cx} {A : Around} {X : List Addr} {env : Env} {ρ : List (Str × Pd)} {ω : Om} {P : Pn} {s₀ s s' : Shared} {Q : Flow → Shared → Prop} {rest : List Stmt}

/-- names that a store does not meet -/
def Off (x : Str) (ρ : List (Str × Pd)) (ω : Om) : Prop := (ρ.map (·.1)).all (fun y => !(y == x)) = true ∧ (ω.map (·.1)).all (fun y => !(y == x)) = true
theorem Off.r {x : Str} (h : Off x ρ ω) : ∀ y q, (y, q) ∈ ρ → y ≠ x := fun y q hy => by
  have := List.all_eq_true.mp h.1 y (List.mem_map.mpr ⟨(y, q), hy, rfl⟩)
  simpa using this
theorem Off.o {x : Str} (h : Off x ρ ω) : ∀ w ∈ ω, w.1 ≠ x := fun w hw => by
  have := List.all_eq_true.mp h.2 w.1 (List.mem_map.mpr ⟨w, hw, rfl⟩)
  simpa using this

theorem FSt.storeNew {x : Str} {v : Value} {p : Pd} {Q : Unit → Shared → Prop} {E} (S : FSt c s₀ X env ρ ω P s) (hk : KindOk env x) (hr : RelP X s.heap v p) (hf : Off x ρ ω)
    (k : ∀ s', FSt c s₀ X env ((x, p) :: ρ) ω P s' → Q () s') : wpAny (model c.prog c.w) A (storeName env x v) Q E s :=
  S.store hk hr (fun y q hy => by
    rcases List.mem_cons.mp hy with e | h
    · cases e; exact .inl ⟨rfl, rfl⟩
    · exact .inr ⟨hf.r y q h, h⟩) (fun w hw => ⟨hf.o w hw, hw⟩) k

theorem st_asg {x : Str} {px pos : Pos} {e : Expr} {p : Pd} (S : FSt c s₀ X env ρ ω P s) (he : Ev c A X env (ρ ++ omρ ω) e p) (hk : KindOk env x) (hf : Off x ρ ω)
    (k : ∀ s', FSt c s₀ X env ((x, p) :: ρ) ω P s' → wpAny (model c.prog c.w) A (execs rest env) Q (fun _ _ => False) s')
    (hs : swapsWith e (some (.Name x px)) pos.line env = pure false := by rfl) :
    wpAny (model c.prog c.w) A (execs (.Assign [.Name x px] e pos :: rest) env) Q (fun _ _ => False) s := by
  refine wpAny_execs_cons (wpAny_Assign_Name (wpAny_mono (he s S.se) (fun v s1 r1 => ?_) fun _ _ f => f) hs)
  exact (S.keep r1.2).storeNew hk r1.1 hf k
/-- a store over an elder value -/
theorem st_asgU {x : Str} {px pos : Pos} {e : Expr} {p : Pd} (ρ' : List (Str × Pd)) (S : FSt c s₀ X env ρ ω P s) (he : Ev c A X env (ρ ++ omρ ω) e p) (hk : KindOk env x)
    (hρ : ∀ y q, (y, q) ∈ ρ' → (y = x ∧ q = p) ∨ (y ≠ x ∧ (y, q) ∈ ρ)) (hω : ∀ w ∈ ω, w.1 ≠ x)
    (k : ∀ s', FSt c s₀ X env ρ' ω P s' → wpAny (model c.prog c.w) A (execs rest env) Q (fun _ _ => False) s')
    (hs : swapsWith e (some (.Name x px)) pos.line env = pure false := by rfl) :
    wpAny (model c.prog c.w) A (execs (.Assign [.Name x px] e pos :: rest) env) Q (fun _ _ => False) s := by
  refine wpAny_execs_cons (wpAny_Assign_Name (wpAny_mono (he s S.se) (fun v s1 r1 => ?_) fun _ _ f => f) hs)
  exact (S.keep r1.2).store hk r1.1 hρ (fun w hw => ⟨hω w hw, hw⟩) k
theorem st_augU {x : Str} {px pos : Pos} {e : Expr} {op : Operator} {p q r : Pd} (ρ' : List (Str × Pd)) (S : FSt c s₀ X env ρ ω P s) (hx : (x, q) ∈ ρ) (he : Ev c A X env (ρ ++ omρ ω) e p) (hk : KindOk env x)
    (hop : ∀ s v1 v2, Bs c X s.heap → RelP X s.heap v1 q → RelP X s.heap v2 p → Gv c A X (inplaceOp op v1 v2) r s)
    (hρ : ∀ y q', (y, q') ∈ ρ' → (y = x ∧ q' = r) ∨ (y ≠ x ∧ (y, q') ∈ ρ)) (hω : ∀ w ∈ ω, w.1 ≠ x)
    (k : ∀ s', FSt c s₀ X env ρ' ω P s' → wpAny (model c.prog c.w) A (execs rest env) Q (fun _ _ => False) s') :
    wpAny (model c.prog c.w) A (execs (.AugAssign (.Name x px) op e pos :: rest) env) Q (fun _ _ => False) s := by
  refine wpAny_execs_cons (wpAny_AugAssign_Name ?_)
  obtain ⟨v, hv, hr⟩ := S.se.var x q (List.mem_append.mpr (.inl hx))
  have fin : wpAny (model c.prog c.w) A (eval e env) (fun v2 s2 => wpAny (model c.prog c.w) A (inplaceOp op v v2) (fun r s3 => wpAny (model c.prog c.w) A (storeName env x r) (fun _ => fun s4 => wpAny (model c.prog c.w) A (execs rest env) Q (fun _ _ => False) s4) (fun _ _ => False) s3) (fun _ _ => False) s2) (fun _ _ => False) s := by
    refine wpAny_mono (he s S.se) (fun v2 s2 r2 => ?_) fun _ _ f => f
    have S2 := S.keep r2.2
    refine wpAny_mono (hop s2 v v2 S2.se.bs (hr.keep r2.2.kp) r2.1) (fun v3 s3 r3 => ?_) fun _ _ f => f
    exact (S2.keep r3.2).store hk r3.1 hρ (fun w hw => ⟨hω w hw, hw⟩) k
  rcases hv with ⟨hk', m, hn, hm⟩ | ⟨hk', a, ha, hc⟩
  · exact wpAny_loadName_local S.se.ok.kind hk' hn hm fin
  · exact wpAny_loadName_cell S.se.ok.kind hk' ha hc fin

theorem st_nil (S : FSt c s₀ X env ρ ω P s) (k : Q .next s) : wpAny (model c.prog c.w) A (execs [] env) Q (fun _ _ => False) s := wpAny_execs_nil k
theorem st_ret {e : Expr} {pos : Pos} {p : Pd} (S : FSt c s₀ X env ρ ω P s) (he : Ev c A X env (ρ ++ omρ ω) e p) (k : ∀ v s', RelP X s'.heap v p → FSt c s₀ X env ρ ω P s' → Q (.ret v) s') :
    wpAny (model c.prog c.w) A (execs (.Return (some e) pos :: rest) env) Q (fun _ _ => False) s :=
  wpAny_execs_cons (wpAny_Return_some (wpAny_mono (he s S.se) (fun v s1 r1 => k v s1 r1.1 (S.keep r1.2)) fun _ _ f => f))
theorem st_if {e : Expr} {pos : Pos} {b : Bool} {body : List Stmt} (S : FSt c s₀ X env ρ ω P s) (ht : Tst c A X env (ρ ++ omρ ω) e b)
    (hT : b = true → ∀ s', FSt c s₀ X env ρ ω P s' → wpAny (model c.prog c.w) A (execs body env) (fun f s2 => match f with | .next => wpAny (model c.prog c.w) A (execs rest env) Q (fun _ _ => False) s2 | f => Q f s2) (fun _ _ => False) s')
    (hF : b = false → ∀ s', FSt c s₀ X env ρ ω P s' → wpAny (model c.prog c.w) A (execs rest env) Q (fun _ _ => False) s') :
    wpAny (model c.prog c.w) A (execs (.If e body [] pos :: rest) env) Q (fun _ _ => False) s := by
  refine wpAny_execs_cons (wpAny_If (wpAny_mono (ht s S.se) (fun b' s1 r1 => ?_) fun _ _ f => f))
  obtain ⟨rfl, k1⟩ := r1
  cases b' with
  | true => exact hT rfl s1 (S.keep k1)
  | false => exact wpAny_execs_nil (hF rfl s1 (S.keep k1))
theorem st_ifE {e : Expr} {pos : Pos} {b : Bool} {body orelse : List Stmt} (S : FSt c s₀ X env ρ ω P s) (ht : Tst c A X env (ρ ++ omρ ω) e b)
    (hT : b = true → ∀ s', FSt c s₀ X env ρ ω P s' → wpAny (model c.prog c.w) A (execs body env) (fun f s2 => match f with | .next => wpAny (model c.prog c.w) A (execs rest env) Q (fun _ _ => False) s2 | f => Q f s2) (fun _ _ => False) s')
    (hF : b = false → ∀ s', FSt c s₀ X env ρ ω P s' → wpAny (model c.prog c.w) A (execs orelse env) (fun f s2 => match f with | .next => wpAny (model c.prog c.w) A (execs rest env) Q (fun _ _ => False) s2 | f => Q f s2) (fun _ _ => False) s') :
    wpAny (model c.prog c.w) A (execs (.If e body orelse pos :: rest) env) Q (fun _ _ => False) s := by
  refine wpAny_execs_cons (wpAny_If (wpAny_mono (ht s S.se) (fun b' s1 r1 => ?_) fun _ _ f => f))
  obtain ⟨rfl, k1⟩ := r1
  cases b' with
  | true => exact hT rfl s1 (S.keep k1)
  | false => exact hF rfl s1 (S.keep k1)

/-- a comprehension whose store goes ahead of its names' end -/
theorem st_comp {x : Str} {px pos : Pos} {elt target iter : Expr} {ifs : List Expr} {scope : Scope} {cpos : Pos} {cl : List (Str × Addr)}
    {ρf : List (Str × Pd)} {ρt : PyData → List (Str × Pd)} {p : PyData → Bool} {f : PyData → PyData} {ds : List PyData} {g : Bool} (S : FSt c s₀ X env ρ ω P s)
    (hsw : swapsWith (.ListComp elt [⟨target, iter, ifs, 0⟩] scope cpos) (some (.Name x px)) pos.line env = pure true)
    (hclos : closureFor scope env = pure cl) (hcell : ∀ y ∈ scope.names, y.2 ≠ .cell) (hkind : scope.kind = .function)
    (hnames : ∀ y ∈ scope.names, y.2 = .local → scope.names.lookup y.1 = some .local)
    (hfr : FreeL env scope cl (ρ ++ omρ ω) ρf) (hit : IterE c A X env (ρ ++ omρ ω) iter target ds g)
    (hkl : ∀ d, d ∈ ds → ∀ x q, (x, q) ∈ ρt d → scope.names.lookup x = some .local)
    (hasg : ∀ Y C d, d ∈ ds → AsgC c A Y (compEnvC scope cl C env) target d (ρt d))
    (htst : ∀ Y C d, d ∈ ds → TstC c A Y (compEnvC scope cl C env) (ρt d ++ ρf) ifs (p d))
    (helt : ∀ Y C d, d ∈ ds → p d = true → Ev c A Y (compEnvC scope cl C env) (ρt d ++ ρf) elt (.d (f d)))
    (hsz : ds.length ≤ 100000) (hk : KindOk env x) (hf : Off x ρ ω)
    (k : ∀ s', FSt c s₀ X env ((x, .d (.list ((ds.filter p).map f))) :: ρ) ω P s' → wpAny (model c.prog c.w) A (execs rest env) Q (fun _ _ => False) s')
    (hs : ∀ x, foldedSetIterable iter env x = pure x := by intro _; rfl) :
    wpAny (model c.prog c.w) A (execs (.Assign [.Name x px] (.ListComp elt [⟨target, iter, ifs, 0⟩] scope cpos) pos :: rest) env) Q (fun _ _ => False) s := by
  refine wpAny_execs_cons ?_
  rw [exec_Assign_Name_used _ _ _ _ hsw]
  refine wpAny_bind (wpAny_standAt (wpAny_bind ?_))
  show wpAny _ A (do let _ ← comprehension (.ListComp elt [⟨target, iter, ifs, 0⟩] scope cpos) scope env _ (newList []) false (eval iter env) (some (assign (.Name x px) env))) _ _ s
  refine wpAny_bind (wpAny_mono (compGen (use := some (assign (.Name x px) env)) (Q := fun _ s' => wpAny (model c.prog c.w) A (execs rest env) Q (fun _ _ => False) s') S.se hclos hcell hkind hnames hfr hit hkl hasg htst helt hsz hs ?_) (fun _ s' hq => wpAny_pure (wpAny_pure hq)) fun _ _ f => f)
  intro D C m' s1 hD hC hDC ks hn hr hl hlive
  show wpAny _ A (assign (.Name x px) env (.ref D)) _ _ _
  have S1 := S.keep ks
  obtain ⟨mm, cmm, SI⟩ := id S
  have hCL : C ≠ env.locals := fun h => by obtain ⟨o, _, _, e, _⟩ := SI.fr.toInCall.ns; rw [← h, hC] at e; cases e
  have hCc : ∀ n a, env.cells.lookup n = some a → C ≠ a := fun n a ha h => by obtain ⟨o, e, _⟩ := SI.fr.cell n a ha; rw [← h, hC] at e; cases e
  have hCX : C ∉ X := fun h => by obtain ⟨o, e⟩ := SI.bs.live C h; rw [hC] at e; cases e
  have hC0 : s₀.heap.get? C = none := none_of_kp SI.fr.toInCall.keep hC
  refine wpAny_assign_Name (S1.store' hk (p := .d (.list ((ds.filter p).map f))) hr (ρ' := (x, .d (.list ((ds.filter p).map f))) :: ρ) (ω' := ω) (fun y q hy => by
    rcases List.mem_cons.mp hy with e | h
    · cases e; exact .inl ⟨rfl, rfl⟩
    · exact .inr ⟨hf.r y q h, h⟩) (fun w hw => ⟨hf.o w hw, hw⟩) fun s2 ⟨m2, cm2, S2', _⟩ k2 => ?_)
  have S2 : FSt c s₀ X env ((x, .d (.list ((ds.filter p).map f))) :: ρ) ω P s2 := ⟨m2, cm2, S2'⟩
  have hn2 : s2.heap.Ns C m' := hn.at' fun o e => k2 C o e hCL hCc
  exact ⟨m', hn2, fun h' hs' => k _ (S2.sameBut hn2 hs' hC0 hCL hCc hCX)⟩
end
end Mine
end

section
open PySem PySem.W PyProof.Rows PySem.SeqAt
set_option Elab.async false
set_option maxRecDepth 100000
namespace Mine

theorem bindL_off {k : Str → Option NameKind} {x : Str} : ∀ (b : List (Str × Value)) (m : Str → Option Value), (∀ y ∈ b, y.1 ≠ x) → bindL k b m x = m x
  | [], _, _ => rfl
  | (n, v) :: r, m, h => by
    unfold bindL
    rw [bindL_off r _ fun y hy => h y (List.mem_cons_of_mem _ hy)]
    have : x ≠ n := fun e => h (n, v) List.mem_cons_self e.symm
    split <;> simp [this]
theorem bindC_off {k : Str → Option NameKind} {x : Str} : ∀ (b : List (Str × Value)) (m : Str → Option Value), (∀ y ∈ b, y.1 ≠ x) → bindC k b m x = m x
  | [], _, _ => rfl
  | (n, v) :: r, m, h => by
    unfold bindC
    rw [bindC_off r _ fun y hy => h y (List.mem_cons_of_mem _ hy)]
    have : x ≠ n := fun e => h (n, v) List.mem_cons_self e.symm
    split <;> simp [this]
theorem bind_at {k : Str → Option NameKind} {x : Str} {v : Value} : ∀ (b : List (Str × Value)) (m cm : Str → Option Value), (b.map (·.1)).Nodup → (x, v) ∈ b →
    (k x = some .local → bindL k b m x = some v) ∧ (k x ≠ some .local → bindC k b cm x = some v)
  | (n, u) :: r, m, cm, hnd, h => by
    rw [List.map_cons, List.nodup_cons] at hnd
    unfold bindL bindC
    rcases List.mem_cons.mp h with e | h
    · cases e
      have off : ∀ y ∈ r, y.1 ≠ x := fun y hy e => hnd.1 (e ▸ List.mem_map.mpr ⟨y, hy, rfl⟩)
      refine ⟨fun hk => ?_, fun hk => ?_⟩
      · rw [bindL_off r _ off, if_pos hk]; simp
      · rw [bindC_off r _ off, if_neg hk]; simp
    · exact bind_at r _ _ hnd.2 h

section
variable {c : Cx} {A : Around} {X : List Addr} {env : Env} {ρ : List (Str × Pd)} {ω : Om} {P : Pn} {s₀ s s' : Shared} {Q : Flow → Shared → Prop} {rest : List Stmt}

theorem RelPL.zip {h : Heap} : ∀ {names : List Str} {vs : List Value} {ps : List Pd} {x : Str} {p : Pd}, RelPL X h vs ps → (x, p) ∈ names.zip ps → ∃ v, (x, v) ∈ names.zip vs ∧ RelP X h v p
  | [], _, _, _, _, _, hx => by simp at hx
  | n :: ns, [], [], _, _, _, hx => by simp at hx
  | n :: ns, v :: vs, q :: qs, x, p, ⟨r1, r2⟩, hx => by
    rw [List.zip_cons_cons] at hx ⊢
    rcases List.mem_cons.mp hx with e | h
    · cases e; exact ⟨v, .head _, r1⟩
    · obtain ⟨w, hw, hr⟩ := RelPL.zip r2 h
      exact ⟨w, .tail _ hw, hr⟩
  | n :: ns, [], _ :: _, _, _, f, _ => f.elim
  | n :: ns, _ :: _, [], _, _, f, _ => f.elim
theorem RelPL.length {h : Heap} : ∀ {vs : List Value} {ps : List Pd}, RelPL X h vs ps → vs.length = ps.length
  | [], [], _ => rfl
  | _ :: _, _ :: _, ⟨_, r⟩ => by simp [RelPL.length r]
  | [], _ :: _, f => f.elim
  | _ :: _, [], f => f.elim
theorem map_zip_fst : ∀ (names : List Str) (vs : List Value), vs.length = names.length → (names.zip vs).map (·.1) = names
  | [], _, _ => by simp
  | n :: ns, [], h => by simp at h
  | n :: ns, v :: vs, h => by simp [map_zip_fst ns vs (by simpa using h)]

theorem Fn.intro {f : Str} {a : Addr} {o : Obj} {fd : FuncData} {body : List Stmt} {ps : List Pd} {p : Pd} (names : List Str) (hmg : c.mg f = some (.ref a)) (ho : c.H0.get? a = some o) (hd : o.data = .func fd)
    (hcode : c.H0.CodeRec fd.code fd.qualname) (hbody : fd.body = .stmts body) (hclo : fd.closure = []) (hg : fd.globals = mainGlobals) (hbu : fd.builtins = builtinsNs)
    (hbind : ∀ vs, vs.length = names.length → bindArgs fd ⟨vs, []⟩ = pure (names.zip vs)) (hlen : ps.length = names.length) (hnd : names.Nodup)
    (hkn : ∀ n ∈ names, ∀ L, KindOk (callEnvC fd L a) n) (room : Rm A 1)
    (hb : ∀ X s₀ s, FSt c s₀ X (callEnvC fd s₀.heap.objs.size a) (names.zip ps) [] {} s →
      wpAny (model c.prog c.w) (A.deeper (callEnvC fd s₀.heap.objs.size a)) (execs body (callEnvC fd s₀.heap.objs.size a)) (fun fl s' => ∃ v, fl = .ret v ∧ RelP X s'.heap v p ∧ Ks s₀ s') (fun _ _ => False) s)
    (hco : fd.scope.isCoroutine = false := by rfl) (hgen : fd.scope.isGenerator = false := by rfl) (hk : fd.scope.kind = .function := by rfl) : Fn c A f ps p := by
  refine ⟨a, o, fd, hmg, ho, hd, fun X s vs bs r => ?_⟩
  have hvl : vs.length = names.length := r.length.trans hlen
  have hdp := room.depth
  refine wpAny_call (codeAny_call_cells (by omega) (bs.base _ _ ho) hd (c.lim.keeps bs.base) (hcode.keeps bs.base) hbody (hbind vs hvl) hclo (fun x hx => ?_) (fun s₁ fr => ?_) hco hgen hk)
  · have := hkn x.1 (by
      obtain ⟨x1, x2⟩ := x
      exact (List.of_mem_zip hx).1) s.heap.objs.size
    exact this
  have FS0 : FSt c s X (callEnvC fd s.heap.objs.size a) (names.zip ps) [] {} s₁ := by
    refine ⟨_, _, ⟨hk, hg, hbu⟩, fr, fun x q hx => ?_, fun x a ds hx => by simp at hx, ⟨fun b o e => fr.toInCall.keep b o (bs.base b o e), fun b hb => let ⟨o, e⟩ := bs.live b hb; ⟨o, fr.toInCall.keep _ _ e⟩⟩, (fun q hq => by cases hq), (fun q hq => by cases hq), bs.base⟩
    obtain ⟨v, hv, hr⟩ := RelPL.zip r hx
    have hat := bind_at (k := (callEnvC fd s.heap.objs.size a).kindOf) (names.zip vs) (fun _ => none) (fun _ => none) (by rw [map_zip_fst names vs hvl]; exact hnd) hv
    refine ⟨v, ?_, hr.keep fr.toInCall.keep⟩
    rcases hkn x (List.of_mem_zip hx).1 s.heap.objs.size with hkk | ⟨hkk, hcs⟩
    · exact .inl ⟨hkk, hat.1 hkk⟩
    · exact .inr ⟨hkk, Option.isSome_iff_exists.mp hcs, hat.2 (by rw [hkk]; decide)⟩
  refine wpAny_mono (hb X s s₁ FS0) (fun fl s' h' => ?_) fun _ _ f => f.elim
  obtain ⟨v, rfl, hr, hks⟩ := h'
  exact ⟨hr, hks⟩

/-- the end of a body -/
theorem st_retF {e : Expr} {pos : Pos} {p : Pd} (S : FSt c s₀ X env ρ ω P s) (he : Ev c A X env (ρ ++ omρ ω) e p) :
    wpAny (model c.prog c.w) A (execs (.Return (some e) pos :: rest) env) (fun fl s' => ∃ v, fl = .ret v ∧ RelP X s'.heap v p ∧ Ks s₀ s') (fun _ _ => False) s :=
  st_ret S he fun v s' hr S' => ⟨v, rfl, hr, S'.ks⟩
end
end Mine
end

section
open PySem PySem.W PyProof.Rows PySem.SeqAt
set_option Elab.async false
set_option maxRecDepth 100000
namespace Mine

section
variable {c : Cx} {A : Around} {X : List Addr} {env : Env} {ρ : List (Str × Pd)} {ω : Om} {P : Pn} {s₀ s s' : Shared} {Q : Flow → Shared → Prop} {rest : List Stmt}

theorem RelP.more {Y : List Addr} {h : Heap} {v : Value} {p : Pd} (k : ∀ a ∈ Y, a ∈ X ∨ h.get? a = none) (r : RelP X h v p) : RelP Y h v p := by
  cases p with
  | d x => exact Rel.more k r
  | l xs => obtain ⟨a, vs, e, hl, hr⟩ := r; exact ⟨a, vs, e, hl, RelL.more k hr⟩
theorem RelP.less {Y : List Addr} {h : Heap} {v : Value} {p : Pd} (k : ∀ a ∈ Y, a ∈ X) (r : RelP X h v p) : RelP Y h v p := by
  cases p with
  | d x => exact Rel.less k r
  | l xs => obtain ⟨a, vs, e, hl, hr⟩ := r; exact ⟨a, vs, e, hl, RelL.less k hr⟩

/-- more addresses to keep off -/
theorem FSt.grow {Y : List Addr} {P' : Pn} (S : FSt c s₀ X env ρ ω P s) (hXY : ∀ a ∈ X, a ∈ Y) (hY : ∀ a ∈ Y, a ∈ X ∨ s.heap.get? a = none) (k : Ks s s') (hl : ∀ a ∈ Y, ∃ o, s'.heap.get? a = some o)
    (hP : ∀ q ∈ P'.l, q ∈ P.l ∨ (s'.heap.get? q.1 = some q.2 ∧ FS q.2.data)) (hG : ∀ q ∈ P'.g, q ∈ P.g ∨ Rel Y s'.heap q.1 q.2) : FSt c s₀ Y env ρ ω P' s' := by
  obtain ⟨m, cm, S⟩ := S
  refine ⟨m, cm, S.ok, inCallC_keep S.fr k, fun x p hx => let ⟨v, a, b⟩ := S.var x p hx; ⟨v, a, (b.more hY).keep k.kp⟩,
    fun x a ds hx => let ⟨h1, h2, h3, vs, h4, h5⟩ := S.own x a ds hx; ⟨h1, hXY _ h2, h3, vs, h4.at fun _ e => k.kp _ _ e, (RelL.more hY h5).keep (.of_kp k.kp)⟩,
    ⟨fun b o e => k.kp _ _ (S.bs.base b o e), hl⟩, fun q hq => ?_, fun q hq => ?_, S.b0⟩
  · rcases hP q hq with h | h
    · exact ⟨k.kp _ _ (S.pin q h).1, (S.pin q h).2⟩
    · exact h
  · rcases hG q hq with h | h
    · exact (Rel.more hY (S.gh q h)).keep (.of_kp k.kp)
    · exact h
theorem FSt.shrink {Y : List Addr} {P' : Pn} (S : FSt c s₀ Y env ρ ω P s) (hXY : ∀ a ∈ X, a ∈ Y) (hω : ∀ w ∈ ω, w.2.1 ∈ X) (hP : ∀ q ∈ P'.l, q ∈ P.l) (hG : ∀ q ∈ P'.g, q ∈ P.g) : FSt c s₀ X env ρ ω P' s := by
  obtain ⟨m, cm, S⟩ := S
  exact ⟨m, cm, S.ok, S.fr, fun x p hx => let ⟨v, a, b⟩ := S.var x p hx; ⟨v, a, b.less hXY⟩,
    fun x a ds hx => let ⟨h1, _, h3, vs, h4, h5⟩ := S.own x a ds hx; ⟨h1, hω _ hx, h3, vs, h4, RelL.less hXY h5⟩, ⟨S.bs.base, fun a ha => S.bs.live a (hXY a ha)⟩, fun q hq => S.pin q (hP q hq), fun q hq => Rel.less hXY (S.gh q (hG q hq)), S.b0⟩

def AllD (ρ : List (Str × Pd)) : Prop := ∀ y q, (y, q) ∈ ρ → ∃ d, q = .d d

/-- an own list turns -/
theorem FSt.mutate {x : Str} {a : Addr} {ds ds' : List PyData} {h' : Heap} {vs' : Array Value} (S : FSt c s₀ X env ρ ((x, a, ds) :: ω) P s) (hs : Heap.SameBut a s.heap h') (hl : h'.PlainList a vs') (hr : RelL X s.heap vs'.toList ds')
    (hD : AllD ρ) (hω : ∀ w ∈ ω, w.2.1 ≠ a) (hP : ∀ q ∈ P.l, q.1 ≠ a) : FSt c s₀ X env ρ ((x, a, ds') :: ω) P { s with heap := h' } := by
  obtain ⟨m, cm, S⟩ := S
  obtain ⟨hv, haX, ha0, vs, ⟨n, e⟩, _⟩ := S.own x a ds (.head _)
  have sk : SK X s.heap h' := .of_mem haX hs
  have hL : a ≠ env.locals := fun h => by obtain ⟨o, _, _, e', d', _⟩ := S.fr.toInCall.ns; rw [← h, e] at e'; cases e'; cases d'
  have hC : ∀ n c, env.cells.lookup n = some c → a ≠ c := fun n c hc h => by obtain ⟨o, e', d'⟩ := S.fr.cell n c hc; rw [← h, e] at e'; cases e'; cases d'
  have k0 : Kp s₀.heap h' := fun b o e => hs.extBut b o (fun h => by rw [h, ha0] at e; cases e) (S.fr.toInCall.keep b o e)
  refine ⟨m, cm, S.ok, ⟨⟨?_, S.fr.toInCall.ns.sameBut hs (Ne.symm hL), k0, S.fr.toInCall.fresh⟩, fun n c hc => (S.fr.cell n c hc).sameBut hs (Ne.symm (hC n c hc)), S.fr.apart, S.fr.above⟩, ?_, ?_, ⟨fun b o e => k0 b o (S.b0 b o e), ?_⟩, ?_, fun q hq => (S.gh q hq).keep sk, S.b0⟩
  · obtain ⟨h₁, tk, e⟩ := S.fr.toInCall.same
    exact ⟨h', tk, by rw [e]⟩
  · intro y q hy
    obtain ⟨u, h1, h2⟩ := S.var y q hy
    obtain ⟨d, rfl⟩ := hD y q hy
    exact ⟨u, h1, Rel.keep sk h2⟩
  · intro y b es hy
    rcases List.mem_cons.mp hy with e | hy
    · cases e
      exact ⟨hv, haX, ha0, vs', hl, hr.keep sk⟩
    · obtain ⟨h1, h2, h3, vs, h4, h5⟩ := S.own y b es (.tail _ hy)
      exact ⟨h1, h2, h3, vs, h4.at fun o e => hs.extBut b o (hω _ hy) e, h5.keep sk⟩
  · intro b hb
    by_cases hba : b = a
    · obtain ⟨n', e'⟩ := hl; exact ⟨_, hba ▸ e'⟩
    · obtain ⟨o, e⟩ := S.bs.live b hb; exact ⟨o, hs.extBut b o hba e⟩
  · exact fun q hq => ⟨hs.extBut _ _ (hP q hq) (S.pin q hq).1, (S.pin q hq).2⟩

/-- an expression that gives a new list -/
def EvN (c : Cx) (A : Around) (X : List Addr) (env : Env) (ρ : List (Str × Pd)) (e : Expr) (ds : List PyData) : Prop :=
  ∀ s, StE c X env ρ s.heap → GvN c A X (eval e env) ds s
theorem EvN.list {es : List Expr} {pos : Pos} {ds : List PyData} (h : EvL c A X env ρ es (ds.map .d)) (hsz : ds.length ≤ 1000) : EvN c A X env ρ (.List es pos) ds := fun s st => by
  refine wpAny_List (wpAny_mono (h.run s st) (fun vs s1 r1 => ?_) fun _ _ f => f)
  have st1 := st.keep r1.2.kp
  have r := r1.1.rel
  refine ⟨by rw [r.length, sizeLine_eq]; omega, s1.heap.objs.size, vs.toArray, rfl, none_of_kp r1.2.kp (fresh_none _), ⟨_, Heap.get?_push_size _ rfl⟩, ?_, r1.2.trans (Ks.push s1 _ s1.toks)⟩
  have r' : RelL (s1.heap.objs.size :: X) s1.heap vs ds := RelL.more (fun b hb => by
    rcases List.mem_cons.mp hb with h | h
    · exact .inr (h ▸ fresh_none _)
    · exact .inl h) r
  simpa using r'.keep (.of_kp fun _ _ e => Heap.get?_push_of_some _ e)

/-- a name takes a new list that the frame will turn -/
theorem st_own {x : Str} {px pos : Pos} {e : Expr} {ds : List PyData} (S : FSt c s₀ X env ρ ω P s) (he : EvN c A X env (ρ ++ omρ ω) e ds) (hk : KindOk env x) (hf : Off x ρ ω)
    (k : ∀ a s', a ∉ X → (∀ w ∈ ω, w.2.1 ≠ a) → (∀ q ∈ P.l, q.1 ≠ a) → FSt c s₀ (a :: X) env ρ ((x, a, ds) :: ω) P s' → wpAny (model c.prog c.w) A (execs rest env) Q (fun _ _ => False) s')
    (hs : swapsWith e (some (.Name x px)) pos.line env = pure false := by rfl) :
    wpAny (model c.prog c.w) A (execs (.Assign [.Name x px] e pos :: rest) env) Q (fun _ _ => False) s := by
  refine wpAny_execs_cons (wpAny_Assign_Name (wpAny_mono (he s S.se) (fun v s1 r1 => ?_) fun _ _ f => f) hs)
  obtain ⟨a, vs, rfl, ha, hl, hr, ks⟩ := r1
  obtain ⟨m, cm, SI⟩ := id S
  have haX : a ∉ X := fun h => by obtain ⟨o, e⟩ := SI.bs.live a h; rw [ha] at e; cases e
  have haω : ∀ w ∈ ω, w.2.1 ≠ a := fun w hw h => by
    obtain ⟨y, b, es⟩ := w
    obtain ⟨_, _, _, vs, ⟨n, e⟩, _⟩ := SI.own y b es hw
    have h' : b = a := h
    rw [h', ha] at e; cases e
  have haP : ∀ q ∈ P.l, q.1 ≠ a := fun q hq h => by have := (SI.pin q hq).1; rw [h, ha] at this; cases this
  have S1 : FSt c s₀ (a :: X) env ρ ω P s1 := S.grow (fun b hb => .tail _ hb) (fun b hb => by
    rcases List.mem_cons.mp hb with h | h
    · exact .inr (h ▸ ha)
    · exact .inl h) ks (fun b hb => by
    rcases List.mem_cons.mp hb with h | h
    · obtain ⟨n, e⟩ := hl; exact ⟨_, h ▸ e⟩
    · obtain ⟨o, e⟩ := SI.bs.live b h; exact ⟨o, ks.kp _ _ e⟩) (fun q hq => .inl hq) (fun q hq => .inl hq)
  refine S1.store' hk (p := .l ds) ⟨a, vs, rfl, hl.isList, hr⟩ (ρ' := ρ) (ω' := ω) (fun y q hy => .inr ⟨hf.r y q hy, hy⟩) (fun w hw => ⟨hf.o w hw, hw⟩) fun s2 ⟨m2, cm2, S2, hv2⟩ k2 => ?_
  obtain ⟨m1, cm1, S1I⟩ := id S1
  have hL : a ≠ env.locals := fun h => by obtain ⟨o, _, _, e, _⟩ := SI.fr.toInCall.ns; rw [← h, ha] at e; cases e
  have hC : ∀ n b, env.cells.lookup n = some b → a ≠ b := fun n b hb h => by obtain ⟨o, e, _⟩ := SI.fr.cell n b hb; rw [← h, ha] at e; cases e
  have sk : SK (a :: X) s1.heap s2.heap := fun b o xs n e d _ => by
    refine k2 b o e (fun h => ?_) (fun n' b' hb' h => ?_)
    · obtain ⟨o', _, _, e', d', _⟩ := S1I.fr.toInCall.ns; rw [← h, e] at e'; cases e'; rw [d] at d'; cases d'
    · obtain ⟨o', e', d'⟩ := S1I.fr.cell n' b' hb'; rw [← h, e] at e'; cases e'; rw [d] at d'; cases d'
  refine k a s2 haX haω haP ⟨m2, cm2, S2.ok, S2.fr, S2.var, fun y b es hy => ?_, S2.bs, S2.pin, S2.gh, S2.b0⟩
  rcases List.mem_cons.mp hy with e | hy
  · cases e
    exact ⟨hv2, .head _, none_of_kp SI.fr.toInCall.keep ha, vs, hl.at fun o e => k2 a o e hL hC, hr.keep sk⟩
  · exact S2.own y b es hy

theorem mutRel {x : Str} {a : Addr} {ds : List PyData} (S : FSt c s₀ X env ρ ((x, a, ds) :: ω) P s) : ∃ vs, s.heap.PlainList a vs ∧ RelL X s.heap vs.toList ds := by
  obtain ⟨m, cm, S⟩ := S
  obtain ⟨_, _, _, vs, h1, h2⟩ := S.own x a ds (.head _)
  exact ⟨vs, h1, h2⟩
theorem ldOwn {x : Str} {a : Addr} {ds : List PyData} {pos : Pos} {R : Value → Shared → Prop} {E} (S : FSt c s₀ X env ρ ((x, a, ds) :: ω) P s) (hd : (x == ("__debug__" : Str)) = false) (h : R (.ref a) s) :
    wpAny (model c.prog c.w) A (eval (.Name x pos) env) R E s := by
  obtain ⟨m, cm, S⟩ := S
  obtain ⟨hv, _⟩ := S.own x a ds (.head _)
  rcases hv.at S.fr with ⟨hk', m, hn, hm⟩ | ⟨hk', b, hb, hc⟩
  · exact wpAny_Name (wpAny_loadName_local S.ok.kind hk' hn hm h) hd
  · exact wpAny_Name (wpAny_loadName_cell S.ok.kind hk' hb hc h) hd

theorem st_append {x : Str} {a : Addr} {ds : List PyData} {d : PyData} {e : Expr} {px apos cpos pos : Pos} (S : FSt c s₀ X env ρ ((x, a, ds) :: ω) P s) (he : Ev c A X env (ρ ++ omρ ((x, a, ds) :: ω)) e (.d d))
    (hD : AllD ρ) (hω : ∀ w ∈ ω, w.2.1 ≠ a) (hP : ∀ q ∈ P.l, q.1 ≠ a) (hsz : ds.length ≤ 100000)
    (k : ∀ s', FSt c s₀ X env ρ ((x, a, ds ++ [d]) :: ω) P s' → wpAny (model c.prog c.w) A (execs rest env) Q (fun _ _ => False) s')
    (hline : (apos.endLine == cpos.line) = true := by rfl) (hs : starEach [e] env = [(false, eval e env)] := by rfl) (hd : (x == ("__debug__" : Str)) = false := by decide)
    (hbase : attributeBase (.Name x px) (Str.ofString "append") env (eval (.Name x px) env) = eval (.Name x px) env := by rfl) (hi : interactive env = false := by rfl)
    (hsw : swapsWith (.Call (.Attribute (.Name x px) (Str.ofString "append") apos) [e] [] cpos) none pos.line env = pure false := by rfl) :
    wpAny (model c.prog c.w) A (execs (.Expr (.Call (.Attribute (.Name x px) (Str.ofString "append") apos) [e] [] cpos) pos :: rest) env) Q (fun _ _ => False) s := by
  refine wpAny_execs_cons (wpAny_Expr ?_ hi hsw)
  have hL : EvL c A X env (ρ ++ omρ ((x, a, ds) :: ω)) [e] [.d d] := ⟨hs, he, trivial⟩
  refine wpAny_Call_method_lateS hbase ?_ hline (ldOwn S hd ?_)
  · rw [EvL.plain' hL]; rfl
  obtain ⟨vs, hl, hr⟩ := mutRel S
  refine ⟨"list", "list.append", F.plainAttrs_list, slot_list_append, F.type_list_append, hl.isList.typeIs, ?_, ?_⟩
  · intro b hb; cases hb; obtain ⟨n, e⟩ := hl; exact ⟨_, e, rfl⟩
  refine callWith_method1 (wpAny_mono (hL.run s S.se) (fun ws s1 r1 => ?_) fun _ _ f => f) hs rfl
  obtain ⟨w, rfl, rw'⟩ := r1.1.one
  have S1 := S.keep r1.2
  have hl1 : s1.heap.PlainList a vs := hl.at fun o e => r1.2.kp _ _ e
  have hr1 : RelL X s1.heap vs.toList ds := hr.keep (.of_kp r1.2.kp)
  have hlen := hr1.length
  simp only [Array.length_toList] at hlen
  show wpAny _ A (call (.builtin "list.append") [.ref a, w]) _ _ s1
  refine wpAny_list_append_plain hl1 (fun h' hl' hs' => ?_) (by rw [sizeLine_eq]; omega)
  refine k _ (S1.mutate hs' hl' ?_ hD hω hP)
  have rw2 : Rel X s1.heap w d := rw'
  simpa using hr1.append (.cons rw2 .nil)

theorem st_del {x : Str} {a : Addr} {ds : List PyData} {i : Expr} {k0 : Int} {j : Nat} {px spos pos : Pos} (S : FSt c s₀ X env ρ ((x, a, ds) :: ω) P s) (he : Ev c A X env (ρ ++ omρ ((x, a, ds) :: ω)) i (.d (.int k0)))
    (hj : seqIndex? k0 ds.length = some j) (hfit : Builtin.List.listFitsIndex k0 = true)
    (hD : AllD ρ) (hω : ∀ w ∈ ω, w.2.1 ≠ a) (hP : ∀ q ∈ P.l, q.1 ≠ a) (hsz : ds.length ≤ 100000)
    (k : ∀ s', FSt c s₀ X env ρ ((x, a, ds.eraseIdx j) :: ω) P s' → wpAny (model c.prog c.w) A (execs rest env) Q (fun _ _ => False) s')
    (hd : (x == ("__debug__" : Str)) = false := by decide) :
    wpAny (model c.prog c.w) A (execs (.Delete [.Subscript (.Name x px) i spos] pos :: rest) env) Q (fun _ _ => False) s := by
  refine wpAny_execs_cons (wpAny_Delete (wpAny_deleteEach_cons (wpAny_delete_Subscript (ldOwn S hd ?_))))
  refine wpAny_mono (he s S.se) (fun v s1 r1 => ?_) fun _ _ f => f
  obtain ⟨r1, k1⟩ := r1
  cases r1 with
  | int _ t =>
  have S1 := S.keep k1
  obtain ⟨vs, hl, hr⟩ := mutRel S1
  have hlen := hr.length
  simp only [Array.length_toList] at hlen
  refine wpAny_delItem_plain hl hfit (k := j) (by rw [hlen]; exact hj) (fun h' hl' hs' => wpAny_deleteEach_nil (k _ (S1.mutate hs' hl' ?_ hD hω hP))) (by rw [sizeLine_eq]; omega)
  have e : (vs.eraseIdxIfInBounds j).toList = vs.toList.eraseIdx j := by
    have hlt : j < vs.size := by rw [hlen]; exact PyProof.Rows.lt_of_seqIndex hj
    simp [Array.eraseIdxIfInBounds, hlt]
  rw [e]
  have er : ∀ {us : List Value} {es : List PyData} (j : Nat), RelL X s1.heap us es → RelL X s1.heap (us.eraseIdx j) (es.eraseIdx j) := by
    intro us es j r
    rw [List.eraseIdx_eq_take_drop_succ, List.eraseIdx_eq_take_drop_succ]
    exact (r.take _).append (r.drop _)
  exact er j hr
end
end Mine
end

section
open PySem PySem.W PyProof.Rows PySem.SeqAt
set_option Elab.async false
set_option maxRecDepth 100000
namespace Mine

/-- names that are met neither in ρ nor in ω -/
def OffL (ns : List Str) (ρ : List (Str × Pd)) (ω : Om) : Prop := ∀ n ∈ ns, Off n ρ ω

/-- a target takes a datum in a def's frame -/
def AsgF (c : Cx) (A : Around) (env : Env) (target : Expr) (d : PyData) (ns : List Str) (ρt : List (Str × Pd)) : Prop :=
  ∀ X s₀ ρ ω P s v (Q : Unit → Shared → Prop) E, FSt c s₀ X env ρ ω P s → Rel X s.heap v d → OffL ns ρ ω →
    (∀ s', FSt c s₀ X env (ρt ++ ρ) ω P s' → SK X s.heap s'.heap → Q () s') → wpAny (model c.prog c.w) A (assign target env v) Q E s

section
variable {c : Cx} {A : Around} {X : List Addr} {env : Env} {ρ : List (Str × Pd)} {ω : Om} {P : Pn} {s₀ s s' : Shared} {Q : Flow → Shared → Prop} {rest : List Stmt}

theorem FSt.storeSK {x : Str} {v : Value} {p : Pd} {Q : Unit → Shared → Prop} {E} (S : FSt c s₀ X env ρ ω P s) (hk : KindOk env x) (hr : RelP X s.heap v p) (hf : Off x ρ ω)
    (k : ∀ s', FSt c s₀ X env ((x, p) :: ρ) ω P s' → SK X s.heap s'.heap → Q () s') : wpAny (model c.prog c.w) A (storeName env x v) Q E s := by
  obtain ⟨m, cm, SI⟩ := id S
  refine S.store' hk hr (ρ' := (x, p) :: ρ) (ω' := ω) (fun y q hy => by
    rcases List.mem_cons.mp hy with e | h
    · cases e; exact .inl ⟨rfl, rfl⟩
    · exact .inr ⟨hf.r y q h, h⟩) (fun w hw => ⟨hf.o w hw, hw⟩) fun s' ⟨m', cm', S', _⟩ k2 => k s' ⟨m', cm', S'⟩ fun b o xs n e d _ => ?_
  refine k2 b o e (fun h => ?_) (fun n' b' hb' h => ?_)
  · obtain ⟨o', _, _, e', d', _⟩ := SI.fr.toInCall.ns; rw [← h, e] at e'; cases e'; rw [d] at d'; cases d'
  · obtain ⟨o', e', d'⟩ := SI.fr.cell n' b' hb'; rw [← h, e] at e'; cases e'; rw [d] at d'; cases d'

theorem AsgF.name {x : Str} {px : Pos} {d : PyData} (hk : KindOk env x) : AsgF c A env (.Name x px) d [x] [(x, .d d)] := fun X s₀ ρ ω P s v Q E S hr ho k =>
  wpAny_assign_Name (S.storeSK hk (p := .d d) hr (ho x (by simp)) k)

theorem AsgF.pair {t1 t2 : Expr} {tp : Pos} {n : Nat} {d e : PyData} {ns1 ns2 : List Str} {ρ1 ρ2 : List (Str × Pd)} (hh : A.handled = none) (h1 : AsgF c A env t1 d ns1 ρ1) (h2 : AsgF c A env t2 e ns2 ρ2)
    (hoff : ∀ m ∈ ns2, Off m ρ1 []) (he : assignEach [t1, t2] env = [(false, assign t1 env), (false, assign t2 env)] := by rfl) :
    AsgF c A env (.Tuple [t1, t2] n tp) (.tuple [d, e]) (ns1 ++ ns2) (ρ2 ++ ρ1) := fun X s₀ ρ ω P s v Q E S hr ho k => by
  cases hr with
  | @tuple a vs _ hxa ht hrr =>
  obtain ⟨vl⟩ := vs
  obtain ⟨v1, vl2, rfl⟩ : ∃ v1 vl2, vl = v1 :: vl2 := by cases hrr with | cons a b => exact ⟨_, _, rfl⟩
  cases hrr with
  | cons r1 hrr2 =>
  obtain ⟨v2, vl3, rfl⟩ : ∃ v2 vl3, vl2 = v2 :: vl3 := by cases hrr2 with | cons a b => exact ⟨_, _, rfl⟩
  cases hrr2 with
  | cons r2 hrr3 =>
  have : vl3 = [] := by cases hrr3; rfl
  subst this
  refine wpAny_assign_Tuple hh ht (by rw [he]; rfl) (by rw [he]; rfl) fun h1' hs1 => ?_
  have k1 : Kp s.heap h1' := fun b o e => hs1 b o (Nat.ne_of_lt (Heap.lt_size e)) e
  rw [he]
  show wpAny _ A (holding [v2] (assign t1 env v1) >>= fun _ => (holding [] (assign t2 env v2) >>= fun _ => pure ())) Q E _
  have S1 : FSt c s₀ X env ρ ω P { s with heap := h1' } := S.keep ⟨h1', s.toks, rfl, k1⟩
  refine wpAny_bind (wpAny_holding (h1 X s₀ ρ ω P _ v1 _ E S1 (r1.keep (.of_kp k1)) (fun m hm => ho m (List.mem_append.mpr (.inl hm))) fun s2 S2 sk2 => ?_))
  refine wpAny_bind (wpAny_holding (h2 X s₀ (ρ1 ++ ρ) ω P s2 v2 _ E S2 ((r2.keep (.of_kp k1)).keep sk2) (fun m hm => ?_) fun s3 S3 sk3 => wpAny_pure ?_))
  · have a1 := hoff m hm
    have a2 := ho m (List.mem_append.mpr (.inr hm))
    refine ⟨?_, a2.2⟩
    rw [List.map_append, List.all_append, a1.1, a2.1]; rfl
  · exact k s3 (by rw [List.append_assoc]; exact S3) (((SK.of_kp k1).trans sk2).trans sk3)

theorem st_assert {e : Expr} {msg : Option Expr} {pos : Pos} (S : FSt c s₀ X env ρ ω P s) (ht : Tst c A X env (ρ ++ omρ ω) e true)
    (k : ∀ s', FSt c s₀ X env ρ ω P s' → wpAny (model c.prog c.w) A (execs rest env) Q (fun _ _ => False) s') :
    wpAny (model c.prog c.w) A (execs (.Assert e msg pos :: rest) env) Q (fun _ _ => False) s :=
  wpAny_execs_cons (wpAny_Assert_holds (wpAny_mono (ht s S.se) (fun b s1 r1 => ⟨r1.1, k s1 (S.keep r1.2)⟩) fun _ _ f => f))

/-- two names take a display's two values -/
theorem st_two {x y : Str} {px py tp pos : Pos} {n : Nat} {e : Expr} {d1 d2 : PyData} (S : FSt c s₀ X env ρ ω P s) (he : Ev c A X env (ρ ++ omρ ω) e (.d (.tuple [d1, d2]))) (hx : KindOk env x) (hy : KindOk env y) (hfx : Off x ρ ω) (hfy : Off y ρ ω) (hxy : (y == x) = false) (hh : A.handled = none)
    (k : ∀ s', FSt c s₀ X env ((x, .d d1) :: (y, .d d2) :: ρ) ω P s' → wpAny (model c.prog c.w) A (execs rest env) Q (fun _ _ => False) s')
    (hs : swapsWithSole [.Tuple [.Name x px, .Name y py] n tp] e pos.line env = pure false := by rfl)
    (hw : swappedStores [.Tuple [.Name x px, .Name y py] n tp] e env = pure (some [x, y]) := by rfl) :
    wpAny (model c.prog c.w) A (execs (.Assign [.Tuple [.Name x px, .Name y py] n tp] e pos :: rest) env) Q (fun _ _ => False) s := by
  refine wpAny_execs_cons (Assign_Tuple_swapped (wpAny_mono (he s S.se) (fun v s1 r1 => ?_) fun _ _ f => f) hs hw)
  obtain ⟨r1, k1⟩ := r1
  cases r1 with
  | @tuple a vs _ hxa ht hrr =>
  obtain ⟨vl⟩ := vs
  obtain ⟨v1, vl2, rfl⟩ : ∃ v1 vl2, vl = v1 :: vl2 := by cases hrr with | cons a b => exact ⟨_, _, rfl⟩
  cases hrr with
  | cons r1 hrr2 =>
  obtain ⟨v2, vl3, rfl⟩ : ∃ v2 vl3, vl2 = v2 :: vl3 := by cases hrr2 with | cons a b => exact ⟨_, _, rfl⟩
  cases hrr2 with
  | cons r2 hrr3 =>
  have : vl3 = [] := by cases hrr3; rfl
  subst this
  have S1 := S.keep k1
  show wpAny _ A (unpackItems (.ref a) (⟨[v1, v2]⟩ : Array Value).size none) _ _ s1
  refine wpAny_unpackItems_tuple hh ht fun h1' hs1 => ?_
  have k1' : Kp s1.heap h1' := fun b o e => hs1 b o (Nat.ne_of_lt (Heap.lt_size e)) e
  have S2 : FSt c s₀ X env ρ ω P { s1 with heap := h1' } := S1.keep ⟨h1', s1.toks, rfl, k1'⟩
  show wpAny _ A (holding [v1] (bindName env y v2) >>= fun _ => (holding [] (bindName env x v1) >>= fun _ => pure ())) _ _ _
  refine wpAny_bind (wpAny_holding (wpAny_bindName (S2.storeSK hy (p := .d d2) (r2.keep (.of_kp k1')) hfy fun s3 S3 sk3 => ?_)))
  have hfx' : Off x ((y, .d d2) :: ρ) ω := ⟨by
    show ((!(y == x)) && (ρ.map (·.1)).all (fun z => !(z == x))) = true
    rw [hxy, hfx.1]; rfl, hfx.2⟩
  exact wpAny_bind (wpAny_holding (wpAny_bindName (S3.storeSK hx (p := .d d1) ((r1.keep (.of_kp k1')).keep sk3) hfx' fun s4 S4 _ => wpAny_pure (k s4 S4))))

/-- an iterator goes on -/
theorem FSt.kb {Y wr : List Addr} {h' : Heap} {tk : Nat} (S : FSt c s₀ Y env ρ ω P s) (k : Kb wr s.heap h') (hw : ∀ b ∈ wr, b ∈ Y) (hD : AllD ρ) (hL : env.locals ∉ wr) (hC : ∀ n a, env.cells.lookup n = some a → a ∉ wr)
    (h0 : ∀ b ∈ wr, s₀.heap.get? b = none) (hω : ∀ w ∈ ω, w.2.1 ∉ wr) (hP : ∀ q ∈ P.l, q.1 ∉ wr) (hlive : ∀ b ∈ wr, ∃ o, h'.get? b = some o) : FSt c s₀ Y env ρ ω P { s with heap := h', toks := tk } := by
  obtain ⟨m, cm, S⟩ := S
  have sk : SK Y s.heap h' := k.sk hw
  have k0 : Kp s₀.heap h' := fun b o e => k b o (fun h => by rw [h0 b h] at e; cases e) (S.fr.toInCall.keep b o e)
  refine ⟨m, cm, S.ok, ⟨⟨?_, S.fr.toInCall.ns.at' fun o e => k _ o hL e, k0, S.fr.toInCall.fresh⟩, fun n a ha => ?_, S.fr.apart, S.fr.above⟩, fun y q hy => ?_, fun y b es hy => ?_, ⟨fun b o e => k0 b o (S.b0 b o e), fun b hb => ?_⟩, fun q hq => ⟨k _ _ (hP q hq) (S.pin q hq).1, (S.pin q hq).2⟩, fun q hq => (S.gh q hq).keep sk, S.b0⟩
  · obtain ⟨h₁, tk', e⟩ := S.fr.toInCall.same
    exact ⟨h', tk, by rw [e]⟩
  · obtain ⟨o, e, d⟩ := S.fr.cell n a ha
    exact ⟨o, k a o (hC n a ha) e, d⟩
  · obtain ⟨u, h1, h2⟩ := S.var y q hy
    obtain ⟨d, rfl⟩ := hD y q hy
    exact ⟨u, h1, Rel.keep sk h2⟩
  · obtain ⟨h1, h2, h3, vs, h4, h5⟩ := S.own y b es hy
    exact ⟨h1, h2, h3, vs, h4.at fun o e => k b o (hω _ hy) e, h5.keep sk⟩
  · by_cases hbw : b ∈ wr
    · exact hlive b hbw
    · obtain ⟨o, e⟩ := S.bs.live b hb; exact ⟨o, k b o hbw e⟩

theorem FSt.kbOff {Y wr : List Addr} {h' : Heap} {tk : Nat} (S : FSt c s₀ Y env ρ ω P s) (k : Kb wr s.heap h') (hw : ∀ b ∈ wr, b ∈ Y) (hXY : ∀ a ∈ X, a ∈ Y) (hXw : ∀ a ∈ X, a ∉ wr) (hD : AllD ρ) (hL : env.locals ∉ wr) (hC : ∀ n a, env.cells.lookup n = some a → a ∉ wr)
    (h0 : ∀ b ∈ wr, s₀.heap.get? b = none) (hω : ∀ w ∈ ω, w.2.1 ∈ X) (hP : ∀ q ∈ P.l, q.1 ∉ wr) : FSt c s₀ X env ρ ω P { s with heap := h', toks := tk } := by
  obtain ⟨m, cm, S⟩ := S
  have sk : SK Y s.heap h' := k.sk hw
  have k0 : Kp s₀.heap h' := fun b o e => k b o (fun h => by rw [h0 b h] at e; cases e) (S.fr.toInCall.keep b o e)
  refine ⟨m, cm, S.ok, ⟨⟨?_, S.fr.toInCall.ns.at' fun o e => k _ o hL e, k0, S.fr.toInCall.fresh⟩, fun n a ha => ?_, S.fr.apart, S.fr.above⟩, fun y q hy => ?_, fun y b es hy => ?_, ⟨fun b o e => k0 b o (S.b0 b o e), fun b hb => ?_⟩, fun q hq => ⟨k _ _ (hP q hq) (S.pin q hq).1, (S.pin q hq).2⟩, fun q hq => ((S.gh q hq).keep sk).less hXY, S.b0⟩
  · obtain ⟨h₁, tk', e⟩ := S.fr.toInCall.same
    exact ⟨h', tk, by rw [e]⟩
  · obtain ⟨o, e, d⟩ := S.fr.cell n a ha
    exact ⟨o, k a o (hC n a ha) e, d⟩
  · obtain ⟨u, h1, h2⟩ := S.var y q hy
    obtain ⟨d, rfl⟩ := hD y q hy
    exact ⟨u, h1, (Rel.keep sk h2).less hXY⟩
  · obtain ⟨h1, h2, h3, vs, h4, h5⟩ := S.own y b es hy
    exact ⟨h1, hω _ hy, h3, vs, h4.at fun o e => k b o (hXw _ (hω _ hy)) e, (h5.keep sk).less hXY⟩
  · obtain ⟨o, e⟩ := S.bs.live b (hXY b hb); exact ⟨o, k b o (hXw b hb) e⟩

theorem pins {h : Heap} : ∀ (fp : List Addr), (∀ b ∈ fp, ∃ o, h.get? b = some o ∧ FS o.data) → ∃ l : List (Addr × Obj), (∀ q ∈ l, h.get? q.1 = some q.2 ∧ FS q.2.data) ∧ (∀ b ∈ fp, ∃ o, (b, o) ∈ l) ∧ (∀ q ∈ l, q.1 ∈ fp)
  | [], _ => ⟨[], by simp, by simp, by simp⟩
  | b :: r, k => by
    obtain ⟨o, e, f⟩ := k b (.head _)
    obtain ⟨l, h1, h2, h3⟩ := pins r fun x hx => k x (.tail _ hx)
    refine ⟨(b, o) :: l, fun q hq => ?_, fun x hx => ?_, fun q hq => ?_⟩
    · rcases List.mem_cons.mp hq with rfl | hq
      · exact ⟨e, f⟩
      · exact h1 q hq
    · rcases List.mem_cons.mp hx with rfl | hx
      · exact ⟨o, .head _⟩
      · obtain ⟨o', m⟩ := h2 x hx; exact ⟨o', .tail _ m⟩
    · rcases List.mem_cons.mp hq with rfl | hq
      · exact .head _
      · exact .tail _ (h3 q hq)

theorem st_forI {target iter : Expr} {body : List Stmt} {pos : Pos} {ds : List PyData} {g : Bool} {ns : List Str} (R : Nat → List (Str × Pd)) (W : Nat → Om) (ρt : PyData → List (Str × Pd)) (Ok : Nat → Prop)
    (S : FSt c s₀ X env ρ ω P s) (hit : IterE c A X env (ρ ++ omρ ω) iter target ds g)
    (ok0 : Ok 0) (h0 : ∀ q ∈ R 0, q ∈ ρ) (w0 : ∀ q ∈ W 0, q ∈ ω) (hWX : ∀ i, ∀ w ∈ W i, w.2.1 ∈ X) (hD : ∀ i, AllD (R i))
    (hasg : ∀ d, d ∈ ds → AsgF c A env target d ns (ρt d)) (hoff : ∀ i, OffL ns (R i) (W i))
    (hbody : ∀ Y P' i d s', ds[i]? = some d → Ok i → (∀ a ∈ X, a ∈ Y) → (g = true → ∀ q ∈ P'.l, q ∈ P.l ∨ q.1 ∉ X) → FSt c s₀ Y env (ρt d ++ R i) (W i) P' s' →
      wpAny (model c.prog c.w) A (execs body env) (fun f s2 => match f with | .next => FSt c s₀ Y env (R (i + 1)) (W (i + 1)) P' s2 ∧ Ok (i + 1) | .cont => FSt c s₀ Y env (R (i + 1)) (W (i + 1)) P' s2 ∧ Ok (i + 1) | .brk => False | .ret v => Q (.ret v) s2) (fun _ _ => False) s')
    (k : Ok ds.length → ∀ s', FSt c s₀ X env (R ds.length) (W ds.length) P s' → wpAny (model c.prog c.w) A (execs rest env) Q (fun _ _ => False) s')
    (hs : ∀ x, foldedSetIterable iter env x = pure x := by intro _; rfl) :
    wpAny (model c.prog c.w) A (execs (.For target iter body [] pos :: rest) env) Q (fun _ _ => False) s := by
  obtain ⟨mm, cmm, SI⟩ := id S
  refine wpAny_execs_cons (wpAny_For (wpAny_mono (hit s S.se) (fun xv s1 r1 => ?_) fun _ _ f => f) hs)
  refine wpAny_mono r1.2 (fun it s2 r2 => ?_) fun _ _ f => f
  obtain ⟨k2, I, wr, fp, rfl, hwr, hfp, hgX, hItn⟩ := r2
  obtain ⟨gh, St, It, hst0⟩ := hItn (wr ++ X) (fun a ha => List.mem_append.mpr (.inl ha)) (fun a ha => by
    rcases List.mem_append.mp ha with h | h
    · exact .inr (.inl h)
    · exact .inl h)
  have hL : env.locals ∉ wr := fun h => by obtain ⟨o, _, _, e, _⟩ := SI.fr.toInCall.ns; rw [hwr _ h] at e; cases e
  have hC : ∀ n a, env.cells.lookup n = some a → a ∉ wr := fun n a ha h => by obtain ⟨o, e, _⟩ := SI.fr.cell n a ha; rw [hwr _ h] at e; cases e
  have hs0 : ∀ b ∈ wr, s₀.heap.get? b = none := fun b hb => none_of_kp SI.fr.toInCall.keep (hwr b hb)
  have hPw : ∀ q ∈ P.l, q.1 ∉ wr := fun q hq h => by have := (SI.pin q hq).1; rw [hwr _ h] at this; cases this
  have hXw : ∀ a ∈ X, a ∉ wr := fun a ha h => by obtain ⟨o, e⟩ := SI.bs.live a ha; rw [hwr _ h] at e; cases e
  have hWw : ∀ i, ∀ w ∈ W i, w.2.1 ∉ wr := fun i w hw => hXw _ (hWX i w hw)
  have hwY : ∀ b ∈ wr, b ∈ wr ++ X := fun b hb => List.mem_append.mpr (.inl hb)
  have hXY : ∀ a ∈ X, a ∈ wr ++ X := fun a ha => List.mem_append.mpr (.inr ha)
  have S2 : FSt c s₀ (wr ++ X) env (R 0) (W 0) P s2 := (S.grow hXY (fun a ha => by
    rcases List.mem_append.mp ha with h | h
    · exact .inr (hwr a h)
    · exact .inl h) k2 (fun a ha => by
    rcases List.mem_append.mp ha with h | h
    · obtain ⟨o, e, _⟩ := It.kind _ _ hst0 a (It.sub a h); exact ⟨o, e⟩
    · obtain ⟨o, e⟩ := SI.bs.live a h; exact ⟨o, k2.kp _ _ e⟩) (fun q hq => .inl hq) (fun q hq => .inl hq)).weak h0 w0 (fun q hq => hq) (fun q hq => hq)
  refine codeAny_forLoop_any (fun n s' => ∃ i, n = ds.length + 1 - i ∧ i ≤ ds.length ∧ St i s'.heap ∧ Ok i ∧ FSt c s₀ (wr ++ X) env (R i) (W i) P s') ?_ (ds.length + 1) ⟨0, rfl, Nat.zero_le _, hst0, ok0, S2⟩
  rintro n s' ⟨i, rfl, hi, hst, hok, Si⟩
  by_cases hlen : i < ds.length
  · have hd : ds[i]? = some ds[i] := List.getElem?_eq_getElem hlen
    generalize hdd : ds[i] = d at hd
    have hmem : d ∈ ds := List.mem_of_getElem? hd
    refine It.item i d s' _ _ Si.se.bs.lt hd hst fun v h1 tk1 k1 hgo => ?_
    refine hgo _ fun h2 st2 k2' r2 => ?_
    have S3 : FSt c s₀ (wr ++ X) env (R i) (W i) P { s' with heap := h2, toks := tk1 } := Si.kb (k1.trans k2') hwY (hD i) hL hC hs0 (hWw i) hPw (fun b hb => let ⟨o, e, _⟩ := It.kind _ _ st2 b (It.sub b hb); ⟨o, e⟩)
    obtain ⟨l, hl1, hl2, hl3⟩ := pins fp (It.kind _ _ st2)
    have S4 : FSt c s₀ (wr ++ X) env (R i) (W i) ⟨P.l ++ l, P.g ++ gh⟩ { s' with heap := h2, toks := tk1 } := by
      obtain ⟨m4, cm4, F4⟩ := S3
      refine ⟨m4, cm4, F4.ok, F4.fr, F4.var, F4.own, F4.bs, fun q hq => ?_, fun q hq => ?_, F4.b0⟩
      · exact (List.mem_append.mp hq).elim (F4.pin q) (hl1 q)
      · exact (List.mem_append.mp hq).elim (F4.gh q) (It.ghost _ _ st2 q)
    refine hasg d hmem _ _ _ _ _ _ _ _ _ S4 r2 (hoff i) fun s5 S5 sk5 => ?_
    refine wpAny_mono (hbody (wr ++ X) _ i d s5 hd hok hXY (fun hg q hq => ?_) S5) (fun f s6 h6 => ?_) fun _ _ f => f.elim
    · rcases List.mem_append.mp hq with h | h
      · exact .inl h
      · exact .inr (hgX hg _ (hl3 q h))
    · have next : FSt c s₀ (wr ++ X) env (R (i + 1)) (W (i + 1)) ⟨P.l ++ l, P.g ++ gh⟩ s6 ∧ Ok (i + 1) → ∃ m, m < ds.length + 1 - i ∧ ∃ i', m = ds.length + 1 - i' ∧ i' ≤ ds.length ∧ St i' s6.heap ∧ Ok i' ∧ FSt c s₀ (wr ++ X) env (R i') (W i') P s6 := fun ⟨S6, ok6⟩ => by
        refine ⟨ds.length + 1 - (i + 1), by omega, i + 1, rfl, hlen, ?_, ok6, S6.weak (fun _ h => h) (fun _ h => h) (fun q hq => List.mem_append.mpr (.inl hq)) (fun q hq => List.mem_append.mpr (.inl hq))⟩
        obtain ⟨m6, cm6, F6⟩ := S6
        refine It.frm _ _ _ st2 (fun q hq => F6.gh q (List.mem_append.mpr (.inr hq))) fun b hb o e => ?_
        obtain ⟨o', hm⟩ := hl2 b hb
        have e1 := (hl1 _ hm).1
        have e2 := (F6.pin (b, o') (List.mem_append.mpr (.inr hm))).1
        rw [e1] at e; cases e
        exact e2
      cases f with
      | next => exact next h6
      | cont => exact next h6
      | brk => exact h6.elim
      | ret v => exact h6
  · have hi' : i = ds.length := by omega
    subst hi'
    refine It.done s' _ _ hst fun h1 tk1 k1 => ?_
    refine wpAny_execs_nil ?_
    exact k hok _ (Si.kbOff k1 hwY hXY hXw (hD _) hL hC hs0 (hWX _) hPw)

theorem st_for {target iter : Expr} {body : List Stmt} {pos : Pos} {ds : List PyData} {g : Bool} {ns : List Str} (R : Nat → List (Str × Pd)) (W : Nat → Om) (ρt : PyData → List (Str × Pd))
    (S : FSt c s₀ X env ρ ω P s) (hit : IterE c A X env (ρ ++ omρ ω) iter target ds g)
    (h0 : ∀ q ∈ R 0, q ∈ ρ) (w0 : ∀ q ∈ W 0, q ∈ ω) (hWX : ∀ i, ∀ w ∈ W i, w.2.1 ∈ X) (hD : ∀ i, AllD (R i))
    (hasg : ∀ d, d ∈ ds → AsgF c A env target d ns (ρt d)) (hoff : ∀ i, OffL ns (R i) (W i))
    (hbody : ∀ Y P' i d s', ds[i]? = some d → (∀ a ∈ X, a ∈ Y) → (g = true → ∀ q ∈ P'.l, q ∈ P.l ∨ q.1 ∉ X) → FSt c s₀ Y env (ρt d ++ R i) (W i) P' s' →
      wpAny (model c.prog c.w) A (execs body env) (fun f s2 => match f with | .next => FSt c s₀ Y env (R (i + 1)) (W (i + 1)) P' s2 | .cont => FSt c s₀ Y env (R (i + 1)) (W (i + 1)) P' s2 | .brk => False | .ret v => Q (.ret v) s2) (fun _ _ => False) s')
    (k : ∀ s', FSt c s₀ X env (R ds.length) (W ds.length) P s' → wpAny (model c.prog c.w) A (execs rest env) Q (fun _ _ => False) s')
    (hs : ∀ x, foldedSetIterable iter env x = pure x := by intro _; rfl) :
    wpAny (model c.prog c.w) A (execs (.For target iter body [] pos :: rest) env) Q (fun _ _ => False) s :=
  st_forI R W ρt (fun _ => True) S hit trivial h0 w0 hWX hD hasg hoff (fun Y P' i d s' h1 _ h2 h3 h4 => wpAny_mono (hbody Y P' i d s' h1 h2 h3 h4) (fun f s2 h => by
    cases f with
    | next => exact ⟨h, trivial⟩
    | cont => exact ⟨h, trivial⟩
    | brk => exact h
    | ret v => exact h) fun _ _ f => f) (fun _ => k) hs
end
end Mine
end

section
open PySem PySem.W PyProof.Rows PySem.SeqAt
set_option Elab.async false
set_option maxRecDepth 100000
namespace Mine
theorem plainAttrs_pat : PlainAttrs "re.Pattern" :=
  ⟨⟨"object.__getattribute__", by rw [typeLookup_type, builtinLookup_eq_fast]; kernel_rfl, by decide +kernel⟩, by rw [typeLookup_type, builtinLookup_eq_fast]; kernel_rfl⟩
theorem slot_search : Slot "re.Pattern" "search" "re.Pattern.search" :=
  .of (owner := "re.Pattern") (n := "search") (by rw [typeLookup_type, builtinLookup_eq_fast]; kernel_rfl) (by decide +kernel) (by decide +kernel) (by decide +kernel)
    (by first | exact .inl (by decide +kernel) | exact .inr (by decide +kernel)) (by rw [isSubtype_type]; kernel_rfl)
theorem type_search : typeOf (.builtin "re.Pattern.search") = pure (.type "method_descriptor") := by show builtinType _ = _; rw [builtinType_eq_fast]; kernel_rfl
theorem entry_search : entryFor table "re.Pattern.search" = some Builtin.«re.Pattern.search» := entryFor_of_tree (by kernel_rfl)
theorem args_search (a b : Value) : argsOk "re.Pattern.search" ⟨[a, b], []⟩ := by
  unfold argsOk; kernel_rfl

def codeA : Array Nat := #[14, 8, 1, 2, 4294967295, 1, 1, 46, 0, 16, 46, 24, 9, 1, 4294967295, 13, 4, 8, 0, 0, 1, 6, 5, 1]


theorem runFor_done {m : Sre.M} (h : m.outcome.isSome = true) : ∀ b, Sre.M.runFor b m = m
  | 0 => rfl
  | b + 1 => by unfold Sre.M.runFor; simp [h]
theorem runFor_one {m : Sre.M} (h : m.outcome.isSome = false) (b : Nat) : Sre.M.runFor (b + 1) m = Sre.M.runFor b m.step := by
  conv => lhs; unfold Sre.M.runFor
  simp [h]
theorem runFor_add (a : Nat) : ∀ (b : Nat) (m : Sre.M), Sre.M.runFor (a + b) m = Sre.M.runFor b (Sre.M.runFor a m) := by
  induction a with
  | zero => intro b m; simp [Sre.M.runFor]
  | succ a ih =>
    intro b m
    rw [Nat.add_right_comm]
    cases h : m.outcome.isSome with
    | true => rw [runFor_done h, runFor_done h, runFor_done h]
    | false => rw [runFor_one h, runFor_one h, ih]

/-- the machine for this pattern: what stands still is left out -/
def mk (tx : Array Nat) (start : Nat) (wt ma : Bool) (pc pos handed : Nat) (out : Bool) (marks : Array (Option Nat)) (lm li : Int) (loops : Array Sre.Loop) (inner : Option Nat) (frames : List Sre.Frame) (weight : Nat) (answer : Option Bool) (seen : Sre.Seen) (outcome : Option Sre.Outcome) : Sre.M :=
  { code := codeA, text := tx, lim := tx.size, start := start, lastStart := tx.size, wholeText := wt, mustAdvance := ma, pc := pc, pos := pos, handed := handed, outermost := out, marks := marks, lastmark := lm, lastindex := li, loops := loops, inner := inner, frames := frames, weight := weight, answer := answer, seen := seen, outcome := outcome }

def fr (s : Nat) (o : Bool) : Sre.Frame := { wait := .nextStart, pc := 9, pos := s, outermost := o }

section
variable {tx : Array Nat} {start : Nat} {wt ma : Bool} {s handed : Nat} {out : Bool} {marks : Array (Option Nat)} {lm li : Int} {loops : Array Sre.Loop} {inner : Option Nat} {seen : Sre.Seen} {o : Bool}

theorem step_lit : Sre.M.step (mk tx start wt ma 9 s handed out marks lm li loops inner [fr s o] 1 none seen none) =
    (if s ≥ tx.size then mk tx start wt ma 9 s handed out marks lm li loops inner [fr s o] 1 (some false) (seen.add 16) none else
      if tx.getD s 0 == 46 then mk tx start wt ma 11 (s + 1) handed out marks lm li loops inner [fr s o] 1 none (seen.add 16) none
      else mk tx start wt ma 9 s handed out marks lm li loops inner [fr s o] 1 (some false) (seen.add 16) none) := by
  have e : Sre.M.step (mk tx start wt ma 9 s handed out marks lm li loops inner [fr s o] 1 none seen none) =
    (if s ≥ tx.size then mk tx start wt ma 9 s handed out marks lm li loops inner [fr s o] 1 (some false) (seen.add 16) none else
      match (Except.ok (tx.getD s 0 == 46, seen.add 16) : Except String (Bool × Sre.Seen)) with
      | .error why => Sre.M.stick (mk tx start wt ma 9 s handed out marks lm li loops inner [fr s o] 1 none (seen.add 16) none) why
      | .ok (false, sn) => mk tx start wt ma 9 s handed out marks lm li loops inner [fr s o] 1 (some false) sn none
      | .ok (true, sn) => mk tx start wt ma 11 (s + 1) handed out marks lm li loops inner [fr s o] 1 none sn none) := rfl
  rw [e]
  cases tx.getD s 0 == 46 <;> rfl

theorem step_back : ∃ start' sn ma', Sre.M.step (mk tx start wt ma pc pos handed out marks lm li loops inner [fr s o] 1 (some false) seen none) =
    (if s < tx.size then mk tx start' wt ma' 9 (s + 1) (s + 1) false marks (-1) (-1) loops inner [fr (s + 1) false] 1 none sn none
      else mk tx start wt ma 9 s handed o marks lm li loops inner [] 0 (some false) sn none) := by
  refine ⟨s + 1, seen, false, ?_⟩
  have e : Sre.M.step (mk tx start wt ma pc pos handed out marks lm li loops inner [fr s o] 1 (some false) seen none) =
    (if s < tx.size then mk tx (s + 1) wt false 9 (s + 1) (s + 1) false marks (-1) (-1) loops inner [fr (s + 1) false] 1 none seen none
      else mk tx start wt ma 9 s handed o marks lm li loops inner [] 0 (some false) seen none) := by
    by_cases h : s < tx.size
    · rw [if_pos h]
      show (if s < tx.size then _ else _) = _
      rw [if_pos h]
      rfl
    · rw [if_neg h]
      show (if s < tx.size then _ else _) = _
      rw [if_neg h]
      rfl
  exact e

theorem step_last : (Sre.M.step (mk tx start wt ma pc pos handed out marks lm li loops inner [] 0 (some false) seen none)).outcome = some .failed := rfl

theorem cat0 {ch : Nat} (h : Sre.isDigit ch = false) : Sre.category 0 ch = .ok false := by
  show Except.map (· != (0 % 2 == 1)) (Except.ok (Sre.isDigit ch) : Except String Bool) = _
  rw [h]; rfl
theorem acc15 {ch : Nat} (h : Sre.isDigit ch = false) : ∃ sn, Sre.accepts codeA 15 ch seen = .ok (false, sn) := by
  refine ⟨((seen.add 8).add (55 + 0)).add 0, ?_⟩
  show (Sre.category 0 ch >>= fun b => if b = true then (pure (true, ((seen.add 8).add (55 + 0))) : Except String (Bool × Sre.Seen)) else Sre.inSet codeA ch 23 19 true ((seen.add 8).add (55 + 0))) = _
  rw [cat0 h]
  rfl
theorem run15 {n p : Nat} (h : ∀ i, Sre.isDigit (tx.getD i 0) = false) : ∃ sn, Sre.run codeA tx 15 n p 0 seen = .ok (0, sn) := by
  cases n with
  | zero => exact ⟨seen, rfl⟩
  | succ n =>
    obtain ⟨sn, e⟩ := acc15 (seen := seen) (h p)
    refine ⟨sn, ?_⟩
    show (Sre.accepts codeA 15 (tx.getD p 0) seen >>= fun r => if r.1 = true then Sre.run codeA tx 15 n (p + 1) (0 + 1) r.2 else pure (0, r.2)) = _
    rw [e]
    rfl
theorem step_rep {p : Nat} (h : ∀ i, Sre.isDigit (tx.getD i 0) = false) : ∃ sn, Sre.M.step (mk tx start wt ma 11 p handed out marks lm li loops inner [fr s o] 1 none seen none) =
    mk tx start wt ma 11 p handed out marks lm li loops inner [fr s o] 1 (some false) sn none := by
  obtain ⟨sn, e⟩ := run15 (tx := tx) (n := min 4294967295 ((tx.size : Int) - (p : Int)).toNat) (p := p) (seen := (seen.add 24).add 13) h
  by_cases hr : ((1 : Nat) : Int) > (tx.size : Int) - (p : Int)
  · refine ⟨seen.add 24, ?_⟩
    show (if ((1 : Nat) : Int) > (tx.size : Int) - (p : Int) then _ else _) = _
    rw [if_pos hr]
    rfl
  · refine ⟨sn, ?_⟩
    show (if ((1 : Nat) : Int) > (tx.size : Int) - (p : Int) then _ else
      match Sre.run codeA tx 15 (min 4294967295 ((tx.size : Int) - (p : Int)).toNat) p 0 ((seen.add 24).add 13) with
      | .error why => _
      | .ok (n, sn) => _) = _
    rw [if_neg hr, e]
    rfl
end

/-- from a start on, the search fails -/
theorem fails {tx : Array Nat} (h : ∀ i, Sre.isDigit (tx.getD i 0) = false) : ∀ (k s : Nat), s + k = tx.size → ∀ (start : Nat) (wt ma : Bool) (handed : Nat) (out : Bool) (marks : Array (Option Nat)) (lm li : Int) (loops : Array Sre.Loop) (inner : Option Nat) (seen : Sre.Seen) (o : Bool),
    ∃ N, N ≤ 3 * k + 3 ∧ (Sre.M.runFor N (mk tx start wt ma 9 s handed out marks lm li loops inner [fr s o] 1 none seen none)).outcome = some .failed := by
  intro k
  induction k with
  | zero =>
    intro s hs start wt ma handed out marks lm li loops inner seen o
    refine ⟨3, by omega, ?_⟩
    rw [runFor_one rfl, step_lit, if_pos (by omega), runFor_one rfl]
    obtain ⟨st', sn, ma', e⟩ := step_back (tx := tx) (start := start) (wt := wt) (ma := ma) (pc := 9) (pos := s) (s := s) (handed := handed) (out := out) (marks := marks) (lm := lm) (li := li) (loops := loops) (inner := inner) (seen := seen.add 16) (o := o)
    rw [e, if_neg (by omega), runFor_one rfl]
    exact step_last
  | succ k ih =>
    intro s hs start wt ma handed out marks lm li loops inner seen o
    by_cases hc : (tx.getD s 0 == 46) = true
    · obtain ⟨sn, e1⟩ := step_rep (tx := tx) (p := s + 1) (start := start) (wt := wt) (ma := ma) (s := s) (handed := handed) (out := out) (marks := marks) (lm := lm) (li := li) (loops := loops) (inner := inner) (seen := seen.add 16) (o := o) h
      obtain ⟨st', sn', ma', e⟩ := step_back (tx := tx) (start := start) (wt := wt) (ma := ma) (pc := 11) (pos := s + 1) (s := s) (handed := handed) (out := out) (marks := marks) (lm := lm) (li := li) (loops := loops) (inner := inner) (seen := sn) (o := o)
      obtain ⟨N, hN, hf⟩ := ih (s + 1) (by omega) st' wt ma' (s + 1) false marks (-1) (-1) loops inner sn' false
      refine ⟨N + 3, by omega, ?_⟩
      rw [Nat.add_comm N 3, show 3 + N = (N + 2) + 1 by omega, runFor_one rfl, step_lit, if_neg (by omega), if_pos hc, runFor_one rfl, e1, runFor_one rfl, e, if_pos (by omega)]
      exact hf
    · obtain ⟨st', sn', ma', e⟩ := step_back (tx := tx) (start := start) (wt := wt) (ma := ma) (pc := 9) (pos := s) (s := s) (handed := handed) (out := out) (marks := marks) (lm := lm) (li := li) (loops := loops) (inner := inner) (seen := seen.add 16) (o := o)
      obtain ⟨N, hN, hf⟩ := ih (s + 1) (by omega) st' wt ma' (s + 1) false marks (-1) (-1) loops inner sn' false
      refine ⟨N + 2, by omega, ?_⟩
      rw [show N + 2 = (N + 1) + 1 by omega, runFor_one rfl, step_lit, if_neg (by omega), if_neg hc, runFor_one rfl, e, if_pos (by omega)]
      exact hf

theorem search_fails {tx : Array Nat} (h : ∀ i, Sre.isDigit (tx.getD i 0) = false) : ∃ N, N ≤ 3 * tx.size + 3 ∧ (Sre.M.runFor N (Sre.forSearch codeA tx 0 0 tx.size false)).outcome = some .failed := by
  by_cases h2 : tx.size < 2
  · refine ⟨1, by omega, ?_⟩
    have hc : (decide (0 > tx.size) || decide (tx.size - 0 < 2)) = true := by simp; omega
    unfold Sre.forSearch
    show (Sre.M.runFor 1 (if (decide (0 > tx.size) || decide (tx.size - 0 < 2)) = true then _ else _)).outcome = _
    rw [if_pos hc]
    rfl
  · have hc : ¬ (decide (0 > tx.size) || decide (tx.size - 0 < 2)) = true := by simp; omega
    obtain ⟨N, hN, hf⟩ := fails h tx.size 0 (by omega) 0 false false 0 true (Array.replicate 0 none) (-1) (-1) #[] none (({} : Sre.Seen).add 14) true
    refine ⟨N, hN, ?_⟩
    unfold Sre.forSearch
    show (Sre.M.runFor N (if (decide (0 > tx.size) || decide (tx.size - 0 < 2)) = true then _ else _)).outcome = _
    rw [if_neg hc]
    exact hf

section
variable {prog : Program} {w : World} {A : Around} {E : Value → Shared → Prop} {s : Shared}
open Builtin.Re
theorem drive : ∀ (turns : Nat) (m : Sre.M) (N : Nat), N ≤ 4 * (turns + 1) → (Sre.M.runFor N m).outcome = some .failed →
    wpAny (model prog w) A (reDrive (turns + 1) m) (fun m' s' => m'.outcome = some .failed ∧ s' = s) E s := by
  intro turns
  induction turns with
  | zero =>
    intro m N hN hf
    have e : Sre.M.runFor 4 m = Sre.M.runFor N m := by
      rw [show 4 = N + (4 - N) by omega, runFor_add, runFor_done (by rw [hf]; rfl)]
    show wpAny _ A (if (Sre.M.runFor 4 m).outcome.isSome = true then pure (Sre.M.runFor 4 m) else _) _ E s
    rw [e, if_pos (by rw [hf]; rfl)]
    exact wpAny_pure ⟨hf, rfl⟩
  | succ turns ih =>
    intro m N hN hf
    show wpAny _ A (if (Sre.M.runFor 4 m).outcome.isSome = true then pure (Sre.M.runFor 4 m) else (do rule "sre.turn"; reDrive (turns + 1) (Sre.M.runFor 4 m))) _ E s
    by_cases h4 : N ≤ 4
    · have e : Sre.M.runFor 4 m = Sre.M.runFor N m := by
        rw [show 4 = N + (4 - N) by omega, runFor_add, runFor_done (by rw [hf]; rfl)]
      rw [e, if_pos (by rw [hf]; rfl)]
      exact wpAny_pure ⟨hf, rfl⟩
    · have e : Sre.M.runFor N m = Sre.M.runFor (N - 4) (Sre.M.runFor 4 m) := by
        rw [← runFor_add, show 4 + (N - 4) = N by omega]
      cases h : (Sre.M.runFor 4 m).outcome.isSome with
      | true =>
        rw [if_pos rfl]
        rw [e, runFor_done h] at hf
        exact wpAny_pure ⟨hf, rfl⟩
      | false =>
        rw [if_neg (by decide)]
        exact wpAny_bind (wpAny_rule (ih _ (N - 4) (by omega) (e ▸ hf)))

theorem runToEnd {m : Sre.M} {N : Nat} (hN : N ≤ 1000000) (hf : (Sre.M.runFor N m).outcome = some .failed) :
    wpAny (model prog w) A (reRunToEnd m) (fun r s' => r = none ∧ s' = s) E s := by
  unfold reRunToEnd
  have e : (2 : Nat) ^ 64 = 18446744073709551615 + 1 := by decide
  rw [e]
  refine wpAny_bind (wpAny_mono (drive 18446744073709551615 m N (by omega) hf) (fun m' s' h => ?_) fun _ _ h => h)
  obtain ⟨ho, rfl⟩ := h
  refine wpAny_bind (wpAny_forIn_list _ (fun _ _ s'' => s'' = s') (fun _ s'' => wpAny (model prog w) A (match m'.outcome with
    | some .matched => pure (some m')
    | some .failed => pure none
    | some (.stuck why) => unsupported s!"_sre:{why}"
    | none => unsupported "internal:sre:no-outcome") (fun r s₁ => r = none ∧ s₁ = s') E s'') ?_ ?_ _ _ rfl)
  · rintro x rest b s'' rfl
    split
    · exact wpAny_bind (wpAny_rule (wpAny_pure rfl))
    · exact wpAny_pure rfl
  · rintro b s'' rfl
    rw [ho]
    exact wpAny_pure ⟨rfl, rfl⟩

def patCode : Array Value := #[.int 14 0, .int 8 0, .int 1 0, .int 2 0, .int 4294967295 0, .int 1 0, .int 1 0, .int 46 0, .int 0 0, .int 16 0, .int 46 0, .int 24 0, .int 9 0, .int 1 0, .int 4294967295 0, .int 13 0, .int 4 0, .int 8 0, .int 0 0, .int 0 0, .int 1 0, .int 6 0, .int 5 0, .int 1 0]

theorem answer_none {T : ReTarget} {m : Sre.M} {N : Nat} (hN : N ≤ 1000000) (hf : (Sre.M.runFor N m).outcome = some .failed) :
    wpAny (model prog w) A (reAnswer T m) (fun fin s' => fin = .done (.ret .none) ∧ s' = s) E s := by
  unfold reAnswer
  refine wpAny_bind (wpAny_mono (runToEnd hN hf) (fun r s' h => ?_) fun _ _ h => h)
  obtain ⟨rfl, rfl⟩ := h
  exact wpAny_pure ⟨rfl, rfl⟩

theorem call_search {pa ct : Addr} {x : Str} {t : Tok} {op ot : Obj} {f0 f1 f3 f4 : Value} {n : Nat} (hp : s.heap.get? pa = some op) (hpc : op.cls = .type "re.Pattern") (hpd : op.data = .fields #[f0, f1, .int 0 0, f3, f4, .ref ct, .int 0 0])
    (hc : s.heap.get? ct = some ot) (hcd : ot.data = .seq patCode n)
    (hx : ∀ ch ∈ x.cps.toList, Sre.isDigit ch = false) (hsz : x.length ≤ 100000) :
    wpAny (model prog w) A (call (.builtin "re.Pattern.search") [.ref pa, .str x t]) (fun v s' => v = .none ∧ s' = s) E s := by
  have hdig : ∀ i, Sre.isDigit (x.cps.getD i 0) = false := fun i => by
    rw [Array.getD_eq_getD_getElem?]
    cases h : x.cps[i]? with
    | none => rfl
    | some ch => exact hx ch (by rw [Array.mem_toList_iff]; exact Array.mem_of_getElem? h)
  obtain ⟨N, hN, hf⟩ := search_fails (tx := x.cps) hdig
  refine wpAny_call_entry slot_search ⟨op, hp, hpc⟩ entry_search ?_ (args_search _ _)
  show wpAny _ _ (reTarget "re.Pattern.search" "search" ⟨[.ref pa, .str x t], []⟩ >>= fun t => reAnswer t (Sre.forSearch t.code t.text t.groups t.pos t.lim false)) _ _ s
  refine wpAny_bind ?_
  show wpAny _ _ (fieldsOf (.ref pa) >>= _) _ _ s
  refine wpAny_bind (wpAny_fieldsOf hp hpd ?_)
  show wpAny _ _ (reRawItems (.ref ct) >>= _) _ _ s
  refine wpAny_bind ?_
  show wpAny _ _ (seqItems? (.ref ct) >>= _) _ _ s
  refine wpAny_bind (wpAny_seqItems hc hcd (wpAny_pure (wpAny_pure ?_)))
  have e : Sre.forSearch (((patCode.map reRawOf)).map (·.toNat)) x.cps 0 (min (0 : Int).toNat x.cps.size) (min ((2 : Int) ^ 63 - 1).toNat x.cps.size) false = Sre.forSearch codeA x.cps 0 0 x.cps.size false := by
    have e1 : ((patCode.map reRawOf)).map (·.toNat) = codeA := by decide +kernel
    have e2 : min (0 : Int).toNat x.cps.size = 0 := by simp
    have e3 : min ((2 : Int) ^ 63 - 1).toNat x.cps.size = x.cps.size := by
      have : ((2 : Int) ^ 63 - 1).toNat = 9223372036854775807 := by decide
      rw [this]
      have : x.cps.size ≤ 100000 := hsz
      omega
    rw [e1, e2, e3]
  refine wpAny_mono (answer_none (N := N) (by have : x.cps.size ≤ 100000 := hsz; omega) ?_) (fun fin s' h => ⟨_, h.1, rfl, h.2⟩) fun _ _ h => h
  dsimp only
  have g : reRawNat ((#[f0, f1, Value.int 0 0, f3, f4, Value.ref ct, Value.int 0 0] : Array Value).getD 2 Value.none) = 0 := rfl
  rw [g, Option.getD_some, e]
  exact hf
end
end Mine
end

section
open PySem PySem.W PyProof.Rows PySem.SeqAt
set_option Elab.async false
set_option maxRecDepth 100000
namespace Mine

section
variable {c : Cx} {A : Around} {X : List Addr} {env : Env} {ρ : List (Str × Pd)}

theorem Ev.item_nat {value i : Expr} {pos : Pos} {xs : List PyData} {k : Nat} {d : PyData} (h : Ev c A X env ρ value (.l xs)) (hi : Ev c A X env ρ i (.d (.int (k : Int)))) (hx : xs[k]? = some d) (hsz : xs.length ≤ 100000)
    (hs : ∀ a b u, subscripted i false (.ref a) (.int b u) = operate [.ref a, .int b u] (getItem (.ref a) (.int b u)) := by intro _ _ _; with_unfolding_all rfl) :
    Ev c A X env ρ (.Subscript value i pos) (.d d) :=
  Ev.item_list h hi (by rw [if_neg (by omega)]; simpa using hx) (by omega) (by rw [sizeLine_eq]; omega) hs
/-- the item at -1 -/
theorem Ev.item_last {value i : Expr} {pos : Pos} {xs : List PyData} {d : PyData} (h : Ev c A X env ρ value (.l xs)) (hi : Ev c A X env ρ i (.d (.int (-1)))) (hx : xs.getLast? = some d) (hsz : xs.length ≤ 100000)
    (hs : ∀ a b u, subscripted i false (.ref a) (.int b u) = operate [.ref a, .int b u] (getItem (.ref a) (.int b u)) := by intro _ _ _; with_unfolding_all rfl) :
    Ev c A X env ρ (.Subscript value i pos) (.d d) := by
  have hne : xs ≠ [] := by rintro rfl; simp at hx
  have hl : 1 ≤ xs.length := List.length_pos_iff.mpr hne
  refine Ev.item_list h hi ?_ (by omega) (by rw [sizeLine_eq]; omega) hs
  rw [if_pos (by omega), show ((-1 : Int) + xs.length).toNat = xs.length - 1 by omega, ← List.getLast?_eq_getElem?]
  exact hx

/-- a sign of a text -/
theorem Ev.item_str {value i : Expr} {pos : Pos} {x : List Nat} {k : Int} {ch : Nat} (h : Ev c A X env ρ value (.d (.str (S x)))) (hi : Ev c A X env ρ i (.d (.int k)))
    (hc : (seqIndex? k x.length).bind (x[·]?) = some ch) (hk : -100000 ≤ k ∧ k ≤ 100000)
    (hs : ∀ a t b u, subscripted i false (.str a t) (.int b u) = operate [.str a t, .int b u] (getItem (.str a t) (.int b u)) := by intro _ _ _ _; with_unfolding_all rfl) :
    Ev c A X env ρ (.Subscript value i pos) (.d (.str (S [ch]))) := fun s st => by
  refine Subscript_ (wpAny_mono (h s st) (fun v s1 r1 => ?_) fun _ _ f => f)
  obtain ⟨r1, k1⟩ := r1
  cases r1 with
  | str _ t =>
  refine wpAny_mono (hi s1 (st.keep k1.kp)) (fun v2 s2 r2 => ?_) fun _ _ f => f
  obtain ⟨r2, k2⟩ := r2
  cases r2 with
  | int _ u =>
  refine tail_any (ops := [_, _]) (typeIs_str _ _ t) F.slot_str_getitem.lookup (getItem_str (c := ch) ?_ ?_ ⟨.str _ _, (k1.trans k2).trans (Ks.toks s2 _)⟩) (hs _ _ _ _)
  · have e : (2 : Int) ^ 63 = 9223372036854775808 := by decide
    rw [e]; simp; omega
  · simpa [S, Str.length] using hc

theorem mulList {l : Addr} {items : Array Value} {k : Nat} {x : Int} {u : Tok} {s : Shared} {Q : Value → Shared → Prop} {E}
    (hl : s.heap.get? l = some { cls := .type "list", dict := none, data := .seq items k, slots := #[] })
    (hlo : -(2 ^ 63 : Int) ≤ x) (hhi : x < 2 ^ 63) (hsz : items.size * x.toNat ≤ 2 ^ 24)
    (h : Q (.ref s.heap.objs.size) { s with heap := s.heap.push { cls := .type "list", data := .seq (List.foldl (fun x1 x2 => x1 ++ x2) #[] (List.replicate (if items.isEmpty = true then 0 else x.toNat) items)) } }) :
    wpAny (model c.prog c.w) A (binaryOp .Mult (.ref l) (.int x u)) Q E s :=
  wpAny_binaryOp_repeat_ref (T := "list") (U := "int") (by decide) ⟨_, hl, rfl⟩ (fun s' => typeIs_int s' x u) noFill_list_mul F.fills_int_mul F.slot_int_rmul repeat_list F.slot_int_index.lookup
    (call_meets F.slot_int_rmul (typeIs_int s x u) F.entry_int_rmul (F.args_int_rmul_2 _ _) (int___rmul___int_list x u l items k)
      ⟨hl, rfl, ⟨_, hl, rfl⟩, call_meets F.slot_list_mul ⟨_, hl, rfl⟩ F.entry_list_mul (F.args_list_mul_2 _ _)
        (AutoListH.list___mul___list_int_3 l items k x u (by simp [Builtin.List.listFitsIndex]; omega) (by omega) (by simp [Builtin.List.listTooLong, sizeLine]; omega))
        ⟨hl, h⟩⟩)

theorem Bin.mul_list {xs : List PyData} {n : Nat} (hsz : xs.length * n ≤ 100000) (hne : xs ≠ []) : Bin c A .Mult (.d (.list xs)) (.d (.int (n : Int))) (.d (.list (List.replicate n xs).flatten)) := fun X s v1 v2 bs r1 r2 => by
  cases r2 with
  | int _ u =>
  cases r1 with
  | @list l vs _ hx hl hr =>
  obtain ⟨k, ho⟩ := hl
  have e1 := hr.length
  simp only [Array.length_toList] at e1
  have hn : n ≤ 100000 := by
    have : 1 ≤ xs.length := List.length_pos_iff.mpr hne
    exact Nat.le_trans (Nat.le_mul_of_pos_left n this) hsz
  have hemp : ¬ (vs.isEmpty = true) := by
    have : 1 ≤ xs.length := List.length_pos_iff.mpr hne
    rw [Array.isEmpty_iff]
    rintro rfl
    simp at e1
    omega
  have e2 : (2 : Int) ^ 63 = 9223372036854775808 := by decide
  have e4 : (2 : Nat) ^ 24 = 16777216 := by decide
  refine mulList ho (by rw [e2]; omega) (by rw [e2]; omega) (by rw [e1, e4]; simp; omega) ?_
  rw [if_neg hemp]
  refine ⟨?_, Ks.push s _ s.toks⟩
  have := newListRel bs (RelL.rep hr n)
  have e3 : List.foldl (fun x1 x2 => x1 ++ x2) #[] (List.replicate (n : Int).toNat vs) = (List.replicate n vs.toList).flatten.toArray := by
    rw [listMul_foldl]; simp
  rw [e3]
  exact this

theorem minOf {xs : List Int} (hne : xs ≠ []) (hh : A.handled = none) {l : Addr} {vs : Array Value} {s : Shared} (hl : s.heap.IsList l vs) (hi : IntsAre vs.toList xs) {Q : Value → Shared → Prop} {E}
    (h : ∀ h' M (t : Tok) tk, Kp s.heap h' → M ∈ xs → (∀ a ∈ xs, M ≤ a) → Q (.int M t) { s with heap := h', toks := tk }) : wpAny (model c.prog c.w) A (call (.builtin "min") [.ref l]) Q E s := by
  obtain ⟨zs, e⟩ := hi.allInts.items
  have hns : xs = zs.toList.map (·.1) := by
    rw [← hi.numsOf, ← nums_intItems, ← e]
  have hsz : 0 < zs.size := by
    have h3 := List.length_pos_iff.mpr hne; rw [hns, List.length_map, Array.length_toList] at h3; exact h3
  have e' : vs = intItems zs := by rw [← e]
  rw [e'] at hl
  refine min_intList hh hl hsz fun v h' tk hv hk => ?_
  obtain ⟨t, rfl⟩ := intItems_at hv
  obtain ⟨h1, h2⟩ := argBest_lt (numAt zs) (zs.size - 1)
  refine h h' _ t tk hk ?_ fun a ha => ?_
  · rw [hns, numAt_eq]; exact getD_mem (by rw [List.length_map, Array.length_toList]; omega)
  · rw [hns] at ha
    obtain ⟨j, hj, rfl⟩ := mem_getD ha
    rw [List.length_map, Array.length_toList] at hj
    rw [← numAt_eq]; exact h2 j (by omega)
theorem maxOf {xs : List Int} (hne : xs ≠ []) (hh : A.handled = none) {l : Addr} {vs : Array Value} {s : Shared} (hl : s.heap.IsList l vs) (hi : IntsAre vs.toList xs) {Q : Value → Shared → Prop} {E}
    (h : ∀ h' M (t : Tok) tk, Kp s.heap h' → M ∈ xs → (∀ a ∈ xs, a ≤ M) → Q (.int M t) { s with heap := h', toks := tk }) : wpAny (model c.prog c.w) A (call (.builtin "max") [.ref l]) Q E s := by
  obtain ⟨zs, e⟩ := hi.allInts.items
  have hns : xs = zs.toList.map (·.1) := by
    rw [← hi.numsOf, ← nums_intItems, ← e]
  have hsz : 0 < zs.size := by
    have h3 := List.length_pos_iff.mpr hne; rw [hns, List.length_map, Array.length_toList] at h3; exact h3
  have e' : vs = intItems zs := by rw [← e]
  rw [e'] at hl
  refine max_intList hh hl hsz fun v h' tk hv hk => ?_
  obtain ⟨t, rfl⟩ := intItems_at hv
  obtain ⟨h1, h2⟩ := argBest_gt (numAt zs) (zs.size - 1)
  refine h h' _ t tk hk ?_ fun a ha => ?_
  · rw [hns, numAt_eq]; exact getD_mem (by rw [List.length_map, Array.length_toList]; omega)
  · rw [hns] at ha
    obtain ⟨j, hj, rfl⟩ := mem_getD ha
    rw [List.length_map, Array.length_toList] at hj
    rw [← numAt_eq]; exact h2 j (by omega)
/-- the least of ints: a plain word for it -/
def least : List Int → Int
  | [] => 0
  | x :: xs => xs.foldl min x
def greatest : List Int → Int
  | [] => 0
  | x :: xs => xs.foldl max x
theorem least_mem_le : ∀ (xs : List Int) (x : Int), (xs.foldl min x ∈ x :: xs) ∧ ∀ a ∈ x :: xs, xs.foldl min x ≤ a
  | [], x => by simp
  | y :: ys, x => by
    obtain ⟨h1, h2⟩ := least_mem_le ys (min x y)
    simp only [List.foldl_cons]
    refine ⟨?_, fun a ha => ?_⟩
    · rcases List.mem_cons.mp h1 with h | h
      · rw [h]
        rcases Int.le_total x y with h' | h'
        · rw [Int.min_eq_left h']; simp
        · rw [Int.min_eq_right h']; simp
      · simp [h]
    · have hm := h2 (min x y) (by simp)
      rcases List.mem_cons.mp ha with h | h
      · omega
      · rcases List.mem_cons.mp h with h | h
        · omega
        · exact h2 a (by simp [h])
theorem greatest_mem_le : ∀ (xs : List Int) (x : Int), (xs.foldl max x ∈ x :: xs) ∧ ∀ a ∈ x :: xs, a ≤ xs.foldl max x
  | [], x => by simp
  | y :: ys, x => by
    obtain ⟨h1, h2⟩ := greatest_mem_le ys (max x y)
    simp only [List.foldl_cons]
    refine ⟨?_, fun a ha => ?_⟩
    · rcases List.mem_cons.mp h1 with h | h
      · rw [h]
        rcases Int.le_total x y with h' | h'
        · rw [Int.max_eq_right h']; simp
        · rw [Int.max_eq_left h']; simp
      · simp [h]
    · have hm := h2 (max x y) (by simp)
      rcases List.mem_cons.mp ha with h | h
      · omega
      · rcases List.mem_cons.mp h with h | h
        · omega
        · exact h2 a (by simp [h])
theorem Bf.min_list {xs : List Int} (hne : xs ≠ []) (hh : A.handled = none) : Bf c A "min" [.l (xs.map .int)] (.d (.int (least xs))) := fun X s vs bs r => by
  obtain ⟨v, rfl, a, ws, rfl, hl, hr⟩ := r.one
  refine minOf hne hh hl (RelL.ints hr) fun h' M t tk hk hm hle => ⟨?_, h', tk, rfl, hk⟩
  have e : M = least xs := by
    cases xs with
    | nil => exact absurd rfl hne
    | cons x xs =>
      obtain ⟨h1, h2⟩ := least_mem_le xs x
      exact Int.le_antisymm (hle _ h1) (h2 _ hm)
  rw [e]; exact .int _ _
theorem Bf.max_list {xs : List Int} (hne : xs ≠ []) (hh : A.handled = none) : Bf c A "max" [.l (xs.map .int)] (.d (.int (greatest xs))) := fun X s vs bs r => by
  obtain ⟨v, rfl, a, ws, rfl, hl, hr⟩ := r.one
  refine maxOf hne hh hl (RelL.ints hr) fun h' M t tk hk hm hle => ⟨?_, h', tk, rfl, hk⟩
  have e : M = greatest xs := by
    cases xs with
    | nil => exact absurd rfl hne
    | cons x xs =>
      obtain ⟨h1, h2⟩ := greatest_mem_le xs x
      exact Int.le_antisymm (h2 _ hm) (hle _ h1)
  rw [e]; exact .int _ _
theorem Bf.max_two {a b : Int} (hh : A.handled = none) : Bf c A "max" [.d (.int a), .d (.int b)] (.d (.int (if b > a then b else a))) := fun X s vs bs r => by
  obtain ⟨v, w, rfl, r1, r2⟩ := r.two
  cases r1 with
  | int _ t =>
  cases r2 with
  | int _ u =>
  refine max_two_ints hh fun h' tk hk => ⟨?_, ⟨h', tk, rfl, hk⟩⟩
  split
  · exact .int _ _
  · exact .int _ _

/-- the pattern and its code -/
def PatAt (c : Cx) : Prop := ∃ pa ct op ot f0 f1 f3 f4 n, c.mg (Str.ofString "IPV4_RE") = some (.ref pa) ∧ c.H0.get? pa = some op ∧ op.cls = .type "re.Pattern" ∧ op.dict = none ∧ op.data = .fields #[f0, f1, .int 0 0, f3, f4, .ref ct, .int 0 0] ∧
  c.H0.get? ct = some ot ∧ ot.data = .seq patCode n

theorem Ev.search {e : Expr} {p1 apos pos : Pos} {x : List Nat} (hp : PatAt c) (hk : env.kindOf (Str.ofString "IPV4_RE") = some .globalImplicit) (he : Ev c A X env ρ e (.d (.str (S x))))
    (hx : ∀ ch ∈ x, Sre.isDigit ch = false) (hsz : x.length ≤ 100000) (hline : (apos.endLine == pos.line) = true := by rfl)
    (hs : starEach [e] env = [(false, eval e env)] := by rfl)
    (hbase : attributeBase (.Name (Str.ofString "IPV4_RE") p1) (Str.ofString "search") env (eval (.Name (Str.ofString "IPV4_RE") p1) env) = eval (.Name (Str.ofString "IPV4_RE") p1) env := by rfl) :
    Ev c A X env ρ (.Call (.Attribute (.Name (Str.ofString "IPV4_RE") p1) (Str.ofString "search") apos) [e] [] pos) (.d .none) := fun s st => by
  obtain ⟨pa, ct, op, ot, f0, f1, f3, f4, n, h1, h2, h3, h4, h5, h6, h7⟩ := hp
  have hL : EvL c A X env ρ [e] [.d (.str (S x))] := ⟨hs, he, trivial⟩
  refine wpAny_Call_method_lateS hbase ?_ hline (ldGlob st hk h1 ?_ (by decide))
  · rw [EvL.plain' hL]; rfl
  refine ⟨"re.Pattern", "re.Pattern.search", plainAttrs_pat, slot_search, type_search, ⟨op, st.bs.base _ _ h2, h3⟩, ?_, ?_⟩
  · intro b hb; cases hb; exact ⟨op, st.bs.base _ _ h2, h4⟩
  refine callWith_method1 (wpAny_mono (hL.run s st) (fun ws s1 r1 => ?_) fun _ _ f => f) hs rfl
  obtain ⟨w, rfl, rw'⟩ := r1.1.one
  cases rw' with
  | str _ t =>
  have st1 := st.keep r1.2.kp
  show wpAny _ A (call (.builtin "re.Pattern.search") [.ref pa, .str (S x) t]) _ _ s1
  refine wpAny_mono (call_search (st1.bs.base _ _ h2) h3 h5 (st1.bs.base _ _ h6) h7 (by simpa using hx) (by simpa using hsz)) (fun v s2 q => ?_) fun _ _ f => f
  obtain ⟨rfl, rfl⟩ := q
  exact ⟨.none, r1.2⟩
end
end Mine
end

section
open PySem PySem.W PyProof.Rows PySem.SeqAt
open AutoSeq1 (wpAny_loadPart')
set_option Elab.async false
set_option maxRecDepth 100000
namespace Mine

theorem typeCall_enumerate_2 (a b : Value) : checkTypeCall "enumerate" ⟨[a, b], []⟩ = pure () := by kernel_rfl
theorem newCall_enumerate_2 (a b : Value) : checkBuiltinCall "enumerate.__new__" ⟨[.type "enumerate", a, b], []⟩ = pure () := by kernel_rfl

/-- enumerate over a list, from 1 on: what it makes -/
theorem meets_enumerate_new1 (l : Addr) (items : Array Value) (n : Nat) (u : Tok) (dct : Option Addr) (sl : Array (Option Value)) :
    Meets (Builtin.«enumerate.__new__» ⟨[.type "enumerate", .ref l, .int 1 u], []⟩) (fun _ R s => s.heap.get? l = some { cls := .type "list", dict := dct, data := .seq items n, slots := sl } ∧
      R (.ok (.ret (.ref (s.heap.objs.size + 1))))
        { s with heap := (s.heap.push { cls := .type "list_iterator", data := .fields #[.ref l, .int 0 0] }).push { cls := .type "enumerate", data := .fields #[.none, .bool false, .ref s.heap.objs.size, rawInt 1, .none, .none] } }) :=
  .of_wp fun prog w A R ⟨hp, g, d, tk, os⟩ ⟨hl, h⟩ => by
    have isL : Heap.IsList hp l items := ⟨_, hl, rfl, n, rfl⟩
    have sub := sub_enumerate
    rw [← show (hp.push { cls := .type "list_iterator", data := .fields #[.ref l, .int 0 0] }).objs.size = hp.objs.size + 1 from Heap.size_push ..] at h
    wp_walk using wpAny_loadPart' hl
    refine wpAny_stack_any fun st => wpAny_pure ?_
    split <;> (try rename_i c _ _ _ _ _; cases c == Value.type "enumerate") <;> (wp_walk using wpAny_loadPart' hl, wpAny_pyIter_list isL; exact ⟨_, rfl, h⟩)

theorem call_enumerate_from1 {prog : Program} {w : World} {A : Around} {E : Value → Shared → Prop} {s : Shared} {l : Addr} {u : Tok} {items : Array Value} {Q : Value → Shared → Prop} (hL : s.heap.IsList l items)
    (h : ∀ h', IsEnum h' (s.heap.objs.size + 1) s.heap.objs.size 1 .none → h'.IsListIter s.heap.objs.size l 0 → h'.objs.size = s.heap.objs.size + 2 →
      (∀ b o, s.heap.get? b = some o → h'.get? b = some o) → Q (.ref (s.heap.objs.size + 1)) { s with heap := h' }) :
    wpAny (model prog w) A (call (.type "enumerate") [.ref l, .int 1 u]) Q E s := by
  obtain ⟨⟨c, dct, dt, sl⟩, hl, hc, n, hd⟩ := hL
  replace hc : c = .type "list" := hc
  replace hd : dt = .seq items n := hd
  subst hc hd
  refine callType_new F.called_enumerate (by decide) (typeCall_enumerate_2 _ _) (newCall_enumerate_2 _ _) (fun obj => F.args_object_init_3 obj _ _) F.entry_enumerate_new
    (meets_enumerate_new1 l items n u dct sl) ⟨hl, ?_⟩
  have hz : (s.heap.push { cls := .type "list_iterator", data := .fields #[.ref l, .int 0 0] }).objs.size = s.heap.objs.size + 1 := Heap.size_push ..
  have he : IsEnum ((s.heap.push { cls := .type "list_iterator", data := .fields #[.ref l, .int 0 0] }).push
      { cls := .type "enumerate", data := .fields #[.none, .bool false, .ref s.heap.objs.size, rawInt 1, .none, .none] }) (s.heap.objs.size + 1) s.heap.objs.size 1 .none := by
    have := Heap.get?_push_size (s.heap.push { cls := .type "list_iterator", data := .fields #[.ref l, .int 0 0] })
      (o := { cls := .type "enumerate", data := .fields #[.none, .bool false, .ref s.heap.objs.size, rawInt 1, .none, .none] }) rfl
    rw [hz] at this; exact this
  refine ⟨⟨_, he, rfl⟩, h _ he ⟨_, Heap.get?_push_of_some _ (Heap.get?_push_size _ rfl), rfl, rfl⟩ (by rw [Heap.size_push, hz]) fun b o x => Heap.get?_push_of_some _ (Heap.get?_push_of_some _ x)⟩

theorem drawsList1 {prog : Program} {w : World} {A : Around} (hh : A.handled = none) (it l : Addr) (hne : l ≠ it) (items : Array Value) :
    Draws prog w A it [it, l] (items.size + 1) (fun i v => 1 ≤ i ∧ items[i - 1]? = some v) (fun i h => 1 ≤ i ∧ h.IsListIter it l (i - 1) ∧ h.IsList l items) where
  live := fun _ _ st => let ⟨o, ho, _⟩ := st.2.1; ⟨o, ho⟩
  frame := fun _ _ _ st hk => ⟨st.1, st.2.1.at fun o e => hk it (by simp) o e, st.2.2.at fun o e => hk l (by simp) o e⟩
  item := fun i s Q E hi st hQ => by
    have hlt : i - 1 < items.size := by omega
    refine wpAny_nextOf_list_item st.2.1 st.2.2 (x := items[i - 1]) (by simp [hlt]) fun h' hit' hs' => ?_
    refine hQ _ h' s.toks ⟨st.1, by simp [hlt]⟩ ⟨by omega, ?_, st.2.2.extBut hs'.extBut hne⟩ hs'
    have e : i + 1 - 1 = i - 1 + 1 := by have := st.1; omega
    rw [e]; exact hit'
  done := fun s Q E st hE => wpAny_nextOf_list_end hh st.2.1 st.2.2 (by simp) hE

/-- a list with the numbers from 1 on -/
def enumT (xs : List PyData) : List PyData := xs.mapIdx fun i d => .tuple [.int ((i : Int) + 1), d]
theorem enumT_length (xs : List PyData) : (enumT xs).length = xs.length := by simp [enumT]
theorem enumT_get {xs : List PyData} {i : Nat} {d : PyData} (h : (enumT xs)[i]? = some d) : ∃ a, xs[i]? = some a ∧ d = .tuple [.int ((i : Int) + 1), a] := by
  unfold enumT at h
  rw [List.getElem?_mapIdx] at h
  cases e : xs[i]? with
  | none => rw [e] at h; simp at h
  | some a => rw [e] at h; simp at h; exact ⟨a, rfl, h.symm⟩

section
variable {c : Cx} {A : Around} {X : List Addr} {env : Env} {ρ : List (Str × Pd)}
def ESt (e it l : Addr) (items : Array Value) (i : Nat) (h : Heap) : Prop :=
  (∃ old, IsEnum h e it ((i + 1 : Nat) : Int) old) ∧ 1 ≤ i + 1 ∧ h.IsListIter it l (i + 1 - 1) ∧ h.IsList l items

theorem Itn.enum {Y : List Addr} {elts : List Expr} {k : Nat} {tp : Pos} {e it l : Addr} {items : Array Value} {ds : List PyData} (hh : A.handled = none) (hli : l ≠ it) (hei : e ≠ it) (hel : e ≠ l) (hY : ∀ a ∈ [e, it], a ∈ Y) :
    Itn c A Y (.Tuple elts k tp) e [e, it] [e, it, l] (enumT ds) (items.toList.zip ds) (fun i h => ESt e it l items i h ∧ RelL Y h items.toList ds) := by
  have W := WalksT.enumerateD (prog := c.prog) (w := c.w) (A := A) (drawsList1 (prog := c.prog) (w := c.w) (A := A.in1) hh it l hli items) e hei (by simp; exact ⟨hei, hel⟩) (by simp)
  exact {
    sub := W.sub
    kind := fun i h st b hb => by
      obtain ⟨⟨⟨old, he⟩, _, ⟨o1, e1, _, d1⟩, ⟨o2, e2, _, n2, d2⟩⟩, _⟩ := st
      simp at hb
      rcases hb with rfl | rfl | rfl
      · exact ⟨_, he, .inr ⟨_, rfl⟩⟩
      · exact ⟨_, e1, .inr ⟨_, d1⟩⟩
      · exact ⟨_, e2, .inl ⟨_, _, d2⟩⟩
    frm := fun i h h' st hk hf => ⟨W.frame (i + 1) h h' st.1 hf, RelL.of_zip st.2.length hk⟩
    ghost := fun i h st => st.2.zip_all
    item := fun i d s Q E hlive hd st hQ => by
      obtain ⟨a, ha, rfl⟩ := enumT_get hd
      obtain ⟨va, hva, hra⟩ := st.2.get i a ha
      have h1 : i < items.size := by
        rcases Nat.lt_or_ge i items.size with h | h
        · exact h
        · rw [List.getElem?_eq_none (by simpa using h)] at hva; cases hva
      refine W.item (i + 1) s Q E (by omega) st.1 fun T vals h' tk hP hT hIT hMid hk => ?_
      obtain ⟨t, x, hx, rfl⟩ := hP
      have ex : x = va := by
        have : items.toList[i]? = some x := by simpa using hx
        rw [hva] at this; exact (Option.some.inj this).symm
      subst ex
      have hTY : T ∉ Y := fun hm => Nat.lt_irrefl _ (Nat.lt_of_lt_of_le (hlive T hm) hT)
      refine hQ _ h' tk hk fun Q' hQ' => ?_
      have hT' := W.apart (i + 1) T h' hMid
      refine W.go elts k tp (i + 1) T _ Q' E hMid fun h'' hst hk'' => ?_
      have sk1 : SK Y s.heap h'' := (Kb.sk (wr := [e, it]) hk hY).trans (Kb.sk (wr := [e, it]) hk'' hY)
      refine hQ' h'' ⟨hst, st.2.keep sk1⟩ hk'' ?_
      refine .tuple hTY (hIT.at fun o e => hk'' _ _ hT' e) ?_
      exact .cons (.int _ _) (.cons (hra.keep sk1) .nil)
    done := fun s Q E st hQ => by
      have e1 := st.2.length
      simp only [Array.length_toList] at e1
      rw [enumT_length, ← e1] at st
      exact W.done s Q E st.1 fun h' tk hk => hQ h' tk hk
    self := fun i s Q E st hQ => W.self (i + 1) s Q E st.1 hQ }

theorem IterE.enum1 {g : Bool} {f : Str} {fp pos : Pos} {e1 e2 : Expr} {xs : List PyData} {elts : List Expr} {k : Nat} {tp : Pos} (hk : env.kindOf f = some .globalImplicit) (hm : c.mg f = none) (hb : c.mb f = some (.type "enumerate")) (hh : A.handled = none)
    (he1 : Ev c A X env ρ e1 (.d (.list xs))) (he2 : Ev c A X env ρ e2 (.d (.int 1)))
    (hs : starEach [e1, e2] env = [(false, eval e1 env), (false, eval e2 env)] := by rfl) (hs2 : starEach [e2] env = [(false, eval e2 env)] := by rfl) (hd : (f == ("__debug__" : Str)) = false := by decide) :
    IterE c A X env ρ (.Call (.Name f fp) [e1, e2] [] pos) (.Tuple elts k tp) (enumT xs) g := fun s st => by
  refine Call_ (ldBui st hk hm hb ?_ hd) rfl
  have hL : EvL c A X env ρ [e1, e2] [.d (.list xs), .d (.int 1)] := ⟨by rw [hs, hs2], he1, hs2, he2, trivial⟩
  refine callWith_type1 (wpAny_mono (hL.run s st) (fun vs s1 r1 => ?_) fun _ _ f => f) (by rw [hs, hs2]) (by rw [hs2]; rfl)
  obtain ⟨v, w, rfl, q1, q2⟩ := r1.1.two
  cases q1 with
  | @list a1 vs1 _ hx1 hp1 hr1 =>
  cases q2 with
  | int _ u =>
  have hl1 := hp1.isList
  have lt1 : @LT.lt Nat _ a1 s1.heap.objs.size := by obtain ⟨o, e, _⟩ := hl1; exact Heap.lt_size e
  have old : ∀ n, s.heap.get? (s1.heap.objs.size + n) = none := fun n => none_of_kp r1.2.kp (none_of_le (Nat.le_add_right _ _))
  refine call_enumerate_from1 hl1 fun h' he hi hsz hkp => ⟨r1.2.trans ⟨h', s1.toks, rfl, hkp⟩, ?_⟩
  refine wpAny_pyIter_enum he ⟨r1.2.trans ⟨h', s1.toks, rfl, hkp⟩, s1.heap.objs.size + 1, [s1.heap.objs.size + 1, s1.heap.objs.size], [s1.heap.objs.size + 1, s1.heap.objs.size, a1], rfl, ?_, ?_, ?_, fun Y hw hY => ?_⟩
  · intro b hb
    simp at hb
    rcases hb with rfl | rfl
    · exact old 1
    · exact old 0
  · intro b hb
    simp at hb
    show @LT.lt Nat _ b h'.objs.size
    rw [hsz]
    rcases hb with h | h | h <;> rw [h] <;> omega
  · intro _ b hb'
    simp at hb'
    have nx : ∀ n, s1.heap.objs.size + n ∉ X := fun n hx => by obtain ⟨o, e⟩ := st.bs.live _ hx; rw [old n] at e; cases e
    rcases hb' with h | h | h <;> rw [h]
    · exact nx 1
    · exact nx 0
    · exact hx1
  · have hY1 : ∀ b ∈ Y, b ∈ X ∨ s1.heap.get? b = none := fun b hb => by
      rcases hY b hb with h | h | h
      · exact .inl h
      · refine .inr (none_of_le ?_)
        simp at h
        rcases h with h | h <;> rw [h] <;> omega
      · exact .inr (none_of_kp hkp h)
    refine ⟨_, _, Itn.enum (items := vs1) (ds := xs) hh (@Nat.ne_of_lt _ _ lt1) (@Nat.ne_of_gt _ _ (by omega)) (@Nat.ne_of_gt _ _ (by omega)) hw, ⟨⟨_, he⟩, by omega, hi, hl1.at fun o e => hkp _ _ e⟩, ?_⟩
    exact RelL.keep (.of_kp hkp) (RelL.more hY1 hr1)
end
end Mine
end

section
open PySem PySem.W PyProof.Rows PySem.SeqAt
set_option Elab.async false
set_option maxRecDepth 100000
namespace Mine

def dP (l : List (Str × PyData)) : List (Str × Pd) := l.map fun q => (q.1, .d q.2)
theorem mem_dP {l : List (Str × PyData)} {y : Str} {q : Pd} (h : (y, q) ∈ dP l) : ∃ d, q = .d d ∧ (y, d) ∈ l := by
  obtain ⟨⟨a, b⟩, h1, h2⟩ := List.mem_map.mp h
  cases h2; exact ⟨b, rfl, h1⟩

/-- what one turn of a clause adds to the list under way -/
def Emit (N : Nat) (c : Cx) (A : Around) (X : List Addr) (cenv : Env) (hb : Heap) (D : Addr) (ρ : List (Str × Pd)) (ρk : List (Str × PyData)) (emit : Sem Unit) (out : List PyData) : Prop :=
  ∀ (s : Shared) m (ys : Array Value) (acc : List PyData), StE c X cenv ρ s.heap → Kp hb s.heap → s.heap.Ns cenv.locals m → (∀ y d, (y, d) ∈ ρk → ∃ v, m y = some v ∧ Rel X s.heap v d) → s.heap.PlainList D ys → RelL X s.heap ys.toList acc → acc.length ≤ N →
    wpAny (model c.prog c.w) A emit (fun _ s' => ∃ h' tk ys' m', s' = { s with heap := h', toks := tk } ∧ (∀ b o, b ≠ D → b ≠ cenv.locals → s.heap.get? b = some o → h'.get? b = some o) ∧ h'.Ns cenv.locals m' ∧
      (∀ y d, (y, d) ∈ ρk → ∃ v, m' y = some v ∧ Rel X h' v d) ∧ h'.PlainList D ys' ∧ RelL X h' ys'.toList (acc ++ out)) (fun _ _ => False) s

def tree2 (target iter : Expr) (emit : Sem Unit) (e : Expr) (depth : Nat) (it acc : Value) (cenv : Env) : Sem Fin := do
      standAt iter.pos
      match ← pyNext it with
      | none => pure (.done .next)
      | some v =>
        letOwnedTupleGo target it v
        assign target cenv v
        let mut ok := true
        for c in ([] : List Expr) do
          if ok then ok ← isTrue c cenv (eval c cenv)
        if ok then
          emit
        again (.compLoop e depth it acc cenv)

section
variable {c : Cx} {A : Around} {X : List Addr} {env cenv : Env} {ρ : List (Str × Pd)}

theorem ns_sk {X : List Addr} {h h' : Heap} {C D : Addr} {m : Str → Option Value} (hn : h.Ns C m) (hD : D ∈ X) (k : ∀ b o, b ≠ D → b ≠ C → h.get? b = some o → h'.get? b = some o) : SK X h h' := fun b o xs n e dd hbx => by
  refine k b o (fun q => hbx (q ▸ hD)) ?_ e
  rintro rfl
  obtain ⟨o', es, ep, e', d', _⟩ := hn
  rw [e] at e'; cases e'; rw [dd] at d'; cases d'

theorem loopG {e iter : Expr} {x : Str} {px : Pos} {emit : Sem Unit} {depth : Nat} {hb : Heap} {s : Shared} {I D : Addr} {wr fp : List Addr} {ds : List PyData} {St : Nat → Heap → Prop} {gh : List (Value × PyData)}
    {ρf : List (Str × Pd)} {ρk : List (Str × PyData)} {out : PyData → List PyData} {m : Str → Option Value} {ys₀ : Array Value} {acc₀ : List PyData} {R : Result → Shared → Prop} {B N : Nat}
    (hq : Code.quiet (.compLoop e depth (.ref I) (.ref D) cenv) = true)
    (hden : (model c.prog c.w).den (.compLoop e depth (.ref I) (.ref D) cenv) = (compTurn e depth (.ref I) (.ref D) cenv).onRaise (fun x => do noteFrame x cenv; theTreesLotGoes x))
    (hA : A.under (.compLoop e depth (.ref I) (.ref D) cenv) = A)
    (hturn : compTurn e depth (.ref I) (.ref D) cenv = tree2 (.Name x px) iter emit e depth (.ref I) (.ref D) cenv)
    (It : Itn c A X (.Name x px) I wr fp ds gh St) (hwX : ∀ b ∈ wr, b ∈ X) (hD : D ∈ X) (hDf : D ∉ fp) (hCf : cenv.locals ∉ fp) (hDC : D ≠ cenv.locals)
    (ok : EnvOk cenv) (hb0 : Kp c.H0 hb) (hbw : ∀ b ∈ wr, hb.get? b = none) (hbD : hb.get? D = none) (hbC : hb.get? cenv.locals = none)
    (hfree : ∀ x q, (x, q) ∈ ρf → ∃ v, VarAt cenv hb x v ∧ RelP X hb v q)
    (hx : cenv.kindOf x = some .local) (hkk : ∀ y d, (y, d) ∈ ρk → cenv.kindOf y = some .local ∧ y ≠ x)
    (hk0 : ∀ y d, (y, d) ∈ ρk → ∃ v, m y = some v ∧ Rel X s.heap v d)
    (hem : ∀ d, d ∈ ds → Emit N c A X cenv hb D ((x, .d d) :: (dP ρk ++ ρf)) ρk emit (out d))
    (hst : St 0 s.heap) (hkb : Kp hb s.heap) (hn : s.heap.Ns cenv.locals m) (hl : s.heap.PlainList D ys₀) (hr : RelL X s.heap ys₀.toList acc₀) (hlive : ∀ a ∈ X, ∃ o, s.heap.get? a = some o)
    (hB : ∀ d ∈ ds, (out d).length ≤ B) (hsz : acc₀.length + ds.length * B ≤ N)
    (fin : ∀ h' tk m' ys, Kp hb h' → h'.Ns cenv.locals m' → (∀ y d, (y, d) ∈ ρk → ∃ v, m' y = some v ∧ Rel X h' v d) → h'.PlainList D ys → RelL X h' ys.toList (acc₀ ++ ds.flatMap out) → (∀ a ∈ X, a ∉ wr → ∃ o, h'.get? a = some o) → (∀ b o, b ∉ wr → b ≠ D → b ≠ cenv.locals → s.heap.get? b = some o → h'.get? b = some o) →
      R (.ok .next) { s with heap := h', toks := tk }) :
    codeAny (model c.prog c.w) A (.compLoop e depth (.ref I) (.ref D) cenv) R s := by
  refine codeAny_loop hq (fun k s' => ∃ h' tk m' ys i, s' = { s with heap := h', toks := tk } ∧ St i h' ∧ Kp hb h' ∧ h'.Ns cenv.locals m' ∧ (∀ y d, (y, d) ∈ ρk → ∃ v, m' y = some v ∧ Rel X h' v d) ∧ h'.PlainList D ys ∧ RelL X h' ys.toList (acc₀ ++ (ds.take i).flatMap out) ∧
      (∀ a ∈ X, ∃ o, h'.get? a = some o) ∧ i ≤ ds.length ∧ k = ds.length + 1 - i ∧ (∀ b o, b ∉ wr → b ≠ D → b ≠ cenv.locals → s.heap.get? b = some o → h'.get? b = some o)) ?_ (ds.length + 1)
      ⟨s.heap, s.toks, m, ys₀, 0, rfl, hst, hkb, hn, hk0, hl, by simpa using hr, hlive, Nat.zero_le _, rfl, fun _ _ _ _ _ e => e⟩
  rintro k s' ⟨H, tk, m', ys, i, rfl, hst', hkb', hn', hkv', hl', hr', hlive', hi, rfl, hkk'⟩
  rw [hA, hden]
  refine wpAny_noted ?_
  rw [hturn]
  unfold tree2
  have hCw : cenv.locals ∉ wr := fun h => hCf (It.sub _ h)
  have hDw : D ∉ wr := fun h => hDf (It.sub _ h)
  have hlt : ∀ a ∈ X, a < H.objs.size := fun a ha => let ⟨o, e⟩ := hlive' a ha; Heap.lt_size e
  refine wpAny_bind (wpAny_standAt (wpAny_bind ?_))
  by_cases hlen : i < ds.length
  · have hd : ds[i]? = some ds[i] := List.getElem?_eq_getElem hlen
    generalize hdd : ds[i] = d at hd
    have hmem : d ∈ ds := List.mem_of_getElem? hd
    refine It.item i d _ _ _ hlt hd hst' fun v h1 tk1 k1 hgo => ?_
    refine wpAny_bind (hgo _ fun h2 st2 k2 r2 => ?_)
    have K2 : Kb wr H h2 := Kb.trans k1 k2
    have live2 : ∀ a ∈ X, ∃ o, h2.get? a = some o := fun a ha => by
      by_cases haw : a ∈ wr
      · obtain ⟨o, e, _⟩ := It.kind _ _ st2 a (It.sub a haw); exact ⟨o, e⟩
      · obtain ⟨o, e⟩ := hlive' a ha; exact ⟨o, K2 a o haw e⟩
    have hn2 : h2.Ns cenv.locals m' := hn'.at' fun o e => K2 _ o hCw e
    refine wpAny_bind (wpAny_assign_Name (wpAny_storeName_local hx hn2 (fun h3 hn3 hs3 => ?_) (by rw [ok.kind]; rfl)))
    have k3 : ∀ b o, b ≠ cenv.locals → h2.get? b = some o → h3.get? b = some o := fun b o hb e => hs3.extBut b o hb e
    have nC : ∀ {b o}, hb.get? b = some o → b ≠ cenv.locals := fun e h => by rw [h, hbC] at e; cases e
    have nW : ∀ {b o}, hb.get? b = some o → b ∉ wr := fun e h => by rw [hbw _ h] at e; cases e
    have nD : ∀ {b o}, hb.get? b = some o → b ≠ D := fun e h => by rw [h, hbD] at e; cases e
    have kb3 : Kp hb h3 := fun b o e => k3 b o (nC e) (K2 b o (nW e) (hkb' b o e))
    have live3 : ∀ a ∈ X, ∃ o, h3.get? a = some o := fun a ha => by
      by_cases hac : a = cenv.locals
      · obtain ⟨o, es, ep, e, _⟩ := hn3; exact ⟨o, hac ▸ e⟩
      · obtain ⟨o, e⟩ := live2 a ha; exact ⟨o, k3 a o hac e⟩
    have sk23 : SK X h2 h3 := .of_ns hn2 hs3
    have sk3 : SK X H h3 := (Kb.sk K2 hwX).trans sk23
    have fp3 : ∀ b ∈ fp, ∀ o, h2.get? b = some o → h3.get? b = some o := fun b hbf o e => k3 b o (fun h => hCf (h ▸ hbf)) e
    have st3 : St (i + 1) h3 := It.frame _ _ _ st2 sk23 fp3
    have kv3 : ∀ y d', (y, d') ∈ ρk → ∃ w, (fun z => if z = x then some v else m' z) y = some w ∧ Rel X h3 w d' := fun y d' hy => by
      obtain ⟨w, hw, hrw⟩ := hkv' y d' hy
      exact ⟨w, by simp [(hkk y d' hy).2, hw], hrw.keep sk3⟩
    have SE3 : StE c X cenv ((x, .d d) :: (dP ρk ++ ρf)) h3 := ⟨⟨fun b o e => kb3 b o (hb0 b o e), live3⟩, ok, fun y q hy => by
      rcases List.mem_cons.mp hy with hy | hy
      · cases hy
        exact ⟨v, .inl ⟨hx, _, hn3, by simp⟩, r2.keep sk23⟩
      · rcases List.mem_append.mp hy with hy | hy
        · obtain ⟨d', rfl, hy'⟩ := mem_dP hy
          obtain ⟨w, hw, hrw⟩ := kv3 y d' hy'
          exact ⟨w, .inl ⟨(hkk y d' hy').1, _, hn3, hw⟩, hrw⟩
        · obtain ⟨v, hv, hrv⟩ := hfree y q hy
          exact ⟨v, hv.keep kb3, hrv.keep kb3⟩⟩
    have hl3 : h3.PlainList D ys := hl'.at fun o e => k3 D o hDC (K2 D o hDw e)
    have hr3 := hr'.keep sk3
    have hlen3 : (acc₀ ++ (ds.take i).flatMap out).length ≤ N := by
      rw [List.length_append, List.length_flatMap]
      have : ((ds.take i).map fun d => (out d).length).sum ≤ ds.length * B := by
        have h1 : ∀ l : List PyData, (∀ d ∈ l, (out d).length ≤ B) → (l.map fun d => (out d).length).sum ≤ l.length * B := fun l => by
          induction l with
          | nil => intro _; simp
          | cons a l ih =>
            intro h
            have := ih fun d hd => h d (.tail _ hd)
            have h2 := h a (.head _)
            simp only [List.map_cons, List.sum_cons, List.length_cons]
            rw [Nat.succ_mul]; omega
        refine Nat.le_trans (h1 _ fun d hd => hB d (List.mem_of_mem_take hd)) (Nat.mul_le_mul_right _ ?_)
        rw [List.length_take]; omega
      omega
    refine wpAny_bind (wpAny_tests_nil ?_)
    simp only [if_true]
    refine wpAny_bind (wpAny_mono (hem d hmem _ _ ys _ SE3 kb3 hn3 kv3 hl3 hr3 hlen3) (fun _ s5 q5 => ?_) fun _ _ f => f.elim)
    obtain ⟨h5, tk5, ys5, m5, rfl, k5, hn5, hkv5, hl5, hr5⟩ := q5
    have sk5 : SK X h3 h5 := ns_sk hn3 hD k5
    refine wpAny_pure ⟨rfl, ds.length + 1 - (i + 1), by omega, h5, tk5, m5, ys5, i + 1, rfl, ?_, ?_, hn5, hkv5, hl5, ?_, ?_, hlen, rfl, ?_⟩
    · exact It.frame _ _ _ st3 sk5 fun b hbf o e => k5 b o (fun h => hDf (h ▸ hbf)) (fun h => hCf (h ▸ hbf)) e
    · exact fun b o e => k5 b o (nD e) (nC e) (kb3 b o e)
    · have e1 : ds.take (i + 1) = ds.take i ++ [d] := by rw [List.take_add_one, hd]; rfl
      rw [e1, List.flatMap_append, ← List.append_assoc]
      simpa using hr5
    · intro a ha
      by_cases haD : a = D
      · obtain ⟨n, e⟩ := hl5; exact ⟨_, haD ▸ e⟩
      · by_cases hac : a = cenv.locals
        · obtain ⟨o, es, ep, e, _⟩ := hn5; exact ⟨o, hac ▸ e⟩
        · obtain ⟨o, e⟩ := live3 a ha
          exact ⟨o, k5 a o haD hac e⟩
    · exact fun b o h1 h2 h3' e => k5 b o h2 h3' (k3 b o h3' (K2 b o h1 (hkk' b o h1 h2 h3' e)))
  · have hi' : i = ds.length := by omega
    subst hi'
    refine It.done _ _ _ hst' fun h1 tk1 k1 => wpAny_pure ?_
    have k1' : Kb wr H h1 := k1
    have nW : ∀ {b o}, hb.get? b = some o → b ∉ wr := fun e h => by rw [hbw _ h] at e; cases e
    refine fin h1 tk1 m' ys (fun b o e => k1' b o (nW e) (hkb' b o e)) (hn'.at' fun o e => k1' _ o hCw e) (fun y d hy => let ⟨v, h1, h2⟩ := hkv' y d hy; ⟨v, h1, h2.keep (Kb.sk k1' hwX)⟩) (hl'.at fun o e => k1' _ o hDw e) ?_ (fun a ha haw => let ⟨o, e⟩ := hlive' a ha; ⟨o, k1' a o haw e⟩) (fun b o h1 h2 h3 e => k1' b o h1 (hkk' b o h1 h2 h3 e))
    have := hr'.keep (Kb.sk k1' hwX)
    rwa [List.take_of_length_le (Nat.le_refl _)] at this

/-- the innermost clause: one element -/
theorem Emit.elt {N : Nat} (hN : N ≤ 100000) {hb : Heap} {D : Addr} {ρk : List (Str × PyData)} {elt : Expr} {d : PyData} (hDC : D ≠ cenv.locals) (hD : D ∈ X) (h : Ev c A X cenv ρ elt (.d d)) :
    Emit N c A X cenv hb D ρ ρk (do let _ ← call (.builtin "list.append") [.ref D, ← eval elt cenv]) [d] := fun s m ys acc st hkb hn hkv hl hr hlen => by
  refine wpAny_bind (wpAny_mono (h s st) (fun y s5 q5 => ?_) fun _ _ f => f.elim)
  obtain ⟨ry, h5, tk5, rfl, k5⟩ := q5
  have k5' : Kp s.heap h5 := k5
  have hl5 : h5.PlainList D ys := hl.at fun o e => k5' _ o e
  have hlen5 := hr.length
  have hsz5 : ys.size ≤ sizeLine := by
    rw [sizeLine_eq]
    simp only [Array.length_toList] at hlen5
    omega
  refine wpAny_bind (wpAny_list_append_plain hl5 (fun h6 hl6 hs6 => ?_) hsz5)
  have sk6 : SK X h5 h6 := .of_mem hD hs6
  refine wpAny_pure ⟨h6, tk5, ys.push y, m, rfl, fun b o h1 h2 e => hs6.extBut b o h1 (k5' b o e), (hn.keeps k5').sameBut hs6 (Ne.symm hDC), fun z d hz => ?_, hl6, ?_⟩
  · obtain ⟨v, h1, h2⟩ := hkv z d hz
    exact ⟨v, h1, (h2.keep (.of_kp k5')).keep sk6⟩
  · have hy : RelL X h6 [y] [d] := .cons (Rel.keep sk6 ry) .nil
    have := (hr.keep ((SK.of_kp k5').trans sk6)).append hy
    simpa [List.append_assoc] using this
end
end Mine
end

section
open PySem PySem.W PyProof.Rows PySem.SeqAt
set_option Elab.async false
set_option maxRecDepth 100000
namespace Mine

def emit2 (iter2 : Expr) (e : Expr) (D : Addr) (cenv : Env) : Sem Unit := do
  let x ← eval iter2 cenv
  standAt iter2.pos
  let x ← foldedSetIterable iter2 cenv x
  let _ ← runOwn (.compStart e 1 (← holding [x] (pyIter x)) (.ref D) cenv) cenv

theorem flatMap_one {α β : Type} (f : α → β) (l : List α) : l.flatMap (fun d => [f d]) = l.map f := by
  induction l with
  | nil => rfl
  | cons a l ih => rw [List.flatMap_cons, ih]; rfl

section
variable {c : Cx} {A : Around} {X : List Addr} {env cenv : Env} {ρ : List (Str × Pd)}

theorem compTurn_outer (elt t1 i1 t2 i2 : Expr) (scope : Scope) (pos : Pos) (it : Value) (D : Addr) (env : Env) :
    compTurn (.ListComp elt [⟨t1, i1, [], 0⟩, ⟨t2, i2, [], 0⟩] scope pos) 0 it (.ref D) env = tree2 t1 i1 (emit2 i2 (.ListComp elt [⟨t1, i1, [], 0⟩, ⟨t2, i2, [], 0⟩] scope pos) D env) (.ListComp elt [⟨t1, i1, [], 0⟩, ⟨t2, i2, [], 0⟩] scope pos) 0 it (.ref D) env := by
  unfold tree2 emit2
  simp only [bind_assoc]
  rfl
theorem compTurn_inner (elt t1 i1 t2 i2 : Expr) (scope : Scope) (pos : Pos) (it : Value) (D : Addr) (env : Env) :
    compTurn (.ListComp elt [⟨t1, i1, [], 0⟩, ⟨t2, i2, [], 0⟩] scope pos) 1 it (.ref D) env = tree2 t2 i2 (do let _ ← call (.builtin "list.append") [.ref D, ← eval elt env]) (.ListComp elt [⟨t1, i1, [], 0⟩, ⟨t2, i2, [], 0⟩] scope pos) 1 it (.ref D) env := by rfl

theorem compStart1 {elt t1 i1 t2 i2 : Expr} {scope : Scope} {pos : Pos} {it acc : Value} {R : Result → Shared → Prop} {s : Shared}
    (h0 : codeAny (model c.prog c.w) A (.compLoop (.ListComp elt [⟨t1, i1, [], 0⟩, ⟨t2, i2, [], 0⟩] scope pos) 1 it acc env) R s)
    (h : wpAny (model c.prog c.w) A (pyIter it) (fun it' s' => codeAny (model c.prog c.w) A (.compLoop (.ListComp elt [⟨t1, i1, [], 0⟩, ⟨t2, i2, [], 0⟩] scope pos) 1 it' acc env) R s')
      (notedBy (model c.prog c.w) A env fun x s' => R (.error x) s') s) :
    codeAny (model c.prog c.w) A (.compStart (.ListComp elt [⟨t1, i1, [], 0⟩, ⟨t2, i2, [], 0⟩] scope pos) 1 it acc env) R s := by
  refine codeAny_of_tree ?_
  show wpAny _ _ ((compStart (.ListComp elt [⟨t1, i1, [], 0⟩, ⟨t2, i2, [], 0⟩] scope pos) 1 it acc env).onRaise (fun x => do noteFrame x env; standAt theWindowsPlace)) _ _ s
  refine wpAny_notedAt ?_
  unfold compStart
  show wpAny _ _ (ask >>= _) _ _ s
  refine wpAny_bind (wpAny_askSetting (wpAny_ite ?_))
  split
  · first
      | exact wpAny_bind (wpAny_pure (wpAny_pure (And.intro rfl h0)))
      | exact wpAny_pure (And.intro rfl h0)
  · first
      | exact wpAny_bind (wpAny_rule (wpAny_bind (wpAny_standAt (wpAny_bind (wpAny_mono h (fun it' s' h' => wpAny_pure (And.intro rfl h')) fun _ _ x => x)))))
      | (refine wpAny_bind (wpAny_rule ?_); show wpAny _ _ (standAt i2.pos >>= _) _ _ s; exact wpAny_bind (wpAny_standAt (wpAny_bind (wpAny_mono h (fun it' s' h' => wpAny_pure (And.intro rfl h')) fun _ _ x => x))))

theorem Emit.inner {hb : Heap} {D : Addr} {elt i1 i2 : Expr} {x y : Str} {px py pos : Pos} {scope : Scope} {ρf : List (Str × Pd)} {d : PyData} {ds2 : List PyData} {f : PyData → PyData}
    (ok : EnvOk cenv) (hD : D ∈ X) (hDC : D ≠ cenv.locals) (hb0 : Kp c.H0 hb) (hbD : hb.get? D = none) (hbC : hb.get? cenv.locals = none) (hX : cenv.locals ∉ X)
    (hfree : ∀ x q, (x, q) ∈ ρf → ∃ v, VarAt cenv hb x v ∧ RelP X hb v q)
    (hx : cenv.kindOf x = some .local) (hy : cenv.kindOf y = some .local) (hxy : x ≠ y)
    (hit : IterE c A X cenv ((x, .d d) :: ρf) i2 (.Name y py) ds2 true)
    (helt : ∀ Y d2, d2 ∈ ds2 → Ev c A Y cenv ((y, .d d2) :: (x, .d d) :: ρf) elt (.d (f d2)))
    (hsz : ds2.length ≤ 1000) (hs : ∀ v, foldedSetIterable i2 cenv v = pure v) :
    ∀ (s : Shared) m (ys : Array Value) (acc : List PyData), StE c X cenv ((x, .d d) :: ρf) s.heap → Kp hb s.heap → s.heap.Ns cenv.locals m → s.heap.PlainList D ys → RelL X s.heap ys.toList acc → acc.length ≤ 50000 →
    wpAny (model c.prog c.w) A (emit2 i2 (.ListComp elt [⟨.Name x px, i1, [], 0⟩, ⟨.Name y py, i2, [], 0⟩] scope pos) D cenv) (fun _ s' => ∃ h' tk ys' m', s' = { s with heap := h', toks := tk } ∧ (∀ b o, b ≠ D → b ≠ cenv.locals → s.heap.get? b = some o → h'.get? b = some o) ∧ h'.Ns cenv.locals m' ∧
      h'.PlainList D ys' ∧ RelL X h' ys'.toList (acc ++ ds2.map f)) (fun _ _ => False) s := fun s m₀ ys acc st hkb _ hl hr hlen => by
  unfold emit2
  refine wpAny_bind (wpAny_mono (hit s st) (fun xv s1 r1 => ?_) fun _ _ f => f)
  obtain ⟨k1, r1⟩ := r1
  refine wpAny_bind (wpAny_standAt (wpAny_bind (wpAny_of_eq (hs xv) (wpAny_bind (wpAny_holding (wpAny_mono r1 (fun it s2 r2 => ?_) fun _ _ f => f))))))
  obtain ⟨⟨h2, tk2, rfl, k2⟩, I, wr, fp, rfl, hwr, hfp, hfX, hItn⟩ := r2
  have k2' : Kp s.heap h2 := k2
  obtain ⟨v0, hv0, hrv0⟩ := st.var x _ (.head _)
  obtain ⟨m, hn, hmx⟩ : ∃ m, s.heap.Ns cenv.locals m ∧ m x = some v0 := by
    rcases hv0 with ⟨_, m, hn, hm⟩ | ⟨hk, _⟩
    · exact ⟨m, hn, hm⟩
    · rw [hx] at hk; cases hk
  obtain ⟨gh, St, It, hst0⟩ := hItn (wr ++ X) (fun a ha => List.mem_append.mpr (.inl ha)) (fun a ha => by
    rcases List.mem_append.mp ha with h | h
    · exact .inr (.inl h)
    · exact .inl h)
  have hYs : ∀ (h : Heap), Kp h s.heap → ∀ a ∈ wr ++ X, a ∈ X ∨ h.get? a = none := fun h kh a ha => by
    rcases List.mem_append.mp ha with h' | h'
    · exact .inr (none_of_kp kh (hwr a h'))
    · exact .inl h'
  have hDf : D ∉ fp := fun hm => hfX rfl D hm hD
  have hn2 : h2.Ns cenv.locals m := hn.keeps k2'
  have hCf : cenv.locals ∉ fp := fun hm => by
    obtain ⟨o, e, hfs⟩ := It.kind _ _ hst0 _ hm
    obtain ⟨o', es, ep, e', d', _⟩ := hn2
    have e2 : h2.get? cenv.locals = some o := e
    rw [e'] at e2; cases e2
    rcases hfs with ⟨xs, n, hd⟩ | ⟨vs, hd⟩ <;> rw [d'] at hd <;> cases hd
  have loop : codeAny (model c.prog c.w) A (.compLoop (.ListComp elt [⟨.Name x px, i1, [], 0⟩, ⟨.Name y py, i2, [], 0⟩] scope pos) 1 (.ref I) (.ref D) cenv)
      (fun r s' => ∃ fl, r = .ok fl ∧ ∃ h' tk ys' m', s' = { s with heap := h', toks := tk } ∧ (∀ b o, b ≠ D → b ≠ cenv.locals → s.heap.get? b = some o → h'.get? b = some o) ∧ h'.Ns cenv.locals m' ∧
      h'.PlainList D ys' ∧ RelL X h' ys'.toList (acc ++ ds2.map f)) { s with heap := h2, toks := tk2 } := by
    refine loopG (cenv := cenv) (hb := hb) (acc₀ := acc) (ρf := ρf) (ρk := [(x, d)]) (out := fun d2 => [f d2]) (iter := i2) (m := m) (ys₀ := ys) (B := 1) (N := 51000) rfl rfl (Around.under_of_weight rfl rfl) (compTurn_inner elt _ i1 _ i2 scope pos _ D cenv) It
      (fun b hb => List.mem_append.mpr (.inl hb)) (List.mem_append.mpr (.inr hD)) hDf hCf hDC ok hb0 (fun b hb => none_of_kp hkb (hwr b hb)) hbD hbC ?_ hy ?_ ?_ ?_ hst0 (fun b o e => k2' b o (hkb b o e)) hn2 (hl.at fun o e => k2' _ o e) ?_ ?_ (fun _ _ => Nat.le_refl 1) (by omega) ?_
    · intro z q hz
      obtain ⟨v, hv, hrv⟩ := hfree z q hz
      refine ⟨v, hv, ?_⟩
      cases q with
      | d x => exact Rel.more (hYs _ hkb) hrv
      | l xs =>
        obtain ⟨a, vs, e, hl, hr⟩ := hrv
        exact ⟨a, vs, e, hl, RelL.more (hYs _ hkb) hr⟩
    · intro z q hz
      simp at hz
      obtain ⟨rfl, rfl⟩ := hz
      exact ⟨hx, hxy⟩
    · intro z q hz
      simp at hz
      obtain ⟨rfl, rfl⟩ := hz
      exact ⟨v0, hmx, (Rel.more (hYs _ fun _ _ e => e) hrv0).keep (.of_kp k2')⟩
    · intro d2 hd2
      exact Emit.elt (by omega) hDC (List.mem_append.mpr (.inr hD)) (helt _ d2 hd2)
    · exact (RelL.more (hYs _ fun _ _ e => e) hr).keep (.of_kp k2')
    · intro a ha
      rcases List.mem_append.mp ha with h | h
      · obtain ⟨o, e, _⟩ := It.kind _ _ hst0 a (It.sub a h); exact ⟨o, e⟩
      · obtain ⟨o, e⟩ := st.bs.live a h; exact ⟨o, k2' _ _ e⟩
    · intro h' tk m' ys' kb' hn' _ hl' hr' _ hkk
      refine ⟨_, rfl, h', tk, ys', m', rfl, fun b o h1 h2' e => ?_, hn', hl', ?_⟩
      · exact hkk b o (fun hw => by rw [hwr b hw] at e; cases e) h1 h2' (k2' b o e)
      · rw [flatMap_one] at hr'
        exact RelL.less (fun a ha => List.mem_append.mpr (.inr ha)) hr'
  refine wpAny_bind (wpAny_runOwn (codeAny_mono (R := fun r s' => ∃ fl, r = .ok fl ∧ ∃ h' tk ys' m', s' = { s with heap := h', toks := tk } ∧ (∀ b o, b ≠ D → b ≠ cenv.locals → s.heap.get? b = some o → h'.get? b = some o) ∧ h'.Ns cenv.locals m' ∧
      h'.PlainList D ys' ∧ RelL X h' ys'.toList (acc ++ ds2.map f)) ?_ fun r s' hr => ?_))
  · exact compStart1 loop (It.self 0 _ _ _ hst0 loop)
  · obtain ⟨fl, rfl, h⟩ := hr
    exact wpAny_pure h

theorem compGen2 {use : Option (Value → Sem Unit)} {Q : Value → Shared → Prop} {s : Shared} {ipos : Pos} {elt i1 i2 : Expr} {x y : Str} {px py pos : Pos} {scope : Scope} {cl : List (Str × Addr)} {ρf : List (Str × Pd)} {ds : List PyData} {ds2 : PyData → List PyData} {f : PyData → PyData → PyData} {g : Bool} {B : Nat}
    (st : StE c X env ρ s.heap) (hclos : closureFor scope env = pure cl) (hcell : ∀ y ∈ scope.names, y.2 ≠ .cell) (hkind : scope.kind = .function)
    (hnames : ∀ y ∈ scope.names, y.2 = .local → scope.names.lookup y.1 = some .local)
    (hfr : FreeL env scope cl ρ ρf) (hit : IterE c A X env ρ i1 (.Name x px) ds g)
    (hx : scope.names.lookup x = some .local) (hy : scope.names.lookup y = some .local) (hxy : x ≠ y)
    (hit2 : ∀ Y C d, d ∈ ds → IterE c A Y (compEnvC scope cl C env) ((x, .d d) :: ρf) i2 (.Name y py) (ds2 d) true)
    (helt : ∀ Y C d, d ∈ ds → ∀ d2, d2 ∈ ds2 d → Ev c A Y (compEnvC scope cl C env) ((y, .d d2) :: (x, .d d) :: ρf) elt (.d (f d d2)))
    (hB : ∀ d ∈ ds, (ds2 d).length ≤ B) (hB' : B ≤ 1000) (hsz : ds.length * B ≤ 30000)
    (hs : ∀ v, foldedSetIterable i1 env v = pure v) (hs2 : ∀ C v, foldedSetIterable i2 (compEnvC scope cl C env) v = pure v)
    (fin : ∀ D C m' s', s.heap.get? D = none → s.heap.get? C = none → D ≠ C → Ks s s' → s'.heap.Ns C m' → Rel X s'.heap (.ref D) (.list (ds.flatMap fun d => (ds2 d).map (f d))) →
      compPost (model c.prog c.w) A (fun _ _ => False) use Q (.ref D) C (.ok .next) s') :
    wpAny (model c.prog c.w) A (comprehension (.ListComp elt [⟨.Name x px, i1, [], 0⟩, ⟨.Name y py, i2, [], 0⟩] scope pos) scope env ipos (newList []) false (eval i1 env) use) Q (fun _ _ => False) s := by
  refine wpAny_comprehension_free (g := ⟨.Name x px, i1, [], 0⟩) (gs := [⟨.Name y py, i2, [], 0⟩]) rfl hs hclos hkind hnames ?_
  refine wpAny_mono (hit s st) (fun xv s1 r1 => ?_) fun _ _ f => f
  obtain ⟨k1, r1⟩ := r1
  refine wpAny_mono r1 (fun it s2 r2 => ?_) fun _ _ f => f
  obtain ⟨k2, I, wr, fp, rfl, hwr, hfp, _, hItn⟩ := r2
  refine wpAny_newObj_type (wpAny_newFunctionEnv hcell (by intro y hy; simp at hy) (fun h₁ hns₁ hsb₁ => ?_) hkind)
  dsimp only at hns₁ hsb₁ ⊢
  generalize hH2 : s2.heap.push { cls := .type "list", dict := none, data := .seq ([] : List Value).toArray } = H2 at hns₁ hsb₁ ⊢
  have hC : H2.objs.size = s2.heap.objs.size + 1 := by rw [← hH2, Heap.size_push]
  have hDC : s2.heap.objs.size ≠ H2.objs.size := by rw [hC]; exact Nat.ne_of_lt (Nat.lt_succ_self _)
  have old : Kp s2.heap h₁ := fun b o e => hsb₁.extBut b o (by rw [hC]; exact Nat.ne_of_lt (Nat.lt_succ_of_lt (Heap.lt_size e))) (Heap.get?_push_of_some _ (hH2 ▸ Heap.get?_push_of_some _ e))
  have hacc : h₁.PlainList s2.heap.objs.size #[] := ⟨_, hsb₁.extBut _ _ hDC (Heap.get?_push_of_some _ (hH2 ▸ Heap.get?_push_size _ rfl))⟩
  have hDs : s.heap.get? s2.heap.objs.size = none := none_of_kp k2.kp (fresh_none _)
  have hCs : s.heap.get? H2.objs.size = none := none_of_kp k2.kp (none_of_le (by rw [hC]; exact Nat.le_succ _))
  have hD2 : s2.heap.get? s2.heap.objs.size = none := fresh_none _
  obtain ⟨gh, St, It, hst0⟩ := hItn (s2.heap.objs.size :: (wr ++ X)) (fun a ha => .tail _ (List.mem_append.mpr (.inl ha))) (fun a ha => by
    rcases List.mem_cons.mp ha with h | h
    · exact .inr (.inr (h ▸ hD2))
    · rcases List.mem_append.mp h with h | h
      · exact .inr (.inl h)
      · exact .inl h)
  have hYs : ∀ a ∈ s2.heap.objs.size :: (wr ++ X), a ∈ X ∨ s.heap.get? a = none := fun a ha => by
    rcases List.mem_cons.mp ha with h | h
    · exact .inr (h ▸ hDs)
    · rcases List.mem_append.mp h with h | h
      · exact .inr (hwr a h)
      · exact .inl h
  have hDf : s2.heap.objs.size ∉ fp := fun hm => Nat.lt_irrefl _ (hfp _ hm)
  have hCf : H2.objs.size ∉ fp := fun hm => by have := hfp _ hm; rw [hC] at this; exact Nat.lt_irrefl _ (Nat.lt_of_succ_lt this)
  have hCY : H2.objs.size ∉ s2.heap.objs.size :: (wr ++ X) := fun hm => by
    rcases List.mem_cons.mp hm with h | h
    · exact hDC h.symm
    · rcases List.mem_append.mp h with h | h
      · exact hCf (It.sub _ h)
      · obtain ⟨o, e⟩ := st.bs.live _ h; rw [hCs] at e; cases e
  have free : ∀ z q, (z, q) ∈ ρf → ∃ v, VarAt (compEnvC scope cl H2.objs.size env) s.heap z v ∧ RelP (s2.heap.objs.size :: (wr ++ X)) s.heap v q := by
    intro x q hx
    obtain ⟨h1, h2, h3, h4⟩ := hfr.all x q hx
    obtain ⟨v, hv, hrv⟩ := st.var x q h1
    refine ⟨v, ?_, ?_⟩
    · rcases hv with ⟨hk', _⟩ | ⟨_, a, ha, hc⟩
      · rw [h2] at hk'; cases hk'
      · exact .inr ⟨h3, a, by show cl.lookup x = some a; rw [h4]; exact ha, hc⟩
    · cases q with
      | d x => exact Rel.more hYs hrv
      | l xs =>
        obtain ⟨a, vs, e, hl, hr⟩ := hrv
        exact ⟨a, vs, e, hl, RelL.more hYs hr⟩
  have loop : ∀ s₃ : Shared, s₃ = { s2 with heap := h₁, toks := s2.toks + ([] : List (Str × Value)).length } →
      codeAny (model c.prog c.w) A (.compLoop (.ListComp elt [⟨.Name x px, i1, [], 0⟩, ⟨.Name y py, i2, [], 0⟩] scope pos) 0 (.ref I) (.ref s2.heap.objs.size) (compEnvC scope cl H2.objs.size env))
        (compPost (model c.prog c.w) A (fun _ _ => False) use Q (.ref s2.heap.objs.size) H2.objs.size) s₃ := by
    rintro s₃ rfl
    refine loopG (cenv := compEnvC scope cl H2.objs.size env) (hb := s.heap) (acc₀ := []) (ρf := ρf) (ρk := []) (out := fun d => (ds2 d).map (f d)) (iter := i1) (B := B) (N := 50000) rfl rfl (Around.under_of_weight rfl rfl) (compTurn_outer elt _ i1 _ i2 scope pos _ _ _) It
      (fun b hb => .tail _ (List.mem_append.mpr (.inl hb))) (.head _) hDf hCf hDC ⟨hkind, st.ok.glob, st.ok.bui⟩ st.bs.base hwr hDs hCs free (lookup_relabel_local hx) (fun _ _ h => by cases h) (fun _ _ h => by cases h) ?_
      (It.frame _ _ _ hst0 (.of_kp old) fun b _ o e => old b o e) (fun b o e => old b o (k2.kp b o e)) hns₁ hacc .nil ?_ (fun d hd => by rw [List.length_map]; exact hB d hd) (by simp; omega) ?_
    · intro d hd s' m ys acc st' hkb hn _ hl hr hlen
      have hlen' : acc.length ≤ 50000 := hlen
      refine wpAny_mono (Emit.inner (X := s2.heap.objs.size :: (wr ++ X)) (cenv := compEnvC scope cl H2.objs.size env) (ρf := ρf) (f := f d) ⟨hkind, st.ok.glob, st.ok.bui⟩ (.head _) hDC st.bs.base hDs hCs hCY free (lookup_relabel_local hx) (lookup_relabel_local hy) hxy
        (hit2 _ _ d hd) (fun Y d2 hd2 => helt Y _ d hd d2 hd2) (Nat.le_trans (hB d hd) hB') (hs2 _) s' m ys acc st' hkb hn hl hr hlen) (fun _ s'' h => ?_) fun _ _ f => f
      obtain ⟨h', tk, ys', m', e, h1, h2, h3, h4⟩ := h
      exact ⟨h', tk, ys', m', e, h1, h2, (fun _ _ h => nomatch h), h3, h4⟩
    · intro a ha
      rcases List.mem_cons.mp ha with h | h
      · obtain ⟨n, e⟩ := hacc; exact ⟨_, h ▸ e⟩
      · rcases List.mem_append.mp h with h | h
        · obtain ⟨o, e, _⟩ := It.kind _ _ hst0 a (It.sub a h); exact ⟨o, old _ _ e⟩
        · obtain ⟨o, e⟩ := st.bs.live a h; exact ⟨o, old _ _ (k2.kp _ _ e)⟩
    · intro h' tk m' ys kb hn' _ hl' hr' hlive' hkk
      have ks : Ks s { s2 with heap := h', toks := tk } := by
        obtain ⟨hh, tt, e, _⟩ := k2
        subst e
        exact ⟨h', tk, rfl, kb⟩
      have hrX := RelL.less (Y := X) (fun a ha => .tail _ (List.mem_append.mpr (.inr ha))) hr'
      have hrD : Rel X h' (.ref s2.heap.objs.size) (.list (ds.flatMap fun d => (ds2 d).map (f d))) := by
        refine .list (vs := ys) (fun hm => ?_) hl' (by simpa using hrX)
        obtain ⟨o, e⟩ := st.bs.live _ hm
        rw [hDs] at e; cases e
      exact fin _ _ m' _ hDs hCs hDC ks hn' hrD
  exact codeAny_compStart_list (loop _ rfl) (It.self 0 _ _ _ (It.frame _ _ _ hst0 (.of_kp old) fun b _ o e => old b o e) (loop _ rfl))

theorem Ev.comp2 {elt i1 i2 : Expr} {x y : Str} {px py pos : Pos} {scope : Scope} {cl : List (Str × Addr)} {ρf : List (Str × Pd)} {ds : List PyData} {ds2 : PyData → List PyData} {f : PyData → PyData → PyData} {g : Bool} {B : Nat}
    (hclos : closureFor scope env = pure cl) (hcell : ∀ y ∈ scope.names, y.2 ≠ .cell) (hkind : scope.kind = .function)
    (hnames : ∀ y ∈ scope.names, y.2 = .local → scope.names.lookup y.1 = some .local)
    (hfr : FreeL env scope cl ρ ρf) (hit : IterE c A X env ρ i1 (.Name x px) ds g)
    (hx : scope.names.lookup x = some .local) (hy : scope.names.lookup y = some .local) (hxy : x ≠ y)
    (hit2 : ∀ Y C d, d ∈ ds → IterE c A Y (compEnvC scope cl C env) ((x, .d d) :: ρf) i2 (.Name y py) (ds2 d) true)
    (helt : ∀ Y C d, d ∈ ds → ∀ d2, d2 ∈ ds2 d → Ev c A Y (compEnvC scope cl C env) ((y, .d d2) :: (x, .d d) :: ρf) elt (.d (f d d2)))
    (hB : ∀ d ∈ ds, (ds2 d).length ≤ B) (hB' : B ≤ 1000) (hsz : ds.length * B ≤ 30000)
    (hs : ∀ v, foldedSetIterable i1 env v = pure v := by intro _; rfl) (hs2 : ∀ C v, foldedSetIterable i2 (compEnvC scope cl C env) v = pure v := by intro _ _; rfl) :
    Ev c A X env ρ (.ListComp elt [⟨.Name x px, i1, [], 0⟩, ⟨.Name y py, i2, [], 0⟩] scope pos) (.d (.list (ds.flatMap fun d => (ds2 d).map (f d)))) := fun s st => by
  unfold Gv
  rw [eval_ListComp]
  refine compGen2 (use := none) st hclos hcell hkind hnames hfr hit hx hy hxy hit2 helt hB hB' hsz hs hs2 ?_
  intro D C m' s' hD hC hDC ks hn hr
  refine ⟨m', hn, fun h' hs' => ⟨?_, ?_⟩⟩
  · exact hr.keep (.of_ns hn hs')
  · obtain ⟨hh, tt, e, k⟩ := ks
    subst e
    exact ⟨h', tt, rfl, fun b o e => hs'.extBut b o (fun h => by rw [h, hC] at e; cases e) (k b o e)⟩

theorem st_comp2 {x0 : Str} {px0 spos : Pos} {ω : Om} {P : Pn} {s₀ s : Shared} {Q : Flow → Shared → Prop} {rest : List Stmt} {elt i1 i2 : Expr} {x y : Str} {px py pos : Pos} {scope : Scope} {cl : List (Str × Addr)} {ρf : List (Str × Pd)} {ds : List PyData} {ds2 : PyData → List PyData} {f : PyData → PyData → PyData} {g : Bool} {B : Nat} (S : FSt c s₀ X env ρ ω P s)
    (hsw : swapsWith (.ListComp elt [⟨.Name x px, i1, [], 0⟩, ⟨.Name y py, i2, [], 0⟩] scope pos) (some (.Name x0 px0)) spos.line env = pure true)
    (hclos : closureFor scope env = pure cl) (hcell : ∀ y ∈ scope.names, y.2 ≠ .cell) (hkind : scope.kind = .function)
    (hnames : ∀ y ∈ scope.names, y.2 = .local → scope.names.lookup y.1 = some .local)
    (hfr : FreeL env scope cl (ρ ++ omρ ω) ρf) (hit : IterE c A X env (ρ ++ omρ ω) i1 (.Name x px) ds g)
    (hx : scope.names.lookup x = some .local) (hy : scope.names.lookup y = some .local) (hxy : x ≠ y)
    (hit2 : ∀ Y C d, d ∈ ds → IterE c A Y (compEnvC scope cl C env) ((x, .d d) :: ρf) i2 (.Name y py) (ds2 d) true)
    (helt : ∀ Y C d, d ∈ ds → ∀ d2, d2 ∈ ds2 d → Ev c A Y (compEnvC scope cl C env) ((y, .d d2) :: (x, .d d) :: ρf) elt (.d (f d d2)))
    (hB : ∀ d ∈ ds, (ds2 d).length ≤ B) (hB' : B ≤ 1000) (hsz : ds.length * B ≤ 30000) (hk : KindOk env x0) (hf : Off x0 ρ ω)
    (k : ∀ s', FSt c s₀ X env ((x0, .d (.list (ds.flatMap fun d => (ds2 d).map (f d)))) :: ρ) ω P s' → wpAny (model c.prog c.w) A (execs rest env) Q (fun _ _ => False) s')
    (hs : ∀ v, foldedSetIterable i1 env v = pure v := by intro _; rfl) (hs2 : ∀ C v, foldedSetIterable i2 (compEnvC scope cl C env) v = pure v := by intro _ _; rfl) :
    wpAny (model c.prog c.w) A (execs (.Assign [.Name x0 px0] (.ListComp elt [⟨.Name x px, i1, [], 0⟩, ⟨.Name y py, i2, [], 0⟩] scope pos) spos :: rest) env) Q (fun _ _ => False) s := by
  refine wpAny_execs_cons ?_
  rw [exec_Assign_Name_used _ _ _ _ hsw]
  refine wpAny_bind (wpAny_standAt (wpAny_bind ?_))
  show wpAny _ A (do let _ ← comprehension (.ListComp elt [⟨.Name x px, i1, [], 0⟩, ⟨.Name y py, i2, [], 0⟩] scope pos) scope env _ (newList []) false (eval i1 env) (some (assign (.Name x0 px0) env))) _ _ s
  refine wpAny_bind (wpAny_mono (compGen2 (use := some (assign (.Name x0 px0) env)) (Q := fun _ s' => wpAny (model c.prog c.w) A (execs rest env) Q (fun _ _ => False) s') S.se hclos hcell hkind hnames hfr hit hx hy hxy hit2 helt hB hB' hsz hs hs2 ?_) (fun _ s' hq => wpAny_pure (wpAny_pure hq)) fun _ _ f => f)
  intro D C m' s1 hD hC hDC ks hn hr
  show wpAny _ A (assign (.Name x0 px0) env (.ref D)) _ _ _
  have S1 := S.keep ks
  obtain ⟨mm, cmm, SI⟩ := id S
  have hCL : C ≠ env.locals := fun h => by obtain ⟨o, _, _, e, _⟩ := SI.fr.toInCall.ns; rw [← h, hC] at e; cases e
  have hCc : ∀ n a, env.cells.lookup n = some a → C ≠ a := fun n a ha h => by obtain ⟨o, e, _⟩ := SI.fr.cell n a ha; rw [← h, hC] at e; cases e
  have hCX : C ∉ X := fun h => by obtain ⟨o, e⟩ := SI.bs.live C h; rw [hC] at e; cases e
  have hC0 : s₀.heap.get? C = none := none_of_kp SI.fr.toInCall.keep hC
  refine wpAny_assign_Name (S1.store' hk (p := .d (.list (ds.flatMap fun d => (ds2 d).map (f d)))) hr (ρ' := (x0, .d (.list (ds.flatMap fun d => (ds2 d).map (f d)))) :: ρ) (ω' := ω) (fun y q hy => by
    rcases List.mem_cons.mp hy with e | h
    · cases e; exact .inl ⟨rfl, rfl⟩
    · exact .inr ⟨hf.r y q h, h⟩) (fun w hw => ⟨hf.o w hw, hw⟩) fun s2 ⟨m2, cm2, S2', _⟩ k2 => ?_)
  have S2 : FSt c s₀ X env ((x0, .d (.list (ds.flatMap fun d => (ds2 d).map (f d)))) :: ρ) ω P s2 := ⟨m2, cm2, S2'⟩
  have hn2 : s2.heap.Ns C m' := hn.at' fun o e => k2 C o e hCL hCc
  exact ⟨m', hn2, fun h' hs' => k _ (S2.sameBut hn2 hs' hC0 hCL hCc hCX)⟩
end
end Mine
end

section
open PySem PySem.W PyProof.Rows PySem.SeqAt
open PySem.Builtin.Str (partsBetween occurrences)
set_option Elab.async false
set_option maxRecDepth 100000
namespace Mine

section
variable {c : Cx} {A : Around} {X : List Addr} {env : Env} {ρ : List (Str × Pd)} {ω : Om} {P : Pn} {s₀ s s' : Shared} {Q : Flow → Shared → Prop} {rest : List Stmt}

/-- a text that the module holds -/
theorem Ev.globStr {x y : Str} {t : Tok} {pos : Pos} (hk : env.kindOf x = some .globalImplicit) (hv : c.mg x = some (.str y t)) (hd : (x == ("__debug__" : Str)) = false := by decide) :
    Ev c A X env ρ (.Name x pos) (.d (.str y)) := fun s st => ldGlob st hk hv ⟨.str _ _, Ks.refl s⟩ hd

theorem smallDiv {a b : Int} (h : b.natAbs ≤ 1000000) : Builtin.divisionGoesByPylong a b = false := PyProof.noPylong_small (by omega)
theorem Bin.fdiv_int {a b : Int} (h : b ≠ 0) (hb : b.natAbs ≤ 1000000) : Bin c A .FloorDiv (.d (.int a)) (.d (.int b)) (.d (.int (a.fdiv b))) := fun X s v1 v2 _ r1 r2 => by
  cases r1; cases r2
  exact AutoIntOps.floordiv_1 (by simpa using h) (by rw [smallDiv hb]; simp) ⟨.int _ _, Ks.toks s _⟩
theorem inSub {a b : Int} : ∀ s v1 v2, Bs c X s.heap → RelP X s.heap v1 (.d (.int a)) → RelP X s.heap v2 (.d (.int b)) → Gv c A X (inplaceOp .Sub v1 v2) (.d (.int (a - b))) s := fun s v1 v2 _ r1 r2 => by
  cases r1; cases r2
  exact AutoIntOps.isub_0 ⟨.int _ _, Ks.toks s _⟩
theorem inAdd {a b : Int} : ∀ s v1 v2, Bs c X s.heap → RelP X s.heap v1 (.d (.int a)) → RelP X s.heap v2 (.d (.int b)) → Gv c A X (inplaceOp .Add v1 v2) (.d (.int (a + b))) s := fun s v1 v2 _ r1 r2 => by
  cases r1; cases r2
  exact AutoIntOps.iadd_0 ⟨.int _ _, Ks.toks s _⟩

/-- the end of a body whose frame keeps off more -/
theorem st_retL {Y : List Addr} {e : Expr} {pos : Pos} {p : Pd} (S : FSt c s₀ Y env ρ ω P s) (hXY : ∀ a ∈ X, a ∈ Y) (he : Ev c A Y env (ρ ++ omρ ω) e p) :
    wpAny (model c.prog c.w) A (execs (.Return (some e) pos :: rest) env) (fun fl s' => ∃ v, fl = .ret v ∧ RelP X s'.heap v p ∧ Ks s₀ s') (fun _ _ => False) s :=
  st_ret S he fun v s' hr S' => ⟨v, rfl, hr.less hXY, S'.ks⟩
/-- the frame's own list goes out -/
theorem st_retOwn {Y : List Addr} {x : Str} {a : Addr} {ds : List PyData} {px pos : Pos} (S : FSt c s₀ Y env ρ ((x, a, ds) :: ω) P s) (hXY : ∀ b ∈ X, b ∈ Y) (ha : a ∉ X) (hd : (x == ("__debug__" : Str)) = false := by decide) :
    wpAny (model c.prog c.w) A (execs (.Return (some (.Name x px)) pos :: rest) env) (fun fl s' => ∃ v, fl = .ret v ∧ RelP X s'.heap v (.d (.list ds)) ∧ Ks s₀ s') (fun _ _ => False) s := by
  refine wpAny_execs_cons (wpAny_Return_some (ldOwn S hd ?_))
  obtain ⟨vs, hl, hr⟩ := mutRel S
  exact ⟨_, rfl, .list ha hl (RelL.less hXY hr), S.ks⟩

/-- the parts of a text -/
theorem EvN.split {o e : Expr} {apos pos : Pos} {x y : Str} (ho : Ev c A X env ρ o (.d (.str x))) (he : Ev c A X env ρ e (.d (.str y))) (hy : (y.length == 0) = false) (hx : x.length ≤ 100000)
    (hn : (partsBetween x (occurrences x y 0 x.length (x.length + 1)) y.length).length ≤ 100001)
    (hline : (apos.endLine == pos.line) = true := by rfl) (hs : starEach [e] env = [(false, eval e env)] := by rfl)
    (hbase : attributeBase o (Str.ofString "split") env (eval o env) = eval o env := by rfl) :
    EvN c A X env ρ (.Call (.Attribute o (Str.ofString "split") apos) [e] [] pos) ((Txt.split x y).map .str) := fun s st => by
  have hL : EvL c A X env ρ [e] [.d (.str y)] := ⟨hs, he, trivial⟩
  refine wpAny_Call_method_lateS hbase ?_ hline (wpAny_mono (ho s st) (fun v s1 r1 => ?_) fun _ _ f => f)
  · rw [EvL.plain' hL]; rfl
  obtain ⟨r1, k1⟩ := r1
  cases r1 with
  | str _ t =>
  have st1 := st.keep k1.kp
  refine ⟨"str", "str.split", F.plainAttrs_str, F.slot_str_split, F.type_str_split, typeIs_str _ _ _, (fun _ e => nomatch e), ?_⟩
  refine callWith_method1 (wpAny_mono (hL.run s1 st1) (fun ws s2 r2 => ?_) fun _ _ f => f) hs rfl
  obtain ⟨w, rfl, rw'⟩ := r2.1.one
  cases rw' with
  | str _ u =>
  refine wpAny_mono (splitNew (c := c) (A := A) (X := X) (s := s2) (t := t) (u := u) hy hx hn) (fun v s3 r3 => ?_) fun _ _ f => f
  obtain ⟨a, vs, rfl, ha, hl, hr, k3⟩ := r3
  exact ⟨a, vs, rfl, none_of_kp (k1.trans r2.2).kp ha, hl, hr, (k1.trans r2.2).trans k3⟩
end
/-- a def of a text by its place -/
structure DefAt where
  name : Str
  params : Arguments
  body : List Stmt
  scope : Scope
def defAt (b : List Stmt) (i : Nat) : DefAt := match b[i]? with
  | some (.FunctionDef n a body _ _ _ scope _ _ _) => ⟨n, a, body, scope⟩
  | _ => ⟨Str.empty, ⟨[], [], none, [], [], none, []⟩, [], default⟩

def FnAt (c : Cx) (d : DefAt) : Prop :=
  ∃ a o pm code doc, c.mg d.name = some (.ref a) ∧ c.H0.get? a = some o ∧ o.data = .func (Calls.docDef d.name d.params d.body d.scope pm code doc) ∧ c.H0.CodeRec code d.name


theorem Fn.at {c : Cx} {A : Around} {d : DefAt} {ps : List Pd} {p : Pd} (names : List Str) (h : FnAt c d) (room : Rm A 1)
    (hbind : ∀ pm code doc vs, vs.length = names.length → bindArgs (Calls.docDef d.name d.params d.body d.scope pm code doc) ⟨vs, []⟩ = pure (names.zip vs)) (hlen : ps.length = names.length) (hnd : names.Nodup)
    (hkn : ∀ pm code doc, ∀ n ∈ names, ∀ L a, KindOk (callEnvC (Calls.docDef d.name d.params d.body d.scope pm code doc) L a) n)
    (hb : ∀ pm code doc a X s₀ s, FSt c s₀ X (callEnvC (Calls.docDef d.name d.params d.body d.scope pm code doc) s₀.heap.objs.size a) (names.zip ps) [] {} s →
      wpAny (model c.prog c.w) (A.deeper (callEnvC (Calls.docDef d.name d.params d.body d.scope pm code doc) s₀.heap.objs.size a)) (execs d.body (callEnvC (Calls.docDef d.name d.params d.body d.scope pm code doc) s₀.heap.objs.size a))
        (fun fl s' => ∃ v, fl = .ret v ∧ RelP X s'.heap v p ∧ Ks s₀ s') (fun _ _ => False) s)
    (hco : d.scope.isCoroutine = false := by rfl) (hgen : d.scope.isGenerator = false := by rfl) (hk : d.scope.kind = .function := by rfl) : Fn c A d.name ps p := by
  obtain ⟨a, o, pm, code, doc, h1, h2, h3, h4⟩ := h
  exact Fn.intro names h1 h2 h3 h4 rfl rfl rfl rfl (hbind pm code doc) hlen hnd (fun n hn L => hkn pm code doc n hn L a) room (hb pm code doc a) hco hgen hk
end Mine
end

section
open PySem PySem.W PyProof.Rows PySem.SeqAt
open PySem.Builtin.Str (partsBetween occurrences)
set_option Elab.async false
set_option maxRecDepth 100000
namespace Mine
theorem lit_nil : Str.ofString "" = S [] := rfl
theorem lit_dot : Str.ofString "." = S [46] := by rfl
theorem lit_dots : Str.ofString "..." = S [46, 46, 46] := by rfl
theorem lit_x : Str.ofString "x" = S [120] := by rfl
theorem lit_local : Str.ofString "local" = S [108, 111, 99, 97, 108] := by rfl
theorem lit_dlocal : Str.ofString ".local" = S [46, 108, 111, 99, 97, 108] := by rfl
theorem lit_a : Str.ofString "a" = S [97] := by rfl
theorem lit_ba : Str.ofString "ba" = S [98, 97] := by rfl

def NoDig (x : List Nat) : Prop := ∀ ch ∈ x, Sre.isDigit ch = false
def hdn (x : List Nat) : Bool := !(x.isEmpty) && !(x.head? == some 46 || x.getLast? == some 46)

theorem kindsOk {names : List Str} {P : Str → Prop} : ∀ {l : List Str}, (∀ n ∈ l, P n) ↔ l.foldr (fun n r => P n ∧ r) True
  | [] => by simp
  | a :: l => by simp [← kindsOk (names := names) (P := P) (l := l)]

theorem Ev.cast {c : Cx} {A : Around} {X : List Addr} {env : Env} {ρ : List (Str × Pd)} {e : Expr} {p q : Pd} (h : Ev c A X env ρ e p) (hpq : p = q) : Ev c A X env ρ e q := hpq ▸ h
theorem Tst.cast {c : Cx} {A : Around} {X : List Addr} {env : Env} {ρ : List (Str × Pd)} {e : Expr} {p q : Bool} (h : Tst c A X env ρ e p) (hpq : p = q) : Tst c A X env ρ e q := hpq ▸ h
section
variable {c : Cx} {A : Around} {X : List Addr} {env : Env} {ρ : List (Str × Pd)}
theorem EvL.nil : EvL c A X env ρ [] [] := trivial
theorem EvL.cons {e : Expr} {es : List Expr} {p : Pd} {ps : List Pd} (h : Ev c A X env ρ e p) (r : EvL c A X env ρ es ps) (hs : starEach (e :: es) env = (false, eval e env) :: starEach es env := by rfl) : EvL c A X env ρ (e :: es) (p :: ps) := ⟨hs, h, r⟩
theorem EvL.one {e : Expr} {p : Pd} (h : Ev c A X env ρ e p) (hs : starEach [e] env = [(false, eval e env)] := by rfl) : EvL c A X env ρ [e] [p] := ⟨hs, h, trivial⟩
end
def SubL : List (Str × Pd) → List (Str × Pd) → Prop
  | [], _ => True
  | q :: r, ρ => q ∈ ρ ∧ SubL r ρ
theorem SubL.all : ∀ {a ρ : List (Str × Pd)}, SubL a ρ → ∀ q ∈ a, q ∈ ρ
  | _ :: _, _, h, _, .head _ => h.1
  | _ :: _, _, h, _, .tail _ m => SubL.all h.2 _ m
section
variable {c : Cx} {A : Around} {X : List Addr} {env : Env} {ρ : List (Str × Pd)} {ω : Om} {P : Pn} {s₀ s s' : Shared} {Q : Flow → Shared → Prop} {rest : List Stmt}
/-- a store; ρr is what is still told of the other names -/
theorem st_asgV {x : Str} {px pos : Pos} {e : Expr} {p : Pd} (ρr : List (Str × Pd)) (S : FSt c s₀ X env ρ ω P s) (he : Ev c A X env (ρ ++ omρ ω) e p) (hk : KindOk env x) (hsub : SubL ρr ρ) (hf : Off x ρr ω)
    (k : ∀ s', FSt c s₀ X env ((x, p) :: ρr) ω P s' → wpAny (model c.prog c.w) A (execs rest env) Q (fun _ _ => False) s')
    (hs : swapsWith e (some (.Name x px)) pos.line env = pure false := by rfl) :
    wpAny (model c.prog c.w) A (execs (.Assign [.Name x px] e pos :: rest) env) Q (fun _ _ => False) s := by
  refine wpAny_execs_cons (wpAny_Assign_Name (wpAny_mono (he s S.se) (fun v s1 r1 => ?_) fun _ _ f => f) hs)
  exact ((S.keep r1.2).weak (fun q hq => hsub.all q hq) (fun _ h => h) (fun _ h => h) (fun _ h => h)).storeNew hk r1.1 hf k
theorem st_augV {x : Str} {px pos : Pos} {e : Expr} {op : Operator} {p q r : Pd} (ρr : List (Str × Pd)) (S : FSt c s₀ X env ρ ω P s) (hx : (x, q) ∈ ρ) (he : Ev c A X env (ρ ++ omρ ω) e p) (hk : KindOk env x)
    (hop : ∀ s v1 v2, Bs c X s.heap → RelP X s.heap v1 q → RelP X s.heap v2 p → Gv c A X (inplaceOp op v1 v2) r s) (hsub : SubL ρr ρ) (hf : Off x ρr ω)
    (k : ∀ s', FSt c s₀ X env ((x, r) :: ρr) ω P s' → wpAny (model c.prog c.w) A (execs rest env) Q (fun _ _ => False) s') :
    wpAny (model c.prog c.w) A (execs (.AugAssign (.Name x px) op e pos :: rest) env) Q (fun _ _ => False) s :=
  st_augU ((x, r) :: ρr) S hx he hk hop (fun y q' hy => by
    rcases List.mem_cons.mp hy with e | h
    · cases e; exact .inl ⟨rfl, rfl⟩
    · exact .inr ⟨hf.r y q' h, hsub.all _ h⟩) (fun w hw => hf.o w hw) k
theorem FSt.sub {ρ' : List (Str × Pd)} (S : FSt c s₀ X env ρ ω P s) (h : SubL ρ' ρ) : FSt c s₀ X env ρ' ω P s := S.weak (fun q hq => h.all q hq) (fun _ h => h) (fun _ h => h) (fun _ h => h)
end
end Mine
end

section
open PySem PySem.W PyProof.Rows PySem.SeqAt
set_option Elab.async false
set_option maxRecDepth 100000
namespace Mine
/-- a def of the text, as it stands behind the top -/
theorem FnAt.of {p : Program} {loose : List Str} {mean : ExcName → Option Value} {c : Cx} (T : Top p loose mean c.mg c.mb c.H0) {d : DefAt} (i : Nat)
    (hi : ((recsOf p)[i]?).map (fun r => (r.name, r.params, r.body, r.scope)) = some (d.name, d.params, d.body, d.scope)) : FnAt c d := by
  cases e : (recsOf p)[i]? with
  | none => rw [e] at hi; cases hi
  | some r =>
    rw [e] at hi
    have h := Option.some.inj hi
    obtain ⟨a, o, pm, code, doc, h1, h2, h3, h4⟩ := T.fn r (List.mem_of_getElem? e)
    have e1 : r.name = d.name := congrArg Prod.fst h
    have e2 : r.params = d.params := congrArg (fun x => x.2.1) h
    have e3 : r.body = d.body := congrArg (fun x => x.2.2.1) h
    have e4 : r.scope = d.scope := congrArg (fun x => x.2.2.2) h
    rw [e1] at h1 h4
    rw [e1, e2, e3, e4] at h3
    exact ⟨a, o, pm, code, doc, h1, h2, h3, h4⟩
theorem RelL.of_ints {X : List Addr} {h : Heap} : ∀ {vs : List Value} {ns : List Int}, IntsAre vs ns → RelL X h vs (ns.map .int)
  | _, _, .nil => .nil
  | _, _, .cons i t r => .cons (.int i t) (RelL.of_ints r)
theorem rm_caller {n : Nat} (h : n ≤ 20) : Rm callerA n := by
  refine ⟨?_, ?_, rfl⟩
  · have : callerA.depth + 20 < recursionLimit := by decide +kernel
    omega
  · have : callerA.units + 8 * 20 + 200 < cLine := by decide +kernel
    omega
/-- the end: the law gives True -/
theorem good_of {c : Cx} {cm : ClaimW} {cl : Str → Option Addr} {mean : ExcName → Option Value} {args : List WData} {s : Shared} {t : Sem Value}
    (h : Gv c callerA [] t (.d (.bool true)) s) (hg : s.gens = #[]) (hn : ∀ cls, cm.raises args cls = false) (hp : cm.post args (.bool true) args = true) :
    wpAny (model c.prog c.w) callerA t (fun v s' => GoodWG cm cl mean args s (.ok (.ret v)) s') (fun e s' => GoodWG cm cl mean args s (.error e) s') s := by
  refine wpAny_mono h (fun v s' r => ?_) fun _ _ f => f.elim
  obtain ⟨r, h', tk, rfl, k⟩ := r
  cases r
  exact GoodW.toG ⟨.inl ⟨_, .bool true, [], rfl, hn, .bool true, hp, fun _ => ⟨List.nodup_nil, fun _ h => nomatch h⟩⟩, k, rfl, hg⟩
end Mine
end

section
open PySem PySem.W PyProof.Rows PySem.SeqAt
set_option Elab.async false
set_option maxRecDepth 100000
namespace Mine
section
variable {c : Cx} {A : Around} {X : List Addr} {env : Env} {ρ : List (Str × Pd)} {ω : Om} {P : Pn} {s₀ s s' : Shared} {Q : Flow → Shared → Prop} {rest : List Stmt}

/-- a while that takes N turns -/
theorem st_while {test : Expr} {body : List Stmt} {pos : Pos} (R : Nat → List (Str × Pd)) (W : Nat → Om) (N : Nat)
    (S : FSt c s₀ X env ρ ω P s) (h0 : ∀ q ∈ R 0, q ∈ ρ) (w0 : ∀ q ∈ W 0, q ∈ ω)
    (htest : ∀ i, i ≤ N → Tst c A X env (R i ++ omρ (W i)) test (decide (i < N)))
    (hbody : ∀ i s', i < N → FSt c s₀ X env (R i) (W i) P s' →
      wpAny (model c.prog c.w) A (execs body env) (fun f s2 => match f with | .next => FSt c s₀ X env (R (i + 1)) (W (i + 1)) P s2 | .cont => FSt c s₀ X env (R (i + 1)) (W (i + 1)) P s2 | .brk => False | .ret v => Q (.ret v) s2) (fun _ _ => False) s')
    (k : ∀ s', FSt c s₀ X env (R N) (W N) P s' → wpAny (model c.prog c.w) A (execs rest env) Q (fun _ _ => False) s') :
    wpAny (model c.prog c.w) A (execs (.While test body [] pos :: rest) env) Q (fun _ _ => False) s := by
  refine wpAny_execs_cons (wpAny_While ?_)
  refine codeAny_whileLoop (fun n s' => ∃ i, n = N + 1 - i ∧ i ≤ N ∧ FSt c s₀ X env (R i) (W i) P s') ?_ (N + 1) ⟨0, rfl, Nat.zero_le _, S.weak h0 w0 (fun _ h => h) (fun _ h => h)⟩
  rintro n s' ⟨i, rfl, hi, Si⟩
  refine wpAny_mono (htest i hi s' Si.se) (fun b s2 r2 => ?_) fun _ _ f => f.elim
  obtain ⟨rfl, k2⟩ := r2
  have S2 := Si.keep k2
  by_cases hlt : i < N
  · rw [decide_eq_true hlt, if_pos rfl]
    refine wpAny_mono (hbody i s2 hlt S2) (fun f s3 h3 => ?_) fun _ _ f => f.elim
    cases f with
    | next => exact ⟨N + 1 - (i + 1), by omega, i + 1, rfl, hlt, h3⟩
    | cont => exact ⟨N + 1 - (i + 1), by omega, i + 1, rfl, hlt, h3⟩
    | brk => exact h3.elim
    | ret v => exact h3
  · have e : i = N := by omega
    subst e
    rw [decide_eq_false hlt, if_neg (by simp)]
    exact wpAny_execs_nil (k s2 S2)

def leS (a b : Str) : Bool := !(decide (b.cps.toList < a.cps.toList))
theorem leS_trans (a b d : Str) (h1 : leS a b = true) (h2 : leS b d = true) : leS a d = true := by
  unfold leS at *
  simp only [Bool.not_eq_true', decide_eq_false_iff_not] at *
  have h1 : a.cps.toList ≤ b.cps.toList := List.not_lt.mp h1
  have h2 : b.cps.toList ≤ d.cps.toList := List.not_lt.mp h2
  exact List.not_lt.mpr (List.le_trans h1 h2)
theorem leS_total (a b : Str) : (leS a b || leS b a) = true := by
  unfold leS
  simp only [Bool.or_eq_true, Bool.not_eq_true', decide_eq_false_iff_not]
  rcases List.le_total a.cps.toList b.cps.toList with h | h
  · exact .inl (List.not_lt.mpr h)
  · exact .inr (List.not_lt.mpr h)
theorem leS_antisymm (a b : Str) (h1 : leS a b = true) (h2 : leS b a = true) : a = b := by
  unfold leS at *
  simp only [Bool.not_eq_true', decide_eq_false_iff_not] at *
  have h1 : a.cps.toList ≤ b.cps.toList := List.not_lt.mp h1
  have h2 : b.cps.toList ≤ a.cps.toList := List.not_lt.mp h2
  have := List.le_antisymm h1 h2
  cases a; cases b
  congr 1
  exact Array.toList_inj.mp this
/-- the texts in order -/
def srt (l : List Str) : List Str := l.mergeSort leS
theorem srt_perm (l : List Str) : (srt l).Perm l := List.mergeSort_perm l leS
theorem rising_pw : ∀ (p : Str) (l : List Str), risingS p l = true → (p :: l).Pairwise (fun a b => leS a b = true)
  | p, [], _ => by simp
  | p, x :: r, h => by
    have h' : (!Spec.ltCps x.cps.toList p.cps.toList && risingS x r) = true := h
    rw [Bool.and_eq_true] at h'
    have ih := rising_pw x r h'.2
    have h1 : leS p x = true := by
      have := h'.1
      rw [ltCps_eq] at this
      exact this
    rw [List.pairwise_cons]
    refine ⟨fun y hy => ?_, ih⟩
    rcases List.mem_cons.mp hy with e | hy
    · rw [e]; exact h1
    · exact leS_trans _ _ _ h1 ((List.pairwise_cons.mp ih).1 y hy)
theorem srt_of {l l' : List Str} (hp : l'.Perm l) (hs : sortedS l' = true) : l' = srt l := by
  refine List.Perm.eq_of_pairwise (le := fun a b => leS a b = true) (fun a b _ _ h1 h2 => leS_antisymm a b h1 h2) ?_ (List.pairwise_mergeSort leS_trans leS_total l) (hp.trans (srt_perm l).symm)
  cases l' with
  | nil => simp
  | cons x r => exact rising_pw x r hs

theorem strs_rel {h : Heap} : ∀ {vs : List Value} {ys : List Str}, StrsAre vs ys → RelL X h vs (ys.map .str)
  | _, _, .nil => .nil
  | _, _, .cons y t r => .cons (.str y t) (strs_rel r)
theorem Bf.sorted_strs {ys : List Str} (h64 : ys.length < 64) : Bf c A "sorted" [.l (ys.map .str)] (.d (.list ((srt ys).map .str))) := fun X s vs b r => by
  obtain ⟨v, rfl, a, ws, rfl, hl, hr⟩ := r.one
  have hlen := hr.length
  rw [List.length_map] at hlen
  refine PyProof.Rows.sorted_strs (vs := ws.toList) (by simpa using hl) (RelL.strs hr) (by omega) fun out ss' h1 h2 h3 => ?_
  have kp : Kp s.heap (sortedAll s.heap ws.toList out) := fun _ _ e => sortedAll_old e
  obtain ⟨e, he⟩ := sortedAll_at s.heap ws.toList out
  refine ⟨?_, _, s.toks, rfl, kp⟩
  rw [← srt_of h2 h3]
  refine .list (vs := out) (fun hx => ?_) ⟨e, he⟩ (strs_rel h1)
  obtain ⟨o, ho⟩ := b.live _ hx
  exact Nat.not_lt.mpr (Nat.le_succ _) (Heap.lt_size ho)
end
end Mine
end

section
open PySem PySem.W PyProof.Rows PySem.SeqAt
open PySem.Builtin.Str (partsBetween occurrences subAt)
set_option Elab.async false
namespace Mine
def atL (x y : List Nat) (i : Nat) : Bool := (x.drop i).take y.length == y
theorem subAt_S (x y : List Nat) (i : Nat) : subAt (S x) (S y) i = atL x y i := by
  unfold subAt atL
  rw [S_len, Bool.eq_iff_iff]
  simp only [S, beq_iff_eq]
  constructor
  · intro h
    have := congrArg Array.toList h
    simpa [List.drop_take] using this
  · intro h
    apply Array.toList_inj.mp
    simpa [List.drop_take] using h
theorem atL_prefix (x y : List Nat) : (decide (y.length ≤ x.length) && atL x y 0) = y.isPrefixOf x := by
  unfold atL
  rw [Bool.eq_iff_iff, List.isPrefixOf_iff_prefix]
  simp only [List.drop_zero, Bool.and_eq_true, decide_eq_true_eq, beq_iff_eq]
  constructor
  · rintro ⟨h, e⟩; exact e ▸ List.take_prefix _ _
  · intro h; exact ⟨h.length_le, (List.prefix_iff_eq_take.mp h).symm⟩
theorem startswith_S (x y : List Nat) : Txt.startswith (S x) (S y) = y.isPrefixOf x := by
  unfold Txt.startswith
  rw [subAt_S, S_len, S_len, Nat.zero_add, ← atL_prefix]
theorem atL_suffix (x y : List Nat) : (decide (y.length ≤ x.length) && atL x y (x.length - y.length)) = y.isSuffixOf x := by
  unfold atL
  rw [Bool.eq_iff_iff, List.isSuffixOf_iff_suffix]
  simp only [Bool.and_eq_true, decide_eq_true_eq, beq_iff_eq]
  constructor
  · rintro ⟨h, e⟩
    rw [List.take_of_length_le (by rw [List.length_drop]; omega)] at e
    rw [← e]; exact List.drop_suffix _ _
  · intro h
    refine ⟨h.length_le, ?_⟩
    have := List.suffix_iff_eq_drop.mp h
    rw [List.take_of_length_le (by rw [List.length_drop]; omega)]
    exact this.symm
theorem endswith_S (x y : List Nat) : Txt.endswith (S x) (S y) = y.isSuffixOf x := by
  unfold Txt.endswith
  rw [subAt_S, S_len, S_len, Nat.zero_add, ← atL_suffix]
end Mine
namespace Mine
open PySem.Builtin.Str (strSub)
def occL (x y : List Nat) (hi lim : Nat) : List Nat → Nat → Nat → List Nat
  | [], _, _ => []
  | i :: l, free, cnt => if ((cnt < lim ∧ free ≤ i) ∧ i + y.length ≤ hi) ∧ atL x y i = true then i :: occL x y hi lim l (i + y.length) (cnt + 1) else occL x y hi lim l free cnt
theorem occ_loop (x y : List Nat) (hi lim : Nat) : ∀ (l : List Nat) (acc : Array Nat) (free : Nat), (forIn l (acc, free) (StrLaws.occBody (S x) (S y) hi lim)).run.fst.toList = acc.toList ++ occL x y hi lim l free acc.size
  | [], acc, free => by simp [occL]
  | i :: l, acc, free => by
    rw [List.forIn_cons, occL]
    unfold StrLaws.occBody
    rw [subAt_S, S_len]
    by_cases h : ((acc.size < lim ∧ free ≤ i) ∧ i + y.length ≤ hi) ∧ atL x y i = true
    · have h' : (((acc, free).fst.size < lim ∧ (acc, free).snd ≤ i) ∧ i + y.length ≤ hi) ∧ atL x y i = true := h
      rw [if_pos h', if_pos h]
      have := occ_loop x y hi lim l (acc.push i) (i + y.length)
      simp only [Array.size_push, Array.toList_push, List.append_assoc, List.cons_append, List.nil_append] at this
      exact this
    · have h' : ¬ ((((acc, free).fst.size < lim ∧ (acc, free).snd ≤ i) ∧ i + y.length ≤ hi) ∧ atL x y i = true) := h
      rw [if_neg h', if_neg h]
      exact occ_loop x y hi lim l acc free
theorem occ_S (x y : List Nat) (lo hi lim : Nat) : occurrences (S x) (S y) lo hi lim = occL x y hi lim (List.range' lo (hi + 1 - lo)) lo 0 := by
  rw [StrLaws.occ_eq, occ_loop]; simp

/-- the first place -/
def firstAt (x y : List Nat) (lo hi : Nat) : Option Nat := (List.range' lo (hi + 1 - lo)).find? fun i => decide (i + y.length ≤ hi) && atL x y i
theorem occL_full (x y : List Nat) (hi : Nat) : ∀ (l : List Nat) (free cnt : Nat), 1 ≤ cnt → occL x y hi 1 l free cnt = []
  | [], _, _, _ => rfl
  | i :: l, free, cnt, h => by rw [occL, if_neg (by omega)]; exact occL_full x y hi l free cnt h
theorem occL_one (x y : List Nat) (hi : Nat) : ∀ (l : List Nat) (free : Nat), (∀ i ∈ l, free ≤ i) → occL x y hi 1 l free 0 = (l.find? fun i => decide (i + y.length ≤ hi) && atL x y i).toList
  | [], _, _ => rfl
  | i :: l, free, h => by
    have hf := h i (.head _)
    rw [occL, List.find?_cons]
    by_cases hc : i + y.length ≤ hi ∧ atL x y i = true
    · rw [if_pos ⟨⟨⟨by omega, hf⟩, hc.1⟩, hc.2⟩, occL_full _ _ _ _ _ _ (by omega)]
      simp [hc.1, hc.2]
    · rw [if_neg (fun h => hc ⟨h.1.2, h.2⟩), occL_one x y hi l free fun j hj => h j (.tail _ hj)]
      have : (decide (i + y.length ≤ hi) && atL x y i) = false := by
        cases h1 : (decide (i + y.length ≤ hi) && atL x y i) with
        | false => rfl
        | true => simp at h1; exact absurd h1 hc
      rw [this]
theorem occ_first (x y : List Nat) (lo hi : Nat) : occurrences (S x) (S y) lo hi 1 = (firstAt x y lo hi).toList := by
  rw [occ_S, occL_one]
  · rfl
  · intro i hi'; rw [List.mem_range'] at hi'; obtain ⟨k, _, e⟩ := hi'; omega
def fOf : Option Nat → Int
  | some k => k
  | none => -1
theorem find_S (x y : List Nat) : Txt.find (S x) (S y) = fOf (firstAt x y 0 x.length) := by
  unfold Txt.find
  rw [occ_first, S_len]
  cases firstAt x y 0 x.length <;> rfl
theorem find4_S (x y : List Nat) (i j : Nat) (hj : j ≤ x.length) : find4 (S x) (S y) i j = fOf (firstAt x y i j) := by
  unfold find4
  have e1 : fromIndex (S x).length (i : Int) = i := by unfold fromIndex; rw [if_neg (by omega)]; omega
  have e2 : min (fromIndex (S x).length (j : Int)) (S x).length = j := by
    have : fromIndex (S x).length (j : Int) = j := by unfold fromIndex; rw [if_neg (by omega)]; omega
    rw [this, S_len]; omega
  rw [e1, e2, occ_first]
  cases firstAt x y i j <;> rfl
theorem firstAt_hit {x y : List Nat} {i j : Nat} (h : atL x y i = true) (hj : i + y.length ≤ j) : firstAt x y i j = some i := by
  unfold firstAt
  rw [show j + 1 - i = (j - i) + 1 by omega, List.range'_succ, List.find?_cons]
  simp [hj, h]
theorem firstAt_spec {x y : List Nat} {i j k : Nat} (h : firstAt x y i j = some k) : i ≤ k ∧ k + y.length ≤ j ∧ atL x y k = true := by
  unfold firstAt at h
  have h1 := List.find?_some h
  have h2 := List.mem_of_find?_eq_some h
  rw [List.mem_range'] at h2
  obtain ⟨m, _, e⟩ := h2
  simp at h1
  exact ⟨by omega, h1.1, h1.2⟩
end Mine
end

section
open PySem PySem.W PyProof.Rows PySem.SeqAt
open PySem.Builtin.Str (partsBetween occurrences subAt strSub)
set_option Elab.async false
namespace Mine
abbrev dots : List Nat := [46, 46, 46]
def joinL (sep : List Nat) : List (List Nat) → List Nat
  | [] => []
  | [w] => w
  | w :: v :: r => w ++ sep ++ joinL sep (v :: r)
structure Good (w : List Nat) : Prop where
  two : ∀ i, ¬ (w[i]? = some 46 ∧ w[i + 1]? = some 46)
  last : w.getLast? ≠ some 46
theorem atL_dots {x : List Nat} {i : Nat} (h : atL x dots i = true) : x[i]? = some 46 ∧ x[i + 1]? = some 46 ∧ x[i + 2]? = some 46 := by
  unfold atL at h
  have h := eq_of_beq h
  have h0 := congrArg (·[0]?) h
  have h1 := congrArg (·[1]?) h
  have h2 := congrArg (·[2]?) h
  simp only [List.getElem?_take, List.getElem?_drop] at h0 h1 h2
  refine ⟨by simpa using h0, by simpa using h1, by simpa using h2⟩
theorem Good.none {w pre post : List Nat} (g : Good w) {i : Nat} (h1 : pre.length ≤ i) (h2 : i < pre.length + w.length) : atL (pre ++ w ++ post) dots i = false := by
  cases h : atL (pre ++ w ++ post) dots i with
  | false => rfl
  | true =>
    obtain ⟨a, b, _⟩ := atL_dots h
    exfalso
    obtain ⟨j, rfl⟩ : ∃ j, i = pre.length + j := ⟨i - pre.length, by omega⟩
    have hj : j < w.length := by omega
    rw [List.append_assoc, List.getElem?_append_right (by omega), Nat.add_sub_cancel_left, List.getElem?_append_left hj] at a
    by_cases hl : j + 1 < w.length
    · rw [List.append_assoc, List.getElem?_append_right (by omega), show pre.length + j + 1 - pre.length = j + 1 by omega, List.getElem?_append_left hl] at b
      exact g.two j ⟨a, b⟩
    · refine g.last ?_
      rw [List.getLast?_eq_getElem?, show w.length - 1 = j by omega]; exact a
theorem occL_skip {x y : List Nat} {hi lim : Nat} {l2 : List Nat} : ∀ {l : List Nat} {free cnt : Nat}, (∀ i ∈ l, free ≤ i → atL x y i = false) → occL x y hi lim (l ++ l2) free cnt = occL x y hi lim l2 free cnt
  | [], _, _, _ => rfl
  | i :: l, free, cnt, h => by
    rw [List.cons_append, occL, if_neg]
    · exact occL_skip fun j hj => h j (.tail _ hj)
    · intro hc
      have := h i (.head _) hc.1.1.2
      rw [this] at hc; exact Bool.noConfusion hc.2
theorem strSub_S (x : List Nat) (i j : Nat) : strSub (S x) i j = S ((x.take j).drop i) := by
  unfold strSub S
  simp [List.drop_take]
theorem parts_join {lim : Nat} : ∀ (ws : List (List Nat)) (pre : List Nat) (cnt : Nat) (X : List Nat), ws ≠ [] → (∀ w ∈ ws, Good w) → X = pre ++ joinL dots ws → cnt + ws.length ≤ lim →
    (StrLaws.partsFrom (S X) 3 pre.length (occL X dots X.length lim (List.range' pre.length (X.length + 1 - pre.length)) pre.length cnt) = ws.map S) ∧
    (occL X dots X.length lim (List.range' pre.length (X.length + 1 - pre.length)) pre.length cnt).length + 1 = ws.length
  | [w], pre, cnt, X, _, hg, hX, _ => by
    have hX' : X = pre ++ w := hX
    have e : occL X dots X.length lim (List.range' pre.length (X.length + 1 - pre.length)) pre.length cnt = [] := by
      have hl : X.length + 1 - pre.length = w.length + 1 := by rw [hX', List.length_append]; omega
      rw [hl, ← List.range'_append_1 (s := pre.length) (m := w.length) (n := 1), occL_skip]
      · show occL X dots X.length lim [_] _ _ = []
        rw [occL, if_neg]
        · rfl
        · intro h
          have := h.1.2
          rw [hX', List.length_append] at this
          simp at this
          omega
      · intro i hi _
        rw [List.mem_range'] at hi
        obtain ⟨k, hk, e⟩ := hi
        have := (hg w (by simp)).none (pre := pre) (post := []) (i := i) (by omega) (by omega)
        rw [List.append_nil, ← hX'] at this
        exact this
    rw [e]
    refine ⟨?_, rfl⟩
    show [strSub (S X) pre.length (S X).length] = [S w]
    rw [strSub_S, S_len, List.take_length, hX', List.drop_left]
  | w :: v :: r, pre, cnt, X, _, hg, hX, hc => by
    have hX' : X = pre ++ w ++ (dots ++ joinL dots (v :: r)) := by
      rw [hX]; show pre ++ (w ++ dots ++ joinL dots (v :: r)) = _; simp [List.append_assoc]
    have hlen : X.length = pre.length + w.length + 3 + (joinL dots (v :: r)).length := by
      rw [hX']; simp only [List.length_append, List.length_cons, List.length_nil]; omega
    have hsplit : List.range' pre.length (X.length + 1 - pre.length) = List.range' pre.length w.length ++ (pre.length + w.length) :: ([pre.length + w.length + 1, pre.length + w.length + 2] ++ List.range' (pre.length + w.length + 3) (X.length + 1 - (pre.length + w.length + 3))) := by
      rw [show X.length + 1 - pre.length = w.length + (1 + (2 + (X.length + 1 - (pre.length + w.length + 3)))) by omega, ← List.range'_append_1, ← List.range'_append_1, ← List.range'_append_1]
      simp [List.range']
    have hat : atL X dots (pre.length + w.length) = true := by
      unfold atL
      rw [hX', show pre.length + w.length = (pre ++ w).length by simp, List.drop_left]
      rfl
    have e : occL X dots X.length lim (List.range' pre.length (X.length + 1 - pre.length)) pre.length cnt =
        (pre.length + w.length) :: occL X dots X.length lim (List.range' (pre.length + w.length + 3) (X.length + 1 - (pre.length + w.length + 3))) (pre.length + w.length + 3) (cnt + 1) := by
      rw [hsplit, occL_skip, occL, if_pos, occL_skip]
      · rfl
      · intro i hi hf
        exfalso
        simp at hi
        simp only [List.length_cons, List.length_nil] at hf
        omega
      · simp only [List.length_cons, List.length_nil] at hc ⊢
        exact ⟨⟨⟨by omega, by omega⟩, by omega⟩, hat⟩
      · intro i hi _
        rw [List.mem_range'] at hi
        obtain ⟨k, hk, e⟩ := hi
        have := (hg w (by simp)).none (pre := pre) (post := dots ++ joinL dots (v :: r)) (i := i) (by omega) (by omega)
        rw [← hX'] at this
        exact this
    rw [e]
    have ih := parts_join (lim := lim) (v :: r) (pre ++ w ++ dots) (cnt + 1) X (by simp) (fun u hu => hg u (.tail _ hu)) (by rw [hX']; simp [List.append_assoc]) (by simp at hc ⊢; omega)
    have hl2 : (pre ++ w ++ dots).length = pre.length + w.length + 3 := by simp; omega
    rw [hl2] at ih
    refine ⟨?_, by rw [List.length_cons, ih.2]; simp⟩
    show strSub (S X) pre.length (pre.length + w.length) :: StrLaws.partsFrom (S X) 3 (pre.length + w.length + 3) _ = S w :: (v :: r).map S
    rw [ih.1, strSub_S]
    congr 2
    rw [hX', show pre.length + w.length = (pre ++ w).length by simp, List.take_left, List.drop_left]
theorem split_join {ws : List (List Nat)} (hne : 2 ≤ ws.length) (hg : ∀ w ∈ ws, Good w) : Txt.split (S (joinL dots ws)) (S dots) = ws.map S ∧ (occurrences (S (joinL dots ws)) (S dots) 0 (joinL dots ws).length 1).isEmpty = false ∧
    (partsBetween (S (joinL dots ws)) (occurrences (S (joinL dots ws)) (S dots) 0 (S (joinL dots ws)).length ((S (joinL dots ws)).length + 1)) (S dots).length) = ws.map S := by
  have hlen : ∀ l : List (List Nat), l.length ≤ (joinL dots l).length + 1 := by
    intro l
    induction l with
    | nil => simp
    | cons w l ih =>
      cases l with
      | nil => simp
      | cons v r =>
        show _ ≤ (w ++ dots ++ joinL dots (v :: r)).length + 1
        simp only [List.length_append, List.length_cons, List.length_nil] at ih ⊢
        omega
  have h := parts_join (lim := (joinL dots ws).length + 1) ws [] 0 (joinL dots ws) (by intro e; rw [e] at hne; simp at hne) hg rfl (by have := hlen ws; omega)
  have hocc : occurrences (S (joinL dots ws)) (S dots) 0 (S (joinL dots ws)).length ((S (joinL dots ws)).length + 1) = occL (joinL dots ws) dots (joinL dots ws).length ((joinL dots ws).length + 1) (List.range' 0 ((joinL dots ws).length + 1 - 0)) 0 0 := by
    rw [occ_S, S_len]
  have hparts : (partsBetween (S (joinL dots ws)) (occurrences (S (joinL dots ws)) (S dots) 0 (S (joinL dots ws)).length ((S (joinL dots ws)).length + 1)) (S dots).length) = ws.map S := by
    rw [StrLaws.partsBetween_eq, hocc]
    exact h.1
  have h2 := h.2
  simp only [List.length_nil] at h2
  have hne2 : (occurrences (S (joinL dots ws)) (S dots) 0 (S (joinL dots ws)).length ((S (joinL dots ws)).length + 1)).isEmpty = false := by
    rw [hocc]
    cases hh : occL (joinL dots ws) dots (joinL dots ws).length ((joinL dots ws).length + 1) (List.range' 0 ((joinL dots ws).length + 1 - 0)) 0 0 with
    | nil => rw [hh] at h2; simp at h2; omega
    | cons a b => rfl
  refine ⟨?_, ?_, hparts⟩
  · unfold Txt.split
    have hk : Builtin.Str.strKind (S dots) = 1 := by decide +kernel
    have hk2 : ¬ Builtin.Str.strKind (S (joinL dots ws)) < 1 := by unfold Builtin.Str.strKind; split <;> (try split) <;> omega
    have hl3 : ¬ (S (joinL dots ws)).length < (S dots).length := by
      match ws, hne with
      | w :: v :: r, _ =>
        rw [S_len, S_len]
        show ¬ (w ++ dots ++ joinL dots (v :: r)).length < 3
        simp only [List.length_append, List.length_cons, List.length_nil]; omega
    rw [hk, if_neg (by simp only [Bool.or_eq_true, decide_eq_true_eq]; rintro (h | h) <;> contradiction), hne2, if_neg (by simp)]
    exact hparts
  · match ws, hne with
    | w :: v :: r, _ =>
    have hat : atL (joinL dots (w :: v :: r)) dots w.length = true := by
      show atL (w ++ dots ++ joinL dots (v :: r)) dots w.length = true
      unfold atL
      rw [List.append_assoc, List.drop_left]; rfl
    have := StrLaws.found_iff (S (joinL dots (w :: v :: r))) (S dots)
    rw [S_len] at this
    have h5 := this.mpr ⟨w.length, by
      rw [S_len]
      show _ ≤ (w ++ dots ++ joinL dots (v :: r)).length
      simp only [List.length_append, List.length_cons, List.length_nil]; omega, by rw [subAt_S]; exact hat⟩
    simpa using h5
/-- no marker -/
theorem no_dots {w : List Nat} (hg : Good w) : (occurrences (S w) (S dots) 0 (S w).length 1).isEmpty = true := by
  cases h : (occurrences (S w) (S dots) 0 (S w).length 1).isEmpty with
  | true => rfl
  | false =>
    exfalso
    obtain ⟨i, h1, h2⟩ := (StrLaws.found_iff (S w) (S dots)).mp (by rw [h]; rfl)
    rw [subAt_S] at h2
    rw [S_len, S_len] at h1
    have := hg.none (pre := []) (post := []) (i := i) (by simp) (by simp at h1 ⊢; omega)
    simp at this
    rw [this] at h2; cases h2
end Mine
end

section
open PySem PySem.W PyProof.Rows PySem.SeqAt
set_option Elab.async false
namespace Mine
def abc : List Nat := [46, 97, 98, 120, 108, 111, 99]
def Abc (x : List Nat) : Prop := ∀ ch ∈ x, ch ∈ abc
def up (c : Nat) : Nat := if c = 46 then 46 else c - 32
theorem flat1 {g : Nat → Nat} : ∀ (x : List Nat) (f : Nat → Nat → List Nat), (∀ i c, x[i]? = some c → f i c = [g c]) → ((x.mapIdx fun i c => f i c).flatten) = x.map g
  | [], f, _ => rfl
  | c :: r, f, h => by
    rw [List.mapIdx_cons, List.flatten_cons, h 0 c rfl]
    have := flat1 r (fun i c => f (i + 1) c) fun i c' hc => h (i + 1) c' (by simpa using hc)
    rw [this]; rfl
theorem placed_S {x : List Nat} {f : Nat → Nat → List Nat} {g : Nat → Nat} (h : ∀ i c, x[i]? = some c → f i c = [g c]) : placed (S x) f = (x.map g).toArray := by
  unfold placed
  apply Array.toList_inj.mp
  rw [← flat1 x f h]
  simp only [S, Array.toList_flatten, List.mapIdx_toArray]
  congr 1
  apply List.ext_getElem? fun i => ?_
  simp
  rfl
theorem upper_abc : ∀ ch ∈ abc, Unicode.upperOf ch = [up ch] := by decide +kernel
theorem lower_up : ∀ ch ∈ abc, Unicode.lowerOf (up ch) = [ch] := by decide +kernel
theorem lower_abc : ∀ ch ∈ abc, Unicode.lowerOf ch = [ch] := by decide +kernel
theorem up_sigma : ∀ ch ∈ abc, (up ch == 0x3A3) = false := by decide +kernel
theorem abc_sigma : ∀ ch ∈ abc, (ch == 0x3A3) = false := by decide +kernel
theorem upper_S {x : List Nat} (h : Abc x) : Txt.upper (S x) = S (x.map up) := by
  unfold Txt.upper
  rw [placed_S fun i c hc => upper_abc c (h c (List.mem_of_getElem? hc))]; rfl
theorem lower_S {x : List Nat} (h : Abc x) : Txt.lower (S x) = S x := by
  unfold Txt.lower
  rw [placed_S (g := id) fun i c hc => ?_]
  · simp [S]
  · have hm := h c (List.mem_of_getElem? hc)
    unfold Unicode.lowerAt
    have : (S x).cps[i]? = some c := by simpa [S] using hc
    rw [this]
    simp only [abc_sigma c hm, Bool.false_and, Bool.false_eq_true, if_false]
    exact lower_abc c hm
theorem lower_upS {x : List Nat} (h : Abc x) : Txt.lower (S (x.map up)) = S x := by
  unfold Txt.lower
  rw [show (S x) = S ((x.map up).map fun c => if c = 46 then 46 else c + 32) from ?_]
  · rw [placed_S (x := x.map up) (g := fun c => if c = 46 then 46 else c + 32) fun i c hc => ?_]
    · rfl
    · rw [List.getElem?_map] at hc
      cases hx : x[i]? with
      | none => rw [hx] at hc; simp at hc
      | some ch =>
        rw [hx] at hc; simp at hc; subst hc
        have hm := h ch (List.mem_of_getElem? hx)
        unfold Unicode.lowerAt
        have : (S (x.map up)).cps[i]? = some (up ch) := by simp [S, hx]
        rw [this]
        simp only [up_sigma ch hm, Bool.false_and, Bool.false_eq_true, if_false]
        rw [lower_up ch hm]
        have : ∀ ch ∈ abc, ch = if up ch = 46 then 46 else up ch + 32 := by decide +kernel
        rw [← this ch hm]
  · rw [List.map_map]
    have : ∀ ch ∈ abc, (if up ch = 46 then 46 else up ch + 32) = ch := by decide +kernel
    congr 1
    symm
    have e : List.map ((fun c => if c = 46 then 46 else c + 32) ∘ up) x = List.map id x := List.map_congr_left fun ch hch => this ch (h ch hch)
    rw [e, List.map_id]
theorem Abc.noDig {x : List Nat} (h : Abc x) : NoDig x := by
  have : ∀ ch ∈ abc, Sre.isDigit ch = false := by decide +kernel
  exact fun ch hch => this ch (h ch hch)
end Mine
end

section
open PySem PySem.W PyProof.Rows PySem.SeqAt
set_option Elab.async false
namespace Mine
/-- what user_domain_match says of small letters -/
def dm (a b : List Nat) : Bool := ((b.head? == some 46) && b.isSuffixOf a) || (!(b.head? == some 46) && a == b)
theorem dot_prefix (b : List Nat) : ([46] : List Nat).isPrefixOf b = (b.head? == some 46) := by
  cases b with
  | nil => rfl
  | cons c r => simp [List.isPrefixOf, Bool.beq_comm, eq_comm]
abbrev locl : List Nat := [108, 111, 99, 97, 108]
def reachL (x : List Nat) : List Nat := match firstAt x [46] 0 x.length with
  | none => x
  | some i => if hdn x && ((firstAt (x.drop (i + 1)) [46] 0 (x.drop (i + 1)).length).isSome || x.drop (i + 1) == locl) then 46 :: x.drop (i + 1) else x
def run (g : List Nat) (ep : Nat) : List (List Nat) → Nat → Option Nat
  | [], sp => some sp
  | w :: ws, sp => match firstAt g w sp ep with
    | none => none
    | some k => run g ep ws (k + w.length)
theorem run_append (g : List Nat) (ep : Nat) : ∀ (a b : List (List Nat)) (sp : Nat), run g ep (a ++ b) sp = (run g ep a sp).bind (run g ep b)
  | [], _, _ => rfl
  | w :: a, b, sp => by
    rw [List.cons_append, run, run]
    cases firstAt g w sp ep with
    | none => rfl
    | some k => exact run_append g ep a b _
def ellB (g : List Nat) (ws : List (List Nat)) (sp : Nat) : Bool := match ws.getLast? with
  | none => false
  | some wl => if wl.isEmpty then (decide (sp ≤ g.length) && (run g g.length ws sp).isSome)
    else wl.isSuffixOf g && (decide (sp + wl.length ≤ g.length) && (run g (g.length - wl.length) ws.dropLast sp).isSome)
def ell (ws : List (List Nat)) (g : List Nat) : Bool := match ws with
  | [] => false
  | w :: r => if w.isEmpty then ellB g (w :: r) 0 else w.isPrefixOf g && ellB g r w.length
theorem sl_from {x : List Nat} {i : Nat} (h : i ≤ x.length) : sl x (some (i : Int)) none = x.drop i := by
  unfold sl
  have e : clipAt x.length (i : Int) = i := by simp only [clipAt]; omega
  simp only [Option.elim, e]
  rw [List.take_of_length_le (by rw [List.length_drop]; omega)]
end Mine
end

section
open PySem PySem.W PyProof.Rows PySem.SeqAt
set_option Elab.async false
namespace Mine
def lab (b : Bool) : List Nat := if b then [98, 97] else [97]
def rowD (r : List Bool) : List PyData := r.map fun b => .str (S (lab b))
def nameL (r : List Bool) : List Nat := r.flatMap fun b => 46 :: lab b
theorem rowD_len (r : List Bool) : (rowD r).length = r.length := by simp [rowD]
theorem mem_rowD {r : List Bool} {d : PyData} (h : d ∈ rowD r) : ∃ b, d = .str (S (lab b)) := by
  obtain ⟨b, _, e⟩ := List.mem_map.mp h
  exact ⟨b, e.symm⟩
def strF (f : List Nat → PyData) : PyData → PyData
  | .str x => f x.cps.toList
  | d => d
theorem strF_S (f : List Nat → PyData) (x : List Nat) : strF f (.str (S x)) = f x := by simp [strF]
def intF (f : Int → PyData) : PyData → PyData
  | .int x => f x
  | d => d
def intP (f : Int → Bool) : PyData → Bool
  | .int x => f x
  | _ => true
theorem join_nil : ∀ (l : List (List Nat)), Str.join (S []) (l.map S) = S l.flatten
  | [] => rfl
  | [x] => by simp [Str.join]
  | x :: y :: r => by
    have := join_nil (y :: r)
    show S x ++ S [] ++ Str.join (S []) ((y :: r).map S) = _
    rw [this, S_append, S_append]; simp
theorem join_S (sep : List Nat) : ∀ (l : List (List Nat)), Str.join (S sep) (l.map S) = S (joinL sep l)
  | [] => rfl
  | [x] => by simp [Str.join, joinL]
  | x :: y :: r => by
    have := join_S sep (y :: r)
    show S x ++ S sep ++ Str.join (S sep) ((y :: r).map S) = _
    rw [this, S_append, S_append]; rfl
theorem lab_le (b : Bool) : (lab b).length ≤ 2 := by cases b <;> decide
theorem nameL_le (r : List Bool) : (nameL r).length ≤ 3 * r.length := by
  induction r with
  | nil => simp [nameL]
  | cons b r ih =>
    have := lab_le b
    rw [nameL, List.flatMap_cons, List.length_append, List.length_cons, List.length_cons]
    rw [nameL] at ih; omega
theorem filter_true {α : Type} (l : List α) : l.filter (fun _ => true) = l := by simp
end Mine
namespace Mine
theorem sum_le {α : Type} (f : α → Nat) (k : Nat) (h : ∀ a, f a ≤ k) : ∀ l : List α, (l.map f).sum ≤ k * l.length
  | [] => by simp
  | a :: l => by
    have := sum_le f k h l
    have h1 := h a
    simp only [List.map_cons, List.sum_cons, List.length_cons]
    rw [Nat.mul_succ]; omega
theorem name_join (r : List Bool) : Str.join (S []) (r.map fun b => S (46 :: lab b)) = S (nameL r) := by
  have := join_nil (r.map fun b => 46 :: lab b)
  rw [List.map_map] at this
  rw [nameL, List.flatMap_def, ← this]; rfl
end Mine
end

section
open PySem PySem.W PyProof.Rows PySem.SeqAt
set_option Elab.async false
namespace Mine
abbrev dloc : List Nat := [46, 108, 111, 99, 97, 108]
def seg {α : Type} (r : List α) (i j : Nat) : List α := (r.drop i).take (j - i)
def doms (r : List Bool) : List (List Nat) := (List.range (r.length + 1)).map fun i => nameL (r.drop i) ++ dloc
theorem doms_len (r : List Bool) : (doms r).length = r.length + 1 := by simp [doms]
theorem doms_get (r : List Bool) {i : Nat} (h : i ≤ r.length) : (doms r)[i]? = some (nameL (r.drop i) ++ dloc) := by
  simp [doms, List.getElem?_range (show i < r.length + 1 by omega)]
theorem nameL_append (a b : List Bool) : nameL (a ++ b) = nameL a ++ nameL b := by simp [nameL]
theorem drop_seg {α : Type} (r : List α) {i j : Nat} (h : i ≤ j) : r.drop i = seg r i j ++ r.drop j := by
  unfold seg
  have := (List.take_append_drop (j - i) (r.drop i)).symm
  rw [List.drop_drop, show i + (j - i) = j by omega] at this
  exact this
theorem sl_to {α : Type} {x : List α} {k : Nat} (h : k ≤ x.length) : sl x none (some (k : Int)) = x.take k := by
  unfold sl
  have e : clipAt x.length (k : Int) = k := by simp only [clipAt]; omega
  simp only [Option.elim, e, List.drop_zero, Nat.sub_zero]
theorem between_doms (r : List Bool) {i j : Nat} (h : i ≤ j) : sl (nameL (r.drop i) ++ dloc) none (some (((nameL (r.drop i) ++ dloc).length : Int) - ((nameL (r.drop j) ++ dloc).length : Int))) = nameL (seg r i j) := by
  have e : nameL (r.drop i) ++ dloc = nameL (seg r i j) ++ (nameL (r.drop j) ++ dloc) := by
    rw [drop_seg r h, nameL_append, List.append_assoc]
  have el : ((nameL (r.drop i) ++ dloc).length : Int) - ((nameL (r.drop j) ++ dloc).length : Int) = ((nameL (seg r i j)).length : Nat) := by
    rw [e, List.length_append (as := nameL (seg r i j))]; omega
  rw [el, e, sl_to (by rw [List.length_append]; omega), List.take_left]
theorem lab_dot (b : Bool) : 46 ∉ lab b := by cases b <;> decide
theorem lab_ne (b : Bool) : lab b ≠ [] := by cases b <;> decide
theorem lab_last (b : Bool) : (lab b).getLast? = some 97 := by cases b <;> rfl
theorem nameL_cons (b : Bool) (r : List Bool) : nameL (b :: r) = 46 :: (lab b ++ nameL r) := by simp [nameL]
theorem nameL_last {r : List Bool} (h : r ≠ []) : (nameL r).getLast? = some 97 := by
  induction r with
  | nil => exact absurd rfl h
  | cons b r ih =>
    rw [nameL_cons]
    cases r with
    | nil => simp [nameL]; cases b <;> rfl
    | cons d r =>
      have e : 46 :: (lab b ++ nameL (d :: r)) = (46 :: lab b) ++ nameL (d :: r) := rfl
      rw [e, List.getLast?_append, ih (by simp)]; rfl
theorem lab_two {b : Bool} {x : List Nat} {i : Nat} (h : (46 :: (lab b ++ x))[i]? = some 46) (h2 : (46 :: (lab b ++ x))[i + 1]? = some 46) : ∃ k, x[k]? = some 46 ∧ x[k + 1]? = some 46 ∧ i = (lab b).length + k + 1 := by
  cases b with
  | false =>
    have e : (46 :: (lab false ++ x)) = 46 :: 97 :: x := rfl
    rw [e] at h h2
    match i, h, h2 with
    | 0, h, h2 => simp at h2
    | 1, h, h2 => simp at h
    | k + 2, h, h2 => exact ⟨k, by simpa using h, by simpa using h2, by simp [lab]; omega⟩
  | true =>
    have e : (46 :: (lab true ++ x)) = 46 :: 98 :: 97 :: x := rfl
    rw [e] at h h2
    match i, h, h2 with
    | 0, h, h2 => simp at h2
    | 1, h, h2 => simp at h
    | 2, h, h2 => simp at h
    | k + 3, h, h2 => exact ⟨k, by simpa using h, by simpa using h2, by simp [lab]; omega⟩
theorem good_name (r : List Bool) : Good (nameL r) where
  two := by
    induction r with
    | nil => intro i; simp [nameL]
    | cons b r ih =>
      rw [nameL_cons]
      rintro i ⟨h1, h2⟩
      obtain ⟨k, h3, h4, _⟩ := lab_two h1 h2
      exact ih k ⟨h3, h4⟩
  last := by
    cases r with
    | nil => simp [nameL]
    | cons b r => rw [nameL_last (by simp)]; simp
theorem good_nil : Good [] := ⟨by simp, by simp⟩
theorem good_dloc : Good dloc := ⟨by
  intro i ⟨h1, h2⟩
  match i, h1, h2 with
  | 0, _, h2 => simp at h2
  | 1, h1, _ => simp at h1
  | 2, h1, _ => simp at h1
  | 3, h1, _ => simp at h1
  | 4, h1, _ => simp at h1
  | 5, h1, _ => simp at h1
  | k + 6, h1, _ => simp at h1, by decide⟩
theorem abc_name (r : List Bool) : Abc (nameL r) := by
  intro ch h
  rw [nameL, List.mem_flatMap] at h
  obtain ⟨b, _, h⟩ := h
  have : ∀ b : Bool, ∀ ch ∈ 46 :: lab b, ch ∈ abc := by decide
  exact this b ch h
theorem abc_dloc : Abc dloc := by
  have : ∀ ch ∈ dloc, ch ∈ abc := by decide
  exact this
theorem Abc.append {a b : List Nat} (ha : Abc a) (hb : Abc b) : Abc (a ++ b) := fun ch h => (List.mem_append.mp h).elim (ha ch) (hb ch)
theorem Abc.tail {a : List Nat} {x : Nat} (ha : Abc (x :: a)) : Abc a := fun ch h => ha ch (.tail _ h)
theorem abc_dom (r : List Bool) : Abc (nameL r ++ dloc) := (abc_name r).append abc_dloc
theorem abc_host (r : List Bool) : Abc (120 :: (nameL r ++ dloc)) := fun ch h => by
  rcases List.mem_cons.mp h with e | h
  · subst e; decide
  · exact abc_dom r ch h
theorem first_dot {u v : List Nat} (h : 46 ∉ u) : firstAt (u ++ 46 :: v) [46] 0 (u ++ 46 :: v).length = some u.length := by
  unfold firstAt
  rw [List.find?_eq_some_iff_append]
  refine ⟨?_, List.range' 0 u.length, List.range' (u.length + 1) (v.length + 1), ?_, ?_⟩
  · simp [atL]
  · rw [show (u ++ 46 :: v).length + 1 - 0 = u.length + (1 + (v.length + 1)) by simp; omega, ← List.range'_append_1, ← List.range'_append_1]
    simp [List.range']
  · intro i hi
    rw [List.mem_range'] at hi
    obtain ⟨k, hk, e⟩ := hi
    have hi : i < u.length := by omega
    simp only [Bool.not_eq_true', Bool.and_eq_false_iff]
    right
    unfold atL
    rw [List.drop_append_of_le_length (by omega)]
    have hd : u.drop i = u[i] :: u.drop (i + 1) := List.drop_eq_getElem_cons hi
    rw [hd]
    show ([u[i]] == [46]) = false
    have : u[i] ≠ 46 := fun e => h (e ▸ List.getElem_mem hi)
    simpa using this
theorem no_dot {u : List Nat} (h : 46 ∉ u) : firstAt u [46] 0 u.length = none := by
  unfold firstAt
  rw [List.find?_eq_none]
  intro i hi
  simp only [Bool.not_eq_true, Bool.and_eq_false_iff]
  by_cases hlt : i < u.length
  · right
    unfold atL
    rw [List.drop_eq_getElem_cons hlt]
    show ([u[i]] == [46]) = false
    have : u[i] ≠ 46 := fun e => h (e ▸ List.getElem_mem hlt)
    simpa using this
  · left; simp; omega
theorem cut_first : ∀ {v : List Nat}, 46 ∈ v → ∃ a b, v = a ++ 46 :: b ∧ 46 ∉ a
  | c :: r, h => by
    by_cases hc : c = 46
    · exact ⟨[], r, by rw [hc]; rfl, by simp⟩
    · have h' : 46 ∈ r := (List.mem_cons.mp h).elim (fun e => absurd e.symm hc) id
      obtain ⟨a, b, e, hn⟩ := cut_first h'
      exact ⟨c :: a, b, by rw [e]; rfl, by simp [hn, Ne.symm hc]⟩
theorem has_dot {v : List Nat} (h : 46 ∈ v) : (firstAt v [46] 0 v.length).isSome = true := by
  obtain ⟨a, b, e, hn⟩ := cut_first h
  rw [e, first_dot hn]; rfl
theorem reach_step {u v : List Nat} (hu : u ≠ []) (hd : 46 ∉ u) (hl : v.getLast? = some 108) (hv : 46 ∈ v ∨ v = locl) : reachL (u ++ 46 :: v) = 46 :: v := by
  have hh : hdn (u ++ 46 :: v) = true := by
    unfold hdn
    match u, hu, hd with
    | c :: u, _, hd =>
    have hc : c ≠ 46 := fun e => hd (by simp [e])
    have hlast : ((c :: u) ++ 46 :: v).getLast? = some 108 := by
      rw [List.getLast?_append, List.getLast?_cons, hl]; rfl
    rw [hlast]
    simp [hc]
  unfold reachL
  rw [first_dot hd]
  have e : (u ++ 46 :: v).drop (u.length + 1) = v := by
    rw [← List.drop_drop, List.drop_left]; rfl
  simp only [e, hh, Bool.true_and]
  have : ((firstAt v [46] 0 v.length).isSome || v == locl) = true := by
    rcases hv with h | h
    · rw [has_dot h]; rfl
    · rw [h]; simp
  rw [this]; rfl
theorem dom_last (r : List Bool) : ((nameL r ++ dloc).tail).getLast? = some 108 := by
  cases r with
  | nil => rfl
  | cons b r =>
    rw [nameL_cons]
    show (lab b ++ nameL r ++ dloc).getLast? = _
    rw [List.getLast?_append]; rfl
theorem dom_shape (r : List Bool) : ∃ v, nameL r ++ dloc = 46 :: v ∧ v.getLast? = some 108 ∧ (46 ∈ v ∨ v = locl) := by
  refine ⟨(nameL r ++ dloc).tail, ?_, dom_last r, ?_⟩
  · cases r with
    | nil => rfl
    | cons b r => rw [nameL_cons]; rfl
  · cases r with
    | nil => exact .inr rfl
    | cons b r => left; rw [nameL_cons]; show 46 ∈ lab b ++ nameL r ++ dloc; simp
theorem reach_host (r : List Bool) : reachL (120 :: (nameL r ++ dloc)) = nameL r ++ dloc := by
  obtain ⟨v, e, hl, hv⟩ := dom_shape r
  rw [e]
  exact reach_step (u := [120]) (by simp) (by decide) hl hv
theorem reach_dom (b : Bool) (r : List Bool) : reachL ((nameL (b :: r) ++ dloc).drop 1) = nameL r ++ dloc := by
  obtain ⟨v, e, hl, hv⟩ := dom_shape r
  rw [nameL_cons]
  show reachL (lab b ++ nameL r ++ dloc) = _
  rw [List.append_assoc, e]
  exact reach_step (lab_ne b) (lab_dot b) hl hv
theorem reach_pair (a b : Bool) : reachL (lab a ++ 46 :: lab b) = lab a ++ 46 :: lab b := by
  unfold reachL
  rw [first_dot (lab_dot a)]
  have e : (lab a ++ 46 :: lab b).drop ((lab a).length + 1) = lab b := by
    rw [← List.drop_drop, List.drop_left]; rfl
  simp only [e, no_dot (lab_dot b)]
  have : (lab b == locl) = false := by cases b <;> decide
  rw [this]; simp
end Mine
end

section
open PySem PySem.W PyProof.Rows PySem.SeqAt
set_option Elab.async false
namespace Mine
def scal : PyData → Bool
  | .none | .bool _ | .int _ => true
  | .str x => PyData.strOk x
  | _ => false
theorem scal_lay {d : PyData} (h : scal d = true) : d.canLay0 = true ∧ d.depth = 0 := by
  cases d <;> simp_all [scal, PyData.canLay0, PyData.depth]
theorem scals_lay : ∀ {ds : List PyData}, (∀ d ∈ ds, scal d = true) → PyData.canLayAll0 ds = true ∧ PyData.depthAll ds = 0
  | [], _ => by simp [PyData.canLayAll0, PyData.depthAll]
  | d :: ds, h => by
    have h1 := scal_lay (h d (.head _))
    have h2 := scals_lay fun e he => h e (.tail _ he)
    simp [PyData.canLayAll0, PyData.depthAll, h1, h2]
theorem shaped_list {ds : List PyData} (h : ∀ d ∈ ds, scal d = true) : shaped (.list ds) = true := by
  have := scals_lay h
  simp [shaped, PyData.canLay0, PyData.depth, this]
theorem shaped_scal {d : PyData} (h : scal d = true) : shaped d = true := by
  have := scal_lay h
  simp [shaped, this]
theorem strOk_S {x : List Nat} (h : ∀ ch ∈ x, ch < 128) : PyData.strOk (S x) = true := by
  unfold PyData.strOk S
  simp only [List.all_toArray, List.all_eq_true, decide_eq_true_eq]
  intro ch hc; have := h ch hc; omega
theorem eqv_nil (l : List PyData) : PyData.eqv (.list l) (.list []) = l.isEmpty := by
  cases l <;> simp [PyData.eqv, PyData.eqvAll]
theorem Abc.lt {x : List Nat} (h : Abc x) : ∀ ch ∈ x, ch < 128 := by
  have : ∀ ch ∈ abc, ch < 128 := by decide
  exact fun ch hc => this ch (h ch hc)
theorem abc_lab (b : Bool) : Abc (lab b) := by
  have : ∀ b, ∀ ch ∈ lab b, ch ∈ abc := by decide
  exact this b
theorem lab_inj {a b : Bool} : (S (lab a) == S (lab b)) = (a == b) := by
  rw [S_beq]; cases a <;> cases b <;> decide
theorem eqv_rows : ∀ (a b : List Bool), PyData.eqvAll (rowD a) (rowD b) = (a == b)
  | [], [] => by simp [rowD, PyData.eqvAll]
  | [], _ :: _ => by simp [rowD, PyData.eqvAll]
  | _ :: _, [] => by simp [rowD, PyData.eqvAll]
  | x :: a, y :: b => by
    have ih := eqv_rows a b
    rw [rowD, rowD] at ih ⊢
    rw [List.map_cons, List.map_cons, PyData.eqvAll, ih, PyData.eqv, lab_inj]; rfl
theorem scal_row (r : List Bool) : ∀ d ∈ rowD r, scal d = true := fun d hd => by
  obtain ⟨b, rfl⟩ := mem_rowD hd
  exact strOk_S (abc_lab b).lt
theorem sl_rowD (r : List Bool) (lo hi : Option Int) : sl (rowD r) lo hi = rowD (sl r lo hi) := by
  unfold sl rowD
  rw [List.length_map, List.map_take, List.map_drop]
theorem sl_seg {α : Type} {r : List α} {i j : Nat} (hi : i ≤ r.length) (hj : j ≤ r.length) : sl r (some (i : Int)) (some (j : Int)) = seg r i j := by
  unfold sl seg
  have e : clipAt r.length (i : Int) = i := by simp only [clipAt]; omega
  have e2 : clipAt r.length (j : Int) = j := by simp only [clipAt]; omega
  simp only [Option.elim, e, e2]
end Mine
end

section
open PySem PySem.W PyProof.Rows PySem.SeqAt
set_option Elab.async false
namespace Mine
def boolD (l : List Bool) : List PyData := l.map .bool
theorem boolD_len (l : List Bool) : (boolD l).length = l.length := by simp [boolD]
def eqL (a b : List Bool) : Bool := (List.zipWith (fun x y => x == y) a b).all id
def pairR (n1 n2 : Str) : PyData → List (Str × Pd)
  | .tuple [a, b] => [(n1, .d a), (n2, .d b)]
  | _ => []
def neP : PyData → Bool
  | .tuple [.bool a, .bool b] => !(a == b)
  | _ => true
def fstF : PyData → PyData
  | .tuple [a, _] => a
  | d => d
def sndF : PyData → PyData
  | .tuple [_, b] => b
  | d => d
theorem mem_zipB {x y : List Bool} {d : PyData} (h : d ∈ zipT (boolD x) (boolD y)) : ∃ a b, d = .tuple [.bool a, .bool b] := by
  obtain ⟨i, hi⟩ := List.mem_iff_getElem?.mp h
  obtain ⟨a, b, h1, h2, rfl⟩ := zipT_get hi
  rw [boolD, List.getElem?_map] at h1 h2
  cases e1 : x[i]? with
  | none => rw [e1] at h1; cases h1
  | some u =>
    cases e2 : y[i]? with
    | none => rw [e2] at h2; cases h2
    | some v => rw [e1] at h1; rw [e2] at h2; cases h1; cases h2; exact ⟨u, v, rfl⟩
theorem like_empty : ∀ (x y : List Bool), (((zipT (boolD x) (boolD y)).filter neP).map fstF).isEmpty = eqL x y
  | [], _ => by simp [zipT, boolD, eqL]
  | _ :: _, [] => by simp [zipT, boolD, eqL]
  | a :: x, b :: y => by
    have ih := like_empty x y
    have e : zipT (boolD (a :: x)) (boolD (b :: y)) = .tuple [.bool a, .bool b] :: zipT (boolD x) (boolD y) := rfl
    have e2 : eqL (a :: x) (b :: y) = ((a == b) && eqL x y) := rfl
    rw [e, e2, ← ih, List.filter_cons]
    have e3 : neP (.tuple [.bool a, .bool b]) = !(a == b) := rfl
    rw [e3]
    cases a == b <;> simp
theorem like_scal (x y : List Bool) : ∀ d ∈ ((zipT (boolD x) (boolD y)).filter neP).map fstF, scal d = true := fun d hd => by
  obtain ⟨e, he, rfl⟩ := List.mem_map.mp hd
  obtain ⟨a, b, rfl⟩ := mem_zipB (List.mem_filter.mp he).1
  rfl
theorem mem_rng {a : Int} {n : Nat} {d : PyData} (h : d ∈ rng a n) : ∃ m : Nat, m < n ∧ d = .int (a + (m : Int)) := by
  obtain ⟨m, hm, e⟩ := List.mem_map.mp h
  exact ⟨m, List.mem_range.mp hm, e.symm⟩
theorem rng_map {β : Type} (f : PyData → β) (a : Int) (n : Nat) : (rng a n).map f = (List.range n).map fun (m : Nat) => f (.int (a + (m : Int))) := by
  rw [rng, List.map_map]; rfl
/-- the ends of a stretch that are its beginnings -/
def bords (r : List Bool) (i j : Nat) : List Bool := (List.range (j - i - 1)).map fun m => seg r i (i + (m + 1)) == seg r (j - (m + 1)) j
def frs (r : List Bool) (i n : Nat) : List (List Nat) := (List.range n).map fun m => nameL (seg r i (i + 1 + m))
def aparts (r : List Bool) (i j : Nat) : List Bool := (frs r i (j - i - 1)).map fun f => ell [f, f] (nameL (seg r i j))
def liesL (r : List Bool) (i : Nat) : List Bool := (frs r i (r.length - i - 1)).map fun f => dm (120 :: (nameL (r.drop i) ++ dloc)) (f ++ dloc)
theorem seg_len {α : Type} (r : List α) (i j : Nat) : (seg r i j).length ≤ j - i := by rw [seg, List.length_take]; omega
theorem mem_frs {r : List Bool} {i n : Nat} {f : List Nat} (h : f ∈ frs r i n) : ∃ m, m < n ∧ f = nameL (seg r i (i + 1 + m)) := by
  obtain ⟨m, hm, e⟩ := List.mem_map.mp h
  exact ⟨m, List.mem_range.mp hm, e.symm⟩
end Mine
end

section
open PySem PySem.W PyProof.Rows PySem.SeqAt
set_option Elab.async false
namespace Mine
def placesL (n : Nat) : List (Nat × Nat) := (List.range n).flatMap fun l => (List.range (l + 1)).map fun f => (f, l + 1)
def pairD (q : Nat × Nat) : PyData := .tuple [.int (q.1 : Int), .int (q.2 : Int)]
def placesD (n : Nat) : List PyData := (placesL n).map pairD
theorem mem_places {n : Nat} {q : Nat × Nat} (h : q ∈ placesL n) : q.1 < q.2 ∧ q.2 ≤ n := by
  obtain ⟨l, hl, hq⟩ := List.mem_flatMap.mp h
  obtain ⟨f, hf, rfl⟩ := List.mem_map.mp hq
  rw [List.mem_range] at hl hf
  exact ⟨hf, hl⟩
theorem places_len (n : Nat) : (placesL n).length ≤ n * n := by
  have h : ∀ m, m ≤ n → (placesL m).length ≤ m * n := by
    intro m hm
    induction m with
    | zero => simp [placesL]
    | succ m ih =>
      rw [placesL, List.range_succ, List.flatMap_append, List.length_append]
      have := ih (by omega)
      rw [placesL] at this
      simp only [List.flatMap_cons, List.flatMap_nil, List.append_nil, List.length_map, List.length_range]
      rw [Nat.succ_mul]; omega
  exact h n (Nat.le_refl _)
def innerD : PyData → List PyData
  | .int k => rng 0 k.toNat
  | _ => []
theorem places_comp (n : Nat) : ((rng 1 n).flatMap fun d => (innerD d).map fun d2 => PyData.tuple [d2, d]) = placesD n := by
  rw [placesD, placesL, List.map_flatMap, rng, List.flatMap_map]
  congr 1
  funext l
  show ((rng 0 ((1 : Int) + (l : Int)).toNat).map _) = _
  rw [rng_map, List.map_map, show ((1 : Int) + (l : Int)).toNat = l + 1 by omega]
  apply List.map_congr_left
  intro m _
  show PyData.tuple [.int ((0 : Int) + (m : Int)), .int ((1 : Int) + (l : Int))] = .tuple [.int (m : Int), .int ((l + 1 : Nat) : Int)]
  rw [Int.zero_add, show (1 : Int) + (l : Int) = ((l + 1 : Nat) : Int) by omega]
def pairF (f : Nat → Nat → PyData) : PyData → PyData
  | .tuple [.int i, .int j] => f i.toNat j.toNat
  | d => d
def pairP (f : Nat → Nat → Bool) : PyData → Bool
  | .tuple [.int i, .int j] => f i.toNat j.toNat
  | d => true
theorem pairF_D (f : Nat → Nat → PyData) (q : Nat × Nat) : pairF f (pairD q) = f q.1 q.2 := rfl
theorem places_map (f : Nat → Nat → PyData) (n : Nat) : ((placesD n).filter fun _ => true).map (pairF f) = (placesL n).map fun q => f q.1 q.2 := by
  rw [filter_true, placesD, List.map_map]; rfl
def apartD (r : List Bool) : List PyData := (placesL r.length).map fun q => .list (boolD (aparts r q.1 q.2))
def liesD (r : List Bool) : List PyData := (List.range r.length).map fun i => .list (boolD (liesL r i))
/-- what is due of a stretch -/
def dueL (r : List Bool) (i j : Nat) : List Bool := (bords r i j).mapIdx fun m one => one && decide (2 * (m + 1) ≤ j - i)
end Mine
end

section
open PySem PySem.W PyProof.Rows PySem.SeqAt
set_option Elab.async false
namespace Mine
theorem lab_f : lab false = [97] := rfl
theorem lab_t : lab true = [98, 97] := rfl
theorem name_prefix : ∀ (u w : List Bool), (nameL u).isPrefixOf (nameL w) = u.isPrefixOf w
  | [], w => by simp [nameL]
  | b :: u, [] => by rw [nameL_cons]; simp [nameL]
  | b :: u, d :: w => by
    rw [nameL_cons, nameL_cons]
    have ih := name_prefix u w
    cases b <;> cases d <;> first | rfl | simp [lab, ih]
def revN (w : List Bool) : List Nat := w.flatMap fun b => (lab b).reverse ++ [46]
theorem revN_cons (b : Bool) (w : List Bool) : revN (b :: w) = (lab b).reverse ++ 46 :: revN w := by simp [revN]
theorem name_rev (w : List Bool) : (nameL w).reverse = revN w.reverse := by
  induction w with
  | nil => rfl
  | cons b w ih =>
    rw [nameL_cons, List.reverse_cons, List.reverse_append, ih, List.reverse_cons, revN, revN, List.flatMap_append]
    simp
theorem revN_prefix {t : List Nat} (ht : t = [] ∨ t = [120]) : ∀ (u w : List Bool), (revN u).isPrefixOf (revN w ++ t) = u.isPrefixOf w
  | [], w => by simp [revN]
  | b :: u, [] => by
    rw [revN_cons]
    rcases ht with rfl | rfl <;> cases b <;> rfl
  | b :: u, d :: w => by
    rw [revN_cons, revN_cons]
    have ih := revN_prefix ht u w
    cases b <;> cases d <;> first | rfl | simp [lab, ih]
theorem suf_rev (u w : List Nat) : u.isSuffixOf w = u.reverse.isPrefixOf w.reverse := rfl
theorem suf_revB (u w : List Bool) : u.isSuffixOf w = u.reverse.isPrefixOf w.reverse := rfl
theorem name_suffix (u w : List Bool) : (nameL u).isSuffixOf (nameL w) = u.isSuffixOf w := by
  rw [suf_rev, name_rev, name_rev, suf_revB]
  have := revN_prefix (t := []) (.inl rfl) u.reverse w.reverse
  rwa [List.append_nil] at this
theorem pre_cancel : ∀ (s x y : List Nat), (s ++ x).isPrefixOf (s ++ y) = x.isPrefixOf y
  | [], _, _ => rfl
  | c :: s, x, y => by simpa using pre_cancel s x y
theorem suf_cancel (a b t : List Nat) : (a ++ t).isSuffixOf (b ++ t) = a.isSuffixOf b := by
  rw [suf_rev, suf_rev, List.reverse_append, List.reverse_append, pre_cancel]
theorem host_suffix (u w : List Bool) : (nameL u ++ dloc).isSuffixOf (120 :: (nameL w ++ dloc)) = u.isSuffixOf w := by
  have e : 120 :: (nameL w ++ dloc) = (120 :: nameL w) ++ dloc := rfl
  rw [e, suf_cancel, suf_rev, name_rev, List.reverse_cons, name_rev, suf_revB]
  exact revN_prefix (.inr rfl) u.reverse w.reverse
theorem eqL_of : ∀ {x y : List Bool}, (∀ (m : Nat) (a b : Bool), x[m]? = some a → y[m]? = some b → a = b) → eqL x y = true
  | [], _, _ => rfl
  | _ :: _, [], _ => rfl
  | a :: x, b :: y, h => by
    have e : eqL (a :: x) (b :: y) = ((a == b) && eqL x y) := rfl
    rw [e, h 0 a b rfl rfl, eqL_of fun m u v hu hv => h (m + 1) u v (by simpa using hu) (by simpa using hv)]; simp
theorem eqL_get : ∀ {x y : List Bool}, eqL x y = true → x.length = y.length → x = y
  | [], [], _, _ => rfl
  | [], _ :: _, _, h => by simp at h
  | _ :: _, [], _, h => by simp at h
  | a :: x, b :: y, h, hl => by
    have e : eqL (a :: x) (b :: y) = ((a == b) && eqL x y) := rfl
    rw [e, Bool.and_eq_true] at h
    rw [eq_of_beq h.1, eqL_get h.2 (by simpa using hl)]
end Mine
end

section
open PySem PySem.W PyProof.Rows PySem.SeqAt
set_option Elab.async false
namespace Mine
theorem nameL_pos (t : List Bool) : t.length ≤ (nameL t).length := by
  induction t with
  | nil => simp
  | cons b t ih => rw [nameL_cons]; simp; omega
theorem name_ne {t : List Bool} (h : t ≠ []) : (nameL t).isEmpty = false := by
  cases t with
  | nil => exact absurd rfl h
  | cons b t => rw [nameL_cons]; rfl
theorem ell_two {f g : List Nat} (h : f.isEmpty = false) : ell [f, f] g = (f.isPrefixOf g && (f.isSuffixOf g && decide (f.length + f.length ≤ g.length))) := by
  rw [ell, h]
  simp only [Bool.false_eq_true, if_false]
  rw [ellB]
  simp only [List.getLast?_singleton, h, Bool.false_eq_true, if_false, List.dropLast_singleton, run, Option.isSome_some, Bool.and_true]
theorem take_pre (w : List Bool) (k : Nat) : (w.take k).isPrefixOf w = true := by
  rw [List.isPrefixOf_iff_prefix]; exact List.take_prefix _ _
theorem take_suf {w : List Bool} {k : Nat} (h : k ≤ w.length) : (w.take k).isSuffixOf w = (w.take k == w.drop (w.length - k)) := by
  rw [Bool.eq_iff_iff, List.isSuffixOf_iff_suffix, List.suffix_iff_eq_drop, List.length_take, Nat.min_eq_left h]
  simp
theorem seg_take {r : List Bool} {i j k : Nat} (h : i + k ≤ j) : seg r i (i + k) = (seg r i j).take k := by
  unfold seg
  rw [List.take_take, Nat.min_eq_left (by omega), Nat.add_sub_cancel_left]
theorem seg_drop {r : List Bool} {i j k : Nat} (h : i + k ≤ j) : seg r (j - k) j = (seg r i j).drop (j - i - k) := by
  unfold seg
  rw [List.drop_take, List.drop_drop]
  congr 1
  · omega
  · congr 1; omega
theorem seg_length {r : List Bool} {i j : Nat} (h : j ≤ r.length) : (seg r i j).length = j - i := by
  rw [seg, List.length_take, List.length_drop]; omega
theorem name_len_split (w : List Bool) (k : Nat) : (nameL w).length = (nameL (w.take k)).length + (nameL (w.drop k)).length := by
  rw [← List.length_append, ← nameL_append, List.take_append_drop]
theorem room_twice {w : List Bool} {k : Nat} (hk : 1 ≤ k) (hkw : k < w.length) (h : w.take k = w.drop (w.length - k)) :
    decide ((nameL (w.take k)).length + (nameL (w.take k)).length ≤ (nameL w).length) = decide (2 * k ≤ w.length) := by
  rw [decide_eq_decide, name_len_split w k]
  constructor
  · intro hl
    refine Nat.le_of_not_lt fun hlt => ?_
    have e : w.drop k = (w.take k).drop (k - (w.length - k)) := by
      rw [h, List.drop_drop]; congr 1; omega
    have h2 := name_len_split (w.take k) (k - (w.length - k))
    rw [← e] at h2
    have h3 := nameL_pos ((w.take k).take (k - (w.length - k)))
    rw [List.length_take, List.length_take] at h3
    omega
  · intro hl
    have e : (w.drop k).drop (w.length - k - k) = w.take k := by
      rw [h, List.drop_drop]; congr 1; omega
    have h2 := name_len_split (w.drop k) (w.length - k - k)
    rw [e] at h2
    omega
theorem frs_get {r : List Bool} {i n m : Nat} (h : m < n) : (frs r i n)[m]? = some (nameL (seg r i (i + 1 + m))) := by
  simp [frs, h]
theorem factA (r : List Bool) (i j : Nat) (hij : i < j) (hj : j ≤ r.length) : eqL (aparts r i j) (dueL r i j) = true := by
  refine eqL_of fun m a b ha hb => ?_
  have hm : m < j - i - 1 := by
    rcases Nat.lt_or_ge m (j - i - 1) with h | h
    · exact h
    · rw [List.getElem?_eq_none (by simp [aparts, frs]; omega)] at ha; cases ha
  rw [aparts, List.getElem?_map, frs_get hm] at ha
  rw [dueL, List.getElem?_mapIdx, bords, List.getElem?_map, List.getElem?_range hm] at hb
  have ha := (Option.some.inj ha).symm
  have hb := (Option.some.inj hb).symm
  rw [ha, hb]
  show ell [nameL (seg r i (i + 1 + m)), nameL (seg r i (i + 1 + m))] (nameL (seg r i j)) = ((seg r i (i + (m + 1)) == seg r (j - (m + 1)) j) && decide (2 * (m + 1) ≤ j - i))
  have hw : (seg r i j).length = j - i := seg_length hj
  have e1 : seg r i (i + (m + 1)) = (seg r i j).take (m + 1) := seg_take (by omega)
  have e2 : seg r (j - (m + 1)) j = (seg r i j).drop ((seg r i j).length - (m + 1)) := by rw [hw]; exact seg_drop (by omega)
  rw [show i + 1 + m = i + (m + 1) by omega, e1, e2]
  generalize hW : seg r i j = w at *
  have hne : w.take (m + 1) ≠ [] := by intro e; have := congrArg List.length e; rw [List.length_take, hw] at this; simp at this; omega
  rw [ell_two (name_ne hne), name_prefix, take_pre, Bool.true_and, name_suffix, take_suf (by omega)]
  cases hq : (w.take (m + 1) == w.drop (w.length - (m + 1))) with
  | false => rfl
  | true =>
    rw [Bool.true_and, Bool.true_and, room_twice (by omega) (by omega) (eq_of_beq hq), hw]
theorem bords_get {r : List Bool} {i j m : Nat} (h : m < j - i - 1) : (bords r i j)[m]? = some (seg r i (i + (m + 1)) == seg r (j - (m + 1)) j) := by
  rw [bords, List.getElem?_map, List.getElem?_range h]; rfl
theorem lies_get {r : List Bool} {i m : Nat} (hm : m < r.length - i - 1) : (liesL r i)[m]? = some (seg r i (i + (m + 1)) == seg r (r.length - (m + 1)) r.length) := by
  rw [liesL, List.getElem?_map, frs_get hm]
  show some (dm (120 :: (nameL (r.drop i) ++ dloc)) (nameL (seg r i (i + 1 + m)) ++ dloc)) = _
  have hw : (seg r i r.length).length = r.length - i := seg_length (Nat.le_refl _)
  have e0 : seg r i r.length = r.drop i := by rw [seg, List.take_of_length_le (by rw [List.length_drop]; omega)]
  have e1 : seg r i (i + (m + 1)) = (seg r i r.length).take (m + 1) := seg_take (by omega)
  have e2 : seg r (r.length - (m + 1)) r.length = (seg r i r.length).drop ((seg r i r.length).length - (m + 1)) := by rw [hw]; exact seg_drop (by omega)
  rw [show i + 1 + m = i + (m + 1) by omega, e1, e2, ← e0]
  generalize hW : seg r i r.length = w at *
  have hne : w.take (m + 1) ≠ [] := by intro e; have := congrArg List.length e; rw [List.length_take, hw] at this; simp at this; omega
  have hd : (nameL (w.take (m + 1)) ++ dloc).head? = some 46 := by
    cases hc : w.take (m + 1) with
    | nil => exact absurd hc hne
    | cons b t => rw [nameL_cons]; rfl
  unfold dm
  rw [hd, host_suffix, take_suf (by omega)]
  simp
theorem factB (r : List Bool) (i : Nat) (hi : i < r.length) : eqL (liesL r i) (bords r i r.length) = true := by
  refine eqL_of fun m a b ha hb => ?_
  have hm : m < r.length - i - 1 := by
    rcases Nat.lt_or_ge m (r.length - i - 1) with h | h
    · exact h
    · rw [List.getElem?_eq_none (by simp [liesL, frs]; omega)] at ha; cases ha
  rw [lies_get hm] at ha
  rw [bords_get hm] at hb
  cases ha; cases hb; rfl
end Mine
end

section
open PySem PySem.W PyProof.Rows PySem.SeqAt
set_option Elab.async false
namespace Mine
theorem firstAt_nil {g : List Nat} {i j : Nat} (h : i ≤ j) : firstAt g [] i j = some i := firstAt_hit (by simp [atL]) (by simpa using h)
theorem ell_front {f g : List Nat} (h : f.isEmpty = false) : ell [f, []] g = f.isPrefixOf g := by
  rw [ell, h]
  simp only [Bool.false_eq_true, if_false]
  cases hp : f.isPrefixOf g with
  | false => rfl
  | true =>
    have hl : f.length ≤ g.length := (List.isPrefixOf_iff_prefix.mp hp).length_le
    rw [Bool.true_and, ellB]
    simp only [List.getLast?_singleton, List.isEmpty_nil, if_true, run, firstAt_nil hl, Option.isSome_some, Bool.and_true]
    exact decide_eq_true hl
theorem drop_pre {w : List Bool} {k : Nat} (h : k ≤ w.length) : (w.drop (w.length - k)).isPrefixOf w = (w.take k == w.drop (w.length - k)) := by
  rw [Bool.eq_iff_iff, List.isPrefixOf_iff_prefix, List.prefix_iff_eq_take, List.length_drop, show w.length - (w.length - k) = k by omega]
  simp only [beq_iff_eq]
  exact ⟨fun h => h.symm, fun h => h.symm⟩
def beganL (r : List Bool) : List Bool := (List.range (r.length - 1)).map fun m => ell [nameL (seg r (r.length - (m + 1)) r.length), []] (nameL r)
theorem seg_all {α : Type} (r : List α) : seg r 0 r.length = r := by simp [seg]
theorem factC (r : List Bool) : eqL (beganL r) (liesL r 0) = true := by
  refine eqL_of fun m a b ha hb => ?_
  have hm : m < r.length - 0 - 1 := by
    rcases Nat.lt_or_ge m (r.length - 0 - 1) with h | h
    · exact h
    · rw [List.getElem?_eq_none (by simp [liesL, frs]; omega)] at hb; cases hb
  rw [lies_get hm] at hb
  rw [beganL, List.getElem?_map, List.getElem?_range (by omega)] at ha
  have ha := (Option.some.inj ha).symm
  have hb := (Option.some.inj hb).symm
  rw [ha, hb]
  have e1 : seg r 0 (0 + (m + 1)) = r.take (m + 1) := by rw [seg_take (j := r.length) (by omega), seg_all]
  have e2 : seg r (r.length - (m + 1)) r.length = r.drop (r.length - (m + 1)) := by rw [seg_drop (i := 0) (by omega), seg_all]; rfl
  show ell [nameL (seg r (r.length - (m + 1)) r.length), []] (nameL r) = _
  rw [e1, e2]
  have hne : r.drop (r.length - (m + 1)) ≠ [] := by intro e; have := congrArg List.length e; rw [List.length_drop] at this; simp at this; omega
  rw [ell_front (name_ne hne), name_prefix, drop_pre (by omega)]
end Mine
end

section
open PySem PySem.W PyProof.Rows PySem.SeqAt
set_option Elab.async false
namespace Mine
def bits : List Bool → Nat
  | [] => 0
  | b :: r => 2 * bits r + (if b then 1 else 0)
theorem bits_lt : ∀ r : List Bool, bits r < 2 ^ r.length
  | [] => by simp [bits]
  | b :: r => by
    have := bits_lt r
    rw [bits, List.length_cons, Nat.pow_succ]
    cases b <;> simp <;> omega
theorem bits_drop : ∀ (r : List Bool) (i : Nat), bits (r.drop i) = bits r / 2 ^ i
  | r, 0 => by simp
  | [], i + 1 => by simp [bits]
  | b :: r, i + 1 => by
    rw [List.drop_succ_cons, bits_drop r i, bits, Nat.pow_succ, Nat.mul_comm (2 ^ i) 2, ← Nat.div_div_eq_div_mul]
    congr 1
    cases b <;> simp <;> omega
theorem bits_take : ∀ (r : List Bool) (m : Nat), bits (r.take m) = bits r % 2 ^ m
  | r, 0 => by simp [bits, Nat.mod_one]
  | [], m + 1 => by simp [bits]
  | b :: r, m + 1 => by
    rw [List.take_succ_cons, bits, bits, bits_take r m, Nat.pow_succ]
    have h1 := Nat.div_add_mod (bits r) (2 ^ m)
    have h2 := Nat.mod_lt (bits r) (show 0 < 2 ^ m from Nat.pow_pos (by omega))
    have key : ∀ c, c < 2 → (2 * bits r + c) % (2 ^ m * 2) = 2 * (bits r % 2 ^ m) + c := by
      intro c hc
      conv => lhs; rw [← h1]
      rw [show 2 * (2 ^ m * (bits r / 2 ^ m) + bits r % 2 ^ m) + c = (2 * (bits r % 2 ^ m) + c) + (2 ^ m * 2) * (bits r / 2 ^ m) by rw [Nat.mul_add, Nat.mul_assoc, Nat.mul_left_comm]; omega]
      rw [Nat.add_mul_mod_self_left, Nat.mod_eq_of_lt (by omega)]
    cases b
    · exact (key 0 (by omega)).symm
    · exact (key 1 (by omega)).symm
theorem bits_inj : ∀ {a b : List Bool}, a.length = b.length → bits a = bits b → a = b
  | [], [], _, _ => rfl
  | [], _ :: _, h, _ => by simp at h
  | _ :: _, [], h, _ => by simp at h
  | x :: a, y :: b, hl, h => by
    rw [bits, bits] at h
    have hxy : x = y := by cases x <;> cases y <;> simp at h ⊢ <;> omega
    subst hxy
    rw [bits_inj (a := a) (b := b) (by simpa using hl) (by omega)]

def bordN (x i j m : Nat) : Bool := Nat.beq (Nat.mod (Nat.shiftRight x i) (Nat.pow 2 m)) (Nat.mod (Nat.shiftRight x (Nat.sub j m)) (Nat.pow 2 m))
theorem bord_link {r : List Bool} {i j m : Nat} (h : i + m ≤ j) (hj : j ≤ r.length) : (seg r i (i + m) == seg r (j - m) j) = bordN (bits r) i j m := by
  have e1 : bits (seg r i (i + m)) = Nat.mod (Nat.shiftRight (bits r) i) (Nat.pow 2 m) := by
    rw [seg, bits_take, bits_drop, Nat.add_sub_cancel_left]
    show _ = ((bits r) >>> i) % 2 ^ m
    rw [Nat.shiftRight_eq_div_pow]
  have e2 : bits (seg r (j - m) j) = Nat.mod (Nat.shiftRight (bits r) (Nat.sub j m)) (Nat.pow 2 m) := by
    rw [seg, bits_take, bits_drop, show j - (j - m) = m by omega]
    show _ = ((bits r) >>> (j - m)) % 2 ^ m
    rw [Nat.shiftRight_eq_div_pow]
  unfold bordN
  rw [← e1, ← e2, Bool.eq_iff_iff, beq_iff_eq, Nat.beq_eq]
  constructor
  · intro h; rw [h]
  · intro he
    exact bits_inj (by rw [seg_length (by omega), seg_length hj]; omega) he
def anyB (x i j : Nat) : Nat → Bool
  | 0 => false
  | m + 1 => bordN x i j (m + 1) || anyB x i j m
theorem anyB_iff {x i j : Nat} : ∀ {K : Nat}, anyB x i j K = true ↔ ∃ m, 1 ≤ m ∧ m ≤ K ∧ bordN x i j m = true
  | 0 => by simp [anyB]; omega
  | K + 1 => by
    rw [anyB, Bool.or_eq_true, anyB_iff]
    constructor
    · rintro (h | ⟨m, h1, h2, h3⟩)
      · exact ⟨K + 1, by omega, by omega, h⟩
      · exact ⟨m, h1, by omega, h3⟩
    · rintro ⟨m, h1, h2, h3⟩
      by_cases e : m = K + 1
      · subst e; exact .inl h3
      · exact .inr ⟨m, h1, by omega, h3⟩
def openN (x i j : Nat) : Bool := !(anyB x i j (Nat.div (Nat.sub j i) 2))
theorem aparts_due {r : List Bool} {i j : Nat} (hij : i < j) (hj : j ≤ r.length) : aparts r i j = dueL r i j :=
  eqL_get (factA r i j hij hj) (by simp [aparts, frs, dueL, bords])
theorem open_link {r : List Bool} {i j : Nat} (hij : i < j) (hj : j ≤ r.length) : (!(aparts r i j).any id) = openN (bits r) i j := by
  unfold openN
  congr 1
  rw [aparts_due hij hj, Bool.eq_iff_iff, anyB_iff, List.any_eq_true]
  have hdiv : Nat.div (Nat.sub j i) 2 = (j - i) / 2 := rfl
  rw [hdiv]
  constructor
  · rintro ⟨b, hb, h⟩
    obtain ⟨m, hm⟩ := List.mem_iff_getElem?.mp hb
    rw [dueL, List.getElem?_mapIdx] at hm
    have hlt : m < j - i - 1 := by
      rcases Nat.lt_or_ge m (j - i - 1) with h' | h'
      · exact h'
      · rw [List.getElem?_eq_none (by simp [bords]; omega)] at hm; cases hm
    rw [bords_get hlt, bord_link (by omega) hj] at hm
    have hm := (Option.some.inj hm).symm
    rw [hm] at h
    simp at h
    exact ⟨m + 1, by omega, by omega, h.1⟩
  · rintro ⟨m, h1, h2, h3⟩
    refine ⟨true, List.mem_iff_getElem?.mpr ⟨m - 1, ?_⟩, rfl⟩
    rw [dueL, List.getElem?_mapIdx, bords_get (by omega), show m - 1 + 1 = m by omega, bord_link (by omega) hj, h3]
    simp; omega
def stepF (n x : Nat) : Nat → Nat → Nat
  | 0, k => k
  | f + 1, k => bif bordN x 0 n (Nat.sub n k) then k else stepF n x f (Nat.succ k)
theorem stepF_spec {n x : Nat} : ∀ {f k : Nat}, k + f = n → 1 ≤ k → k ≤ stepF n x f k ∧ stepF n x f k ≤ n ∧ (stepF n x f k = n ∨ bordN x 0 n (n - stepF n x f k) = true) ∧ ∀ k', k ≤ k' → k' < stepF n x f k → bordN x 0 n (n - k') = false
  | 0, k, h, _ => by rw [stepF]; exact ⟨Nat.le_refl _, by omega, .inl (by omega), fun k' h1 h2 => by omega⟩
  | f + 1, k, h, h1 => by
    rw [stepF]
    cases hb : bordN x 0 n (Nat.sub n k) with
    | true => exact ⟨Nat.le_refl _, by simp; omega, .inr hb, fun k' h1 h2 => by simp at h2; omega⟩
    | false =>
      have ih := stepF_spec (n := n) (x := x) (f := f) (k := k + 1) (by omega) (by omega)
      refine ⟨Nat.le_trans (Nat.le_succ k) ih.1, ih.2.1, ih.2.2.1, fun k' h3 h4 => ?_⟩
      by_cases e : k' = k
      · subst e; exact hb
      · exact ih.2.2.2 k' (by omega) h4
def anyI (x L : Nat) : Nat → Bool
  | 0 => false
  | i + 1 => openN x i (Nat.add i L) || anyI x L i
theorem anyI_iff {x L : Nat} : ∀ {K : Nat}, anyI x L K = true ↔ ∃ i, i < K ∧ openN x i (i + L) = true
  | 0 => by simp [anyI]
  | K + 1 => by
    rw [anyI, Bool.or_eq_true, anyI_iff]
    constructor
    · rintro (h | ⟨i, h1, h2⟩)
      · exact ⟨K, by omega, h⟩
      · exact ⟨i, by omega, h2⟩
    · rintro ⟨i, h1, h2⟩
      by_cases e : i = K
      · subst e; exact .inl h2
      · exact .inr ⟨i, by omega, h2⟩
def mostF (n x : Nat) : Nat → Nat
  | 0 => 0
  | L + 1 => bif anyI x (L + 1) (Nat.sub n L) then L + 1 else mostF n x L
theorem mostF_spec {n x : Nat} : ∀ {K : Nat}, K ≤ n → mostF n x K ≤ K ∧ (mostF n x K = 0 ∨ ∃ i, i + mostF n x K ≤ n ∧ openN x i (i + mostF n x K) = true) ∧ ∀ L i, mostF n x K < L → L ≤ K → i + L ≤ n → openN x i (i + L) = false
  | 0, _ => by rw [mostF]; exact ⟨Nat.le_refl _, .inl rfl, fun L i h1 h2 _ => by omega⟩
  | K + 1, hK => by
    rw [mostF]
    cases hb : anyI x (K + 1) (Nat.sub n K) with
    | true =>
      obtain ⟨i, h1, h2⟩ := anyI_iff.mp hb
      have h1' : i < n - K := h1
      exact ⟨Nat.le_refl _, .inr ⟨i, by simp; omega, h2⟩, fun L i h1 h2 _ => by simp at h1; omega⟩
    | false =>
      have ih := mostF_spec (n := n) (x := x) (K := K) (by omega)
      refine ⟨Nat.le_trans ih.1 (Nat.le_succ _), ih.2.1, fun L i h1 h2 h3 => ?_⟩
      by_cases e : L = K + 1
      · subst e
        cases ho : openN x i (i + (K + 1)) with
        | false => rfl
        | true =>
          have : anyI x (K + 1) (Nat.sub n K) = true := anyI_iff.mpr ⟨i, by show i < n - K; omega, ho⟩
          rw [hb] at this; cases this
      · exact ih.2.2 L i h1 (by omega) h3
def sideF (n x mo : Nat) : Nat → Bool
  | 0 => true
  | i + 1 => (!(openN x i (Nat.add i mo)) || (Nat.blt (Nat.succ i) mo && Nat.blt (Nat.succ (Nat.sub n (Nat.add i mo))) mo)) && sideF n x mo i
theorem sideF_all {n x mo : Nat} : ∀ {K : Nat}, sideF n x mo K = true → ∀ i, i < K → openN x i (i + mo) = true → i + 1 < mo ∧ n - (i + mo) + 1 < mo
  | 0, _, i, h, _ => by omega
  | K + 1, h, i, hi, ho => by
    rw [sideF, Bool.and_eq_true] at h
    by_cases e : i = K
    · subst e
      have h1 := h.1
      have ho' : openN x i (Nat.add i mo) = true := ho
      rw [ho'] at h1
      simp only [Bool.not_true, Bool.false_or, Bool.and_eq_true, Nat.blt_eq] at h1
      exact h1
    · exact sideF_all h.2 i (by omega) ho
def fin2 (n x st mo : Nat) : Bool := Nat.ble 1 mo && (Nat.beq mo st || (Nat.blt mo st && (Nat.blt n (Nat.sub (Nat.mul 2 st) 1) && sideF n x mo (Nat.succ (Nat.sub n mo)))))
def chk (n x : Nat) : Bool := fin2 n x (stepF n x (Nat.sub n 1) 1) (mostF n x n)
def allN (f : Nat → Bool) : Nat → Nat → Bool
  | 0, _ => true
  | k + 1, x => f x && allN f k (Nat.succ x)
theorem allN_get {f : Nat → Bool} : ∀ {k x : Nat}, allN f k x = true → ∀ y, x ≤ y → y < x + k → f y = true
  | 0, x, _, y, h1, h2 => by omega
  | k + 1, x, h, y, h1, h2 => by
    rw [allN, Bool.and_eq_true] at h
    by_cases e : y = x
    · subst e; exact h.1
    · exact allN_get h.2 y (by show x + 1 ≤ y; omega) (by show y < x + 1 + k; omega)
end Mine
end

section
open PySem PySem.W PyProof.Rows PySem.SeqAt
open PySem.Builtin.Str (partsBetween occurrences subAt strSub)
set_option Elab.async false
namespace Mine
/-- a row's host -/
def hostL (r : List Bool) : List Nat := 120 :: (nameL r ++ dloc)
theorem name_inj {a b : List Bool} (h : nameL a = nameL b) : a = b := by
  have h1 := name_prefix a b
  have h2 := name_prefix b a
  rw [h] at h1 h2
  have hb : (nameL b).isPrefixOf (nameL b) = true := List.isPrefixOf_iff_prefix.mpr (List.prefix_refl _)
  rw [hb] at h1 h2
  have p1 := List.isPrefixOf_iff_prefix.mp h1.symm
  have p2 := List.isPrefixOf_iff_prefix.mp h2.symm
  exact p1.eq_of_length (Nat.le_antisymm p1.length_le p2.length_le)
theorem host_inj {a b : List Bool} (h : hostL a = hostL b) : a = b := by
  unfold hostL at h
  exact name_inj (List.append_cancel_right (List.cons.inj h).2)
theorem host_beq (a b : List Bool) : (S (hostL a) == S (hostL b)) = (a == b) := by
  rw [S_beq, Bool.eq_iff_iff, beq_iff_eq, beq_iff_eq]
  exact ⟨host_inj, fun h => h ▸ rfl⟩
theorem name_prefix_dl : ∀ (u w : List Bool), (nameL u).isPrefixOf (nameL w ++ dloc) = u.isPrefixOf w
  | [], w => by simp [nameL]
  | b :: u, [] => by rw [nameL_cons]; cases b <;> rfl
  | b :: u, d :: w => by
    rw [nameL_cons, nameL_cons]
    have ih := name_prefix_dl u w
    cases b <;> cases d <;> first | rfl | simp [lab, ih]
theorem ell_melt {w r : List Bool} (hw : w ≠ []) : ell [nameL w, dloc] (nameL r ++ dloc) = w.isPrefixOf r := by
  rw [ell, name_ne hw, name_prefix_dl]
  simp only [Bool.false_eq_true, if_false]
  cases h : w.isPrefixOf r with
  | false => rfl
  | true =>
    rw [Bool.true_and, ellB]
    have hs : dloc.isSuffixOf (nameL r ++ dloc) = true := List.isSuffixOf_iff_suffix.mpr (List.suffix_append _ _)
    have hl : (nameL w).length ≤ (nameL r).length := by
      have := name_prefix w r
      rw [h] at this
      exact (List.isPrefixOf_iff_prefix.mp this).length_le
    have he : dloc.isEmpty = false := rfl
    simp only [List.getLast?_singleton, he, Bool.false_eq_true, if_false, hs, Bool.true_and, List.dropLast_singleton, run, Option.isSome_some, Bool.and_true]
    apply decide_eq_true
    rw [List.length_append]; omega
-- counting dots
theorem occL_ch (x : List Nat) (hi lim : Nat) : ∀ (n lo free cnt : Nat), free ≤ lo → cnt + n ≤ lim →
    (occL x [46] hi lim (List.range' lo n) free cnt).length = (List.range' lo n).countP fun i => decide (i + 1 ≤ hi) && atL x [46] i
  | 0, _, _, _, _, _ => rfl
  | n + 1, lo, free, cnt, h1, h2 => by
    rw [List.range'_succ, occL, List.countP_cons]
    by_cases hc : lo + 1 ≤ hi ∧ atL x [46] lo = true
    · rw [if_pos ⟨⟨⟨by omega, h1⟩, hc.1⟩, hc.2⟩, List.length_cons, occL_ch x hi lim n (lo + 1) _ _ (by simp) (by omega), decide_eq_true hc.1, hc.2]; rfl
    · rw [if_neg (fun h => hc ⟨h.1.2, h.2⟩), occL_ch x hi lim n (lo + 1) _ _ (by omega) (by omega)]
      have : (decide (lo + 1 ≤ hi) && atL x [46] lo) = false := by
        cases hb : (decide (lo + 1 ≤ hi) && atL x [46] lo) with
        | false => rfl
        | true => simp at hb; exact absurd hb hc
      rw [this]; rfl
theorem atL_ch (x : List Nat) (i : Nat) : atL x [46] i = (x[i]? == some 46) := by
  unfold atL
  cases h : x[i]? with
  | none =>
    have hl : x.length ≤ i := List.getElem?_eq_none_iff.mp h
    rw [List.drop_of_length_le hl]; rfl
  | some c =>
    have hl : i < x.length := by
      rcases Nat.lt_or_ge i x.length with h' | h'
      · exact h'
      · rw [List.getElem?_eq_none h'] at h; cases h
    rw [List.drop_eq_getElem_cons hl]
    rw [List.getElem?_eq_getElem hl] at h
    rw [Option.some.inj h]
    show ([c] == [46]) = _
    rw [Bool.eq_iff_iff]; simp
theorem countP_range (x : List Nat) : (List.range x.length).countP (fun i => x[i]? == some 46) = x.count 46 := by
  induction x with
  | nil => rfl
  | cons c x ih =>
    rw [List.length_cons, List.range_succ_eq_map, List.countP_cons, List.countP_map, List.count_cons]
    have e : (List.range x.length).countP ((fun i => (c :: x)[i]? == some 46) ∘ Nat.succ) = x.count 46 := by
      rw [← ih]; congr 1
    rw [e]
    simp
theorem count_dot (x : List Nat) : Txt.count (S x) (S [46]) = (x.count 46 : Nat) := by
  unfold Txt.count
  rw [occ_S, S_len, occL_ch _ _ _ _ _ _ _ (Nat.le_refl _) (by omega)]
  congr 1
  rw [Nat.sub_zero, ← countP_range, ← List.range_eq_range', List.range_succ, List.countP_append, List.countP_singleton, decide_eq_false (by omega)]
  simp only [Bool.false_and, Bool.false_eq_true, if_false, Nat.add_zero]
  apply List.countP_congr
  intro i hi
  rw [List.mem_range] at hi
  rw [atL_ch, decide_eq_true (by omega : i + 1 ≤ x.length), Bool.true_and]
theorem count_name (r : List Bool) : (nameL r).count 46 = r.length := by
  induction r with
  | nil => rfl
  | cons b r ih =>
    rw [nameL_cons, List.count_cons, List.count_append, ih, List.length_cons]
    cases b <;> simp [lab]
theorem count_host (r : List Bool) : (hostL r).count 46 = r.length + 1 := by
  unfold hostL
  rw [List.count_cons, List.count_append, count_name]; rfl
/-- a row without some of its labels -/
def cut (r : List Bool) (k n : Nat) : List Bool := r.take k ++ r.drop (k + n)
theorem host_cut (r : List Bool) {k n : Nat} (h : k ≤ r.length) : sl (hostL r) none (some (((hostL r).length : Int) - ((nameL (r.drop k) ++ dloc).length : Int))) ++ (nameL (r.drop (k + n)) ++ dloc) = hostL (cut r k n) := by
  have e : hostL r = (120 :: nameL (r.take k)) ++ (nameL (r.drop k) ++ dloc) := by
    unfold hostL
    rw [List.cons_append, ← List.append_assoc, ← nameL_append, List.take_append_drop]
  have el : ((hostL r).length : Int) - ((nameL (r.drop k) ++ dloc).length : Int) = ((120 :: nameL (r.take k)).length : Nat) := by
    rw [e, List.length_append (as := 120 :: nameL (r.take k))]; omega
  rw [el, e, sl_to (by rw [List.length_append]; omega), List.take_left]
  unfold hostL cut
  rw [nameL_append, List.append_assoc]; rfl
theorem abc_hostL (r : List Bool) : Abc (hostL r) := abc_host r
theorem hostL_le (r : List Bool) : (hostL r).length ≤ 3 * r.length + 7 := by
  have := nameL_le r
  unfold hostL
  rw [List.length_cons, List.length_append]; simp only [List.length_cons, List.length_nil]; omega
end Mine
end

section
set_option Elab.async false
namespace Mine
def occs (w r : List Bool) : List Nat := (List.range r.length).filter fun k => w.isPrefixOf (r.drop k)
def outs (w r : List Bool) : List (List Bool) := (occs w r).map fun k => cut r k w.length
def addOne (rows : List (List Bool)) (x : List Bool) : List (List Bool) := if rows.any (fun y => y == x) then rows else rows ++ [x]
def addAll (rows l : List (List Bool)) : List (List Bool) := l.foldl addOne rows
def turn (w : List Bool) (i : Nat) (p : List (List Bool) × List (List Bool)) : List (List Bool) × List (List Bool) := match p.1[i]? with
  | none => p
  | some one => (addAll p.1 (outs w one), if (outs w one).isEmpty then p.2 ++ [one] else p.2)
/-- behind i turns: all rows that came, the ends -/
def bst (w r : List Bool) : Nat → List (List Bool) × List (List Bool)
  | 0 => ([r], [])
  | i + 1 => turn w i (bst w r i)
theorem any_beq {rows : List (List Bool)} {x : List Bool} : (rows.any fun y => y == x) = true ↔ x ∈ rows := by
  rw [List.any_eq_true]
  exact ⟨fun ⟨y, h1, h2⟩ => (eq_of_beq h2) ▸ h1, fun h => ⟨x, h, by simp⟩⟩
theorem addOne_pre (rows : List (List Bool)) (x : List Bool) : rows <+: addOne rows x := by
  unfold addOne; split
  · exact List.prefix_refl _
  · exact List.prefix_append _ _
theorem addOne_mem {rows : List (List Bool)} {x y : List Bool} : y ∈ addOne rows x ↔ y ∈ rows ∨ y = x := by
  unfold addOne; split
  · rename_i h
    have := any_beq.mp h
    exact ⟨.inl, fun h => h.elim id fun e => e ▸ this⟩
  · simp
theorem addOne_nodup {rows : List (List Bool)} {x : List Bool} (h : rows.Nodup) : (addOne rows x).Nodup := by
  unfold addOne; split
  · exact h
  · rename_i hn
    have : x ∉ rows := fun hx => hn (any_beq.mpr hx)
    rw [List.nodup_append]
    refine ⟨h, by simp, fun a ha b hb => ?_⟩
    rw [List.mem_singleton.mp hb]
    exact fun e => this (e ▸ ha)
theorem addAll_pre : ∀ (l rows : List (List Bool)), rows <+: addAll rows l
  | [], rows => List.prefix_refl _
  | x :: l, rows => (addOne_pre rows x).trans (addAll_pre l (addOne rows x))
theorem addAll_mem {y : List Bool} : ∀ {l rows : List (List Bool)}, y ∈ addAll rows l ↔ y ∈ rows ∨ y ∈ l
  | [], rows => by simp [addAll]
  | x :: l, rows => by
    show y ∈ addAll (addOne rows x) l ↔ _
    rw [addAll_mem, addOne_mem, List.mem_cons, or_assoc]
theorem addAll_nodup : ∀ {l rows : List (List Bool)}, rows.Nodup → (addAll rows l).Nodup
  | [], _, h => h
  | x :: l, rows, h => addAll_nodup (l := l) (addOne_nodup h)
theorem addAll_take (rows l : List (List Bool)) (j : Nat) (x : List Bool) (h : l[j]? = some x) : addAll rows (l.take (j + 1)) = addOne (addAll rows (l.take j)) x := by
  unfold addAll
  rw [List.take_add_one, h, List.foldl_append]; rfl
theorem turn_pre (w : List Bool) (i : Nat) (p : List (List Bool) × List (List Bool)) : p.1 <+: (turn w i p).1 := by
  unfold turn
  cases p.1[i]? with
  | none => exact List.prefix_refl _
  | some one => exact addAll_pre _ _
theorem bst_pre (w r : List Bool) (i : Nat) : ∀ k, (bst w r i).1 <+: (bst w r (i + k)).1
  | 0 => List.prefix_refl _
  | k + 1 => (bst_pre w r i k).trans (turn_pre w (i + k) (bst w r (i + k)))
theorem bst_le (w r : List Bool) {i j : Nat} (h : i ≤ j) : (bst w r i).1 <+: (bst w r j).1 := by
  obtain ⟨k, rfl⟩ : ∃ k, j = i + k := ⟨j - i, by omega⟩
  exact bst_pre w r i k
theorem bst_nodup (w r : List Bool) : ∀ i, (bst w r i).1.Nodup
  | 0 => by simp [bst]
  | i + 1 => by
    have ih := bst_nodup w r i
    show (turn w i (bst w r i)).1.Nodup
    unfold turn
    cases (bst w r i).1[i]? with
    | none => exact ih
    | some one => exact addAll_nodup ih
theorem cut_len {r : List Bool} {k n : Nat} (h : k + n ≤ r.length) : (cut r k n).length = r.length - n := by
  rw [cut, List.length_append, List.length_take, List.length_drop]; omega
theorem mem_occs {w r : List Bool} {k : Nat} : k ∈ occs w r ↔ k < r.length ∧ w <+: r.drop k := by
  rw [occs, List.mem_filter, List.mem_range, List.isPrefixOf_iff_prefix]
theorem occ_fit {w r : List Bool} {k : Nat} (h : k ∈ occs w r) : k + w.length ≤ r.length := by
  obtain ⟨h1, h2⟩ := mem_occs.mp h
  have := h2.length_le
  rw [List.length_drop] at this; omega
theorem mem_outs {w r x : List Bool} : x ∈ outs w r ↔ ∃ k, k ∈ occs w r ∧ x = cut r k w.length := by
  rw [outs, List.mem_map]
  exact ⟨fun ⟨k, h1, h2⟩ => ⟨k, h1, h2.symm⟩, fun ⟨k, h1, h2⟩ => ⟨k, h1, h2.symm⟩⟩
theorem outs_len {w r x : List Bool} (h : x ∈ outs w r) : x.length + w.length = r.length := by
  obtain ⟨k, h1, rfl⟩ := mem_outs.mp h
  have := occ_fit h1
  rw [cut_len this]; omega
/-- what holds of the first row and goes on holding -/
theorem bst_inv {w r : List Bool} {P : List Bool → Prop} (h0 : P r) (hs : ∀ x, P x → ∀ y, y ∈ outs w x → P y) : ∀ i, ∀ x ∈ (bst w r i).1, P x
  | 0, x, hx => by rw [List.mem_singleton.mp hx]; exact h0
  | i + 1, x, hx => by
    have ih := bst_inv h0 hs i
    have hx : x ∈ (turn w i (bst w r i)).1 := hx
    unfold turn at hx
    cases e : (bst w r i).1[i]? with
    | none => rw [e] at hx; exact ih x hx
    | some one =>
      rw [e] at hx
      rcases addAll_mem.mp hx with h | h
      · exact ih x h
      · exact hs one (ih one (List.mem_of_getElem? e)) x h
theorem bst_len {w r : List Bool} (i : Nat) : ∀ x ∈ (bst w r i).1, x.length ≤ r.length :=
  bst_inv (P := fun x => x.length ≤ r.length) (Nat.le_refl _) (fun x hx y hy => by have := outs_len hy; omega) i
structure Bfs (w r : List Bool) (N : Nat) : Prop where
  go : ∀ i, i < N → i < (bst w r i).1.length
  stop : (bst w r N).1.length ≤ N
  most : N ≤ 5000
theorem Bfs.le {w r : List Bool} {N : Nat} (h : Bfs w r N) {i : Nat} (hi : i ≤ N) : (bst w r i).1.length ≤ 5000 :=
  Nat.le_trans (bst_le w r hi).length_le (Nat.le_trans h.stop h.most)
/-- the row of turn i -/
theorem Bfs.row {w r : List Bool} {N : Nat} (h : Bfs w r N) {i : Nat} (hi : i < N) : ∃ one, (bst w r i).1[i]? = some one ∧ (bst w r N).1[i]? = some one := by
  have hlt := h.go i hi
  refine ⟨(bst w r i).1[i], List.getElem?_eq_getElem hlt, ?_⟩
  obtain ⟨t, ht⟩ := bst_le w r (Nat.le_of_lt hi)
  rw [← ht, List.getElem?_append_left hlt, List.getElem?_eq_getElem hlt]
theorem Bfs.ends {w r : List Bool} {N : Nat} (h : Bfs w r N) : ∀ i, i ≤ N → (bst w r i).2 = ((bst w r N).1.take i).filter fun x => (outs w x).isEmpty
  | 0, _ => rfl
  | i + 1, hi => by
    obtain ⟨one, h1, h2⟩ := h.row (i := i) hi
    have ih := h.ends i (by omega)
    have e : (bst w r (i + 1)).2 = (turn w i (bst w r i)).2 := rfl
    rw [e, turn, h1, List.take_add_one, h2, List.filter_append]
    show (if (outs w one).isEmpty then (bst w r i).2 ++ [one] else (bst w r i).2) = _
    rw [ih]
    cases hb : (outs w one).isEmpty <;> simp [hb]
theorem Bfs.closed {w r : List Bool} {N : Nat} (h : Bfs w r N) : ∀ x ∈ (bst w r N).1, ∀ y ∈ outs w x, y ∈ (bst w r N).1 := by
  intro x hx y hy
  obtain ⟨i, hi⟩ := List.mem_iff_getElem?.mp hx
  have hlt : i < N := by
    rcases Nat.lt_or_ge i (bst w r N).1.length with h' | h'
    · have := h.stop; omega
    · rw [List.getElem?_eq_none h'] at hi; cases hi
  obtain ⟨one, h1, h2⟩ := h.row hlt
  rw [hi] at h2
  cases h2
  refine (bst_le w r (show i + 1 ≤ N from hlt)).subset ?_
  show y ∈ (turn w i (bst w r i)).1
  rw [turn, h1]
  exact addAll_mem.mpr (.inr hy)
theorem Bfs.all {w r : List Bool} {N : Nat} (h : Bfs w r N) : (bst w r N).2 = (bst w r N).1.filter fun x => (outs w x).isEmpty := by
  rw [h.ends N (Nat.le_refl _), List.take_of_length_le h.stop]
/-- there is an end -/
theorem Bfs.some {w r : List Bool} {N : Nat} (h : Bfs w r N) (hw : 1 ≤ w.length) : ∃ x, x ∈ (bst w r N).2 := by
  rw [h.all]
  have hr : r ∈ (bst w r N).1 := (bst_le w r (Nat.zero_le N)).subset (by simp [bst])
  have key : ∀ n, ∀ x ∈ (bst w r N).1, x.length ≤ n → ∃ y, y ∈ (bst w r N).1.filter fun x => (outs w x).isEmpty := by
    intro n
    induction n with
    | zero =>
      intro x hx hl
      refine ⟨x, List.mem_filter.mpr ⟨hx, ?_⟩⟩
      cases e : outs w x with
      | nil => rfl
      | cons y l =>
        have := outs_len (w := w) (r := x) (x := y) (by rw [e]; exact .head _)
        omega
    | succ n ih =>
      intro x hx hl
      cases e : outs w x with
      | nil => exact ⟨x, List.mem_filter.mpr ⟨hx, by rw [e]; rfl⟩⟩
      | cons y l =>
        have hy : y ∈ outs w x := by rw [e]; exact .head _
        have := outs_len hy
        exact ih y (h.closed x hx y hy) (by omega)
  exact key _ r hr (Nat.le_refl _)
theorem Bfs.nodup {w r : List Bool} {N : Nat} (h : Bfs w r N) : (bst w r N).2.Nodup := by
  rw [h.all]; exact (bst_nodup w r N).filter _
end Mine
end

section
set_option Elab.async false
namespace Mine
-- how many rows may come
def allL : Nat → List (List Bool)
  | 0 => [[]]
  | n + 1 => [] :: (allL n).flatMap fun x => [true :: x, false :: x]
theorem mem_allL : ∀ {n : Nat} {x : List Bool}, x.length ≤ n → x ∈ allL n
  | 0, [], _ => by simp [allL]
  | 0, _ :: _, h => by simp at h
  | n + 1, [], _ => by simp [allL]
  | n + 1, b :: x, h => by
    have ih := mem_allL (n := n) (x := x) (by simpa using h)
    rw [allL]
    refine .tail _ (List.mem_flatMap.mpr ⟨x, ih, ?_⟩)
    cases b <;> simp
theorem flat2 {α β : Type} (f g : α → β) (l : List α) : (l.flatMap fun x => [f x, g x]).length = 2 * l.length := by
  induction l with
  | nil => rfl
  | cons a l ih => rw [List.flatMap_cons, List.length_append, ih, List.length_cons]; simp; omega
theorem allL_len : ∀ n, (allL n).length + 1 = 2 ^ (n + 1)
  | 0 => rfl
  | n + 1 => by
    have ih := allL_len n
    rw [allL, List.length_cons, flat2, Nat.pow_succ]
    omega
theorem bfs_of {w r : List Bool} {B : Nat} (hB : B ≤ 5000) (h : ∀ i, (bst w r i).1.length ≤ B) : ∃ N, Bfs w r N ∧ N ≤ B := by
  have key : ∀ k, (∀ i, i < k → i < (bst w r i).1.length) ∨ ∃ N, N < k ∧ Bfs w r N := by
    intro k
    induction k with
    | zero => exact .inl fun i h => absurd h (Nat.not_lt_zero i)
    | succ k ih =>
      rcases ih with ih | ⟨N, h1, h2⟩
      · by_cases hk : k < (bst w r k).1.length
        · refine .inl fun i hi => ?_
          rcases Nat.lt_or_ge i k with h' | h'
          · exact ih i h'
          · have : i = k := by omega
            rw [this]; exact hk
        · refine .inr ⟨k, Nat.lt_succ_self k, ih, by omega, ?_⟩
          rcases Nat.eq_zero_or_pos k with h0 | h0
          · omega
          · have := ih (k - 1) (by omega)
            have := h (k - 1)
            omega
      · exact .inr ⟨N, by omega, h2⟩
  rcases key (B + 1) with h1 | ⟨N, h1, h2⟩
  · have := h1 B (Nat.lt_succ_self B)
    have := h B
    omega
  · exact ⟨N, h2, by omega⟩
theorem bfs_ten {w r : List Bool} (hr : r.length ≤ 10) : ∃ N, Bfs w r N := by
  obtain ⟨N, h, _⟩ := bfs_of (w := w) (r := r) (B := 2047) (by omega) fun i => by
    have h1 := List.Nodup.length_le_of_subset (bst_nodup w r i) (l₂ := allL 10) fun x hx => mem_allL (Nat.le_trans (bst_len i x hx) hr)
    have h2 := allL_len 10
    omega
  exact ⟨N, h⟩
theorem outs_few (w r : List Bool) : (outs w r).length ≤ r.length := by
  rw [outs, List.length_map, occs]
  exact Nat.le_trans (List.length_filter_le _ _) (by rw [List.length_range]; exact Nat.le_refl _)
/-- a rule of three labels or more: few rows -/
theorem few_rows {w r : List Bool} (hw : 3 ≤ w.length) (hr : r.length ≤ 10) (i : Nat) : (bst w r i).1.length ≤ 42 := by
  have hin : ∀ x ∈ (bst w r i).1, x = r ∨ x ∈ outs w r ∨ x.length ≤ 4 := bst_inv (P := fun x => x = r ∨ x ∈ outs w r ∨ x.length ≤ 4) (.inl rfl) (fun x hx y hy => by
    have hy' := outs_len hy
    rcases hx with rfl | hx | hx
    · exact .inr (.inl hy)
    · have := outs_len hx
      exact .inr (.inr (by omega))
    · exact .inr (.inr (by omega))) i
  have h1 := List.Nodup.length_le_of_subset (bst_nodup w r i) (l₂ := r :: (outs w r ++ allL 4)) fun x hx => by
    rcases hin x hx with h | h | h
    · rw [h]; exact .head _
    · exact .tail _ (List.mem_append.mpr (.inl h))
    · exact .tail _ (List.mem_append.mpr (.inr (mem_allL h)))
  have h2 := allL_len 4
  have h3 := outs_few w r
  rw [List.length_cons, List.length_append] at h1
  omega
-- the pile
def pstep (w p : List Bool) (l : Bool) : List Bool := if (p ++ [l]).drop ((p ++ [l]).length - w.length) == w then (p ++ [l]).take ((p ++ [l]).length - w.length) else p ++ [l]
def pile (w r : List Bool) : List Bool := r.foldl (pstep w) []
def rstep (wr : List Bool) (n : Nat) (st : List Bool) (l : Bool) : List Bool := if wr.isPrefixOf (l :: st) then (l :: st).drop n else l :: st
def rpush (wr : List Bool) (n : Nat) (st u : List Bool) : List Bool := u.foldl (rstep wr n) st
def chkC (w wr : List Bool) (n : Nat) : Nat → List Bool → Bool
  | 0, st => rpush wr n st w == st
  | d + 1, st => (rpush wr n st w == st) && (chkC w wr n d (rstep wr n st true) && chkC w wr n d (rstep wr n st false))
theorem chkC_get {w wr : List Bool} {n : Nat} : ∀ {d : Nat} {st u : List Bool}, chkC w wr n d st = true → u.length ≤ d → rpush wr n (rpush wr n st u) w = rpush wr n st u
  | 0, st, [], h, _ => eq_of_beq h
  | 0, st, _ :: _, _, h => by simp at h
  | d + 1, st, [], h, _ => by
    rw [chkC, Bool.and_eq_true] at h
    exact eq_of_beq h.1
  | d + 1, st, b :: u, h, hl => by
    rw [chkC, Bool.and_eq_true, Bool.and_eq_true] at h
    have hl' : u.length ≤ d := by simpa using hl
    cases b with
    | true => exact chkC_get (d := d) (st := rstep wr n st true) (u := u) h.2.1 hl'
    | false => exact chkC_get (d := d) (st := rstep wr n st false) (u := u) h.2.2 hl'
theorem step_rev (w st : List Bool) (l : Bool) : pstep w st.reverse l = (rstep w.reverse w.length st l).reverse := by
  unfold pstep rstep
  have e : st.reverse ++ [l] = (l :: st).reverse := by simp
  rw [e]
  have h1 : ((l :: st).reverse.drop ((l :: st).reverse.length - w.length) == w) = w.reverse.isPrefixOf (l :: st) := by
    have h2 : w.reverse.isPrefixOf (l :: st) = w.isSuffixOf (l :: st).reverse := by
      rw [suf_revB, List.reverse_reverse]
    rw [h2, Bool.eq_iff_iff, beq_iff_eq, List.isSuffixOf_iff_suffix, List.suffix_iff_eq_drop]
    exact ⟨fun h => h.symm, fun h => h.symm⟩
  rw [h1]
  split
  · rw [List.length_reverse, List.reverse_drop]
  · rfl
theorem fold_rev (w : List Bool) : ∀ (u st : List Bool), u.foldl (pstep w) st.reverse = (rpush w.reverse w.length st u).reverse
  | [], st => rfl
  | b :: u, st => by
    rw [List.foldl_cons, step_rev, fold_rev w u]; rfl
theorem pile_rev (w r : List Bool) : pile w r = (rpush w.reverse w.length [] r).reverse := fold_rev w r []
theorem rpush_append (wr : List Bool) (n : Nat) (st u v : List Bool) : rpush wr n st (u ++ v) = rpush wr n (rpush wr n st u) v := List.foldl_append ..
/-- the order does not matter -/
def Cfl (w : List Bool) : Prop := chkC w w.reverse w.length (10 - w.length) [] = true
theorem pile_out {w x y : List Bool} (hc : Cfl w) (hx : x.length ≤ 10) (hy : y ∈ outs w x) : pile w y = pile w x := by
  obtain ⟨k, hk, rfl⟩ := mem_outs.mp hy
  have hfit := occ_fit hk
  obtain ⟨h1, t, ht⟩ := mem_occs.mp hk
  have e1 : x = x.take k ++ (w ++ t) := by rw [ht, List.take_append_drop]
  have e2 : cut x k w.length = x.take k ++ t := by
    rw [cut, ← List.drop_drop, ← ht, List.drop_left]
  have hget := chkC_get (u := x.take k) hc (by rw [List.length_take]; omega)
  rw [e2, pile_rev, pile_rev]
  congr 1
  conv => rhs; rw [e1]
  rw [rpush_append, rpush_append, rpush_append, hget]
theorem pile_end {w x : List Bool} (hw : 1 ≤ w.length) (he : outs w x = []) : pile w x = x := by
  have key : ∀ p t, p ++ t = x → pile w p = p → ∀ l t', t = l :: t' → pile w (p ++ [l]) = p ++ [l] := by
    intro p t hpt hp l t' ht
    rw [pile, List.foldl_append]
    show pstep w (pile w p) l = _
    rw [hp]
    unfold pstep
    rw [if_neg]
    intro hd
    have hd := eq_of_beq hd
    have hl : w.length ≤ (p ++ [l]).length := by
      have := congrArg List.length hd
      rw [List.length_drop] at this; omega
    have hl2 : (p ++ [l]).length = p.length + 1 := by simp
    have hxl : x.length = p.length + 1 + t'.length := by rw [← hpt, ht]; simp; omega
    have hx : x = (p ++ [l]) ++ t' := by rw [← hpt, ht]; simp
    have hm : (p ++ [l]).length - w.length ∈ occs w x := by
      refine mem_occs.mpr ⟨by omega, ?_⟩
      rw [hx, List.drop_append_of_le_length (by omega), hd]
      exact List.prefix_append _ _
    have : cut x ((p ++ [l]).length - w.length) w.length ∈ outs w x := mem_outs.mpr ⟨_, hm, rfl⟩
    rw [he] at this; cases this
  have all : ∀ t p, p ++ t = x → pile w p = p → pile w x = x := by
    intro t
    induction t with
    | nil => intro p h1 h2; rw [List.append_nil] at h1; rw [← h1]; exact h2
    | cons l t ih =>
      intro p h1 h2
      exact ih (p ++ [l]) (by rw [← h1]; simp) (key p (l :: t) h1 h2 l t rfl)
  exact all x [] rfl rfl
theorem one_end {w r : List Bool} {N : Nat} (h : Bfs w r N) (hc : Cfl w) (hw : 1 ≤ w.length) (hr : r.length ≤ 10) : (bst w r N).2 = [pile w r] := by
  have hp : ∀ x ∈ (bst w r N).1, x.length ≤ 10 ∧ pile w x = pile w r := bst_inv (P := fun x => x.length ≤ 10 ∧ pile w x = pile w r) ⟨hr, rfl⟩ (fun x hx y hy => ⟨by have := outs_len hy; omega, (pile_out hc hx.1 hy).trans hx.2⟩) N
  have he : ∀ x ∈ (bst w r N).2, x = pile w r := by
    intro x hx
    rw [h.all] at hx
    obtain ⟨h1, h2⟩ := List.mem_filter.mp hx
    have := pile_end hw (List.isEmpty_iff.mp h2)
    rw [← (hp x h1).2, this]
  obtain ⟨x, hx⟩ := h.some hw
  have hnd := h.nodup
  generalize (bst w r N).2 = l at he hx hnd
  match l, he, hx, hnd with
  | [y], he, _, _ => rw [he y (.head _)]
  | y :: z :: l, he, _, hnd =>
    exfalso
    have h1 := he y (.head _)
    have h2 := he z (.tail _ (.head _))
    rw [List.nodup_cons] at hnd
    exact hnd.1 (by rw [h1, h2]; exact .head _)
-- the search, reckoned once
def fin (w : List Bool) : Nat → Nat → List (List Bool) × List (List Bool) → Option (Nat × List (List Bool) × List (List Bool))
  | 0, _, _ => none
  | f + 1, i, p => if Nat.ble p.1.length i then some (i, p) else fin w f (Nat.succ i) (turn w i p)
theorem fin_spec {w r : List Bool} : ∀ {f i N : Nat} {p : List (List Bool) × List (List Bool)}, fin w f i (bst w r i) = some (N, p) →
    p = bst w r N ∧ i ≤ N ∧ N < i + f ∧ (∀ j, i ≤ j → j < N → j < (bst w r j).1.length) ∧ (bst w r N).1.length ≤ N
  | 0, _, _, _, h => by cases h
  | f + 1, i, N, p, h => by
    rw [fin] at h
    cases hb : Nat.ble (bst w r i).1.length i with
    | true =>
      rw [hb, if_pos rfl] at h
      cases h
      exact ⟨rfl, Nat.le_refl _, by omega, fun j h1 h2 => by omega, Nat.le_of_ble_eq_true hb⟩
    | false =>
      rw [hb, if_neg (by simp)] at h
      have hlt : i < (bst w r i).1.length := by
        rcases Nat.lt_or_ge i (bst w r i).1.length with h' | h'
        · exact h'
        · rw [Nat.ble_eq_true_of_le h'] at hb; cases hb
      have h : fin w f (i + 1) (bst w r (i + 1)) = some (N, p) := h
      obtain ⟨h1, h2, h3, h4, h5⟩ := fin_spec h
      refine ⟨h1, by omega, by omega, fun j h6 h7 => ?_, h5⟩
      rcases Nat.eq_or_lt_of_le h6 with e | e
      · rw [← e]; exact hlt
      · exact h4 j e h7
end Mine
end

section
set_option Elab.async false
namespace Mine
def ruleN (m : Nat) : List Bool := (List.range (Nat.log2 m)).map fun j => (m / 2 ^ j) % 2 == 1
def ruleOf (x : Int) : List Bool := ruleN ((x.fmod 124).toNat + 4)
/-- the places of True, from 1 on -/
def mulsF : List Bool → Nat → List Int
  | [], _ => []
  | b :: l, i => if b then ((i : Int) + 1) :: mulsF l (i + 1) else mulsF l (i + 1)
def rootI (w : List Bool) : Int := least ((w.length : Int) :: mulsF (dueL w 0 w.length) 0)
def rootN (w : List Bool) : Nat := (rootI w).toNat
def matchB (w : List Bool) (rt : Nat) : Bool := if w.length / rt = 1 then nameL (w.take rt) == nameL w else ell (List.replicate (w.length / rt) (nameL (w.take rt))) (nameL w)
def madeB (w : List Bool) : Bool := decide (w.length % rootN w = 0) && matchB w (rootN w)
def knot (w : List Bool) : List Bool := w ++ w.drop (rootN w)
def chkT (w : List Bool) : Option (Nat × List (List Bool) × List (List Bool)) → Bool
  | none => false
  | some (N, p) => decide (p.2.length < 64) && ((decide (p.2.length = 1) == madeB w) && (p.2.any (fun y => y == w.drop (rootN w)) && p.2.any (fun y => y == w.take (w.length - rootN w))))
def chkR (w : List Bool) : Bool :=
  decide (2 ≤ w.length) && (decide (w.length ≤ 6) && (decide (1 ≤ rootN w) && (decide (rootN w ≤ w.length) && (decide (rootI w = (rootN w : Int)) &&
  (((w.drop (rootN w) == w.take (w.length - rootN w)) == madeB w) && ((!madeB w || chkC w w.reverse w.length (10 - w.length) []) && ((decide (3 ≤ w.length) || madeB w) && chkT w (fin w 100 0 ([knot w], [])))))))))
structure RuleOk (w : List Bool) : Prop where
  lo : 2 ≤ w.length
  hi : w.length ≤ 6
  rlo : 1 ≤ rootN w
  rhi : rootN w ≤ w.length
  root : rootI w = (rootN w : Int)
  half : (w.drop (rootN w) == w.take (w.length - rootN w)) = madeB w
  cfl : madeB w = true → Cfl w
  three : madeB w = false → 3 ≤ w.length
  knot : ∃ N, Bfs w (knot w) N ∧ (bst w (Mine.knot w) N).2.length < 64 ∧ decide ((bst w (Mine.knot w) N).2.length = 1) = madeB w ∧ w.drop (rootN w) ∈ (bst w (Mine.knot w) N).2 ∧ w.take (w.length - rootN w) ∈ (bst w (Mine.knot w) N).2
theorem ruleOk_of {w : List Bool} (h : chkR w = true) : RuleOk w := by
  unfold chkR at h
  simp only [Bool.and_eq_true, decide_eq_true_eq] at h
  obtain ⟨h1, h2, h3, h4, h5, h6, h7, h8, h9⟩ := h
  refine ⟨h1, h2, h3, h4, h5, eq_of_beq h6, fun hm => ?_, fun hm => ?_, ?_⟩
  · rw [hm] at h7; unfold Cfl; simpa using h7
  · rw [hm] at h8; simpa using h8
  · cases e : fin w 100 0 ([knot w], []) with
    | none => rw [e] at h9; cases h9
    | some q =>
      obtain ⟨N, p⟩ := q
      rw [e] at h9
      obtain ⟨rfl, k2, k3, k4, k5⟩ := fin_spec (w := w) (r := knot w) (i := 0) e
      simp only [chkT, Bool.and_eq_true, decide_eq_true_eq] at h9
      obtain ⟨g1, g2, g3, g4⟩ := h9
      exact ⟨N, ⟨fun i hi => k4 i (Nat.zero_le i) hi, k5, by omega⟩, g1, eq_of_beq g2, any_beq.mp g3, any_beq.mp g4⟩
def chkM (m : Nat) : Bool := chkR (ruleN m)
set_option maxRecDepth 10000
theorem chkM1 : allN chkM 12 4 = true := by decide +kernel
theorem chkM2 : allN chkM 16 16 = true := by decide +kernel
theorem chkM3 : allN chkM 16 32 = true := by decide +kernel
theorem chkM4 : allN chkM 16 48 = true := by decide +kernel
theorem chkM5 : allN chkM 16 64 = true := by decide +kernel
theorem chkM6 : allN chkM 16 80 = true := by decide +kernel
theorem chkM7 : allN chkM 16 96 = true := by decide +kernel
theorem chkM8 : allN chkM 16 112 = true := by decide +kernel
theorem chkM_all {m : Nat} (h1 : 4 ≤ m) (h2 : m < 128) : chkM m = true := by
  by_cases a1 : m < 16
  · exact allN_get chkM1 m (by omega) (by omega)
  by_cases a2 : m < 32
  · exact allN_get chkM2 m (by omega) (by omega)
  by_cases a3 : m < 48
  · exact allN_get chkM3 m (by omega) (by omega)
  by_cases a4 : m < 64
  · exact allN_get chkM4 m (by omega) (by omega)
  by_cases a5 : m < 80
  · exact allN_get chkM5 m (by omega) (by omega)
  by_cases a6 : m < 96
  · exact allN_get chkM6 m (by omega) (by omega)
  by_cases a7 : m < 112
  · exact allN_get chkM7 m (by omega) (by omega)
  exact allN_get chkM8 m (by omega) (by omega)
theorem rule_small (x : Int) : 4 ≤ (x.fmod 124).toNat + 4 ∧ (x.fmod 124).toNat + 4 < 128 := by
  have h1 : 0 ≤ x.fmod 124 := Int.fmod_nonneg_of_pos x (by omega)
  have h2 : x.fmod 124 < 124 := Int.fmod_lt_of_pos x (by omega)
  omega
theorem rule_ok (x : Int) : RuleOk (ruleOf x) := ruleOk_of (chkM_all (rule_small x).1 (rule_small x).2)
end Mine
end

section
open PySem PySem.W PyProof.Rows PySem.SeqAt
open PySem.Builtin.Str (partsBetween occurrences)
set_option Elab.async false
set_option maxRecDepth 100000
namespace Mine

abbrev T2 : List Stmt := PySem.Challenge.pw_qc0008_02.main.body

theorem fn_hdn {c : Cx} {A : Around} {x : List Nat} (h : FnAt c (defAt T2 3)) (hp : PatAt c) (room : Rm A 1) (hx : NoDig x) (hsz : x.length ≤ 1000) :
    Fn c A (defAt T2 3).name [.d (.str (S x))] (.d (.bool (hdn x))) := by
  refine Fn.at [Str.ofString "text"] h room (by (intro pm code doc vs hv; exact match vs, hv with | [_], _ => rfl)) rfl (by decide) (by (intro pm code doc n hn L a; revert n; refine (kindsOk (names := [])).mpr ?_; first | exact ⟨.inl rfl, trivial⟩ | exact ⟨.inl rfl, .inl rfl, trivial⟩ | exact ⟨.inl rfl, .inl rfl, .inl rfl, trivial⟩ | exact ⟨.inr ⟨rfl, rfl⟩, trivial⟩ | exact ⟨.inl rfl, .inr ⟨rfl, rfl⟩, trivial⟩ | exact ⟨.inr ⟨rfl, rfl⟩, .inl rfl, trivial⟩ | exact ⟨.inr ⟨rfl, rfl⟩, .inr ⟨rfl, rfl⟩, trivial⟩ | exact ⟨.inr ⟨rfl, rfl⟩, .inr ⟨rfl, rfl⟩, .inr ⟨rfl, rfl⟩, trivial⟩ | exact ⟨.inr ⟨rfl, rfl⟩, .inr ⟨rfl, rfl⟩, .inl rfl, trivial⟩ | exact ⟨.inr ⟨rfl, rfl⟩, .inl rfl, .inl rfl, trivial⟩ | exact ⟨.inr ⟨rfl, rfl⟩, .inl rfl, .inr ⟨rfl, rfl⟩, trivial⟩ | exact ⟨.inl rfl, .inl rfl, .inr ⟨rfl, rfl⟩, trivial⟩ | exact ⟨.inl rfl, .inr ⟨rfl, rfl⟩, .inl rfl, trivial⟩ | exact ⟨.inl rfl, .inr ⟨rfl, rfl⟩, .inr ⟨rfl, rfl⟩, trivial⟩)) ?_
  intro pm code doc a X s₀ s St
  refine st_if St (Tst.plain (Ev.search hp rfl (Ev.name (.head _)) hx (by omega)) Tru.none) (fun h => nomatch h) fun _ s1 S1 => ?_
  refine st_if S1 (b := x.isEmpty) (Tst.cast (Tst.cm (Ev.name (.head _)) Ev.str Cmp.eq_str) ?_) (fun hb s2 S2 => ?_) fun hb s2 S2 => ?_
  · show (S x == Str.ofString "") = _
    rw [lit_nil, S_beq]; cases x <;> rfl
  · refine st_ret (S2) ((Ev.cast Ev.bool ?_)) fun v s' hr S' => ⟨v, rfl, hr, FSt.ks S'⟩
    rw [hdn, hb]; rfl
  · match x, hb, hx, hsz with
    | ch :: r, hb, hx, hsz =>
    obtain ⟨l, hl⟩ : ∃ l, (ch :: r).getLast? = some l := ⟨_, List.getLast?_eq_some_getLast (by simp)⟩
    refine st_if S2 (b := (some ch == some 46 || some l == some 46)) (Tst.cast (Tst.or (Tst.cm (Ev.item_str (k := 0) (ch := ch) (Ev.name (.head _)) Ev.int ?_ ?_) Ev.str Cmp.eq_str) fun _ => Tst.or (Tst.cm (Ev.item_str (k := -1) (ch := l) (Ev.name (.head _)) (Ev.neg Ev.int) ?_ ?_) Ev.str Cmp.eq_str) fun _ => Tst.or_nil) ?_) (fun hb s3 S3 => ?_) fun hb s3 S3 => ?_
    · unfold seqIndex?; simp
    · omega
    · rw [List.getLast?_eq_getElem?] at hl
      have e : seqIndex? (-1) (ch :: r).length = some r.length := by
        unfold seqIndex?; simp; omega
      rw [e]; simpa using hl
    · omega
    · show ((S [ch] == Str.ofString ".") || ((S [l] == Str.ofString ".") || false)) = _
      rw [lit_dot, S_beq, S_beq]; simp
    · refine st_ret (S3) ((Ev.cast Ev.bool ?_)) fun v s' hr S' => ⟨v, rfl, hr, FSt.ks S'⟩
      rw [hdn, hl, List.head?_cons, hb]; rfl
    · refine st_retF S3 (Ev.cast Ev.bool ?_)
      rw [hdn, hl, List.head?_cons, hb]; rfl

theorem fn_lib {c : Cx} {A : Around} {x : List Nat} (h : FnAt c (defAt T2 4)) (hp : PatAt c) (room : Rm A 1) (hx : NoDig x) (hsz : x.length ≤ 1000) :
    Fn c A (defAt T2 4).name [.d (.str (S x))] (.d (.bool true)) := by
  refine Fn.at [Str.ofString "text"] h room (by (intro pm code doc vs hv; exact match vs, hv with | [_], _ => rfl)) rfl (by decide) (by (intro pm code doc n hn L a; revert n; refine (kindsOk (names := [])).mpr ?_; first | exact ⟨.inl rfl, trivial⟩ | exact ⟨.inl rfl, .inl rfl, trivial⟩ | exact ⟨.inl rfl, .inl rfl, .inl rfl, trivial⟩ | exact ⟨.inr ⟨rfl, rfl⟩, trivial⟩ | exact ⟨.inl rfl, .inr ⟨rfl, rfl⟩, trivial⟩ | exact ⟨.inr ⟨rfl, rfl⟩, .inl rfl, trivial⟩ | exact ⟨.inr ⟨rfl, rfl⟩, .inr ⟨rfl, rfl⟩, trivial⟩ | exact ⟨.inr ⟨rfl, rfl⟩, .inr ⟨rfl, rfl⟩, .inr ⟨rfl, rfl⟩, trivial⟩ | exact ⟨.inr ⟨rfl, rfl⟩, .inr ⟨rfl, rfl⟩, .inl rfl, trivial⟩ | exact ⟨.inr ⟨rfl, rfl⟩, .inl rfl, .inl rfl, trivial⟩ | exact ⟨.inr ⟨rfl, rfl⟩, .inl rfl, .inr ⟨rfl, rfl⟩, trivial⟩ | exact ⟨.inl rfl, .inl rfl, .inr ⟨rfl, rfl⟩, trivial⟩ | exact ⟨.inl rfl, .inr ⟨rfl, rfl⟩, .inl rfl, trivial⟩ | exact ⟨.inl rfl, .inr ⟨rfl, rfl⟩, .inr ⟨rfl, rfl⟩, trivial⟩)) ?_
  intro pm code doc a X s₀ s St
  refine st_if St (Tst.plain (Ev.search hp rfl (Ev.name (.head _)) hx (by omega)) Tru.none) (fun h => nomatch h) fun _ s1 S1 => ?_
  exact st_retF S1 Ev.bool

theorem fn_udm {c : Cx} {A : Around} {x y x' y' : List Nat} (h : FnAt c (defAt T2 5)) (hl : FnAt c (defAt T2 4)) (hp : PatAt c) (room : Rm A 2) (ex : Txt.lower (S x) = S x') (ey : Txt.lower (S y) = S y')
    (hx : NoDig x') (hy : NoDig y') (hsx : x'.length ≤ 1000) (hsy : y'.length ≤ 1000) :
    Fn c A (defAt T2 5).name [.d (.str (S x)), .d (.str (S y))] (.d (.bool (dm x' y'))) := by
  refine Fn.at [Str.ofString "A", Str.ofString "B"] h (room.less (by omega)) (by (intro pm code doc vs hv; exact match vs, hv with | [_, _], _ => rfl)) rfl (by decide) (by (intro pm code doc n hn L a; revert n; refine (kindsOk (names := [])).mpr ?_; first | exact ⟨.inl rfl, trivial⟩ | exact ⟨.inl rfl, .inl rfl, trivial⟩ | exact ⟨.inl rfl, .inl rfl, .inl rfl, trivial⟩ | exact ⟨.inr ⟨rfl, rfl⟩, trivial⟩ | exact ⟨.inl rfl, .inr ⟨rfl, rfl⟩, trivial⟩ | exact ⟨.inr ⟨rfl, rfl⟩, .inl rfl, trivial⟩ | exact ⟨.inr ⟨rfl, rfl⟩, .inr ⟨rfl, rfl⟩, trivial⟩ | exact ⟨.inr ⟨rfl, rfl⟩, .inr ⟨rfl, rfl⟩, .inr ⟨rfl, rfl⟩, trivial⟩ | exact ⟨.inr ⟨rfl, rfl⟩, .inr ⟨rfl, rfl⟩, .inl rfl, trivial⟩ | exact ⟨.inr ⟨rfl, rfl⟩, .inl rfl, .inl rfl, trivial⟩ | exact ⟨.inr ⟨rfl, rfl⟩, .inl rfl, .inr ⟨rfl, rfl⟩, trivial⟩ | exact ⟨.inl rfl, .inl rfl, .inr ⟨rfl, rfl⟩, trivial⟩ | exact ⟨.inl rfl, .inr ⟨rfl, rfl⟩, .inl rfl, trivial⟩ | exact ⟨.inl rfl, .inr ⟨rfl, rfl⟩, .inr ⟨rfl, rfl⟩, trivial⟩)) ?_
  intro pm code doc a X s₀ s St
  have r1 : ∀ env, Rm (A.deeper env) 1 := fun env => room.deeper
  refine st_asgV (p := .d (.str (S x'))) [(Str.ofString "B", .d (.str (S y)))] St (Ev.cast (Ev.meth (Ev.name (.head _)) F.slot_str_lower F.type_str_lower EvL.nil (Bf.lower (by rw [ex, S_len]; omega)) rfl (by decide)) (by rw [ex])) (.inl rfl) ⟨.tail _ (.head _), trivial⟩ ⟨rfl, rfl⟩ fun s1 S1 => ?_
  refine st_asgV (p := .d (.str (S y'))) [(Str.ofString "A", .d (.str (S x')))] S1 (Ev.cast (Ev.meth (Ev.name (.tail _ (.head _))) F.slot_str_lower F.type_str_lower EvL.nil (Bf.lower (by rw [ey, S_len]; omega)) rfl (by decide)) (by rw [ey])) (.inl rfl) ⟨.head _, trivial⟩ ⟨rfl, rfl⟩ fun s2 S2' => ?_
  have S2 := S2'.sub (ρ' := [(Str.ofString "A", .d (.str (S x'))), (Str.ofString "B", .d (.str (S y')))]) ⟨.tail _ (.head _), .head _, trivial⟩
  refine st_if S2 (Tst.not (Tst.and (Tst.plain (Ev.fn rfl (fn_lib hl hp (r1 _) hx hsx) (EvL.one (Ev.name (.head _)))) Tru.bool) fun _ => Tst.and (Tst.plain (Ev.fn rfl (fn_lib hl hp (r1 _) hy hsy) (EvL.one (Ev.name (.tail _ (.head _))))) Tru.bool) fun _ => Tst.and_nil)) (fun h => nomatch h) fun _ s3 S3 => ?_
  refine st_asg (p := .d (.bool (y'.head? == some 46))) S3 (Ev.cast (Ev.meth (Ev.name (.tail _ (.head _))) F.slot_str_startswith F.type_str_startswith (EvL.one (Ev.str)) Bf.startswith rfl (by decide)) ?_) (.inl rfl) ⟨rfl, rfl⟩ fun s4 S4 => ?_
  · show Pd.d (.bool (Txt.startswith (S y') (Str.ofString "."))) = _
    rw [lit_dot, startswith_S, dot_prefix]
  refine st_if S4 (b := (y'.head? == some 46) && y'.isSuffixOf x') (Tst.cast (Tst.and (Tst.plain (Ev.name (.head _)) Tru.bool) fun _ => Tst.and (Tst.plain (Ev.meth (Ev.name (.tail _ (.head _))) F.slot_str_endswith F.type_str_endswith (EvL.one (Ev.name (.tail _ (.tail _ (.head _))))) Bf.endswith rfl (by decide)) Tru.bool) fun _ => Tst.and_nil) ?_) (fun hb s5 S5 => ?_) fun hb s5 S5 => ?_
  · rw [endswith_S, Bool.and_true]
  · refine st_ret (S5) ((Ev.cast Ev.bool ?_)) fun v s' hr S' => ⟨v, rfl, hr, FSt.ks S'⟩
    rw [dm, hb]; rfl
  refine st_if S5 (b := !(y'.head? == some 46) && x' == y') (Tst.cast (Tst.and (Tst.not (Tst.plain (Ev.name (.head _)) Tru.bool)) fun _ => Tst.and (Tst.cm (Ev.name (.tail _ (.head _))) (Ev.name (.tail _ (.tail _ (.head _)))) Cmp.eq_str) fun _ => Tst.and_nil) ?_) (fun hb2 s6 S6 => ?_) fun hb2 s6 S6 => ?_
  · rw [S_beq, Bool.and_true]
  · refine st_ret (S6) ((Ev.cast Ev.bool ?_)) fun v s' hr S' => ⟨v, rfl, hr, FSt.ks S'⟩
    rw [dm, hb, hb2]; rfl
  · refine st_retF S6 (Ev.cast Ev.bool ?_)
    rw [dm, hb, hb2]; rfl

theorem fn_reach {c : Cx} {A : Around} {x : List Nat} (h : FnAt c (defAt T2 6)) (hh : FnAt c (defAt T2 3)) (hp : PatAt c) (room : Rm A 2) (hx : NoDig x) (hsz : x.length ≤ 900) :
    Fn c A (defAt T2 6).name [.d (.str (S x))] (.d (.str (S (reachL x)))) := by
  refine Fn.at [Str.ofString "h"] h (room.less (by omega)) (by (intro pm code doc vs hv; exact match vs, hv with | [_], _ => rfl)) rfl (by decide) (by (intro pm code doc n hn L a; revert n; refine (kindsOk (names := [])).mpr ?_; first | exact ⟨.inl rfl, trivial⟩ | exact ⟨.inl rfl, .inl rfl, trivial⟩ | exact ⟨.inl rfl, .inl rfl, .inl rfl, trivial⟩ | exact ⟨.inr ⟨rfl, rfl⟩, trivial⟩ | exact ⟨.inl rfl, .inr ⟨rfl, rfl⟩, trivial⟩ | exact ⟨.inr ⟨rfl, rfl⟩, .inl rfl, trivial⟩ | exact ⟨.inr ⟨rfl, rfl⟩, .inr ⟨rfl, rfl⟩, trivial⟩ | exact ⟨.inr ⟨rfl, rfl⟩, .inr ⟨rfl, rfl⟩, .inr ⟨rfl, rfl⟩, trivial⟩ | exact ⟨.inr ⟨rfl, rfl⟩, .inr ⟨rfl, rfl⟩, .inl rfl, trivial⟩ | exact ⟨.inr ⟨rfl, rfl⟩, .inl rfl, .inl rfl, trivial⟩ | exact ⟨.inr ⟨rfl, rfl⟩, .inl rfl, .inr ⟨rfl, rfl⟩, trivial⟩ | exact ⟨.inl rfl, .inl rfl, .inr ⟨rfl, rfl⟩, trivial⟩ | exact ⟨.inl rfl, .inr ⟨rfl, rfl⟩, .inl rfl, trivial⟩ | exact ⟨.inl rfl, .inr ⟨rfl, rfl⟩, .inr ⟨rfl, rfl⟩, trivial⟩)) ?_
  intro pm code doc a X s₀ s St
  have r1 : ∀ env, Rm (A.deeper env) 1 := fun env => room.deeper
  refine st_asg (p := .d (.int (fOf (firstAt x [46] 0 x.length)))) St (Ev.cast (Ev.meth (Ev.name (.head _)) F.slot_str_find F.type_str_find (EvL.one (Ev.str)) Bf.find rfl (by decide)) ?_) (.inl rfl) ⟨rfl, rfl⟩ fun s1 S1 => ?_
  · show Pd.d (.int (Txt.find (S x) (Str.ofString "."))) = _
    rw [lit_dot, find_S]
  refine st_if S1 (Tst.cm (Ev.name (.head _)) Ev.int Cmp.ge_int) (fun hb s2 S2 => ?_) fun hb s2 S2 => ?_
  · cases hf : firstAt x [46] 0 x.length with
    | none => rw [hf] at hb; exact absurd hb (by decide)
    | some i =>
    rw [hf] at S2
    have hsp := firstAt_spec hf
    have hi : i + 1 ≤ x.length := hsp.2.1
    refine st_asg (p := .d (.str (S (x.drop (i + 1))))) S2 (Ev.cast (Ev.slice_str (lo := some ((i : Int) + 1)) (hi := none) (Ev.name (.tail _ (.head _))) (Ev.bin (Ev.name (.head _)) Ev.int Bin.add_int) trivial (by rw [sizeLine_eq]; omega)) ?_) (.inl rfl) ⟨rfl, rfl⟩ fun s3 S3 => ?_
    · rw [show ((i : Int) + 1) = ((i + 1 : Nat) : Int) by omega, sl_from hi]
    refine st_asgV (p := .d (.int (fOf (firstAt (x.drop (i + 1)) [46] 0 (x.drop (i + 1)).length)))) [(Str.ofString "b", .d (.str (S (x.drop (i + 1))))), (Str.ofString "h", .d (.str (S x)))] S3
      (Ev.cast (Ev.meth (Ev.name (.head _)) F.slot_str_find F.type_str_find (EvL.one Ev.str) Bf.find rfl (by decide)) ?_) (.inl rfl) ⟨.head _, .tail _ (.tail _ (.head _)), trivial⟩ ⟨rfl, rfl⟩ fun s4 S4 => ?_
    · show Pd.d (.int (Txt.find (S (x.drop (i + 1))) (Str.ofString "."))) = _
      rw [lit_dot, find_S]
    refine st_if S4 (b := hdn x && ((firstAt (x.drop (i + 1)) [46] 0 (x.drop (i + 1)).length).isSome || x.drop (i + 1) == locl))
      (Tst.cast (Tst.and (Tst.plain (Ev.fn rfl (fn_hdn hh hp (r1 _) hx (by omega)) (EvL.one (Ev.name (.tail _ (.tail _ (.head _)))))) Tru.bool) fun _ => Tst.and (Tst.or (Tst.cm (Ev.name (.head _)) Ev.int Cmp.ge_int) fun _ => Tst.or (Tst.cm (Ev.name (.tail _ (.head _))) Ev.str Cmp.eq_str) fun _ => Tst.or_nil) fun _ => Tst.and_nil) ?_)
      (fun hb2 s5 S5 => ?_) fun hb2 s5 S5 => ?_
    · show (hdn x && ((decide ((0 : Int) ≤ fOf (firstAt (x.drop (i + 1)) [46] 0 (x.drop (i + 1)).length)) || ((S (x.drop (i + 1)) == Str.ofString "local") || false)) && true)) = _
      rw [lit_local, S_beq, Bool.and_true, Bool.or_false]
      congr 2
      cases firstAt (x.drop (i + 1)) [46] 0 (x.drop (i + 1)).length with
      | none => rfl
      | some k => simp [fOf]
    · refine st_ret (S5) ((Ev.cast (Ev.bin Ev.str (Ev.name (.tail _ (.head _))) (Bin.add_str (a := [46]) ?_)) ?_)) fun v s' hr S' => ⟨v, rfl, hr, FSt.ks S'⟩
      · rw [sizeLine_eq, List.length_drop]; simp; omega
      · rw [reachL, hf]; simp only [hb2, if_true]; rfl
    · refine st_nil S5 (st_retF S5 (Ev.cast (Ev.name (.tail _ (.tail _ (.head _)))) ?_))
      rw [reachL, hf]; simp only [hb2]; rfl
  · refine st_retF S2 (Ev.cast (Ev.name (.tail _ (.head _))) ?_)
    cases hf : firstAt x [46] 0 x.length with
    | none => rw [reachL, hf]
    | some i => rw [hf] at hb; simp [fOf] at hb


structure Base (c : Cx) : Prop where
  mark : ∃ t, c.mg (Str.ofString "ELLIPSIS_MARKER") = some (.str (Str.ofString "...") t)
  pat : PatAt c
  len : c.mg (Str.ofString "len") = none ∧ c.mb (Str.ofString "len") = some (.builtin "len")
  range : c.mg (Str.ofString "range") = none ∧ c.mb (Str.ofString "range") = some (.type "range")
  zip : c.mg (Str.ofString "zip") = none ∧ c.mb (Str.ofString "zip") = some (.type "zip")
  enumerate : c.mg (Str.ofString "enumerate") = none ∧ c.mb (Str.ofString "enumerate") = some (.type "enumerate")
  min : c.mg (Str.ofString "min") = none ∧ c.mb (Str.ofString "min") = some (.builtin "min")
  sorted : c.mg (Str.ofString "sorted") = none ∧ c.mb (Str.ofString "sorted") = some (.builtin "sorted")

theorem fn_ell0 {c : Cx} {A : Around} {x g : List Nat} (h : FnAt c (defAt T2 9)) (b : Base c) (room : Rm A 1) (hx : Good x) :
    Fn c A (defAt T2 9).name [.d (.str (S x)), .d (.str (S g))] (.d (.bool (x == g))) := by
  obtain ⟨t, hm⟩ := b.mark
  refine Fn.at [Str.ofString "want", Str.ofString "got"] h room (by (intro pm code doc vs hv; exact match vs, hv with | [_, _], _ => rfl)) rfl (by decide) (by (intro pm code doc n hn L a; revert n; refine (kindsOk (names := [])).mpr ?_; first | exact ⟨.inl rfl, trivial⟩ | exact ⟨.inl rfl, .inl rfl, trivial⟩ | exact ⟨.inl rfl, .inl rfl, .inl rfl, trivial⟩ | exact ⟨.inr ⟨rfl, rfl⟩, trivial⟩ | exact ⟨.inl rfl, .inr ⟨rfl, rfl⟩, trivial⟩ | exact ⟨.inr ⟨rfl, rfl⟩, .inl rfl, trivial⟩ | exact ⟨.inr ⟨rfl, rfl⟩, .inr ⟨rfl, rfl⟩, trivial⟩ | exact ⟨.inr ⟨rfl, rfl⟩, .inr ⟨rfl, rfl⟩, .inr ⟨rfl, rfl⟩, trivial⟩ | exact ⟨.inr ⟨rfl, rfl⟩, .inr ⟨rfl, rfl⟩, .inl rfl, trivial⟩ | exact ⟨.inr ⟨rfl, rfl⟩, .inl rfl, .inl rfl, trivial⟩ | exact ⟨.inr ⟨rfl, rfl⟩, .inl rfl, .inr ⟨rfl, rfl⟩, trivial⟩ | exact ⟨.inl rfl, .inl rfl, .inr ⟨rfl, rfl⟩, trivial⟩ | exact ⟨.inl rfl, .inr ⟨rfl, rfl⟩, .inl rfl, trivial⟩ | exact ⟨.inl rfl, .inr ⟨rfl, rfl⟩, .inr ⟨rfl, rfl⟩, trivial⟩)) ?_
  intro pm code doc a X s₀ s St
  refine st_if St (b := true) (Tst.cast (Tst.cm (Ev.globStr rfl hm) (Ev.name (.head _)) Cmp.notIn_str) ?_) (fun _ s1 S1 => ?_) (fun h => nomatch h)
  · rw [lit_dots, no_dots hx]; rfl
  · refine st_ret (S1) ((Ev.cast (Ev.cm (Ev.name (.head _)) (Ev.name (.tail _ (.head _))) Cmp.eq_str) ?_)) fun v s' hr S' => ⟨v, rfl, hr, FSt.ks S'⟩
    rw [S_beq]

def strD (l : List (List Nat)) : List PyData := l.map fun w => .str (S w)
theorem strD_len (l : List (List Nat)) : (strD l).length = l.length := by simp [strD]
theorem strD_get (l : List (List Nat)) (i : Nat) : (strD l)[i]? = (l[i]?).map fun w => .str (S w) := by simp [strD]
theorem strD_last (l : List (List Nat)) : (strD l).getLast? = (l.getLast?).map fun w => .str (S w) := by
  rw [List.getLast?_eq_getElem?, List.getLast?_eq_getElem?, strD_get, strD_len]

theorem EvN.cast {c : Cx} {A : Around} {X : List Addr} {env : Env} {ρ : List (Str × Pd)} {e : Expr} {ds ds' : List PyData} (h : EvN c A X env ρ e ds) (hd : ds = ds') : EvN c A X env ρ e ds' := hd ▸ h

theorem fn_ell {c : Cx} {A : Around} {ws : List (List Nat)} {g : List Nat} (h : FnAt c (defAt T2 9)) (b : Base c) (room : Rm A 1) (hw : ∀ w ∈ ws, Good w) (h2 : 2 ≤ ws.length) (hsz : ∀ w ∈ ws, w.length ≤ 1000) (hn : ws.length ≤ 50) (hg : g.length ≤ 1000)
    (hj : (joinL dots ws).length ≤ 60000) :
    Fn c A (defAt T2 9).name [.d (.str (S (joinL dots ws))), .d (.str (S g))] (.d (.bool (ell ws g))) := by
  obtain ⟨t, hm⟩ := b.mark
  obtain ⟨hs1, hs2, hs3⟩ := split_join h2 hw
  refine Fn.at [Str.ofString "want", Str.ofString "got"] h room (by (intro pm code doc vs hv; exact match vs, hv with | [_, _], _ => rfl)) rfl (by decide) (by (intro pm code doc n hn L a; revert n; refine (kindsOk (names := [])).mpr ?_; first | exact ⟨.inl rfl, trivial⟩ | exact ⟨.inl rfl, .inl rfl, trivial⟩ | exact ⟨.inl rfl, .inl rfl, .inl rfl, trivial⟩ | exact ⟨.inr ⟨rfl, rfl⟩, trivial⟩ | exact ⟨.inl rfl, .inr ⟨rfl, rfl⟩, trivial⟩ | exact ⟨.inr ⟨rfl, rfl⟩, .inl rfl, trivial⟩ | exact ⟨.inr ⟨rfl, rfl⟩, .inr ⟨rfl, rfl⟩, trivial⟩ | exact ⟨.inr ⟨rfl, rfl⟩, .inr ⟨rfl, rfl⟩, .inr ⟨rfl, rfl⟩, trivial⟩ | exact ⟨.inr ⟨rfl, rfl⟩, .inr ⟨rfl, rfl⟩, .inl rfl, trivial⟩ | exact ⟨.inr ⟨rfl, rfl⟩, .inl rfl, .inl rfl, trivial⟩ | exact ⟨.inr ⟨rfl, rfl⟩, .inl rfl, .inr ⟨rfl, rfl⟩, trivial⟩ | exact ⟨.inl rfl, .inl rfl, .inr ⟨rfl, rfl⟩, trivial⟩ | exact ⟨.inl rfl, .inr ⟨rfl, rfl⟩, .inl rfl, trivial⟩ | exact ⟨.inl rfl, .inr ⟨rfl, rfl⟩, .inr ⟨rfl, rfl⟩, trivial⟩)) ?_
  intro pm code doc a X s₀ s St
  refine st_if St (b := false) (Tst.cast (Tst.cm (Ev.globStr rfl hm) (Ev.name (.head _)) Cmp.notIn_str) ?_) (fun h => nomatch h) (fun _ s1 S1 => ?_)
  · rw [lit_dots, S_len, hs2]; rfl
  refine st_own S1 (EvN.cast (ds' := strD ws) (EvN.split (Ev.name (.head _)) (Ev.globStr rfl hm) (by rw [lit_dots]; rfl) (by rw [S_len]; omega) (by rw [lit_dots, hs3]; simp; omega)) ?_) (.inl rfl) ⟨rfl, rfl⟩ fun a1 s2 ha1 _ _ S2 => ?_
  · rw [lit_dots, hs1, List.map_map]; rfl
  have hXY : ∀ b ∈ X, b ∈ a1 :: X := fun b hb => .tail _ hb
  refine st_assert S2 (Tst.cast (Tst.cm (Ev.bf rfl b.len.1 b.len.2 (Bf.len_list (xs := strD ws) (by rw [strD_len]; omega)) (EvL.one (Ev.name (.tail _ (.tail _ (.head _)))))) Ev.int Cmp.ge_int) ?_) fun s3 S3 => ?_
  · rw [strD_len]; simp; omega
  refine st_two S3 (Ev.tup (ds := [.int 0, .int g.length]) (EvL.cons Ev.int (EvL.one (Ev.bf rfl b.len.1 b.len.2 (Bf.len_str (by omega)) (EvL.one (Ev.name (.tail _ (.head _))))))) (by simp)) (.inl rfl) (.inl rfl) ⟨rfl, rfl⟩ ⟨rfl, rfl⟩ rfl room.handled fun s4 S4 => ?_
  -- the last part: the words between
  have cont2 : ∀ (wt : List (List Nat)) (sp ep : Nat) (r : Bool) s', (∀ w ∈ wt, w.length ≤ 1000) → wt.length ≤ 50 → ep ≤ g.length → r = (decide (sp ≤ ep) && (run g ep wt sp).isSome) →
      FSt c s₀ (a1 :: X) (callEnvC (Calls.docDef (defAt T2 9).name (defAt T2 9).params (defAt T2 9).body (defAt T2 9).scope pm code doc) s₀.heap.objs.size a)
        [(Str.ofString "startpos", .d (.int (sp : Int))), (Str.ofString "endpos", .d (.int (ep : Int))), (Str.ofString "got", .d (.str (S g)))] [(Str.ofString "ws", a1, strD wt)] {} s' →
      wpAny (model c.prog c.w) (A.deeper (callEnvC (Calls.docDef (defAt T2 9).name (defAt T2 9).params (defAt T2 9).body (defAt T2 9).scope pm code doc) s₀.heap.objs.size a))
        (execs ((defAt T2 9).body.drop 8) (callEnvC (Calls.docDef (defAt T2 9).name (defAt T2 9).params (defAt T2 9).body (defAt T2 9).scope pm code doc) s₀.heap.objs.size a))
        (fun fl s' => ∃ v, fl = .ret v ∧ RelP X s'.heap v (.d (.bool r)) ∧ Ks s₀ s') (fun _ _ => False) s' := by
    intro wt sp ep r s' hwt hwl hep hr SS
    refine st_if SS (Tst.cm (Ev.name (.head _)) (Ev.name (.tail _ (.head _))) Cmp.gt_int) (fun hb s5 S5 => ?_) fun hb s5 S5 => ?_
    · refine st_ret (S5) ((Ev.cast Ev.bool ?_)) fun v s' hr S' => ⟨v, rfl, RelP.less (hXY) hr, FSt.ks S'⟩
      have : ¬ sp ≤ ep := by have := of_decide_eq_true hb; omega
      rw [hr, decide_eq_false this]; rfl
    have hle : sp ≤ ep := by have := of_decide_eq_false hb; omega
    rw [decide_eq_true hle, Bool.true_and] at hr
    refine st_forI (ns := [Str.ofString "w"]) (fun i => [(Str.ofString "startpos", .d (.int (((run g ep (wt.take i) sp).getD 0 : Nat) : Int))), (Str.ofString "endpos", .d (.int (ep : Int))), (Str.ofString "got", .d (.str (S g)))]) (fun i => [(Str.ofString "ws", a1, strD wt)]) (fun d => [(Str.ofString "w", .d d)])
      (fun i => (run g ep (wt.take i) sp).isSome = true) S5 (IterE.list (Ev.name (.tail _ (.tail _ (.tail _ (.head _))))) room.handled rfl) rfl ?_ (fun _ h => h) ?_ ?_ (fun d _ => AsgF.name (.inl rfl)) ?_ ?_ ?_
    · exact SubL.all ⟨.head _, .tail _ (.head _), .tail _ (.tail _ (.head _)), trivial⟩
    · intro i w hw'; rw [List.mem_singleton.mp hw']; exact .head _
    · intro i y q hy
      rcases List.mem_cons.mp hy with e | hy
      · cases e; exact ⟨_, rfl⟩
      · rcases List.mem_cons.mp hy with e | hy
        · cases e; exact ⟨_, rfl⟩
        · rw [List.mem_singleton] at hy; cases hy; exact ⟨_, rfl⟩
    · intro i n hn'; rw [List.mem_singleton.mp hn']; exact ⟨rfl, rfl⟩
    · intro Y P' i d s6 hd hok hY _ S6
      rw [strD_get] at hd
      cases hwi : wt[i]? with
      | none => rw [hwi] at hd; cases hd
      | some w =>
      rw [hwi] at hd
      have hd' : d = .str (S w) := (Option.some.inj hd).symm
      subst hd'
      obtain ⟨k0, hk0⟩ := Option.isSome_iff_exists.mp hok
      have hstep : run g ep (wt.take (i + 1)) sp = run g ep [w] k0 := by
        rw [List.take_add_one, hwi, run_append, hk0]; rfl
      have hwlen : w.length ≤ 1000 := hwt w (List.mem_of_getElem? hwi)
      simp only [hk0, Option.getD_some] at S6
      refine st_asgV (p := .d (.int (fOf (firstAt g w k0 ep)))) [(Str.ofString "w", .d (.str (S w))), (Str.ofString "endpos", .d (.int (ep : Int))), (Str.ofString "got", .d (.str (S g)))] S6
        (Ev.cast (Ev.meth (Ev.name (.tail _ (.tail _ (.tail _ (.head _))))) F.slot_str_find F.type_str_find (EvL.cons (Ev.name (.head _)) (EvL.cons (Ev.name (.tail _ (.head _))) (EvL.one (Ev.name (.tail _ (.tail _ (.head _))))))) Bf.find4 rfl (by decide)) ?_) (.inl rfl)
        ⟨.head _, .tail _ (.tail _ (.head _)), .tail _ (.tail _ (.tail _ (.head _))), trivial⟩ ⟨rfl, rfl⟩ fun s7 S7 => ?_
      · rw [find4_S _ _ _ _ hep]
      cases hf : firstAt g w k0 ep with
      | none =>
        rw [hf] at S7
        refine st_if S7 (b := true) (Tst.cast (Tst.cm (Ev.name (.head _)) Ev.int Cmp.lt_int) rfl) (fun _ s8 S8 => ?_) (fun h => nomatch h)
        refine st_ret (S8) ((Ev.cast Ev.bool ?_)) fun v s' hr S' => ⟨v, rfl, RelP.less ((fun b hb => hY b (hXY b hb))) hr, FSt.ks S'⟩
        have e1 : run g ep (wt.take (i + 1)) sp = none := by rw [hstep, run, hf]
        have e2 : run g ep wt sp = none := by
          rw [← List.take_append_drop (i + 1) wt, run_append, e1]; rfl
        rw [hr, e2]; rfl
      | some k =>
        rw [hf] at S7
        refine st_if S7 (b := false) (Tst.cast (Tst.cm (Ev.name (.head _)) Ev.int Cmp.lt_int) ?_) (fun h => nomatch h) (fun _ s8 S8 => ?_)
        · exact decide_eq_false (by simp only [fOf]; omega)
        have e1 : run g ep (wt.take (i + 1)) sp = some (k + w.length) := by rw [hstep, run, hf]; rfl
        refine st_augV (r := .d (.int ((k + w.length : Nat) : Int))) [(Str.ofString "endpos", .d (.int (ep : Int))), (Str.ofString "got", .d (.str (S g)))] S8 (.head _) (Ev.bf rfl b.len.1 b.len.2 (Bf.len_str (by omega)) (EvL.one (Ev.name (.tail _ (.head _))))) (.inl rfl) ?_ ⟨.tail _ (.tail _ (.head _)), .tail _ (.tail _ (.tail _ (.head _))), trivial⟩ ⟨rfl, rfl⟩ fun s9 S9 => ?_
        · intro s v1 v2 hb' h1 h3
          have := inAdd (c := c) (A := A.deeper (callEnvC (Calls.docDef (defAt T2 9).name (defAt T2 9).params (defAt T2 9).body (defAt T2 9).scope pm code doc) s₀.heap.objs.size a)) s v1 v2 hb' h1 h3
          rw [show ((k + w.length : Nat) : Int) = fOf (some k) + (w.length : Int) by simp [fOf]]
          exact this
        · refine st_nil S9 ⟨?_, ?_⟩
          · simp only [e1, Option.getD_some]; exact S9
          · rw [e1]; rfl
    · intro hok s6 S6
      rw [strD_len, List.take_length] at hok
      refine st_retL S6 hXY (Ev.cast Ev.bool ?_)
      rw [hr, hok]
  have cont1 : ∀ (wt : List (List Nat)) (sp : Nat) (r : Bool) s', (∀ w ∈ wt, w.length ≤ 1000) → wt.length ≤ 50 → wt ≠ [] → r = ellB g wt sp →
      FSt c s₀ (a1 :: X) (callEnvC (Calls.docDef (defAt T2 9).name (defAt T2 9).params (defAt T2 9).body (defAt T2 9).scope pm code doc) s₀.heap.objs.size a)
        [(Str.ofString "startpos", .d (.int (sp : Int))), (Str.ofString "endpos", .d (.int (g.length : Int))), (Str.ofString "got", .d (.str (S g)))] [(Str.ofString "ws", a1, strD wt)] {} s' →
      wpAny (model c.prog c.w) (A.deeper (callEnvC (Calls.docDef (defAt T2 9).name (defAt T2 9).params (defAt T2 9).body (defAt T2 9).scope pm code doc) s₀.heap.objs.size a))
        (execs ((defAt T2 9).body.drop 6) (callEnvC (Calls.docDef (defAt T2 9).name (defAt T2 9).params (defAt T2 9).body (defAt T2 9).scope pm code doc) s₀.heap.objs.size a))
        (fun fl s' => ∃ v, fl = .ret v ∧ RelP X s'.heap v (.d (.bool r)) ∧ Ks s₀ s') (fun _ _ => False) s' := by
    intro wt sp r s' hwt hwl hne hr SS
    obtain ⟨wl, hlast⟩ : ∃ wl, wt.getLast? = some wl := ⟨_, List.getLast?_eq_some_getLast hne⟩
    have hwlm : wl ∈ wt := List.mem_of_getLast? hlast
    rw [ellB, hlast] at hr
    refine st_asg SS (Ev.item_last (d := .str (S wl)) (Ev.name (.tail _ (.tail _ (.tail _ (.head _))))) (Ev.neg Ev.int) (by rw [strD_last, hlast]; rfl) (by rw [strD_len]; omega)) (.inl rfl) ⟨rfl, rfl⟩ fun s5 S5 => ?_
    refine st_if S5 (Tst.plain (Ev.name (.head _)) (Tru.str (by have := hwt wl hwlm; omega))) (fun hb s6 S6 => ?_) fun hb s6 S6 => ?_
    · have he : wl.isEmpty = false := by simpa using hb
      simp only [he, Bool.false_eq_true, if_false] at hr
      refine st_ifE S6 (b := wl.isSuffixOf g) (Tst.cast (Tst.plain (Ev.meth (Ev.name (.tail _ (.tail _ (.tail _ (.head _))))) F.slot_str_endswith F.type_str_endswith (EvL.one (Ev.name (.head _))) Bf.endswith rfl (by decide)) Tru.bool) (endswith_S _ _)) (fun hb2 s7 S7 => ?_) fun hb2 s7 S7 => ?_
      · rw [hb2, Bool.true_and] at hr
        have hle : wl.length ≤ g.length := (List.isSuffixOf_iff_suffix.mp hb2).length_le
        refine st_augV (r := .d (.int ((g.length - wl.length : Nat) : Int))) [(Str.ofString "startpos", .d (.int (sp : Int))), (Str.ofString "got", .d (.str (S g)))] S7 (.tail _ (.tail _ (.head _))) (Ev.bf rfl b.len.1 b.len.2 (Bf.len_str (by have := hwt wl hwlm; omega)) (EvL.one (Ev.name (.head _)))) (.inl rfl) ?_ ⟨.tail _ (.head _), .tail _ (.tail _ (.tail _ (.head _))), trivial⟩ ⟨rfl, rfl⟩ fun s8 S8 => ?_
        · intro s v1 v2 hb' h1 h3
          have := inSub (c := c) (A := A.deeper (callEnvC (Calls.docDef (defAt T2 9).name (defAt T2 9).params (defAt T2 9).body (defAt T2 9).scope pm code doc) s₀.heap.objs.size a)) s v1 v2 hb' h1 h3
          rw [show ((g.length - wl.length : Nat) : Int) = (g.length : Int) - (wl.length : Int) by omega]
          exact this
        have hlen1 : 1 ≤ wt.length := List.length_pos_iff.mpr hne
        refine st_del (j := wt.length - 1) S8 (Ev.neg Ev.int) ?_ (by decide) ?_ (fun _ h => nomatch h) (fun _ h => nomatch h) (by rw [strD_len]; omega) fun s9 S9 => ?_
        · rw [strD_len]; unfold seqIndex?; simp; omega
        · intro y q hy
          rcases List.mem_cons.mp hy with e | hy
          · cases e; exact ⟨_, rfl⟩
          · rcases List.mem_cons.mp hy with e | hy
            · cases e; exact ⟨_, rfl⟩
            · rw [List.mem_singleton] at hy; cases hy; exact ⟨_, rfl⟩
        have e1 : (strD wt).eraseIdx (wt.length - 1) = strD wt.dropLast := by
          rw [strD, strD, List.map_dropLast, ← List.eraseIdx_length_sub_one, List.length_map]
        rw [e1] at S9
        refine st_nil S9 (st_nil S9 ?_)
        refine cont2 wt.dropLast sp (g.length - wl.length) r _ (fun w hw' => hwt w (List.dropLast_subset _ hw')) (by rw [List.length_dropLast]; omega) (by omega) ?_ (S9.sub ⟨.tail _ (.head _), .head _, .tail _ (.tail _ (.head _)), trivial⟩)
        rw [hr]
        have e9 : decide (sp + wl.length ≤ g.length) = decide (sp ≤ g.length - wl.length) := by rw [decide_eq_decide]; omega
        rw [e9]
      · refine st_ret (S7) ((Ev.cast Ev.bool ?_)) fun v s' hr S' => ⟨v, rfl, RelP.less (hXY) hr, FSt.ks S'⟩
        rw [hr, hb2]; rfl
    · have he : wl.isEmpty = true := by simpa using hb
      simp only [he, if_true] at hr
      exact cont2 wt sp g.length r _ hwt hwl (Nat.le_refl _) hr (S6.sub ⟨.tail _ (.head _), .tail _ (.tail _ (.head _)), .tail _ (.tail _ (.tail _ (.head _))), trivial⟩)
  match ws, hw, h2, hsz, hn, hj, S4, cont1, cont2 with
  | w :: r, hw, h2, hsz, hn, hj, S4, cont1, cont2 =>
  refine st_asg S4 (Ev.item_nat (k := 0) (d := .str (S w)) (Ev.name (.tail _ (.tail _ (.tail _ (.tail _ (.head _)))))) Ev.int rfl (by rw [strD_len]; omega)) (.inl rfl) ⟨rfl, rfl⟩ fun s5 S5 => ?_
  refine st_if S5 (Tst.plain (Ev.name (.head _)) (Tru.str (by have := hsz w (.head _); omega))) (fun hb s6 S6 => ?_) fun hb s6 S6 => ?_
  · have he : w.isEmpty = false := by simpa using hb
    refine st_ifE S6 (b := w.isPrefixOf g) (Tst.cast (Tst.plain (Ev.meth (Ev.name (.tail _ (.tail _ (.tail _ (.tail _ (.head _)))))) F.slot_str_startswith F.type_str_startswith (EvL.one (Ev.name (.head _))) Bf.startswith rfl (by decide)) Tru.bool) (startswith_S _ _)) (fun hb2 s7 S7 => ?_) fun hb2 s7 S7 => ?_
    · refine st_asgV (p := .d (.int (w.length : Int))) [(Str.ofString "endpos", .d (.int (g.length : Int))), (Str.ofString "got", .d (.str (S g)))] S7 (Ev.bf rfl b.len.1 b.len.2 (Bf.len_str (by have := hsz w (.head _); omega)) (EvL.one (Ev.name (.head _)))) (.inl rfl) ⟨.tail _ (.tail _ (.head _)), .tail _ (.tail _ (.tail _ (.tail _ (.head _)))), trivial⟩ ⟨rfl, rfl⟩ fun s8 S8 => ?_
      refine st_del (j := 0) S8 Ev.int ?_ (by decide) ?_ (fun _ h => nomatch h) (fun _ h => nomatch h) (by rw [strD_len]; omega) fun s9 S9 => ?_
      · rw [strD_len]; unfold seqIndex?; simp
      · intro y q hy
        rcases List.mem_cons.mp hy with e | hy
        · cases e; exact ⟨_, rfl⟩
        · rcases List.mem_cons.mp hy with e | hy
          · cases e; exact ⟨_, rfl⟩
          · rw [List.mem_singleton] at hy; cases hy; exact ⟨_, rfl⟩
      refine st_nil S9 (st_nil S9 ?_)
      refine cont1 r w.length _ _ (fun v hv => hsz v (.tail _ hv)) (by simp at hn; omega) (by intro e; rw [e] at h2; simp at h2) ?_ S9
      rw [ell, he, hb2]; rfl
    · refine st_ret (S7) ((Ev.cast Ev.bool ?_)) fun v s' hr S' => ⟨v, rfl, RelP.less (hXY) hr, FSt.ks S'⟩
      rw [ell, he, hb2]; rfl
  · have he : w.isEmpty = true := by simpa using hb
    refine cont1 (w :: r) 0 _ _ hsz hn (by simp) ?_ (S6.sub ⟨.tail _ (.head _), .tail _ (.tail _ (.head _)), .tail _ (.tail _ (.tail _ (.tail _ (.head _)))), trivial⟩)
    rw [ell, he]; rfl

theorem fn_name {c : Cx} {A : Around} {r : List Bool} (h : FnAt c (defAt T2 11)) (room : Rm A 1) (hn : r.length ≤ 1000) :
    Fn c A (defAt T2 11).name [.d (.list (rowD r))] (.d (.str (S (nameL r)))) := by
  refine Fn.at [Str.ofString "row"] h room (by (intro pm code doc vs hv; exact match vs, hv with | [_], _ => rfl)) rfl (by decide) (by (intro pm code doc n hn L a; revert n; refine (kindsOk (names := [])).mpr ?_; first | exact ⟨.inl rfl, trivial⟩ | exact ⟨.inl rfl, .inl rfl, trivial⟩ | exact ⟨.inl rfl, .inl rfl, .inl rfl, trivial⟩ | exact ⟨.inr ⟨rfl, rfl⟩, trivial⟩ | exact ⟨.inl rfl, .inr ⟨rfl, rfl⟩, trivial⟩ | exact ⟨.inr ⟨rfl, rfl⟩, .inl rfl, trivial⟩ | exact ⟨.inr ⟨rfl, rfl⟩, .inr ⟨rfl, rfl⟩, trivial⟩ | exact ⟨.inr ⟨rfl, rfl⟩, .inr ⟨rfl, rfl⟩, .inr ⟨rfl, rfl⟩, trivial⟩ | exact ⟨.inr ⟨rfl, rfl⟩, .inr ⟨rfl, rfl⟩, .inl rfl, trivial⟩ | exact ⟨.inr ⟨rfl, rfl⟩, .inl rfl, .inl rfl, trivial⟩ | exact ⟨.inr ⟨rfl, rfl⟩, .inl rfl, .inr ⟨rfl, rfl⟩, trivial⟩ | exact ⟨.inl rfl, .inl rfl, .inr ⟨rfl, rfl⟩, trivial⟩ | exact ⟨.inl rfl, .inr ⟨rfl, rfl⟩, .inl rfl, trivial⟩ | exact ⟨.inl rfl, .inr ⟨rfl, rfl⟩, .inr ⟨rfl, rfl⟩, trivial⟩)) ?_
  intro pm code doc a X s₀ s St
  have hl : ((rowD r).filter fun _ => true).map (strF fun x => .str (S (46 :: x))) = (r.map fun b => S (46 :: lab b)).map .str := by
    rw [filter_true, rowD, List.map_map, List.map_map]
    exact List.map_congr_left fun b _ => strF_S _ _
  refine st_retF St (Ev.cast (Ev.meth Ev.str F.slot_str_join F.type_str_join (EvL.one (Ev.opn (Ev.cast (Ev.comp (ρt := fun d => [(Str.ofString "label", .d d)]) (ρf := []) (p := fun _ => true) (f := strF fun x => .str (S (46 :: x))) (ds := rowD r) rfl ?_ rfl ?_ trivial (IterE.listD (g := true) (Ev.name (.head _)) room.handled rfl) ?_ ?_ (fun _ _ _ _ => TstC.nil) ?_ ?_) (by rw [hl])))) (Bf.join ?_) rfl (by decide)) ?_)
  · decide
  · decide
  · intro d _ y q hq
    cases List.mem_singleton.mp hq; rfl
  · intro Y C d hd; exact AsgC.name rfl rfl
  · intro Y C d hd _
    obtain ⟨b, rfl⟩ := mem_rowD hd
    rw [strF_S]
    exact Ev.bin Ev.str (Ev.name (.head _)) (Bin.add_str (a := [46]) (by rw [sizeLine_eq]; have := lab_le b; simp; omega))
  · rw [rowD_len]; omega
  · rw [List.map_map, List.length_map]
    have := sum_le ((fun x : Str => x.length) ∘ fun b => S (46 :: lab b)) 3 (fun b => by have := lab_le b; simp; omega) r
    show (List.map ((fun x : Str => x.length) ∘ fun b => S (46 :: lab b)) r).sum + r.length * 0 ≤ _
    omega
  · show Pd.d (.str (Str.join (Str.ofString "") _)) = _
    rw [lit_nil, name_join]
theorem fn_like {c : Cx} {A : Around} {x y : List Bool} (h : FnAt c (defAt T2 19)) (b : Base c) (room : Rm A 1) (hx : x.length ≤ 1000) (hy : y.length ≤ 1000) :
    Fn c A (defAt T2 19).name [.d (.list (boolD x)), .d (.list (boolD y))] (.d (.bool (eqL x y))) := by
  refine Fn.at [Str.ofString "told", Str.ofString "due"] h room (by (intro pm code doc vs hv; exact match vs, hv with | [_, _], _ => rfl)) rfl (by decide) (by (intro pm code doc n hn L a; revert n; refine (kindsOk (names := [])).mpr ?_; first | exact ⟨.inl rfl, trivial⟩ | exact ⟨.inl rfl, .inl rfl, trivial⟩ | exact ⟨.inl rfl, .inl rfl, .inl rfl, trivial⟩ | exact ⟨.inr ⟨rfl, rfl⟩, trivial⟩ | exact ⟨.inl rfl, .inr ⟨rfl, rfl⟩, trivial⟩ | exact ⟨.inr ⟨rfl, rfl⟩, .inl rfl, trivial⟩ | exact ⟨.inr ⟨rfl, rfl⟩, .inr ⟨rfl, rfl⟩, trivial⟩ | exact ⟨.inr ⟨rfl, rfl⟩, .inr ⟨rfl, rfl⟩, .inr ⟨rfl, rfl⟩, trivial⟩ | exact ⟨.inr ⟨rfl, rfl⟩, .inr ⟨rfl, rfl⟩, .inl rfl, trivial⟩ | exact ⟨.inr ⟨rfl, rfl⟩, .inl rfl, .inl rfl, trivial⟩ | exact ⟨.inr ⟨rfl, rfl⟩, .inl rfl, .inr ⟨rfl, rfl⟩, trivial⟩ | exact ⟨.inl rfl, .inl rfl, .inr ⟨rfl, rfl⟩, trivial⟩ | exact ⟨.inl rfl, .inr ⟨rfl, rfl⟩, .inl rfl, trivial⟩ | exact ⟨.inl rfl, .inr ⟨rfl, rfl⟩, .inr ⟨rfl, rfl⟩, trivial⟩)) ?_
  intro pm code doc a X s₀ s St
  have r0 : ∀ env, Rm (A.deeper env) 0 := fun env => room.deeper
  refine st_retF St (Ev.cast (Ev.cm (Ev.comp (ρt := pairR (Str.ofString "one") (Str.ofString "other")) (ρf := []) (p := neP) (f := fstF) (ds := zipT (boolD x) (boolD y)) rfl ?_ rfl ?_ trivial (IterE.zip (g := true) rfl b.zip.1 b.zip.2 room.handled (Ev.name (.head _)) (Ev.name (.tail _ (.head _)))) ?_ ?_ ?_ ?_ ?_)
    (Ev.list (ds := []) EvL.nil (by simp)) (Cmp.eq_data (shaped_list (like_scal x y)) (by rfl) (r0 _))) ?_)
  · decide
  · decide
  · intro d hd z q hq
    obtain ⟨u, v, rfl⟩ := mem_zipB hd
    rcases List.mem_cons.mp hq with e | hq
    · cases e; rfl
    · cases List.mem_singleton.mp hq; rfl
  · intro Y C d hd
    obtain ⟨u, v, rfl⟩ := mem_zipB hd
    exact AsgC.pair room.handled rfl rfl rfl (by decide)
  · intro Y C d hd
    obtain ⟨u, v, rfl⟩ := mem_zipB hd
    exact TstC.one (Tst.cm (Ev.name (.head _)) (Ev.name (.tail _ (.head _))) Cmp.isNot_bool)
  · intro Y C d hd _
    obtain ⟨u, v, rfl⟩ := mem_zipB hd
    exact Ev.name (.head _)
  · rw [zipT_length, boolD_len, boolD_len]; omega
  · show Pd.d (.bool (PyData.eqv (.list _) (.list []))) = _
    rw [eqv_nil, like_empty]

end Mine
end

section
open PySem PySem.W PyProof.Rows PySem.SeqAt
set_option Elab.async false
set_option maxRecDepth 100000
namespace Mine
theorem allD1 {x : Str} {d : PyData} : AllD [(x, .d d)] := fun y q hy => by cases List.mem_singleton.mp hy; exact ⟨_, rfl⟩
theorem AllD.cons {x : Str} {d : PyData} {ρ : List (Str × Pd)} (h : AllD ρ) : AllD ((x, .d d) :: ρ) := fun y q hy => by
  rcases List.mem_cons.mp hy with e | hy
  · cases e; exact ⟨_, rfl⟩
  · exact h y q hy
theorem AllD.nil : AllD [] := fun y q hy => nomatch hy
theorem fn_host {c : Cx} {A : Around} {r : List Bool} (h : FnAt c (defAt T2 12)) (hn : FnAt c (defAt T2 11)) (room : Rm A 2) (hr : r.length ≤ 100) :
    Fn c A (defAt T2 12).name [.d (.list (rowD r))] (.d (.str (S (hostL r)))) := by
  refine Fn.at [Str.ofString "row"] h (room.less (by omega)) (by (intro pm code doc vs hv; exact match vs, hv with | [_], _ => rfl)) rfl (by decide) (by (intro pm code doc n hn L a; revert n; refine (kindsOk (names := [])).mpr ?_; first | exact ⟨.inl rfl, trivial⟩ | exact ⟨.inl rfl, .inl rfl, trivial⟩ | exact ⟨.inl rfl, .inl rfl, .inl rfl, trivial⟩ | exact ⟨.inr ⟨rfl, rfl⟩, trivial⟩ | exact ⟨.inl rfl, .inr ⟨rfl, rfl⟩, trivial⟩ | exact ⟨.inr ⟨rfl, rfl⟩, .inl rfl, trivial⟩ | exact ⟨.inr ⟨rfl, rfl⟩, .inr ⟨rfl, rfl⟩, trivial⟩ | exact ⟨.inr ⟨rfl, rfl⟩, .inr ⟨rfl, rfl⟩, .inr ⟨rfl, rfl⟩, trivial⟩ | exact ⟨.inr ⟨rfl, rfl⟩, .inr ⟨rfl, rfl⟩, .inl rfl, trivial⟩ | exact ⟨.inr ⟨rfl, rfl⟩, .inl rfl, .inl rfl, trivial⟩ | exact ⟨.inr ⟨rfl, rfl⟩, .inl rfl, .inr ⟨rfl, rfl⟩, trivial⟩ | exact ⟨.inl rfl, .inl rfl, .inr ⟨rfl, rfl⟩, trivial⟩ | exact ⟨.inl rfl, .inr ⟨rfl, rfl⟩, .inl rfl, trivial⟩ | exact ⟨.inl rfl, .inr ⟨rfl, rfl⟩, .inr ⟨rfl, rfl⟩, trivial⟩)) ?_
  intro pm code doc a X s₀ s St
  have r1 : ∀ env, Rm (A.deeper env) 1 := fun env => room.deeper
  have hnl := nameL_le r
  refine st_retF St (Ev.cast (Ev.bin (Ev.bin Ev.str (Ev.fn rfl (fn_name hn (r1 _) (by omega)) (EvL.one (Ev.name ((List.Mem.head _))))) (Bin.add_str (a := [120]) ?_)) Ev.str (Bin.add_str (b := dloc) ?_)) ?_)
  · rw [sizeLine_eq]; simp; omega
  · rw [sizeLine_eq]; simp; omega
  · rfl
theorem log_test {m i : Nat} (hm : m ≠ 0) : decide ((1 : Int) < ((m / 2 ^ i : Nat) : Int)) = decide (i < Nat.log2 m) := by
  rw [decide_eq_decide]
  have h1 : i + 1 ≤ Nat.log2 m ↔ 2 ^ (i + 1) ≤ m := Nat.le_log2 hm
  have h2 : 2 ≤ m / 2 ^ i ↔ 2 * 2 ^ i ≤ m := Nat.le_div_iff_mul_le (Nat.pow_pos (by omega))
  rw [Nat.pow_succ, Nat.mul_comm] at h1
  omega
theorem fn_rule {c : Cx} {A : Around} {x : Int} (h : FnAt c (defAt T2 13)) (room : Rm A 1) :
    Fn c A (defAt T2 13).name [.d (.int x)] (.d (.list (rowD (ruleOf x)))) := by
  refine Fn.at [Str.ofString "number"] h room (by (intro pm code doc vs hv; exact match vs, hv with | [_], _ => rfl)) rfl (by decide) (by (intro pm code doc n hn L a; revert n; refine (kindsOk (names := [])).mpr ?_; first | exact ⟨.inl rfl, trivial⟩ | exact ⟨.inl rfl, .inl rfl, trivial⟩ | exact ⟨.inl rfl, .inl rfl, .inl rfl, trivial⟩ | exact ⟨.inr ⟨rfl, rfl⟩, trivial⟩ | exact ⟨.inl rfl, .inr ⟨rfl, rfl⟩, trivial⟩ | exact ⟨.inr ⟨rfl, rfl⟩, .inl rfl, trivial⟩ | exact ⟨.inr ⟨rfl, rfl⟩, .inr ⟨rfl, rfl⟩, trivial⟩ | exact ⟨.inr ⟨rfl, rfl⟩, .inr ⟨rfl, rfl⟩, .inr ⟨rfl, rfl⟩, trivial⟩ | exact ⟨.inr ⟨rfl, rfl⟩, .inr ⟨rfl, rfl⟩, .inl rfl, trivial⟩ | exact ⟨.inr ⟨rfl, rfl⟩, .inl rfl, .inl rfl, trivial⟩ | exact ⟨.inr ⟨rfl, rfl⟩, .inl rfl, .inr ⟨rfl, rfl⟩, trivial⟩ | exact ⟨.inl rfl, .inl rfl, .inr ⟨rfl, rfl⟩, trivial⟩ | exact ⟨.inl rfl, .inr ⟨rfl, rfl⟩, .inl rfl, trivial⟩ | exact ⟨.inl rfl, .inr ⟨rfl, rfl⟩, .inr ⟨rfl, rfl⟩, trivial⟩)) ?_
  intro pm code doc a X s₀ s St
  have hs := rule_small x
  have h0 : 0 ≤ x.fmod 124 := Int.fmod_nonneg_of_pos x (by omega)
  generalize hm : (x.fmod 124).toNat + 4 = m at hs
  refine st_asg (p := .d (.int (m : Int))) St (Ev.cast (Ev.bin (Ev.bin (Ev.name ((List.Mem.head _))) Ev.int (Bin.mod_int (by omega))) Ev.int Bin.add_int) ?_) (.inl rfl) ⟨rfl, rfl⟩ fun s1 S1 => ?_
  · congr 2; omega
  refine st_own (ds := []) S1 (EvN.list (ds := []) EvL.nil (by simp)) (.inl rfl) ⟨rfl, rfl⟩ fun a1 s2 ha1 _ _ S2 => ?_
  refine st_while (fun i => [(Str.ofString "left", .d (.int ((m / 2 ^ i : Nat) : Int)))]) (fun i => [(Str.ofString "rule", a1, rowD ((List.range i).map fun j => (m / 2 ^ j) % 2 == 1))]) (Nat.log2 m) S2 ?_ (fun _ h => h) ?_ ?_ ?_
  · rw [Nat.pow_zero, Nat.div_one]; exact SubL.all ⟨(List.Mem.head _), trivial⟩
  · intro i hi
    exact Tst.cast (Tst.cm (Ev.name ((List.Mem.head _))) Ev.int Cmp.gt_int) (log_test (by omega))
  · intro i s3 hi S3
    have hlog : Nat.log2 m < 7 := (Nat.log2_lt (by omega)).mpr (by have := hs.2; omega)
    refine st_append (d := .str (S (lab ((m / 2 ^ i) % 2 == 1)))) S3 (Ev.item_nat (k := (m / 2 ^ i) % 2) (xs := [.str (S [97]), .str (S [98, 97])]) (Ev.opn (Ev.list (EvL.cons Ev.str (EvL.one Ev.str)) (by simp))) (Ev.cast (Ev.bin (Ev.name ((List.Mem.head _))) Ev.int (Bin.mod_int (by omega))) ?_) ?_ (by simp)) allD1 (fun _ h => nomatch h) (fun _ h => nomatch h) ?_ fun s4 S4 => ?_
    · congr 2
      rw [Int.fmod_eq_emod_of_nonneg _ (by omega)]; rfl
    · rcases Nat.mod_two_eq_zero_or_one (m / 2 ^ i) with h | h <;> rw [h] <;> rfl
    · rw [rowD_len, List.length_map, List.length_range]; omega
    refine st_asgV (p := .d (.int ((m / 2 ^ (i + 1) : Nat) : Int))) [] S4 (Ev.cast (Ev.bin (Ev.name ((List.Mem.head _))) Ev.int (Bin.fdiv_int (by omega) (by decide))) ?_) (.inl rfl) trivial ⟨rfl, rfl⟩ fun s5 S5 => ?_
    · rw [Int.fdiv_eq_ediv_of_nonneg _ (by omega), Nat.pow_succ, ← Nat.div_div_eq_div_mul]; rfl
    refine st_nil S5 ?_
    have e : rowD ((List.range i).map fun j => (m / 2 ^ j) % 2 == 1) ++ [.str (S (lab ((m / 2 ^ i) % 2 == 1)))] = rowD ((List.range (i + 1)).map fun j => (m / 2 ^ j) % 2 == 1) := by
      rw [List.range_succ, List.map_append, rowD, rowD, List.map_append]; rfl
    rw [e] at S5
    exact S5
  · intro s3 S3
    have e : rowD ((List.range (Nat.log2 m)).map fun j => (m / 2 ^ j) % 2 == 1) = rowD (ruleOf x) := by rw [ruleOf, ruleN, hm]
    rw [e] at S3
    exact st_retOwn S3 (fun b hb => .tail _ hb) ha1
-- the row
def pieceOf (w : List Bool) (x : Int) : List Bool := if x.fmod 3 = 0 then [false] else if x.fmod 3 = 1 then [true] else w
def placeOf (n : Nat) (x : Int) : Nat := if x.fmod 3 = 2 then ((x.fdiv 3).fmod ((n : Int) + 1)).toNat else n
def rowStep (w row : List Bool) (x : Int) : List Bool := if row.length + (pieceOf w x).length ≤ 10 then row.take (placeOf row.length x) ++ pieceOf w x ++ row.drop (placeOf row.length x) else row
def rowSt (w : List Bool) (xs : List Int) : List Bool := xs.foldl (rowStep w) []
theorem fmod3 (x : Int) : x.fmod 3 = 0 ∨ x.fmod 3 = 1 ∨ x.fmod 3 = 2 := by
  rw [Int.fmod_eq_emod_of_nonneg _ (by omega)]; omega
theorem rowStep_le {w row : List Bool} {x : Int} (h : row.length ≤ 10) : (rowStep w row x).length ≤ 10 := by
  unfold rowStep
  split
  · rw [List.length_append, List.length_append, List.length_take, List.length_drop]; omega
  · exact h
theorem rowSt_le (w : List Bool) (xs : List Int) : (rowSt w xs).length ≤ 10 := by
  have key : ∀ (l : List Int) (row : List Bool), row.length ≤ 10 → (l.foldl (rowStep w) row).length ≤ 10 := by
    intro l
    induction l with
    | nil => intro row h; exact h
    | cons x l ih => intro row h; exact ih _ (rowStep_le h)
  exact key xs [] (by simp)
theorem rowSt_snoc (w : List Bool) (xs : List Int) (i : Nat) (x : Int) (h : xs[i]? = some x) : rowSt w (xs.take (i + 1)) = rowStep w (rowSt w (xs.take i)) x := by
  unfold rowSt
  rw [List.take_add_one, h, List.foldl_append]; rfl
theorem row_append (a b : List Bool) : rowD a ++ rowD b = rowD (a ++ b) := by simp [rowD]
theorem sl_natT {α : Type} {x : List α} (k : Nat) : sl x none (some (k : Int)) = x.take k := by
  unfold sl
  have e : clipAt x.length (k : Int) = min k x.length := by simp only [clipAt]; omega
  simp only [Option.elim, e, List.drop_zero, Nat.sub_zero]
  rcases Nat.le_total k x.length with h | h
  · rw [Nat.min_eq_left h]
  · rw [Nat.min_eq_right h, List.take_of_length_le h, List.take_of_length_le (Nat.le_refl _)]
theorem sl_natD {α : Type} {x : List α} (k : Nat) : sl x (some (k : Int)) none = x.drop k := by
  unfold sl
  have e : clipAt x.length (k : Int) = min k x.length := by simp only [clipAt]; omega
  simp only [Option.elim, e]
  rcases Nat.le_total k x.length with h | h
  · rw [Nat.min_eq_left h, List.take_of_length_le (by rw [List.length_drop]; omega)]
  · rw [Nat.min_eq_right h, List.drop_of_length_le h, List.drop_of_length_le (Nat.le_refl _)]; simp
theorem sl_negD {α : Type} {x : List α} {k : Nat} (hk : 1 ≤ k) : sl x (some (-(k : Int))) none = x.drop (x.length - k) := by
  unfold sl
  have e : clipAt x.length (-(k : Int)) = x.length - k := by simp only [clipAt]; omega
  simp only [Option.elim, e]
  rw [List.take_of_length_le (by rw [List.length_drop]; omega)]
theorem sl_negT {α : Type} {x : List α} {k : Nat} (hk : 1 ≤ k) : sl x none (some (-(k : Int))) = x.take (x.length - k) := by
  unfold sl
  have e : clipAt x.length (-(k : Int)) = x.length - k := by simp only [clipAt]; omega
  simp only [Option.elim, e, List.drop_zero, Nat.sub_zero]

theorem fn_row {c : Cx} {A : Around} {xs : List Int} {w : List Bool} (h : FnAt c (defAt T2 14)) (b : Base c) (room : Rm A 1) (hw : w.length ≤ 10) (hxs : xs.length ≤ 1000) :
    Fn c A (defAt T2 14).name [.d (.list (xs.map .int)), .d (.list (rowD w))] (.d (.list (rowD (rowSt w xs)))) := by
  refine Fn.at [Str.ofString "numbers", Str.ofString "rule"] h room (by (intro pm code doc vs hv; exact match vs, hv with | [_, _], _ => rfl)) rfl (by decide) (by (intro pm code doc n hn L a; revert n; refine (kindsOk (names := [])).mpr ?_; first | exact ⟨.inl rfl, trivial⟩ | exact ⟨.inl rfl, .inl rfl, trivial⟩ | exact ⟨.inl rfl, .inl rfl, .inl rfl, trivial⟩ | exact ⟨.inr ⟨rfl, rfl⟩, trivial⟩ | exact ⟨.inl rfl, .inr ⟨rfl, rfl⟩, trivial⟩ | exact ⟨.inr ⟨rfl, rfl⟩, .inl rfl, trivial⟩ | exact ⟨.inr ⟨rfl, rfl⟩, .inr ⟨rfl, rfl⟩, trivial⟩ | exact ⟨.inr ⟨rfl, rfl⟩, .inr ⟨rfl, rfl⟩, .inr ⟨rfl, rfl⟩, trivial⟩ | exact ⟨.inr ⟨rfl, rfl⟩, .inr ⟨rfl, rfl⟩, .inl rfl, trivial⟩ | exact ⟨.inr ⟨rfl, rfl⟩, .inl rfl, .inl rfl, trivial⟩ | exact ⟨.inr ⟨rfl, rfl⟩, .inl rfl, .inr ⟨rfl, rfl⟩, trivial⟩ | exact ⟨.inl rfl, .inl rfl, .inr ⟨rfl, rfl⟩, trivial⟩ | exact ⟨.inl rfl, .inr ⟨rfl, rfl⟩, .inl rfl, trivial⟩ | exact ⟨.inl rfl, .inr ⟨rfl, rfl⟩, .inr ⟨rfl, rfl⟩, trivial⟩)) ?_
  intro pm code doc a X s₀ s St
  have r0 : ∀ env, Rm (A.deeper env) 0 := fun env => room.deeper
  refine st_asg (p := .d (.list (rowD (rowSt w [])))) St (Ev.list (ds := []) EvL.nil (by simp)) (.inl rfl) ⟨rfl, rfl⟩ fun s1 S1 => ?_
  refine st_for (ns := [Str.ofString "x"]) (fun i => [(Str.ofString "row", .d (.list (rowD (rowSt w (xs.take i))))), (Str.ofString "rule", .d (.list (rowD w)))]) (fun i => []) (fun d => [(Str.ofString "x", .d d)]) S1 (IterE.listD (g := true) (Ev.name ((List.Mem.tail _ (List.Mem.head _)))) room.handled rfl) ?_
    (fun _ h => h) (fun i w hw => nomatch hw) (fun i => allD1.cons) (fun d _ => AsgF.name (.inl rfl)) ?_ ?_ ?_
  · exact SubL.all ⟨(List.Mem.head _), (List.Mem.tail _ (List.Mem.tail _ (List.Mem.head _))), trivial⟩
  · intro i n hn'; rw [List.mem_singleton.mp hn']; exact ⟨rfl, rfl⟩
  · intro Y P' i d s2 hd hY hP S2
    rw [List.getElem?_map] at hd
    cases hx : xs[i]? with
    | none => rw [hx] at hd; cases hd
    | some x =>
    rw [hx] at hd
    cases hd
    rw [rowSt_snoc w xs i x hx]
    have hle := rowSt_le w (xs.take i)
    generalize rowSt w (xs.take i) = row at hle S2
    have h3 := fmod3 x
    have hpl : (pieceOf w x).length ≤ 10 := by
      unfold pieceOf; split
      · simp
      · split
        · simp
        · exact hw
    refine st_asg (p := .d (.list (rowD (pieceOf w x)))) S2 (Ev.item_nat (k := (x.fmod 3).toNat) (xs := [.list (rowD [false]), .list (rowD [true]), .list (rowD w)]) (Ev.opn (Ev.list (EvL.cons (Ev.list (ds := rowD [false]) (EvL.one Ev.str) (by simp [rowD])) (EvL.cons (Ev.list (ds := rowD [true]) (EvL.one Ev.str) (by simp [rowD])) (EvL.one (Ev.name ((List.Mem.tail _ (List.Mem.tail _ (List.Mem.head _)))))))) (by simp))) (Ev.cast (Ev.bin (Ev.name ((List.Mem.head _))) Ev.int (Bin.mod_int (by omega))) ?_) ?_ (by simp)) (.inl rfl) ⟨rfl, rfl⟩ fun s3 S3 => ?_
    · congr 2; omega
    · unfold pieceOf
      rcases h3 with h | h | h <;> rw [h] <;> rfl
    have hfl : 0 ≤ (x.fdiv 3).fmod ((row.length : Int) + 1) := Int.fmod_nonneg_of_pos _ (by omega)
    refine st_asg (p := .d (.int (placeOf row.length x : Int))) S3 (Ev.item_nat (k := (x.fmod 3).toNat) (xs := [.int (row.length : Int), .int (row.length : Int), .int ((x.fdiv 3).fmod ((row.length : Int) + 1))]) (Ev.opn (Ev.list (EvL.cons (Ev.cast (Ev.bf rfl b.len.1 b.len.2 (Bf.len_list (xs := rowD row) (by rw [rowD_len]; omega)) (EvL.one (Ev.opn (Ev.name ((List.Mem.tail _ (List.Mem.tail _ (List.Mem.head _)))))))) (by rw [rowD_len])) (EvL.cons (Ev.cast (Ev.bf rfl b.len.1 b.len.2 (Bf.len_list (xs := rowD row) (by rw [rowD_len]; omega)) (EvL.one (Ev.opn (Ev.name ((List.Mem.tail _ (List.Mem.tail _ (List.Mem.head _)))))))) (by rw [rowD_len]))
      (EvL.one (Ev.bin (Ev.bin (Ev.name ((List.Mem.tail _ (List.Mem.head _)))) Ev.int (Bin.fdiv_int (by omega) (by decide))) (Ev.bin (Ev.cast (Ev.bf rfl b.len.1 b.len.2 (Bf.len_list (xs := rowD row) (by rw [rowD_len]; omega)) (EvL.one (Ev.opn (Ev.name ((List.Mem.tail _ (List.Mem.tail _ (List.Mem.head _)))))))) (by rw [rowD_len])) Ev.int Bin.add_int) (Bin.mod_int (by omega)))))) (by simp))) (Ev.cast (Ev.bin (Ev.name ((List.Mem.tail _ (List.Mem.head _)))) Ev.int (Bin.mod_int (by omega))) ?_) ?_ (by simp)) (.inl rfl) ⟨rfl, rfl⟩ fun s4 S4 => ?_
    · congr 2; omega
    · unfold placeOf
      rcases h3 with h | h | h <;> rw [h]
      · rfl
      · rfl
      · show some _ = some _
        rw [if_pos rfl]; congr 2; omega
    refine st_if S4 (b := decide (row.length + (pieceOf w x).length ≤ 10)) (Tst.cast (Tst.cm (Ev.bin (Ev.cast (Ev.bf rfl b.len.1 b.len.2 (Bf.len_list (xs := rowD row) (by rw [rowD_len]; omega)) (EvL.one (Ev.opn (Ev.name ((List.Mem.tail _ (List.Mem.tail _ (List.Mem.tail _ (List.Mem.head _))))))))) (by rw [rowD_len])) (Ev.cast (Ev.bf rfl b.len.1 b.len.2 (Bf.len_list (xs := rowD (pieceOf w x)) (by rw [rowD_len]; omega)) (EvL.one (Ev.opn (Ev.name ((List.Mem.tail _ (List.Mem.head _))))))) (by rw [rowD_len])) Bin.add_int) Ev.int Cmp.le_int) ?_) (fun hb s5 S5 => ?_) fun hb s5 S5 => ?_
    · rw [decide_eq_decide]; omega
    · have hb := of_decide_eq_true hb
      have hpl2 : placeOf row.length x ≤ row.length := by
        unfold placeOf; split
        · have := Int.fmod_lt_of_pos (x.fdiv 3) (show 0 < (row.length : Int) + 1 by omega); omega
        · omega
      refine st_asgV (p := .d (.list (rowD (rowStep w row x)))) [(Str.ofString "rule", .d (.list (rowD w)))] S5 (Ev.cast (Ev.bin (Ev.opn (Ev.bin (Ev.opn (Ev.slice_list (lo := none) (hi := some (placeOf row.length x : Int)) (Ev.opn (Ev.name ((List.Mem.tail _ (List.Mem.tail _ (List.Mem.tail _ (List.Mem.head _))))))) trivial (Ev.name ((List.Mem.head _))) ?_)) (Ev.opn (Ev.name ((List.Mem.tail _ (List.Mem.head _))))) (Bin.add_list ?_))) (Ev.opn (Ev.slice_list (lo := some (placeOf row.length x : Int)) (hi := none) (Ev.opn (Ev.name ((List.Mem.tail _ (List.Mem.tail _ (List.Mem.tail _ (List.Mem.head _))))))) (Ev.name ((List.Mem.head _))) trivial ?_)) (Bin.add_list ?_)) ?_) (.inl rfl) ⟨(List.Mem.tail _ (List.Mem.tail _ (List.Mem.tail _ (List.Mem.tail _ (List.Mem.head _))))), trivial⟩ ⟨rfl, rfl⟩ fun s6 S6 => ?_
      · rw [rowD_len, sizeLine_eq]; omega
      · rw [sl_rowD, rowD_len, rowD_len, sl_natT, List.length_take]; omega
      · rw [rowD_len, sizeLine_eq]; omega
      · rw [List.length_append, sl_rowD, sl_rowD, rowD_len, rowD_len, rowD_len, sl_natT, sl_natD, List.length_take, List.length_drop]; omega
      · rw [sl_rowD, sl_rowD, row_append, row_append, sl_natT, sl_natD, rowStep, if_pos hb]
      · exact st_nil S6 (st_nil S6 S6)
    · have hb := of_decide_eq_false hb
      refine st_nil S5 ?_
      rw [rowStep, if_neg hb]
      exact S5.sub ⟨(List.Mem.tail _ (List.Mem.tail _ (List.Mem.tail _ (List.Mem.head _)))), (List.Mem.tail _ (List.Mem.tail _ (List.Mem.tail _ (List.Mem.tail _ (List.Mem.head _))))), trivial⟩
  · intro s2 S2
    refine st_retF S2 (Ev.cast (Ev.name ((List.Mem.head _))) ?_)
    rw [List.length_map, List.take_length]

theorem pile_snoc (w r : List Bool) (i : Nat) (l : Bool) (h : r[i]? = some l) : pile w (r.take (i + 1)) = pstep w (pile w (r.take i)) l := by
  unfold pile
  rw [List.take_add_one, h, List.foldl_append]; rfl
theorem pile_le (w : List Bool) (r : List Bool) : (pile w r).length ≤ r.length := by
  have key : ∀ (l p : List Bool), (l.foldl (pstep w) p).length ≤ p.length + l.length := by
    intro l
    induction l with
    | nil => intro p; simp
    | cons x l ih =>
      intro p
      have h1 := ih (pstep w p x)
      have h2 : (pstep w p x).length ≤ p.length + 1 := by
        unfold pstep; split
        · rw [List.length_take, List.length_append, List.length_singleton]; omega
        · simp
      rw [List.foldl_cons, List.length_cons]; omega
  have := key r []
  simpa [pile] using this
theorem fn_pile {c : Cx} {A : Around} {r w : List Bool} (h : FnAt c (defAt T2 18)) (b : Base c) (room : Rm A 1) (hw : 1 ≤ w.length ∧ w.length ≤ 10) (hr : r.length ≤ 100) :
    Fn c A (defAt T2 18).name [.d (.list (rowD r)), .d (.list (rowD w))] (.d (.list (rowD (pile w r)))) := by
  refine Fn.at [Str.ofString "row", Str.ofString "rule"] h room (by (intro pm code doc vs hv; exact match vs, hv with | [_, _], _ => rfl)) rfl (by decide) (by (intro pm code doc n hn L a; revert n; refine (kindsOk (names := [])).mpr ?_; first | exact ⟨.inl rfl, trivial⟩ | exact ⟨.inl rfl, .inl rfl, trivial⟩ | exact ⟨.inl rfl, .inl rfl, .inl rfl, trivial⟩ | exact ⟨.inr ⟨rfl, rfl⟩, trivial⟩ | exact ⟨.inl rfl, .inr ⟨rfl, rfl⟩, trivial⟩ | exact ⟨.inr ⟨rfl, rfl⟩, .inl rfl, trivial⟩ | exact ⟨.inr ⟨rfl, rfl⟩, .inr ⟨rfl, rfl⟩, trivial⟩ | exact ⟨.inr ⟨rfl, rfl⟩, .inr ⟨rfl, rfl⟩, .inr ⟨rfl, rfl⟩, trivial⟩ | exact ⟨.inr ⟨rfl, rfl⟩, .inr ⟨rfl, rfl⟩, .inl rfl, trivial⟩ | exact ⟨.inr ⟨rfl, rfl⟩, .inl rfl, .inl rfl, trivial⟩ | exact ⟨.inr ⟨rfl, rfl⟩, .inl rfl, .inr ⟨rfl, rfl⟩, trivial⟩ | exact ⟨.inl rfl, .inl rfl, .inr ⟨rfl, rfl⟩, trivial⟩ | exact ⟨.inl rfl, .inr ⟨rfl, rfl⟩, .inl rfl, trivial⟩ | exact ⟨.inl rfl, .inr ⟨rfl, rfl⟩, .inr ⟨rfl, rfl⟩, trivial⟩)) ?_
  intro pm code doc a X s₀ s St
  have r0 : ∀ env, Rm (A.deeper env) 0 := fun env => room.deeper
  refine st_asg (p := .d (.list (rowD (pile w [])))) St (Ev.list (ds := []) EvL.nil (by simp)) (.inl rfl) ⟨rfl, rfl⟩ fun s1 S1 => ?_
  refine st_for (ns := [Str.ofString "label"]) (fun i => [(Str.ofString "pile", .d (.list (rowD (pile w (r.take i))))), (Str.ofString "rule", .d (.list (rowD w)))]) (fun i => []) (fun d => [(Str.ofString "label", .d d)]) S1 (IterE.listD (g := true) (Ev.name ((List.Mem.tail _ (List.Mem.head _)))) room.handled rfl) ?_
    (fun _ h => h) (fun i w hw => nomatch hw) (fun i => allD1.cons) (fun d _ => AsgF.name (.inl rfl)) ?_ ?_ ?_
  · exact SubL.all ⟨(List.Mem.head _), (List.Mem.tail _ (List.Mem.tail _ (List.Mem.head _))), trivial⟩
  · intro i n hn'; rw [List.mem_singleton.mp hn']; exact ⟨rfl, rfl⟩
  · intro Y P' i d s2 hd hY hP S2
    rw [rowD, List.getElem?_map] at hd
    cases hx : r[i]? with
    | none => rw [hx] at hd; cases hd
    | some l =>
    rw [hx] at hd
    cases hd
    rw [pile_snoc w r i l hx]
    have hle := pile_le w (r.take i)
    rw [List.length_take] at hle
    generalize pile w (r.take i) = p at hle S2
    have hq : (p ++ [l]).length = p.length + 1 := by simp
    refine st_asgV (p := .d (.list (rowD (p ++ [l])))) [(Str.ofString "rule", .d (.list (rowD w)))] S2 (Ev.cast (Ev.bin (Ev.opn (Ev.name ((List.Mem.tail _ (List.Mem.head _))))) (Ev.opn (Ev.list (ds := rowD [l]) (EvL.one (Ev.name ((List.Mem.head _)))) (by simp [rowD]))) (Bin.add_list ?_)) ?_) (.inl rfl) ⟨(List.Mem.tail _ (List.Mem.tail _ (List.Mem.head _))), trivial⟩ ⟨rfl, rfl⟩ fun s3 S3 => ?_
    · rw [rowD_len, rowD_len]; simp; omega
    · rw [row_append]
    refine st_if S3 (b := (p ++ [l]).drop ((p ++ [l]).length - w.length) == w) (Tst.cast (Tst.cm (Ev.slice_list (lo := some (-(w.length : Int))) (hi := none) (Ev.opn (Ev.name ((List.Mem.head _)))) (Ev.neg (Ev.cast (Ev.bf rfl b.len.1 b.len.2 (Bf.len_list (xs := rowD w) (by rw [rowD_len]; omega)) (EvL.one (Ev.opn (Ev.name ((List.Mem.tail _ (List.Mem.head _))))))) (by rw [rowD_len]))) trivial ?_) (Ev.name ((List.Mem.tail _ (List.Mem.head _)))) (Cmp.eq_data ?_ (shaped_list (scal_row _)) (r0 _))) ?_) (fun hb s4 S4 => ?_) fun hb s4 S4 => ?_
    · rw [rowD_len, sizeLine_eq]; omega
    · show shaped (.list _) = true
      rw [sl_rowD]; exact shaped_list (scal_row _)
    · show PyData.eqv (.list _) (.list _) = _
      rw [sl_rowD, PyData.eqv, eqv_rows, sl_negD hw.1]
    · refine st_asgV (p := .d (.list (rowD (pstep w p l)))) [(Str.ofString "rule", .d (.list (rowD w)))] S4 (Ev.cast (Ev.slice_list (lo := none) (hi := some (-(w.length : Int))) (Ev.opn (Ev.name ((List.Mem.head _)))) trivial (Ev.neg (Ev.cast (Ev.bf rfl b.len.1 b.len.2 (Bf.len_list (xs := rowD w) (by rw [rowD_len]; omega)) (EvL.one (Ev.opn (Ev.name ((List.Mem.tail _ (List.Mem.head _))))))) (by rw [rowD_len]))) ?_) ?_) (.inl rfl) ⟨(List.Mem.tail _ (List.Mem.head _)), trivial⟩ ⟨rfl, rfl⟩ fun s5 S5 => ?_
      · rw [rowD_len, sizeLine_eq]; omega
      · rw [sl_rowD, sl_negT hw.1, pstep, if_pos hb]
      · exact st_nil S5 (st_nil S5 S5)
    · refine st_nil S4 ?_
      rw [pstep, if_neg (by rw [hb]; simp)]
      exact S4
  · intro s2 S2
    refine st_retF S2 (Ev.cast (Ev.name ((List.Mem.head _))) ?_)
    rw [rowD_len, List.take_length]
end Mine
end

section
open PySem PySem.W PyProof.Rows PySem.SeqAt
set_option Elab.async false
set_option maxRecDepth 100000
namespace Mine
theorem lit_4local : Str.ofString "....local" = S (dots ++ dloc) := by rfl
/-- what the first i places give -/
def outsTo (w r : List Bool) (i : Nat) : List (List Bool) := ((List.range i).filter fun k => w.isPrefixOf (r.drop k)).map fun k => cut r k w.length
theorem outsTo_all (w r : List Bool) : outsTo w r r.length = outs w r := rfl
theorem outsTo_succ (w r : List Bool) (i : Nat) : outsTo w r (i + 1) = if w.isPrefixOf (r.drop i) then outsTo w r i ++ [cut r i w.length] else outsTo w r i := by
  unfold outsTo
  rw [List.range_succ, List.filter_append, List.map_append]
  cases h : w.isPrefixOf (r.drop i) <;> simp [h]
theorem outsTo_le (w r : List Bool) (i : Nat) : (outsTo w r i).length ≤ i := by
  rw [outsTo, List.length_map]
  exact Nat.le_trans (List.length_filter_le _ _) (by rw [List.length_range]; exact Nat.le_refl _)
def hostsD (l : List (List Bool)) : List PyData := strD (l.map hostL)
theorem hostsD_len (l : List (List Bool)) : (hostsD l).length = l.length := by rw [hostsD, strD_len, List.length_map]
theorem hostsD_snoc (l : List (List Bool)) (x : List Bool) : hostsD l ++ [.str (S (hostL x))] = hostsD (l ++ [x]) := by
  simp [hostsD, strD]
theorem dl_le (r : List Bool) (i : Nat) (h : r.length ≤ 20) : (nameL (r.drop i) ++ dloc).length ≤ 66 := by
  have := nameL_le (r.drop i)
  rw [List.length_drop] at this
  rw [List.length_append]; simp only [List.length_cons, List.length_nil]; omega
theorem dl_pos (r : List Bool) (i : Nat) : 1 ≤ (nameL (r.drop i) ++ dloc).length := by
  rw [List.length_append]; simp only [List.length_cons]; omega
theorem abc_drop1 (r : List Bool) : Abc ((nameL r ++ dloc).drop 1) := fun ch hc => abc_dom r ch (List.mem_of_mem_drop hc)
section
variable {c : Cx} {A : Around} {X : List Addr} {env : Env} {ρ : List (Str × Pd)}
/-- one label less -/
theorem Ev.less1 {e : Expr} {fp pos : Pos} {r : List Bool} {i : Nat} {A' : Around} (hre : FnAt c (defAt T2 6)) (hh : FnAt c (defAt T2 3)) (b : Base c) (room : Rm A' 2) (hi : i < r.length) (hr : r.length ≤ 20)
    (he : Ev c A' X env ρ e (.d (.str (S (nameL (r.drop i) ++ dloc))))) (hk : env.kindOf (defAt T2 6).name = some .globalImplicit)
    (hs : starEach [.Subscript e (.Slice (some (.Constant (.int 1) k1 p1)) none none p2) p3] env = [(false, eval (.Subscript e (.Slice (some (.Constant (.int 1) k1 p1)) none none p2) p3) env)] := by rfl) :
    Ev c A' X env ρ (.Call (.Name (defAt T2 6).name fp) [.Subscript e (.Slice (some (.Constant (.int 1) k1 p1)) none none p2) p3] [] pos) (.d (.str (S (nameL (r.drop (i + 1)) ++ dloc)))) := by
  have hdl := dl_le r i hr
  obtain ⟨bb, hbb⟩ : ∃ bb, r.drop i = bb :: r.drop (i + 1) := ⟨_, List.drop_eq_getElem_cons hi⟩
  refine Ev.cast (Ev.fn hk (fn_reach (x := (nameL (r.drop i) ++ dloc).drop 1) hre hh b.pat room (abc_drop1 _).noDig (by rw [List.length_drop]; omega)) (EvL.one (Ev.cast (Ev.slice_str (lo := some ((1 : Nat) : Int)) (hi := none) he Ev.int trivial ?_) ?_) hs)) ?_
  · rw [sizeLine_eq]; omega
  · rw [sl_natD]
  · rw [hbb, reach_dom]
end
theorem fn_melted {c : Cx} {A : Around} {r w : List Bool} (h : FnAt c (defAt T2 15)) (hre : FnAt c (defAt T2 6)) (hh : FnAt c (defAt T2 3)) (he : FnAt c (defAt T2 9)) (b : Base c) (room : Rm A 3) (hw : 1 ≤ w.length ∧ w.length ≤ 10) (hr : r.length ≤ 20) :
    Fn c A (defAt T2 15).name [.d (.str (S (hostL r))), .d (.str (S (nameL w)))] (.d (.list (hostsD (outs w r)))) := by
  refine Fn.at [Str.ofString "host", Str.ofString "name"] h (room.less (by omega)) (by (intro pm code doc vs hv; exact match vs, hv with | [_, _], _ => rfl)) rfl (by decide) (by (intro pm code doc n hn L a; revert n; refine (kindsOk (names := [])).mpr ?_; first | exact ⟨.inl rfl, trivial⟩ | exact ⟨.inl rfl, .inl rfl, trivial⟩ | exact ⟨.inl rfl, .inl rfl, .inl rfl, trivial⟩ | exact ⟨.inr ⟨rfl, rfl⟩, trivial⟩ | exact ⟨.inl rfl, .inr ⟨rfl, rfl⟩, trivial⟩ | exact ⟨.inr ⟨rfl, rfl⟩, .inl rfl, trivial⟩ | exact ⟨.inr ⟨rfl, rfl⟩, .inr ⟨rfl, rfl⟩, trivial⟩ | exact ⟨.inr ⟨rfl, rfl⟩, .inr ⟨rfl, rfl⟩, .inr ⟨rfl, rfl⟩, trivial⟩ | exact ⟨.inr ⟨rfl, rfl⟩, .inr ⟨rfl, rfl⟩, .inl rfl, trivial⟩ | exact ⟨.inr ⟨rfl, rfl⟩, .inl rfl, .inl rfl, trivial⟩ | exact ⟨.inr ⟨rfl, rfl⟩, .inl rfl, .inr ⟨rfl, rfl⟩, trivial⟩ | exact ⟨.inl rfl, .inl rfl, .inr ⟨rfl, rfl⟩, trivial⟩ | exact ⟨.inl rfl, .inr ⟨rfl, rfl⟩, .inl rfl, trivial⟩ | exact ⟨.inl rfl, .inr ⟨rfl, rfl⟩, .inr ⟨rfl, rfl⟩, trivial⟩)) ?_
  intro pm code doc a X s₀ s St
  have r2 : ∀ env, Rm (A.deeper env) 2 := fun env => room.deeper
  have r1 : ∀ env, Rm (A.deeper env) 1 := fun env => (r2 env).less (by omega)
  have hhl := hostL_le r
  have hnl := nameL_le w
  have hwne : w ≠ [] := by rintro rfl; simp at hw
  refine st_own (ds := []) St (EvN.list (ds := []) EvL.nil (by simp)) (.inl rfl) ⟨rfl, rfl⟩ fun a1 s1 ha1 _ _ S1 => ?_
  have hXY : ∀ b ∈ X, b ∈ a1 :: X := fun b hb => .tail _ hb
  refine st_asg (p := .d (.str (S (nameL (r.drop 0) ++ dloc)))) S1 (Ev.cast (Ev.fn rfl (fn_reach (x := hostL r) hre hh b.pat (r2 _) (abc_hostL r).noDig (by omega)) (EvL.one (Ev.name ((List.Mem.head _))))) ?_) (.inl rfl) ⟨rfl, rfl⟩ fun s2 S2 => ?_
  · rw [hostL, reach_host, List.drop_zero]
  have hN : (((r.length + 1 : Nat) : Int) - 1).toNat = r.length := by omega
  refine st_for (ds := rng 0 (((r.length + 1 : Nat) : Int) - 1).toNat) (g := true) (ns := [Str.ofString "label"]) (fun i => [(Str.ofString "domain", .d (.str (S (nameL (r.drop i) ++ dloc)))), (Str.ofString "host", .d (.str (S (hostL r)))), (Str.ofString "name", .d (.str (S (nameL w))))]) (fun i => [(Str.ofString "hosts", a1, hostsD (outsTo w r i))]) (fun d => [(Str.ofString "label", .d d)]) S2
    (IterE.range1 rfl b.range.1 b.range.2 room.handled (Ev.bin (Ev.cast (Ev.meth (Ev.name ((List.Mem.tail _ (List.Mem.head _)))) F.slot_str_count F.type_str_count (EvL.one Ev.str) Bf.count rfl (by decide)) ?_) Ev.int Bin.sub_int) ?_ ?_) ?_ (fun _ h => h) ?_ (fun i => allD1.cons.cons) (fun d _ => AsgF.name (.inl rfl)) ?_ ?_ ?_
  · show Pd.d (.int (Txt.count (S (hostL r)) (Str.ofString "."))) = _
    rw [lit_dot, count_dot, count_host]
  · omega
  · omega
  · exact SubL.all ⟨(List.Mem.head _), (List.Mem.tail _ (List.Mem.head _)), (List.Mem.tail _ (List.Mem.tail _ (List.Mem.head _))), trivial⟩
  · intro i w hw; rw [List.mem_singleton.mp hw]; exact .head _
  · intro i n hn'; rw [List.mem_singleton.mp hn']; exact ⟨rfl, rfl⟩
  · intro Y P' i d s3 hd hY hP S3
    have hi : i < r.length := by
      rcases Nat.lt_or_ge i r.length with h | h
      · exact h
      · rw [List.getElem?_eq_none (by rw [rng_length, hN]; exact h)] at hd; cases hd
    have hdl := dl_le r i hr
    have ha1P : ∀ q ∈ P'.l, q.1 ≠ a1 := by
      intro q hq
      rcases hP rfl q hq with h | h
      · cases h
      · intro e; exact h (e ▸ .head _)
    have hws : ∀ u ∈ [nameL w, dloc], Good u ∧ u.length ≤ 1000 := by
      intro u hu
      simp at hu
      rcases hu with rfl | rfl
      · exact ⟨good_name _, by omega⟩
      · exact ⟨good_dloc, by simp⟩
    refine st_if S3 (b := w.isPrefixOf (r.drop i)) (Tst.cast (Tst.plain (Ev.fn rfl (fn_ell (ws := [nameL w, dloc]) (g := nameL (r.drop i) ++ dloc) he b (r1 _) (fun u hu => (hws u hu).1) (by simp) (fun u hu => (hws u hu).2) (by simp) (by omega) ?_) (EvL.cons (Ev.cast (Ev.bin (Ev.name ((List.Mem.tail _ (List.Mem.tail _ (List.Mem.tail _ (List.Mem.head _)))))) Ev.str (Bin.add_str (b := dots ++ dloc) ?_)) ?_) (EvL.one (Ev.name ((List.Mem.tail _ (List.Mem.head _))))))) Tru.bool) (ell_melt hwne)) (fun hb s4 S4 => ?_) fun hb s4 S4 => ?_
    · show (nameL w ++ dots ++ dloc).length ≤ _
      simp only [List.length_append, List.length_cons, List.length_nil]; omega
    · rw [sizeLine_eq]; simp; omega
    · show Pd.d (.str (S (nameL w ++ (dots ++ dloc)))) = Pd.d (.str (S (nameL w ++ dots ++ dloc)))
      rw [List.append_assoc]
    · have hfit : i + w.length ≤ r.length := by
        have := (List.isPrefixOf_iff_prefix.mp hb).length_le
        rw [List.length_drop] at this; omega
      refine st_asg (p := .d (.str (S (nameL (r.drop (i + 0)) ++ dloc)))) S4 (Ev.name ((List.Mem.tail _ (List.Mem.head _)))) (.inl rfl) ⟨rfl, rfl⟩ fun s5 S5 => ?_
      have hN2 : ((w.length : Nat) : Int).toNat = w.length := by omega
      refine st_for (ds := rng 0 ((w.length : Nat) : Int).toNat) (g := true) (ns := [Str.ofString "dot"]) (fun j => [(Str.ofString "rest", .d (.str (S (nameL (r.drop (i + j)) ++ dloc)))), (Str.ofString "domain", .d (.str (S (nameL (r.drop i) ++ dloc)))), (Str.ofString "host", .d (.str (S (hostL r)))), (Str.ofString "name", .d (.str (S (nameL w))))]) (fun j => [(Str.ofString "hosts", a1, hostsD (outsTo w r i))]) (fun d => [(Str.ofString "dot", .d d)]) S5
        (IterE.range1 rfl b.range.1 b.range.2 room.handled (Ev.cast (Ev.meth (Ev.name ((List.Mem.tail _ (List.Mem.tail _ (List.Mem.tail _ (List.Mem.tail _ (List.Mem.head _))))))) F.slot_str_count F.type_str_count (EvL.one Ev.str) Bf.count rfl (by decide)) ?_) ?_ ?_) ?_ (fun _ h => h) ?_ (fun i => allD1.cons.cons.cons) (fun d _ => AsgF.name (.inl rfl)) ?_ ?_ ?_
      · show Pd.d (.int (Txt.count (S (nameL w)) (Str.ofString "."))) = _
        rw [lit_dot, count_dot, count_name]
      · omega
      · omega
      · exact SubL.all ⟨(List.Mem.head _), (List.Mem.tail _ (List.Mem.tail _ (List.Mem.head _))), (List.Mem.tail _ (List.Mem.tail _ (List.Mem.tail _ (List.Mem.head _)))), (List.Mem.tail _ (List.Mem.tail _ (List.Mem.tail _ (List.Mem.tail _ (List.Mem.head _))))), trivial⟩
      · intro j u hu; rw [List.mem_singleton.mp hu]; exact hY _ (.head _)
      · intro j n hn'; rw [List.mem_singleton.mp hn']; exact ⟨rfl, rfl⟩
      · intro Y2 P2 j d2 s6 hd2 hY2 hP2 S6
        have hj : j < w.length := by
          rcases Nat.lt_or_ge j w.length with h | h
          · exact h
          · rw [List.getElem?_eq_none (by rw [rng_length, hN2]; exact h)] at hd2; cases hd2
        refine st_asgV (p := .d (.str (S (nameL (r.drop (i + j + 1)) ++ dloc)))) [(Str.ofString "domain", .d (.str (S (nameL (r.drop i) ++ dloc)))), (Str.ofString "host", .d (.str (S (hostL r)))), (Str.ofString "name", .d (.str (S (nameL w))))] S6 (Ev.less1 (r := r) (i := i + j) hre hh b (r2 _) (by omega) hr (Ev.name ((List.Mem.tail _ (List.Mem.head _)))) rfl) (.inl rfl) ⟨(List.Mem.tail _ (List.Mem.tail _ (List.Mem.head _))), (List.Mem.tail _ (List.Mem.tail _ (List.Mem.tail _ (List.Mem.head _)))), (List.Mem.tail _ (List.Mem.tail _ (List.Mem.tail _ (List.Mem.tail _ (List.Mem.head _))))), trivial⟩ ⟨rfl, rfl⟩ fun s7 S7 => ?_
        exact st_nil S7 S7
      · intro s6 S6
        rw [rng_length, hN2] at S6
        refine st_append (d := .str (S (hostL (cut r i w.length)))) S6 (Ev.cast (Ev.bin (Ev.slice_str (x := hostL r) (lo := none) (hi := some _) (Ev.name ((List.Mem.tail _ (List.Mem.tail _ (List.Mem.head _))))) trivial (Ev.bin (Ev.bf rfl b.len.1 b.len.2 (Bf.len_str (x := hostL r) (by omega)) (EvL.one (Ev.name ((List.Mem.tail _ (List.Mem.tail _ (List.Mem.head _))))))) (Ev.bf rfl b.len.1 b.len.2 (Bf.len_str (x := nameL (r.drop i) ++ dloc) (by omega)) (EvL.one (Ev.name ((List.Mem.tail _ (List.Mem.head _)))))) Bin.sub_int) ?_) (Ev.name ((List.Mem.head _))) (Bin.add_str ?_)) ?_) allD1.cons.cons.cons (fun _ h => nomatch h) ha1P ?_ fun s7 S7 => ?_
        · rw [sizeLine_eq]; omega
        · have h1 := host_cut r (k := i) (n := w.length) (by omega)
          have h2 := congrArg List.length h1
          rw [List.length_append] at h2
          have h3 := hostL_le (cut r i w.length)
          rw [cut_len hfit] at h3
          rw [sizeLine_eq]; omega
        · rw [host_cut r (by omega)]
        · rw [hostsD_len]; have := outsTo_le w r i; omega
        refine st_nil S7 ?_
        rw [hostsD_snoc] at S7
        refine st_asgV (p := .d (.str (S (nameL (r.drop (i + 1)) ++ dloc)))) [(Str.ofString "host", .d (.str (S (hostL r)))), (Str.ofString "name", .d (.str (S (nameL w))))] S7 (Ev.less1 (r := r) (i := i) hre hh b (r2 _) hi hr (Ev.name ((List.Mem.tail _ (List.Mem.head _)))) rfl) (.inl rfl) ⟨(List.Mem.tail _ (List.Mem.tail _ (List.Mem.head _))), (List.Mem.tail _ (List.Mem.tail _ (List.Mem.tail _ (List.Mem.head _)))), trivial⟩ ⟨rfl, rfl⟩ fun s8 S8 => ?_
        refine st_nil S8 ?_
        rw [outsTo_succ, hb, if_pos rfl]
        exact S8
    · refine st_asgV (p := .d (.str (S (nameL (r.drop (i + 1)) ++ dloc)))) [(Str.ofString "host", .d (.str (S (hostL r)))), (Str.ofString "name", .d (.str (S (nameL w))))] S4 (Ev.less1 (r := r) (i := i) hre hh b (r2 _) hi hr (Ev.name ((List.Mem.tail _ (List.Mem.head _)))) rfl) (.inl rfl) ⟨(List.Mem.tail _ (List.Mem.tail _ (List.Mem.head _))), (List.Mem.tail _ (List.Mem.tail _ (List.Mem.tail _ (List.Mem.head _)))), trivial⟩ ⟨rfl, rfl⟩ fun s8 S8 => ?_
      refine st_nil S8 ?_
      rw [outsTo_succ, hb, if_neg (by simp)]
      exact S8
  · intro s3 S3
    rw [rng_length, hN, outsTo_all] at S3
    exact st_retOwn S3 hXY ha1
end Mine
end

section
open PySem PySem.W PyProof.Rows PySem.SeqAt
set_option Elab.async false
set_option maxRecDepth 100000
namespace Mine
theorem hostsD_get (l : List (List Bool)) (i : Nat) : (hostsD l)[i]? = (l[i]?).map fun r => .str (S (hostL r)) := by
  rw [hostsD, strD_get, List.getElem?_map]; cases l[i]? <;> rfl
theorem scal_hosts (l : List (List Bool)) : ∀ d ∈ hostsD l, scal d = true := fun d hd => by
  obtain ⟨x, hx, rfl⟩ := List.mem_map.mp hd
  obtain ⟨r, _, rfl⟩ := List.mem_map.mp hx
  exact strOk_S (abc_hostL r).lt
theorem any_hosts (l : List (List Bool)) (x : List Bool) : ((hostsD l).any fun y => PyData.eqv y (.str (S (hostL x)))) = l.any fun y => y == x := by
  induction l with
  | nil => rfl
  | cons a l ih =>
    have e : hostsD (a :: l) = .str (S (hostL a)) :: hostsD l := rfl
    rw [e, List.any_cons, List.any_cons, ih, PyData.eqv, host_beq]
theorem hosts_strs (l : List (List Bool)) : hostsD l = (l.map fun r => S (hostL r)).map .str := by
  rw [hostsD, strD, List.map_map, List.map_map]; rfl
theorem hosts_empty (l : List (List Bool)) : (hostsD l).isEmpty = l.isEmpty := by cases l <;> rfl
/-- the ends, in order -/
def endsD (l : List (List Bool)) : List PyData := (srt (l.map fun r => S (hostL r))).map .str
theorem bst_ends_le {w r : List Bool} {N i : Nat} (h : Bfs w r N) (hi : i ≤ N) : (bst w r i).2.length ≤ 5000 := by
  rw [h.ends i hi]
  refine Nat.le_trans (List.length_filter_le _ _) ?_
  rw [List.length_take]
  have := h.most
  omega
theorem bst_succ {w r one : List Bool} {i : Nat} (h : (bst w r i).1[i]? = some one) : bst w r (i + 1) = (addAll (bst w r i).1 (outs w one), if (outs w one).isEmpty then (bst w r i).2 ++ [one] else (bst w r i).2) := by
  show turn w i (bst w r i) = _
  rw [turn, h]
theorem take_all {α : Type} (l : List α) : l.take l.length = l := List.take_of_length_le (Nat.le_refl _)
theorem addAll_step_le {w r one : List Bool} {N i : Nat} (hB : Bfs w r N) (hi : i < N) (h1 : (bst w r i).1[i]? = some one) (j : Nat) : (addAll (bst w r i).1 ((outs w one).take j)).length ≤ 5000 := by
  have h2 := hB.le (i := i + 1) hi
  rw [bst_succ h1] at h2
  have e : addAll (bst w r i).1 (outs w one) = addAll (addAll (bst w r i).1 ((outs w one).take j)) ((outs w one).drop j) := by
    unfold addAll
    rw [← List.foldl_append, List.take_append_drop]
  rw [e] at h2
  exact Nat.le_trans (addAll_pre _ _).length_le h2
def whileBody (b : List Stmt) (i : Nat) : List Stmt := match b[i]? with
  | some (Stmt.While _ x _ _) => x
  | _ => []

theorem fn_hends {c : Cx} {A : Around} {r w : List Bool} {N : Nat} (h : FnAt c (defAt T2 16)) (hm : FnAt c (defAt T2 15)) (hre : FnAt c (defAt T2 6)) (hh : FnAt c (defAt T2 3)) (he : FnAt c (defAt T2 9)) (b : Base c) (room : Rm A 4)
    (hw : 1 ≤ w.length ∧ w.length ≤ 10) (hr : r.length ≤ 20) (hB : Bfs w r N) (h64 : (bst w r N).2.length < 64) :
    Fn c A (defAt T2 16).name [.d (.str (S (hostL r))), .d (.str (S (nameL w)))] (.d (.list (endsD (bst w r N).2))) := by
  refine Fn.at [Str.ofString "host", Str.ofString "name"] h (room.less (by omega)) (by (intro pm code doc vs hv; exact match vs, hv with | [_, _], _ => rfl)) rfl (by decide) (by (intro pm code doc n hn L a; revert n; refine (kindsOk (names := [])).mpr ?_; first | exact ⟨.inl rfl, trivial⟩ | exact ⟨.inl rfl, .inl rfl, trivial⟩ | exact ⟨.inl rfl, .inl rfl, .inl rfl, trivial⟩ | exact ⟨.inr ⟨rfl, rfl⟩, trivial⟩ | exact ⟨.inl rfl, .inr ⟨rfl, rfl⟩, trivial⟩ | exact ⟨.inr ⟨rfl, rfl⟩, .inl rfl, trivial⟩ | exact ⟨.inr ⟨rfl, rfl⟩, .inr ⟨rfl, rfl⟩, trivial⟩ | exact ⟨.inr ⟨rfl, rfl⟩, .inr ⟨rfl, rfl⟩, .inr ⟨rfl, rfl⟩, trivial⟩ | exact ⟨.inr ⟨rfl, rfl⟩, .inr ⟨rfl, rfl⟩, .inl rfl, trivial⟩ | exact ⟨.inr ⟨rfl, rfl⟩, .inl rfl, .inl rfl, trivial⟩ | exact ⟨.inr ⟨rfl, rfl⟩, .inl rfl, .inr ⟨rfl, rfl⟩, trivial⟩ | exact ⟨.inl rfl, .inl rfl, .inr ⟨rfl, rfl⟩, trivial⟩ | exact ⟨.inl rfl, .inr ⟨rfl, rfl⟩, .inl rfl, trivial⟩ | exact ⟨.inl rfl, .inr ⟨rfl, rfl⟩, .inr ⟨rfl, rfl⟩, trivial⟩)) ?_
  intro pm code doc a X s₀ s St
  have r3 : ∀ env, Rm (A.deeper env) 3 := fun env => room.deeper
  refine st_own (ds := hostsD [r]) St (EvN.list (ds := [.str (S (hostL r))]) (EvL.one (Ev.name ((List.Mem.head _)))) (by simp)) (.inl rfl) ⟨rfl, rfl⟩ fun a1 s1 ha1 _ _ S1 => ?_
  refine st_own (ds := hostsD []) S1 (EvN.list (ds := []) EvL.nil (by simp)) (.inl rfl) ⟨rfl, rfl⟩ fun a2 s2 ha2 ha21 _ S2 => ?_
  have h12 : a1 ≠ a2 := ha21 _ (.head _)
  have hXY : ∀ b ∈ X, b ∈ a2 :: a1 :: X := fun b hb => .tail _ (.tail _ hb)
  refine st_asg (p := .d (.int ((0 : Nat) : Int))) S2 Ev.int (.inl rfl) ⟨rfl, rfl⟩ fun s3 S3 => ?_
  refine st_while (fun i => [(Str.ofString "place", .d (.int (i : Int))), (Str.ofString "name", .d (.str (S (nameL w))))]) (fun i => [(Str.ofString "hosts", a1, hostsD (bst w r i).1), (Str.ofString "ends", a2, hostsD (bst w r i).2)]) N S3 ?_ ?_ ?_ ?_ ?_
  · exact SubL.all ⟨(List.Mem.head _), (List.Mem.tail _ (List.Mem.tail _ (List.Mem.head _))), trivial⟩
  · intro q hq
    rcases List.mem_cons.mp hq with e | hq
    · rw [e]; exact .tail _ (.head _)
    · rw [List.mem_singleton.mp hq]; exact .head _
  · intro i hi
    refine Tst.cast (Tst.cm (Ev.name ((List.Mem.head _))) (Ev.bf rfl b.len.1 b.len.2 (Bf.len_list (xs := hostsD (bst w r i).1) ?_) (EvL.one (Ev.name ((List.Mem.tail _ (List.Mem.tail _ (List.Mem.head _))))))) Cmp.lt_int) ?_
    · rw [hostsD_len]; have := hB.le hi; omega
    · rw [hostsD_len, decide_eq_decide]
      constructor
      · intro hlt
        rcases Nat.lt_or_ge i N with h' | h'
        · exact h'
        · have e : i = N := by omega
          rw [e] at hlt
          have := hB.stop; omega
      · intro hlt
        have := hB.go i hlt; omega
  · intro i s4 hi S4
    obtain ⟨one, h1, h2⟩ := hB.row hi
    have hone : one.length ≤ r.length := bst_len i one (List.mem_of_getElem? h1)
    have hget : (hostsD (bst w r i).1)[i]? = some (.str (S (hostL one))) := by rw [hostsD_get, h1]; rfl
    have hle := hB.le (Nat.le_of_lt hi)
    have hle2 := bst_ends_le hB (Nat.le_of_lt hi)
    have hol := outs_few w one
    refine st_asg (p := .d (.list (hostsD (outs w one)))) S4 (Ev.fn rfl (fn_melted (r := one) (w := w) hm hre hh he b (r3 _) hw (by omega)) (EvL.cons (Ev.item_nat (k := i) (Ev.name ((List.Mem.tail _ (List.Mem.tail _ (List.Mem.head _))))) (Ev.name ((List.Mem.head _))) hget (by rw [hostsD_len]; omega)) (EvL.one (Ev.name ((List.Mem.tail _ (List.Mem.head _))))))) (.inl rfl) ⟨rfl, rfl⟩ fun s5 S5 => ?_
    have cont : ∀ (E : List (List Bool)) s6, E = (bst w r (i + 1)).2 →
        FSt c s₀ (a2 :: a1 :: X) (callEnvC (Calls.docDef (defAt T2 16).name (defAt T2 16).params (defAt T2 16).body (defAt T2 16).scope pm code doc) s₀.heap.objs.size a)
          [(Str.ofString "melted", .d (.list (hostsD (outs w one)))), (Str.ofString "place", .d (.int (i : Int))), (Str.ofString "name", .d (.str (S (nameL w))))] [(Str.ofString "hosts", a1, hostsD (bst w r i).1), (Str.ofString "ends", a2, hostsD E)] {} s6 →
        wpAny (model c.prog c.w) (A.deeper (callEnvC (Calls.docDef (defAt T2 16).name (defAt T2 16).params (defAt T2 16).body (defAt T2 16).scope pm code doc) s₀.heap.objs.size a))
          (execs ((whileBody (defAt T2 16).body 3).drop 2) (callEnvC (Calls.docDef (defAt T2 16).name (defAt T2 16).params (defAt T2 16).body (defAt T2 16).scope pm code doc) s₀.heap.objs.size a))
          (fun f s2 => match f with
            | .next => FSt c s₀ (a2 :: a1 :: X) (callEnvC (Calls.docDef (defAt T2 16).name (defAt T2 16).params (defAt T2 16).body (defAt T2 16).scope pm code doc) s₀.heap.objs.size a) [(Str.ofString "place", .d (.int ((i + 1 : Nat) : Int))), (Str.ofString "name", .d (.str (S (nameL w))))] [(Str.ofString "hosts", a1, hostsD (bst w r (i + 1)).1), (Str.ofString "ends", a2, hostsD (bst w r (i + 1)).2)] {} s2
            | .cont => FSt c s₀ (a2 :: a1 :: X) (callEnvC (Calls.docDef (defAt T2 16).name (defAt T2 16).params (defAt T2 16).body (defAt T2 16).scope pm code doc) s₀.heap.objs.size a) [(Str.ofString "place", .d (.int ((i + 1 : Nat) : Int))), (Str.ofString "name", .d (.str (S (nameL w))))] [(Str.ofString "hosts", a1, hostsD (bst w r (i + 1)).1), (Str.ofString "ends", a2, hostsD (bst w r (i + 1)).2)] {} s2
            | .brk => False
            | .ret v => ∃ u, Flow.ret v = .ret u ∧ RelP X s2.heap u (.d (.list (endsD (bst w r N).2))) ∧ Ks s₀ s2) (fun _ _ => False) s6 := by
      intro E s6 hE S6
      refine st_for (g := true) (ns := [Str.ofString "one"]) (fun j => [(Str.ofString "place", .d (.int (i : Int))), (Str.ofString "name", .d (.str (S (nameL w))))]) (fun j => [(Str.ofString "hosts", a1, hostsD (addAll (bst w r i).1 ((outs w one).take j))), (Str.ofString "ends", a2, hostsD E)]) (fun d => [(Str.ofString "one", .d d)]) S6 (IterE.listD (Ev.name ((List.Mem.head _))) room.handled rfl) ?_ (fun _ h => h) ?_ (fun j => allD1.cons) (fun d _ => AsgF.name (.inl rfl)) ?_ ?_ ?_
      · exact SubL.all ⟨(List.Mem.tail _ (List.Mem.head _)), (List.Mem.tail _ (List.Mem.tail _ (List.Mem.head _))), trivial⟩
      · intro j u hu
        rcases List.mem_cons.mp hu with e | hu
        · rw [e]; exact .tail _ (.head _)
        · rw [List.mem_singleton.mp hu]; exact .head _
      · intro j n hn'; rw [List.mem_singleton.mp hn']; exact ⟨rfl, rfl⟩
      · intro Y P' j d s7 hd hY hP S7
        rw [hostsD_get] at hd
        cases hx : (outs w one)[j]? with
        | none => rw [hx] at hd; cases hd
        | some x =>
        rw [hx] at hd
        cases hd
        have hsz := addAll_step_le hB hi h1 j
        have hr0 : ∀ env, Rm (A.deeper env) 0 := fun env => (r3 env).less (by omega)
        refine st_if S7 (Tst.cm (Ev.name ((List.Mem.head _))) (Ev.name ((List.Mem.tail _ (List.Mem.tail _ (List.Mem.tail _ (List.Mem.head _)))))) (Cmp.notIn_list (p1 := .d (.str (S (hostL x)))) (shaped_scal (strOk_S (abc_hostL x).lt)) (scals_lay (scal_hosts _)).1 (hr0 _))) (fun hb s8 S8 => ?_) fun hb s8 S8 => ?_
        · have hb : (!(hostsD (addAll (bst w r i).1 ((outs w one).take j))).any fun y => PyData.eqv y (.str (S (hostL x)))) = true := hb
          rw [any_hosts] at hb
          refine st_append (d := .str (S (hostL x))) S8 (Ev.name ((List.Mem.head _))) allD1.cons.cons (fun u hu => by rw [List.mem_singleton.mp hu]; exact Ne.symm h12) (fun q hq => ?_) (by rw [hostsD_len]; omega) fun s9 S9 => ?_
          · rcases hP rfl q hq with h | h
            · cases h
            · intro e; exact h (e ▸ .tail _ (.head _))
          · refine st_nil S9 (st_nil S9 ?_)
            rw [hostsD_snoc] at S9
            have e : addAll (bst w r i).1 ((outs w one).take (j + 1)) = addAll (bst w r i).1 ((outs w one).take j) ++ [x] := by
              rw [Bool.not_eq_true'] at hb
              rw [addAll_take _ _ _ _ hx, addOne, hb, if_neg (by simp)]
            rw [e]
            exact S9.sub ⟨(List.Mem.tail _ (List.Mem.head _)), (List.Mem.tail _ (List.Mem.tail _ (List.Mem.head _))), trivial⟩
        · have hb : (!(hostsD (addAll (bst w r i).1 ((outs w one).take j))).any fun y => PyData.eqv y (.str (S (hostL x)))) = false := hb
          rw [any_hosts] at hb
          refine st_nil S8 ?_
          have e : addAll (bst w r i).1 ((outs w one).take (j + 1)) = addAll (bst w r i).1 ((outs w one).take j) := by
            rw [Bool.not_eq_false'] at hb
            rw [addAll_take _ _ _ _ hx, addOne, hb, if_pos rfl]
          rw [e]
          exact S8.sub ⟨(List.Mem.tail _ (List.Mem.head _)), (List.Mem.tail _ (List.Mem.tail _ (List.Mem.head _))), trivial⟩
      · intro s7 S7
        rw [hostsD_len, take_all, hE, show addAll (bst w r i).1 (outs w one) = (bst w r (i + 1)).1 by rw [bst_succ h1]] at S7
        refine st_asgV (p := .d (.int ((i + 1 : Nat) : Int))) [(Str.ofString "name", .d (.str (S (nameL w))))] S7 (Ev.cast (Ev.bin (Ev.name ((List.Mem.head _))) Ev.int Bin.add_int) (by congr 1)) (.inl rfl) ⟨(List.Mem.tail _ (List.Mem.head _)), trivial⟩ ⟨rfl, rfl⟩ fun s8 S8 => ?_
        exact st_nil S8 S8
    refine st_if S5 (b := (outs w one).isEmpty) (Tst.cast (Tst.cm (Ev.name ((List.Mem.head _))) (Ev.list (ds := []) EvL.nil (by simp)) (Cmp.eq_data (shaped_list (scal_hosts _)) (by rfl) ((r3 _).less (by omega)))) ?_) (fun hb s6 S6 => ?_) fun hb s6 S6 => ?_
    · show PyData.eqv (.list _) (.list []) = _
      rw [eqv_nil, hosts_empty]
    · have S6' : FSt c s₀ (a2 :: a1 :: X) (callEnvC (Calls.docDef (defAt T2 16).name (defAt T2 16).params (defAt T2 16).body (defAt T2 16).scope pm code doc) s₀.heap.objs.size a)
          [(Str.ofString "melted", .d (.list (hostsD (outs w one)))), (Str.ofString "place", .d (.int (i : Int))), (Str.ofString "name", .d (.str (S (nameL w))))] [(Str.ofString "ends", a2, hostsD (bst w r i).2), (Str.ofString "hosts", a1, hostsD (bst w r i).1)] {} s6 :=
        S6.weak (fun _ h => h) (fun q hq => by
          rcases List.mem_cons.mp hq with e | hq
          · rw [e]; exact .tail _ (.head _)
          · rw [List.mem_singleton.mp hq]; exact .head _) (fun _ h => h) (fun _ h => h)
      refine st_append (d := .str (S (hostL one))) S6' (Ev.item_nat (k := i) (Ev.name ((List.Mem.tail _ (List.Mem.tail _ (List.Mem.tail _ (List.Mem.tail _ (List.Mem.head _))))))) (Ev.name ((List.Mem.tail _ (List.Mem.head _)))) hget (by rw [hostsD_len]; omega)) allD1.cons.cons (fun u hu => by rw [List.mem_singleton.mp hu]; exact h12) (fun q hq => nomatch hq) (by rw [hostsD_len]; omega) fun s7 S7 => ?_
      refine st_nil S7 ?_
      rw [hostsD_snoc] at S7
      refine cont _ s7 ?_ (S7.weak (fun _ h => h) (fun q hq => by
          rcases List.mem_cons.mp hq with e | hq
          · rw [e]; exact .tail _ (.head _)
          · rw [List.mem_singleton.mp hq]; exact .head _) (fun _ h => h) (fun _ h => h))
      rw [bst_succ h1, hb]; rfl
    · refine cont _ s6 ?_ S6
      rw [bst_succ h1, hb]; rfl
  · intro s4 S4
    refine st_retL S4 hXY (Ev.bf rfl b.sorted.1 b.sorted.2 (Bf.sorted_strs (ys := (bst w r N).2.map fun r => S (hostL r)) (by rw [List.length_map]; exact h64)) (EvL.one (Ev.cast (Ev.name ((List.Mem.tail _ (List.Mem.tail _ (List.Mem.tail _ (List.Mem.head _)))))) (by rw [hosts_strs]))))
end Mine
end

section
open PySem PySem.W PyProof.Rows PySem.SeqAt
set_option Elab.async false
set_option maxRecDepth 100000
namespace Mine
def rowsD (l : List (List Bool)) : List PyData := l.map fun r => .list (rowD r)
theorem rowsD_len (l : List (List Bool)) : (rowsD l).length = l.length := by simp [rowsD]
theorem rowsD_get (l : List (List Bool)) (i : Nat) : (rowsD l)[i]? = (l[i]?).map fun r => .list (rowD r) := by simp [rowsD]
theorem rowsD_snoc (l : List (List Bool)) (x : List Bool) : rowsD l ++ [.list (rowD x)] = rowsD (l ++ [x]) := by simp [rowsD]
theorem any_rows (l : List (List Bool)) (x : List Bool) : ((rowsD l).any fun y => PyData.eqv y (.list (rowD x))) = l.any fun y => y == x := by
  induction l with
  | nil => rfl
  | cons a l ih =>
    have e : rowsD (a :: l) = .list (rowD a) :: rowsD l := rfl
    rw [e, List.any_cons, List.any_cons, ih, PyData.eqv, eqv_rows]
theorem canLay_rows : ∀ l : List (List Bool), PyData.canLayAll0 (rowsD l) = true
  | [] => by simp [rowsD, PyData.canLayAll0]
  | a :: l => by
    have ih := canLay_rows l
    have e : rowsD (a :: l) = .list (rowD a) :: rowsD l := rfl
    have h := canLay_of_shaped (shaped_list (scal_row a))
    rw [e, PyData.canLayAll0, h, ih]; rfl
def natD (l : List Nat) : List PyData := l.map fun (k : Nat) => .int (k : Int)
theorem natD_len (l : List Nat) : (natD l).length = l.length := by simp [natD]
theorem natD_get (l : List Nat) (i : Nat) : (natD l)[i]? = (l[i]?).map fun (k : Nat) => .int (k : Int) := by simp [natD]
theorem scal_nat (l : List Nat) : ∀ d ∈ natD l, scal d = true := fun d hd => by
  obtain ⟨b, _, rfl⟩ := List.mem_map.mp hd; rfl
theorem occs_comp (w r : List Bool) : ((rng 0 ((r.length : Nat) : Int).toNat).filter (intP fun k => w.isPrefixOf (r.drop k.toNat))).map (fun d => d) = natD (occs w r) := by
  rw [List.map_id', occs, natD, rng, List.filter_map, show ((r.length : Nat) : Int).toNat = r.length by omega]
  have e : ∀ m : Nat, ((intP fun k => w.isPrefixOf (r.drop k.toNat)) ∘ fun (i : Nat) => PyData.int ((0 : Int) + (i : Int))) m = w.isPrefixOf (r.drop m) := by
    intro m
    show w.isPrefixOf (r.drop ((0 : Int) + (m : Int)).toNat) = _
    rw [show ((0 : Int) + (m : Int)).toNat = m by omega]
  rw [funext e]
  apply List.map_congr_left
  intro m _
  rw [Int.zero_add]
theorem sl_mid {w r : List Bool} {k : Nat} : (sl r (some (k : Int)) (some ((k + w.length : Nat) : Int)) == w) = w.isPrefixOf (r.drop k) := by
  have e : sl r (some (k : Int)) (some ((k + w.length : Nat) : Int)) = (r.drop k).take w.length := by
    unfold sl
    have e1 : clipAt r.length (k : Int) = min k r.length := by simp only [clipAt]; omega
    have e2 : clipAt r.length ((k + w.length : Nat) : Int) = min (k + w.length) r.length := by simp only [clipAt]; omega
    simp only [Option.elim, e1, e2]
    rcases Nat.le_total k r.length with h | h
    · rw [Nat.min_eq_left h]
      rcases Nat.le_total (k + w.length) r.length with h2 | h2
      · rw [Nat.min_eq_left h2, Nat.add_sub_cancel_left]
      · rw [Nat.min_eq_right h2, List.take_of_length_le (by rw [List.length_drop]; omega), List.take_of_length_le (by rw [List.length_drop]; omega)]
    · rw [Nat.min_eq_right h, List.drop_of_length_le h, List.drop_of_length_le (Nat.le_refl _)]; simp
  rw [e, Bool.eq_iff_iff, beq_iff_eq, List.isPrefixOf_iff_prefix, List.prefix_iff_eq_take]
  exact ⟨fun h => h.symm, fun h => h.symm⟩
theorem outs_get (w r : List Bool) (j : Nat) : (outs w r)[j]? = ((occs w r)[j]?).map fun k => cut r k w.length := by rw [outs, List.getElem?_map]
theorem occs_len (w r : List Bool) : (occs w r).length = (outs w r).length := by rw [outs, List.length_map]

theorem fn_plain {c : Cx} {A : Around} {r w : List Bool} {N : Nat} (h : FnAt c (defAt T2 17)) (hho : FnAt c (defAt T2 12)) (hn : FnAt c (defAt T2 11)) (b : Base c) (room : Rm A 3)
    (hw : 1 ≤ w.length ∧ w.length ≤ 10) (hr : r.length ≤ 20) (hB : Bfs w r N) (h64 : (bst w r N).2.length < 64) :
    Fn c A (defAt T2 17).name [.d (.list (rowD r)), .d (.list (rowD w))] (.d (.list (endsD (bst w r N).2))) := by
  refine Fn.at [Str.ofString "row", Str.ofString "rule"] h (room.less (by omega)) (by (intro pm code doc vs hv; exact match vs, hv with | [_, _], _ => rfl)) rfl (by decide) (by (intro pm code doc n hn L a; revert n; refine (kindsOk (names := [])).mpr ?_; first | exact ⟨.inl rfl, trivial⟩ | exact ⟨.inl rfl, .inl rfl, trivial⟩ | exact ⟨.inl rfl, .inl rfl, .inl rfl, trivial⟩ | exact ⟨.inr ⟨rfl, rfl⟩, trivial⟩ | exact ⟨.inl rfl, .inr ⟨rfl, rfl⟩, trivial⟩ | exact ⟨.inr ⟨rfl, rfl⟩, .inl rfl, trivial⟩ | exact ⟨.inr ⟨rfl, rfl⟩, .inr ⟨rfl, rfl⟩, trivial⟩ | exact ⟨.inr ⟨rfl, rfl⟩, .inr ⟨rfl, rfl⟩, .inr ⟨rfl, rfl⟩, trivial⟩ | exact ⟨.inr ⟨rfl, rfl⟩, .inr ⟨rfl, rfl⟩, .inl rfl, trivial⟩ | exact ⟨.inr ⟨rfl, rfl⟩, .inl rfl, .inl rfl, trivial⟩ | exact ⟨.inr ⟨rfl, rfl⟩, .inl rfl, .inr ⟨rfl, rfl⟩, trivial⟩ | exact ⟨.inl rfl, .inl rfl, .inr ⟨rfl, rfl⟩, trivial⟩ | exact ⟨.inl rfl, .inr ⟨rfl, rfl⟩, .inl rfl, trivial⟩ | exact ⟨.inl rfl, .inr ⟨rfl, rfl⟩, .inr ⟨rfl, rfl⟩, trivial⟩)) ?_
  intro pm code doc a X s₀ s St
  have r2 : ∀ env, Rm (A.deeper env) 2 := fun env => room.deeper
  have r0 : ∀ env, Rm (A.deeper env) 0 := fun env => (r2 env).less (by omega)
  refine st_own (ds := rowsD [r]) St (EvN.list (ds := [.list (rowD r)]) (EvL.one (Ev.name ((List.Mem.head _)))) (by simp)) (.inl rfl) ⟨rfl, rfl⟩ fun a1 s1 ha1 _ _ S1 => ?_
  refine st_own (ds := hostsD []) S1 (EvN.list (ds := []) EvL.nil (by simp)) (.inl rfl) ⟨rfl, rfl⟩ fun a2 s2 ha2 ha21 _ S2 => ?_
  have h12 : a1 ≠ a2 := ha21 _ (.head _)
  have hXY : ∀ b ∈ X, b ∈ a2 :: a1 :: X := fun b hb => .tail _ (.tail _ hb)
  refine st_asg (p := .d (.int ((0 : Nat) : Int))) S2 Ev.int (.inl rfl) ⟨rfl, rfl⟩ fun s3 S3 => ?_
  refine st_while (fun i => [(Str.ofString "place", .d (.int (i : Int))), (Str.ofString "rule", .d (.list (rowD w)))]) (fun i => [(Str.ofString "rows", a1, rowsD (bst w r i).1), (Str.ofString "ends", a2, hostsD (bst w r i).2)]) N S3 ?_ ?_ ?_ ?_ ?_
  · exact SubL.all ⟨(List.Mem.head _), (List.Mem.tail _ (List.Mem.tail _ (List.Mem.head _))), trivial⟩
  · intro q hq
    rcases List.mem_cons.mp hq with e | hq
    · rw [e]; exact .tail _ (.head _)
    · rw [List.mem_singleton.mp hq]; exact .head _
  · intro i hi
    refine Tst.cast (Tst.cm (Ev.name ((List.Mem.head _))) (Ev.bf rfl b.len.1 b.len.2 (Bf.len_list (xs := rowsD (bst w r i).1) ?_) (EvL.one (Ev.name ((List.Mem.tail _ (List.Mem.tail _ (List.Mem.head _))))))) Cmp.lt_int) ?_
    · rw [rowsD_len]; have := hB.le hi; omega
    · rw [rowsD_len, decide_eq_decide]
      constructor
      · intro hlt
        rcases Nat.lt_or_ge i N with h' | h'
        · exact h'
        · have e : i = N := by omega
          rw [e] at hlt
          have := hB.stop; omega
      · intro hlt
        have := hB.go i hlt; omega
  · intro i s4 hi S4
    obtain ⟨one, h1, h2⟩ := hB.row hi
    have hone : one.length ≤ r.length := bst_len i one (List.mem_of_getElem? h1)
    have hget : (rowsD (bst w r i).1)[i]? = some (.list (rowD one)) := by rw [rowsD_get, h1]; rfl
    have hle := hB.le (Nat.le_of_lt hi)
    have hle2 := bst_ends_le hB (Nat.le_of_lt hi)
    have hol := outs_few w one
    have hoc := occs_len w one
    refine st_asg (p := .d (.list (rowD one))) S4 (Ev.item_nat (k := i) (Ev.name ((List.Mem.tail _ (List.Mem.tail _ (List.Mem.head _))))) (Ev.name ((List.Mem.head _))) hget (by rw [rowsD_len]; omega)) (.inr ⟨rfl, rfl⟩) ⟨rfl, rfl⟩ fun s5 S5 => ?_
    refine st_comp (ρt := fun d => [(Str.ofString "k", .d d)]) (ρf := [(Str.ofString "one", .d (.list (rowD one))), (Str.ofString "rule", .d (.list (rowD w)))]) (p := intP fun k => w.isPrefixOf (one.drop k.toNat)) (f := fun d => d) (ds := rng 0 ((one.length : Nat) : Int).toNat) S5 rfl rfl ?_ rfl ?_
      ⟨⟨(List.Mem.head _), rfl, rfl, rfl⟩, ⟨(List.Mem.tail _ (List.Mem.tail _ (List.Mem.head _))), rfl, rfl, rfl⟩, trivial⟩ (IterE.range1 (g := true) rfl b.range.1 b.range.2 room.handled (Ev.cast (Ev.bf rfl b.len.1 b.len.2 (Bf.len_list (xs := rowD one) (by rw [rowD_len]; omega)) (EvL.one (Ev.opn (Ev.name ((List.Mem.head _)))))) (by rw [rowD_len])) (by omega) (by omega)) ?_ ?_ ?_ ?_ ?_ (.inl rfl) ⟨rfl, rfl⟩ fun s6 S6 => ?_
    · decide
    · decide
    · intro d _ y q hq
      cases List.mem_singleton.mp hq; rfl
    · intro Y C d hd; exact AsgC.name rfl rfl
    · intro Y C d hd
      obtain ⟨m, hm, rfl⟩ := mem_rng hd
      rw [Int.zero_add]
      refine TstC.one (Tst.cast (Tst.cm (Ev.slice_list (lo := some (m : Int)) (hi := some ((m + w.length : Nat) : Int)) (Ev.opn (Ev.name ((List.Mem.tail _ (List.Mem.head _))))) (Ev.name ((List.Mem.head _))) (Ev.cast (Ev.bin (Ev.name ((List.Mem.head _))) (Ev.cast (Ev.bf rfl b.len.1 b.len.2 (Bf.len_list (xs := rowD w) (by rw [rowD_len]; omega)) (EvL.one (Ev.opn (Ev.name ((List.Mem.tail _ (List.Mem.tail _ (List.Mem.head _)))))))) (by rw [rowD_len])) Bin.add_int) (by congr 1)) ?_) (Ev.name ((List.Mem.tail _ (List.Mem.tail _ (List.Mem.head _))))) (Cmp.eq_data ?_ (shaped_list (scal_row _)) (r0 _))) ?_)
      · rw [rowD_len, sizeLine_eq]; omega
      · show shaped (.list _) = true
        rw [sl_rowD]; exact shaped_list (scal_row _)
      · show PyData.eqv (.list _) (.list _) = _
        rw [sl_rowD, PyData.eqv, eqv_rows, sl_mid]; rfl
    · intro Y C d hd _
      exact Ev.name ((List.Mem.head _))
    · rw [rng_length]; omega
    rw [occs_comp] at S6
    have cont : ∀ (E : List (List Bool)) s6, E = (bst w r (i + 1)).2 →
        FSt c s₀ (a2 :: a1 :: X) (callEnvC (Calls.docDef (defAt T2 17).name (defAt T2 17).params (defAt T2 17).body (defAt T2 17).scope pm code doc) s₀.heap.objs.size a)
          [(Str.ofString "places", .d (.list (natD (occs w one)))), (Str.ofString "one", .d (.list (rowD one))), (Str.ofString "place", .d (.int (i : Int))), (Str.ofString "rule", .d (.list (rowD w)))] [(Str.ofString "rows", a1, rowsD (bst w r i).1), (Str.ofString "ends", a2, hostsD E)] {} s6 →
        wpAny (model c.prog c.w) (A.deeper (callEnvC (Calls.docDef (defAt T2 17).name (defAt T2 17).params (defAt T2 17).body (defAt T2 17).scope pm code doc) s₀.heap.objs.size a))
          (execs ((whileBody (defAt T2 17).body 3).drop 3) (callEnvC (Calls.docDef (defAt T2 17).name (defAt T2 17).params (defAt T2 17).body (defAt T2 17).scope pm code doc) s₀.heap.objs.size a))
          (fun f s2 => match f with
            | .next => FSt c s₀ (a2 :: a1 :: X) (callEnvC (Calls.docDef (defAt T2 17).name (defAt T2 17).params (defAt T2 17).body (defAt T2 17).scope pm code doc) s₀.heap.objs.size a) [(Str.ofString "place", .d (.int ((i + 1 : Nat) : Int))), (Str.ofString "rule", .d (.list (rowD w)))] [(Str.ofString "rows", a1, rowsD (bst w r (i + 1)).1), (Str.ofString "ends", a2, hostsD (bst w r (i + 1)).2)] {} s2
            | .cont => FSt c s₀ (a2 :: a1 :: X) (callEnvC (Calls.docDef (defAt T2 17).name (defAt T2 17).params (defAt T2 17).body (defAt T2 17).scope pm code doc) s₀.heap.objs.size a) [(Str.ofString "place", .d (.int ((i + 1 : Nat) : Int))), (Str.ofString "rule", .d (.list (rowD w)))] [(Str.ofString "rows", a1, rowsD (bst w r (i + 1)).1), (Str.ofString "ends", a2, hostsD (bst w r (i + 1)).2)] {} s2
            | .brk => False
            | .ret v => ∃ u, Flow.ret v = .ret u ∧ RelP X s2.heap u (.d (.list (endsD (bst w r N).2))) ∧ Ks s₀ s2) (fun _ _ => False) s6 := by
      intro E s6 hE S6
      refine st_for (g := true) (ns := [Str.ofString "k"]) (fun j => [(Str.ofString "one", .d (.list (rowD one))), (Str.ofString "place", .d (.int (i : Int))), (Str.ofString "rule", .d (.list (rowD w)))]) (fun j => [(Str.ofString "rows", a1, rowsD (addAll (bst w r i).1 ((outs w one).take j))), (Str.ofString "ends", a2, hostsD E)]) (fun d => [(Str.ofString "k", .d d)]) S6 (IterE.listD (Ev.name ((List.Mem.head _))) room.handled rfl) ?_ (fun _ h => h) ?_ (fun j => allD1.cons.cons) (fun d _ => AsgF.name (.inl rfl)) ?_ ?_ ?_
      · exact SubL.all ⟨(List.Mem.tail _ (List.Mem.head _)), (List.Mem.tail _ (List.Mem.tail _ (List.Mem.head _))), (List.Mem.tail _ (List.Mem.tail _ (List.Mem.tail _ (List.Mem.head _)))), trivial⟩
      · intro j u hu
        rcases List.mem_cons.mp hu with e | hu
        · rw [e]; exact .tail _ (.head _)
        · rw [List.mem_singleton.mp hu]; exact .head _
      · intro j n hn'; rw [List.mem_singleton.mp hn']; exact ⟨rfl, rfl⟩
      · intro Y P' j d s7 hd hY hP S7
        rw [natD_get] at hd
        have hog := outs_get w one j
        cases hk : (occs w one)[j]? with
        | none => rw [hk] at hd; cases hd
        | some k =>
        rw [hk] at hd hog
        cases hd
        have hx : (outs w one)[j]? = some (cut one k w.length) := hog
        have hsz := addAll_step_le hB hi h1 j
        have hfit := occ_fit (List.mem_of_getElem? hk)
        generalize hxx : cut one k w.length = x at hx
        refine st_asg (p := .d (.list (rowD x))) S7 (Ev.cast (Ev.bin (Ev.opn (Ev.slice_list (lo := none) (hi := some (k : Int)) (Ev.opn (Ev.name ((List.Mem.tail _ (List.Mem.head _))))) trivial (Ev.name ((List.Mem.head _))) ?_)) (Ev.opn (Ev.slice_list (lo := some ((k + w.length : Nat) : Int)) (hi := none) (Ev.opn (Ev.name ((List.Mem.tail _ (List.Mem.head _))))) (Ev.cast (Ev.bin (Ev.name ((List.Mem.head _))) (Ev.cast (Ev.bf rfl b.len.1 b.len.2 (Bf.len_list (xs := rowD w) (by rw [rowD_len]; omega)) (EvL.one (Ev.opn (Ev.name ((List.Mem.tail _ (List.Mem.tail _ (List.Mem.tail _ (List.Mem.head _))))))))) (by rw [rowD_len])) Bin.add_int) (by congr 1)) trivial ?_)) (Bin.add_list ?_)) ?_) (.inl rfl) ⟨rfl, rfl⟩ fun s7 S7 => ?_
        · rw [rowD_len, sizeLine_eq]; omega
        · rw [rowD_len, sizeLine_eq]; omega
        · rw [sl_rowD, sl_rowD, rowD_len, rowD_len, sl_natT, sl_natD, List.length_take, List.length_drop]; omega
        · rw [sl_rowD, sl_rowD, row_append, sl_natT, sl_natD, ← hxx, cut]
        refine st_if S7 (Tst.cm (Ev.name ((List.Mem.head _))) (Ev.name ((List.Mem.tail _ (List.Mem.tail _ (List.Mem.tail _ (List.Mem.tail _ (List.Mem.tail _ (List.Mem.head _)))))))) (Cmp.notIn_list (p1 := .d (.list (rowD x))) (shaped_list (scal_row _)) (canLay_rows _) (r0 _))) (fun hb s8 S8 => ?_) fun hb s8 S8 => ?_
        · have hb : (!(rowsD (addAll (bst w r i).1 ((outs w one).take j))).any fun y => PyData.eqv y (.list (rowD x))) = true := hb
          rw [any_rows] at hb
          refine st_append (d := .list (rowD x)) S8 (Ev.name ((List.Mem.head _))) allD1.cons.cons.cons.cons (fun u hu => by rw [List.mem_singleton.mp hu]; exact Ne.symm h12) (fun q hq => ?_) (by rw [rowsD_len]; omega) fun s9 S9 => ?_
          · rcases hP rfl q hq with h | h
            · cases h
            · intro e; exact h (e ▸ .tail _ (.head _))
          · refine st_nil S9 (st_nil S9 ?_)
            rw [rowsD_snoc] at S9
            have e : addAll (bst w r i).1 ((outs w one).take (j + 1)) = addAll (bst w r i).1 ((outs w one).take j) ++ [x] := by
              rw [Bool.not_eq_true'] at hb
              rw [addAll_take _ _ _ _ hx, addOne, hb, if_neg (by simp)]
            rw [e]
            exact S9.sub ⟨(List.Mem.tail _ (List.Mem.tail _ (List.Mem.head _))), (List.Mem.tail _ (List.Mem.tail _ (List.Mem.tail _ (List.Mem.head _)))), (List.Mem.tail _ (List.Mem.tail _ (List.Mem.tail _ (List.Mem.tail _ (List.Mem.head _))))), trivial⟩
        · have hb : (!(rowsD (addAll (bst w r i).1 ((outs w one).take j))).any fun y => PyData.eqv y (.list (rowD x))) = false := hb
          rw [any_rows] at hb
          refine st_nil S8 ?_
          have e : addAll (bst w r i).1 ((outs w one).take (j + 1)) = addAll (bst w r i).1 ((outs w one).take j) := by
            rw [Bool.not_eq_false'] at hb
            rw [addAll_take _ _ _ _ hx, addOne, hb, if_pos rfl]
          rw [e]
          exact S8.sub ⟨(List.Mem.tail _ (List.Mem.tail _ (List.Mem.head _))), (List.Mem.tail _ (List.Mem.tail _ (List.Mem.tail _ (List.Mem.head _)))), (List.Mem.tail _ (List.Mem.tail _ (List.Mem.tail _ (List.Mem.tail _ (List.Mem.head _))))), trivial⟩
      · intro s7 S7
        rw [natD_len, hoc, take_all, hE, show addAll (bst w r i).1 (outs w one) = (bst w r (i + 1)).1 by rw [bst_succ h1]] at S7
        refine st_asgV (p := .d (.int ((i + 1 : Nat) : Int))) [(Str.ofString "rule", .d (.list (rowD w)))] S7 (Ev.cast (Ev.bin (Ev.name ((List.Mem.tail _ (List.Mem.head _)))) Ev.int Bin.add_int) (by congr 1)) (.inl rfl) ⟨(List.Mem.tail _ (List.Mem.tail _ (List.Mem.head _))), trivial⟩ ⟨rfl, rfl⟩ fun s8 S8 => ?_
        exact st_nil S8 S8
    have hemp : (natD (occs w one)).isEmpty = (outs w one).isEmpty := by
      rw [outs, natD]; cases occs w one <;> rfl
    refine st_if S6 (b := (outs w one).isEmpty) (Tst.cast (Tst.cm (Ev.name ((List.Mem.head _))) (Ev.list (ds := []) EvL.nil (by simp)) (Cmp.eq_data (shaped_list (scal_nat _)) (by rfl) (r0 _))) ?_) (fun hb s6 S6 => ?_) fun hb s6 S6 => ?_
    · show PyData.eqv (.list _) (.list []) = _
      rw [eqv_nil, hemp]
    · have S6' := S6.weak (ω' := [(Str.ofString "ends", a2, hostsD (bst w r i).2), (Str.ofString "rows", a1, rowsD (bst w r i).1)]) (fun _ h => h) (fun q hq => by
          rcases List.mem_cons.mp hq with e | hq
          · rw [e]; exact .tail _ (.head _)
          · rw [List.mem_singleton.mp hq]; exact .head _) (fun _ h => h) (fun _ h => h)
      refine st_append (d := .str (S (hostL one))) S6' (Ev.fn rfl (fn_host hho hn (r2 _) (by omega)) (EvL.one (Ev.name ((List.Mem.tail _ (List.Mem.head _)))))) allD1.cons.cons.cons (fun u hu => by rw [List.mem_singleton.mp hu]; exact h12) (fun q hq => nomatch hq) (by rw [hostsD_len]; omega) fun s7 S7 => ?_
      refine st_nil S7 ?_
      rw [hostsD_snoc] at S7
      refine cont _ s7 ?_ (S7.weak (fun _ h => h) (fun q hq => by
          rcases List.mem_cons.mp hq with e | hq
          · rw [e]; exact .tail _ (.head _)
          · rw [List.mem_singleton.mp hq]; exact .head _) (fun _ h => h) (fun _ h => h))
      rw [bst_succ h1, hb]; rfl
    · refine cont _ s6 ?_ S6
      rw [bst_succ h1, hb]; rfl
  · intro s4 S4
    refine st_retL S4 hXY (Ev.bf rfl b.sorted.1 b.sorted.2 (Bf.sorted_strs (ys := (bst w r N).2.map fun r => S (hostL r)) (by rw [List.length_map]; exact h64)) (EvL.one (Ev.cast (Ev.name ((List.Mem.tail _ (List.Mem.tail _ (List.Mem.tail _ (List.Mem.head _)))))) (by rw [hosts_strs]))))
end Mine
end

section
open PySem PySem.W PyProof.Rows PySem.SeqAt
set_option Elab.async false
set_option maxRecDepth 100000
namespace Mine
-- words that both laws' bodies want
theorem frs_len (r : List Bool) (i n : Nat) : (frs r i n).length = n := by simp [frs]
theorem bords_len (r : List Bool) (i j : Nat) : (bords r i j).length = j - i - 1 := by simp [bords]
theorem liesL_len (r : List Bool) (i : Nat) : (liesL r i).length = r.length - i - 1 := by simp [liesL, frs]
theorem aparts_len (r : List Bool) (i j : Nat) : (aparts r i j).length = j - i - 1 := by simp [aparts, frs]
theorem dueL_len (r : List Bool) (i j : Nat) : (dueL r i j).length = j - i - 1 := by simp [dueL, bords]
theorem filter_none {α : Type} (l : List α) : l.filter (fun _ => false) = [] := by simp
theorem seg_front (w : List Bool) (k : Nat) : seg w 0 k = w.take k := by simp [seg]
theorem seg_back (w : List Bool) {k : Nat} (h : k ≤ w.length) : seg w (w.length - k) w.length = w.drop (w.length - k) := by
  rw [seg, List.take_of_length_le (by rw [List.length_drop]; omega)]
theorem mem_fronts {w : List Bool} {n : Nat} {f : List Nat} (h : f ∈ frs w 0 n) : ∃ k, 1 ≤ k ∧ k ≤ n ∧ f = nameL (w.take k) := by
  obtain ⟨m, hm, rfl⟩ := mem_frs h
  exact ⟨0 + 1 + m, by omega, by omega, by rw [seg_front]⟩
theorem take_le (w : List Bool) (k : Nat) (h : w.length ≤ 10) : (nameL (w.take k)).length ≤ 30 := by
  have := nameL_le (w.take k)
  rw [List.length_take] at this; omega
theorem mem_enum {xs : List PyData} {d : PyData} (h : d ∈ enumT xs) : ∃ (i : Nat) (x : PyData), xs[i]? = some x ∧ d = .tuple [.int ((i : Int) + 1), x] := by
  obtain ⟨i, hi⟩ := List.mem_iff_getElem?.mp h
  obtain ⟨x, h1, h2⟩ := enumT_get hi
  exact ⟨i, x, h1, h2⟩
theorem mem_enumB {x : List Bool} {d : PyData} (h : d ∈ enumT (boolD x)) : ∃ (i : Nat) (o : Bool), i < x.length ∧ d = .tuple [.int ((i : Int) + 1), .bool o] := by
  obtain ⟨i, y, h1, rfl⟩ := mem_enum h
  rw [boolD, List.getElem?_map] at h1
  cases e : x[i]? with
  | none => rw [e] at h1; cases h1
  | some o =>
    rw [e] at h1; cases h1
    have : i < x.length := by
      rcases Nat.lt_or_ge i x.length with h | h
      · exact h
      · rw [List.getElem?_eq_none h] at e; cases e
    exact ⟨i, o, this, rfl⟩
def enumF (f : Nat → Bool → PyData) : PyData → PyData
  | .tuple [.int i, .bool o] => f i.toNat o
  | d => d
def enumP : PyData → Bool
  | .tuple [_, .bool o] => o
  | _ => false
theorem due_comp (r : List Bool) (i j : Nat) : ((enumT (boolD (bords r i j))).filter fun _ => true).map (enumF fun m one => .bool (one && decide (2 * m ≤ j - i))) = boolD (dueL r i j) := by
  rw [filter_true]
  apply List.ext_getElem? fun k => ?_
  rw [List.getElem?_map, enumT, List.getElem?_mapIdx, boolD, List.getElem?_map, boolD, List.getElem?_map, dueL, List.getElem?_mapIdx]
  cases (bords r i j)[k]? with
  | none => rfl
  | some o =>
    show some (PyData.bool (o && decide (2 * ((k : Int) + 1).toNat ≤ j - i))) = _
    rw [show ((k : Int) + 1).toNat = k + 1 by omega]; rfl
theorem muls_comp (l : List Bool) : ((enumT (boolD l)).filter enumP).map (enumF fun m _ => .int (m : Int)) = (mulsF l 0).map .int := by
  have key : ∀ (l : List Bool) (k : Nat), (((boolD l).mapIdx fun i d => PyData.tuple [.int (((i + k : Nat) : Int) + 1), d]).filter enumP).map (enumF fun m _ => .int (m : Int)) = (mulsF l k).map .int := by
    intro l
    induction l with
    | nil => intro k; rfl
    | cons b l ih =>
      intro k
      have e : boolD (b :: l) = .bool b :: boolD l := rfl
      have e2 : (fun (i : Nat) (d : PyData) => PyData.tuple [.int (((i + 1 + k : Nat) : Int) + 1), d]) = fun (i : Nat) (d : PyData) => PyData.tuple [.int (((i + (k + 1) : Nat) : Int) + 1), d] := by
        funext i d; rw [show i + 1 + k = i + (k + 1) by omega]
      rw [e, List.mapIdx_cons, e2, List.filter_cons]
      have e3 : enumP (PyData.tuple [.int (((0 + k : Nat) : Int) + 1), .bool b]) = b := rfl
      rw [e3, mulsF]
      cases b with
      | false => simpa using ih (k + 1)
      | true =>
        simp only [if_true, List.map_cons, ih (k + 1)]
        congr 1
        show PyData.int ((((0 + k : Nat) : Int) + 1).toNat : Int) = _
        congr 1; omega
  have := key l 0
  simpa [enumT] using this
theorem mulsF_len : ∀ (l : List Bool) (k : Nat), (mulsF l k).length ≤ l.length
  | [], _ => Nat.le_refl _
  | b :: l, k => by
    have := mulsF_len l (k + 1)
    rw [mulsF]; split
    · rw [List.length_cons, List.length_cons]; omega
    · rw [List.length_cons]; omega
theorem flat_rep (q : Nat) (x : PyData) : (List.replicate q [x]).flatten = List.replicate q x := by
  induction q with
  | zero => rfl
  | succ q ih => rw [List.replicate_succ, List.flatten_cons, ih]; rfl
theorem joinL_le {k : Nat} : ∀ (ws : List (List Nat)), (∀ w ∈ ws, w.length ≤ k) → (joinL dots ws).length ≤ ws.length * (k + 3)
  | [], _ => by simp [joinL]
  | [w], h => by have := h w (by simp); simp [joinL]; omega
  | w :: v :: r, h => by
    have ih := joinL_le (v :: r) fun u hu => h u (.tail _ hu)
    have h1 := h w (by simp)
    show (w ++ dots ++ joinL dots (v :: r)).length ≤ _
    have e : (w :: v :: r).length * (k + 3) = (v :: r).length * (k + 3) + (k + 3) := by rw [List.length_cons, Nat.succ_mul]
    rw [e, List.length_append, List.length_append]
    simp only [List.length_cons, List.length_nil] at ih ⊢
    omega
theorem dm_self (h : List Nat) : dm (120 :: h) (120 :: h) = true := by simp [dm]
theorem dm_bare (h : List Nat) {r : List Bool} : dm (120 :: h) ((nameL r ++ dloc).drop 1) = false := by
  cases r with
  | nil => simp [dm, nameL, dloc]
  | cons b r =>
    rw [nameL_cons]
    show dm (120 :: h) (lab b ++ nameL r ++ dloc) = false
    cases b <;> simp [dm, lab]
theorem eqv_refl_scal {l : List PyData} (h : ∀ d ∈ l, scal d = true) : PyData.eqv (.list l) (.list l) = true := by
  rw [PyData.eqv]; exact eqvAll_refl l (scals_lay h).1
theorem scal_ends (l : List (List Bool)) : ∀ d ∈ endsD l, scal d = true := fun d hd => by
  obtain ⟨x, hx, rfl⟩ := List.mem_map.mp hd
  have hx' := (srt_perm _).mem_iff.mp hx
  obtain ⟨r, _, rfl⟩ := List.mem_map.mp hx'
  exact strOk_S (abc_hostL r).lt
theorem endsD_len (l : List (List Bool)) : (endsD l).length = l.length := by
  rw [endsD, List.length_map, (srt_perm _).length_eq, List.length_map]
theorem endsD_mem {l : List (List Bool)} {x : List Bool} (h : x ∈ l) : ((endsD l).any fun y => PyData.eqv y (.str (S (hostL x)))) = true := by
  rw [List.any_eq_true]
  refine ⟨.str (S (hostL x)), List.mem_map.mpr ⟨_, (srt_perm _).mem_iff.mpr (List.mem_map.mpr ⟨x, h, rfl⟩), rfl⟩, ?_⟩
  rw [PyData.eqv]; simp
theorem endsD_one (x : List Bool) : endsD [x] = [.str (S (hostL x))] := by
  have : srt [S (hostL x)] = [S (hostL x)] := List.perm_singleton.mp (srt_perm _)
  rw [endsD, List.map_cons, List.map_nil, this]; rfl

structure LF2 (c : Cx) : Prop where
  ell : FnAt c (defAt T2 9)
  hdn : FnAt c (defAt T2 3)
  lib : FnAt c (defAt T2 4)
  udm : FnAt c (defAt T2 5)
  reach : FnAt c (defAt T2 6)
  name : FnAt c (defAt T2 11)
  host : FnAt c (defAt T2 12)
  rule : FnAt c (defAt T2 13)
  row : FnAt c (defAt T2 14)
  melted : FnAt c (defAt T2 15)
  ends : FnAt c (defAt T2 16)
  plain : FnAt c (defAt T2 17)
  pile : FnAt c (defAt T2 18)
  like : FnAt c (defAt T2 19)
  base : Base c
abbrev LE (pm code doc : Value) (L a : Addr) : Env := callEnvC (Calls.docDef (defAt T2 20).name (defAt T2 20).params (defAt T2 20).body (defAt T2 20).scope pm code doc) L a
/-- from the k-th statement on the law goes well -/
def Goes (c : Cx) (A : Around) (pm code doc : Value) (a : Addr) (X : List Addr) (s₀ : Shared) (k : Nat) (ρ : List (Str × Pd)) : Prop :=
  ∀ s, FSt c s₀ X (LE pm code doc s₀.heap.objs.size a) ρ [] {} s →
    wpAny (model c.prog c.w) (A.deeper (LE pm code doc s₀.heap.objs.size a)) (execs ((defAt T2 20).body.drop k) (LE pm code doc s₀.heap.objs.size a)) (fun fl s' => ∃ v, fl = .ret v ∧ RelP X s'.heap v (.d (.bool true)) ∧ Ks s₀ s') (fun _ _ => False) s
def numsOf (ns : List Int) : List Int := ns.take 8 ++ [6, 2, 5, 1].drop ns.length
theorem numsOf_len (ns : List Int) : 4 ≤ (numsOf ns).length ∧ (numsOf ns).length ≤ 12 := by
  rw [numsOf, List.length_append, List.length_take, List.length_drop]
  simp only [List.length_cons, List.length_nil]; omega
def rho3 (w r : List Bool) : List (Str × Pd) := [(Str.ofString "row", .d (.list (rowD r))), (Str.ofString "rule", .d (.list (rowD w)))]
section
variable {c : Cx} {A : Around} {pm code doc : Value} {a : Addr} {X : List Addr} {s₀ : Shared}
theorem law2_0 (F : LF2 c) (room : Rm A 6) {ns : List Int} (hns : ns.length ≤ 63) (k : ∀ x0 tl, (∃ l, l = x0 :: tl ∧ tl.length ≤ 11) → Goes c A pm code doc a X s₀ 3 (rho3 (ruleOf x0) (rowSt (ruleOf x0) tl))) :
    Goes c A pm code doc a X s₀ 0 [(Str.ofString "script", .l (ns.map .int))] := by
  intro s St
  have b := F.base
  have r5 : ∀ env, Rm (A.deeper env) 5 := fun env => room.deeper
  have hnl := numsOf_len ns
  refine st_asg (p := .d (.list ((numsOf ns).map .int))) St (Ev.cast (Ev.bin (Ev.opn (Ev.slice_list (lo := none) (hi := some ((8 : Nat) : Int)) (Ev.name ((List.Mem.head _))) trivial Ev.int ?_)) (Ev.opn (Ev.slice_list (lo := some ((ns.length : Nat) : Int)) (hi := none) (Ev.opn (Ev.list (ds := [.int 6, .int 2, .int 5, .int 1]) (EvL.cons Ev.int (EvL.cons Ev.int (EvL.cons Ev.int (EvL.one Ev.int)))) (by simp))) (Ev.cast (Ev.bf rfl b.len.1 b.len.2 (Bf.len_list (xs := ns.map .int) (by rw [List.length_map]; omega)) (EvL.one (Ev.name ((List.Mem.head _))))) ?_) trivial ?_)) (Bin.add_list ?_)) ?_) (.inl rfl) ⟨rfl, rfl⟩ fun s1 S1 => ?_
  · rw [List.length_map, sizeLine_eq]; omega
  · rw [List.length_map]
  · rw [sizeLine_eq]; simp
  · rw [sl_natT, sl_natD, List.length_take, List.length_drop]; simp; omega
  · rw [sl_natT, sl_natD, numsOf, List.map_append, List.map_take, List.map_drop]; rfl
  match hn : numsOf ns, hnl with
  | x0 :: tl, hnl =>
  rw [hn] at S1
  have hok := rule_ok x0
  have htl : tl.length ≤ 11 := by simp at hnl; omega
  refine st_asg (p := .d (.list (rowD (ruleOf x0)))) S1 (Ev.fn rfl (fn_rule F.rule ((r5 _).less (by omega))) (EvL.one (Ev.item_nat (k := 0) (d := .int x0) (Ev.opn (Ev.name ((List.Mem.head _)))) Ev.int rfl (by simp; omega)))) (.inr ⟨rfl, rfl⟩) ⟨rfl, rfl⟩ fun s2 S2 => ?_
  refine st_asg (p := .d (.list (rowD (rowSt (ruleOf x0) tl)))) S2 (Ev.fn rfl (fn_row (xs := tl) F.row b ((r5 _).less (by omega)) (by have := hok.hi; omega) (by omega)) (EvL.cons (Ev.cast (Ev.slice_list (lo := some ((1 : Nat) : Int)) (hi := none) (Ev.opn (Ev.name ((List.Mem.tail _ (List.Mem.head _))))) Ev.int trivial ?_) ?_) (EvL.one (Ev.name ((List.Mem.head _)))))) (.inl rfl) ⟨rfl, rfl⟩ fun s3 S3 => ?_
  · rw [List.length_map, List.length_cons, sizeLine_eq]; omega
  · rw [sl_natD]; rfl
  exact k x0 tl ⟨_, rfl, htl⟩ s3 (S3.sub ⟨(List.Mem.head _), (List.Mem.tail _ (List.Mem.head _)), trivial⟩)
end
end Mine
end

section
open PySem PySem.W PyProof.Rows PySem.SeqAt
set_option Elab.async false
set_option maxRecDepth 100000
namespace Mine
def rho5 (w r : List Bool) : List (Str × Pd) := (Str.ofString "name", .d (.str (S (nameL w)))) :: (Str.ofString "size", .d (.int (w.length : Int))) :: rho3 w r
def rho7 (w r : List Bool) : List (Str × Pd) := (Str.ofString "due", .d (.list (boolD (bords w 0 w.length)))) :: (Str.ofString "fronts", .d (.list (strD (frs w 0 (w.length - 1))))) :: rho5 w r
def rho9 (w r : List Bool) : List (Str × Pd) := (Str.ofString "apart", .d (.list (boolD (aparts w 0 w.length)))) :: (Str.ofString "ended", .d (.list (boolD (liesL w 0)))) :: rho7 w r
theorem fronts1 (w : List Bool) (n : Nat) : ((rng 1 n).filter fun _ => true).map (intF fun k => .str (S (nameL (w.take k.toNat)))) = strD (frs w 0 n) := by
  rw [filter_true, rng_map, frs, strD, List.map_map]
  apply List.map_congr_left
  intro m _
  show PyData.str (S (nameL (w.take ((1 : Int) + (m : Int)).toNat))) = .str (S (nameL (seg w 0 (0 + 1 + m))))
  rw [seg_front, show ((1 : Int) + (m : Int)).toNat = 0 + 1 + m by omega]
theorem due1 (w : List Bool) : ((rng 1 (w.length - 1)).filter fun _ => true).map (intF fun k => .bool (w.take k.toNat == w.drop (w.length - k.toNat))) = boolD (bords w 0 w.length) := by
  rw [filter_true, rng_map, bords, boolD, List.map_map, Nat.sub_zero]
  apply List.map_congr_left
  intro m hm
  rw [List.mem_range] at hm
  show PyData.bool (w.take ((1 : Int) + (m : Int)).toNat == w.drop (w.length - ((1 : Int) + (m : Int)).toNat)) = .bool (seg w 0 (0 + (m + 1)) == seg w (w.length - (m + 1)) w.length)
  rw [seg_front, seg_back w (by omega), show ((1 : Int) + (m : Int)).toNat = m + 1 by omega, Nat.zero_add]
theorem host_up (w : List Bool) : Txt.upper (S (hostL w)) = S ((hostL w).map up) := upper_S (abc_hostL w)
section
variable {c : Cx} {A : Around} {pm code doc : Value} {a : Addr} {X : List Addr} {s₀ : Shared}

theorem law2_3 (F : LF2 c) (room : Rm A 6) {w r : List Bool} (hw : 2 ≤ w.length ∧ w.length ≤ 6) (k : Goes c A pm code doc a X s₀ 7 (rho7 w r)) : Goes c A pm code doc a X s₀ 3 (rho3 w r) := by
  intro s St
  have b := F.base
  have r5 : ∀ env, Rm (A.deeper env) 5 := fun env => room.deeper
  have r1 : ∀ env, Rm (A.deeper env) 1 := fun env => (r5 env).less (by omega)
  have r0 : ∀ env, Rm (A.deeper env) 0 := fun env => (r5 env).less (by omega)
  have hN : ((w.length : Int) - 1).toNat = w.length - 1 := by omega
  refine st_asg (p := .d (.int (w.length : Int))) St (Ev.cast (Ev.bf rfl b.len.1 b.len.2 (Bf.len_list (xs := rowD w) (by rw [rowD_len]; omega)) (EvL.one (Ev.opn (Ev.name ((List.Mem.tail _ (List.Mem.head _))))))) (by rw [rowD_len])) (.inr ⟨rfl, rfl⟩) ⟨rfl, rfl⟩ fun s1 S1 => ?_
  refine st_asg (p := .d (.str (S (nameL w)))) S1 (Ev.fn rfl (fn_name F.name (r1 _) (by omega)) (EvL.one (Ev.name ((List.Mem.tail _ (List.Mem.tail _ (List.Mem.head _))))))) (.inr ⟨rfl, rfl⟩) ⟨rfl, rfl⟩ fun s2 S2 => ?_
  refine st_comp (ρt := fun d => [(Str.ofString "many", .d d)]) (ρf := [(Str.ofString "rule", .d (.list (rowD w)))]) (p := fun _ => true) (f := intF fun k => .str (S (nameL (w.take k.toNat)))) (ds := rng 1 ((w.length : Int) - 1).toNat) S2 rfl rfl ?_ rfl ?_
    ⟨⟨(List.Mem.tail _ (List.Mem.tail _ (List.Mem.tail _ (List.Mem.head _)))), rfl, rfl, rfl⟩, trivial⟩ (IterE.range2 (g := true) rfl b.range.1 b.range.2 room.handled Ev.int (Ev.name ((List.Mem.tail _ (List.Mem.head _)))) (by omega) (by omega) (by omega) (by omega)) ?_ ?_ (fun _ _ _ _ => TstC.nil) ?_ ?_ (.inl rfl) ⟨rfl, rfl⟩ fun s3 S3 => ?_
  · decide
  · decide
  · intro d _ y q hq
    cases List.mem_singleton.mp hq; rfl
  · intro Y C d hd; exact AsgC.name rfl rfl
  · intro Y C d hd _
    obtain ⟨m, hm, rfl⟩ := mem_rng hd
    show Ev _ _ _ _ _ _ (.d (.str (S (nameL (w.take ((1 : Int) + (m : Int)).toNat)))))
    refine Ev.fn rfl (fn_name (r := w.take ((1 : Int) + (m : Int)).toNat) F.name (r1 _) (by rw [List.length_take]; omega)) (EvL.one (Ev.cast (Ev.slice_list (lo := none) (hi := some ((((1 : Int) + (m : Int)).toNat : Nat) : Int)) (Ev.opn (Ev.name ((List.Mem.tail _ (List.Mem.head _))))) trivial (Ev.cast (Ev.name ((List.Mem.head _))) ?_) ?_) ?_))
    · congr 2
    · rw [rowD_len, sizeLine_eq]; omega
    · rw [sl_rowD, sl_natT]
  · rw [rng_length]; omega
  rw [hN, fronts1] at S3
  refine st_comp (ρt := fun d => [(Str.ofString "many", .d d)]) (ρf := [(Str.ofString "rule", .d (.list (rowD w))), (Str.ofString "size", .d (.int (w.length : Int)))]) (p := fun _ => true) (f := intF fun k => .bool (w.take k.toNat == w.drop (w.length - k.toNat))) (ds := rng 1 ((w.length : Int) - 1).toNat) S3 rfl rfl ?_ rfl ?_
    ⟨⟨(List.Mem.tail _ (List.Mem.tail _ (List.Mem.tail _ (List.Mem.tail _ (List.Mem.head _))))), rfl, rfl, rfl⟩, ⟨(List.Mem.tail _ (List.Mem.tail _ (List.Mem.head _))), rfl, rfl, rfl⟩, trivial⟩ (IterE.range2 (g := true) rfl b.range.1 b.range.2 room.handled Ev.int (Ev.name ((List.Mem.tail _ (List.Mem.tail _ (List.Mem.head _))))) (by omega) (by omega) (by omega) (by omega)) ?_ ?_ (fun _ _ _ _ => TstC.nil) ?_ ?_ (.inl rfl) ⟨rfl, rfl⟩ fun s4 S4 => ?_
  · decide
  · decide
  · intro d _ y q hq
    cases List.mem_singleton.mp hq; rfl
  · intro Y C d hd; exact AsgC.name rfl rfl
  · intro Y C d hd _
    obtain ⟨m, hm, rfl⟩ := mem_rng hd
    rw [hN] at hm
    show Ev _ _ _ _ _ _ (.d (.bool (w.take ((1 : Int) + (m : Int)).toNat == w.drop (w.length - ((1 : Int) + (m : Int)).toNat))))
    refine Ev.cast (Ev.cm (Ev.slice_list (lo := none) (hi := some ((((1 : Int) + (m : Int)).toNat : Nat) : Int)) (Ev.opn (Ev.name ((List.Mem.tail _ (List.Mem.head _))))) trivial (Ev.cast (Ev.name ((List.Mem.head _))) ?_) ?_) (Ev.slice_list (lo := some ((w.length - ((1 : Int) + (m : Int)).toNat : Nat) : Int)) (hi := none) (Ev.opn (Ev.name ((List.Mem.tail _ (List.Mem.head _))))) (Ev.cast (Ev.bin (Ev.name ((List.Mem.tail _ (List.Mem.tail _ (List.Mem.head _))))) (Ev.name ((List.Mem.head _))) Bin.sub_int) ?_) trivial ?_) (Cmp.eq_data ?_ ?_ (r0 _))) ?_
    · congr 2
    · rw [rowD_len, sizeLine_eq]; omega
    · congr 2; omega
    · rw [rowD_len, sizeLine_eq]; omega
    · show shaped (.list _) = true
      rw [sl_rowD]; exact shaped_list (scal_row _)
    · show shaped (.list _) = true
      rw [sl_rowD]; exact shaped_list (scal_row _)
    · show Pd.d (.bool (PyData.eqv (.list _) (.list _))) = _
      rw [sl_rowD, sl_rowD, PyData.eqv, eqv_rows, sl_natT, sl_natD]
  · rw [rng_length]; omega
  rw [hN, due1] at S4
  exact k s4 S4

theorem law2_7 (F : LF2 c) (room : Rm A 6) {w r : List Bool} (hw : 2 ≤ w.length ∧ w.length ≤ 6) (k : Goes c A pm code doc a X s₀ 9 (rho9 w r)) : Goes c A pm code doc a X s₀ 7 (rho7 w r) := by
  intro s St
  have b := F.base
  have r5 : ∀ env, Rm (A.deeper env) 5 := fun env => room.deeper
  have hhl := hostL_le w
  have hnl := nameL_le w
  refine st_comp (ρt := fun d => [(Str.ofString "front", .d d)]) (ρf := [(Str.ofString "rule", .d (.list (rowD w)))]) (p := fun _ => true) (f := strF fun f => .bool (dm (hostL w) (f ++ dloc))) (ds := strD (frs w 0 (w.length - 1))) St rfl rfl ?_ rfl ?_
    ⟨⟨(List.Mem.tail _ (List.Mem.tail _ (List.Mem.tail _ (List.Mem.tail _ (List.Mem.tail _ (List.Mem.head _)))))), rfl, rfl, rfl⟩, trivial⟩ (IterE.listD (g := true) (Ev.name ((List.Mem.tail _ (List.Mem.head _)))) room.handled rfl) ?_ ?_ (fun _ _ _ _ => TstC.nil) ?_ ?_ (.inl rfl) ⟨rfl, rfl⟩ fun s1 S1 => ?_
  · decide
  · decide
  · intro d _ y q hq
    cases List.mem_singleton.mp hq; rfl
  · intro Y C d hd; exact AsgC.name rfl rfl
  · intro Y C d hd _
    obtain ⟨f, hf, rfl⟩ := List.mem_map.mp hd
    obtain ⟨m, hm1, hm2, rfl⟩ := mem_fronts hf
    have hl3 := take_le w m (by omega)
    rw [strF_S]
    refine Ev.fn rfl (fn_udm (x := (hostL w).map up) (x' := hostL w) (y' := nameL (w.take m) ++ dloc) F.udm F.lib b.pat ((r5 _).less (by omega)) (lower_upS (abc_hostL w)) (lower_S (abc_dom _)) (abc_hostL w).noDig (abc_dom _).noDig ?_ ?_) (EvL.cons (Ev.cast (Ev.meth (Ev.fn rfl (fn_host F.host F.name ((r5 _).less (by omega)) (by omega)) (EvL.one (Ev.name ((List.Mem.tail _ (List.Mem.head _)))))) PySem.F.slot_str_upper PySem.F.type_str_upper EvL.nil (Bf.upper ?_) rfl (by decide)) ?_) (EvL.one (Ev.bin (Ev.name ((List.Mem.head _))) Ev.str (Bin.add_str (b := dloc) ?_))))
    · omega
    · simp; omega
    · rw [host_up, S_len, List.length_map]; omega
    · rw [host_up]
    · rw [sizeLine_eq]; simp; omega
  · rw [strD_len, frs_len]; omega
  have e1 : ((strD (frs w 0 (w.length - 1))).filter fun _ => true).map (strF fun f => .bool (dm (hostL w) (f ++ dloc))) = boolD (liesL w 0) := by
    rw [filter_true, liesL, boolD, strD, List.map_map, List.map_map]; rfl
  rw [e1] at S1
  refine st_comp (ρt := fun d => [(Str.ofString "front", .d d)]) (ρf := [(Str.ofString "name", .d (.str (S (nameL w))))]) (p := fun _ => true) (f := strF fun f => .bool (ell [f, f] (nameL w))) (ds := strD (frs w 0 (w.length - 1))) S1 rfl rfl ?_ rfl ?_
    ⟨⟨(List.Mem.tail _ (List.Mem.tail _ (List.Mem.tail _ (List.Mem.head _)))), rfl, rfl, rfl⟩, trivial⟩ (IterE.listD (g := true) (Ev.name ((List.Mem.tail _ (List.Mem.tail _ (List.Mem.head _))))) room.handled rfl) ?_ ?_ (fun _ _ _ _ => TstC.nil) ?_ ?_ (.inl rfl) ⟨rfl, rfl⟩ fun s2 S2 => ?_
  · decide
  · decide
  · intro d _ y q hq
    cases List.mem_singleton.mp hq; rfl
  · intro Y C d hd; exact AsgC.name rfl rfl
  · intro Y C d hd _
    obtain ⟨f, hf, rfl⟩ := List.mem_map.mp hd
    obtain ⟨m, hm1, hm2, rfl⟩ := mem_fronts hf
    have hl3 := take_le w m (by omega)
    rw [strF_S]
    refine Ev.fn rfl (fn_ell (ws := [nameL (w.take m), nameL (w.take m)]) F.ell b ((r5 _).less (by omega)) ?_ (by simp) ?_ (by simp) (by omega) ?_) (EvL.cons (Ev.bin (Ev.bin (Ev.name ((List.Mem.head _))) Ev.str (Bin.add_str (b := [46, 46, 46]) ?_)) (Ev.name ((List.Mem.head _))) (Bin.add_str ?_)) (EvL.one (Ev.name ((List.Mem.tail _ (List.Mem.head _))))))
    · intro u hu; simp at hu; rw [hu]; exact good_name _
    · intro u hu; simp at hu; rw [hu]; omega
    · show (_ ++ dots ++ nameL (w.take m)).length ≤ _
      simp only [List.length_append, List.length_cons, List.length_nil]; omega
    · rw [sizeLine_eq]; simp; omega
    · rw [sizeLine_eq]; simp; omega
  · rw [strD_len, frs_len]; omega
  have e2 : ((strD (frs w 0 (w.length - 1))).filter fun _ => true).map (strF fun f => .bool (ell [f, f] (nameL w))) = boolD (aparts w 0 w.length) := by
    rw [filter_true, aparts, boolD, strD, List.map_map, List.map_map, seg_all]; rfl
  rw [e2] at S2
  exact k s2 S2
end
end Mine
end

section
open PySem PySem.W PyProof.Rows PySem.SeqAt
set_option Elab.async false
set_option maxRecDepth 100000
namespace Mine
def rho10 (w r : List Bool) : List (Str × Pd) := (Str.ofString "host", .d (.str (S ((hostL w).map up)))) :: rho9 w r
theorem two_labels {w : List Bool} (h : 2 ≤ w.length) : ∃ x y, w.take 2 = [x, y] := by
  match w, h with
  | x :: y :: _, _ => exact ⟨x, y, rfl⟩
section
variable {c : Cx} {A : Around} {pm code doc : Value} {a : Addr} {X : List Addr} {s₀ : Shared}

theorem law2_9 (F : LF2 c) (room : Rm A 6) {w r : List Bool} (hw : 2 ≤ w.length ∧ w.length ≤ 6) (k : Goes c A pm code doc a X s₀ 13 (rho10 w r)) : Goes c A pm code doc a X s₀ 9 (rho9 w r) := by
  intro s St
  have b := F.base
  have r5 : ∀ env, Rm (A.deeper env) 5 := fun env => room.deeper
  have r0 : ∀ env, Rm (A.deeper env) 0 := fun env => (r5 env).less (by omega)
  have hhl := hostL_le w
  have el := lower_upS (abc_hostL w)
  refine st_if St (b := false) (Tst.cast (Tst.not (Tst.plain (Ev.fn rfl (fn_like (x := liesL w 0) (y := bords w 0 w.length) F.like b ((r5 _).less (by omega)) (by rw [liesL_len]; omega) (by rw [bords_len]; omega)) (EvL.cons (Ev.name ((List.Mem.tail _ (List.Mem.head _)))) (EvL.one (Ev.name ((List.Mem.tail _ (List.Mem.tail _ (List.Mem.head _)))))))) Tru.bool)) ?_) (fun h => nomatch h) fun _ s1 S1 => ?_
  · rw [factB w 0 (by omega)]; rfl
  refine st_asg (p := .d (.str (S ((hostL w).map up)))) S1 (Ev.cast (Ev.meth (Ev.fn rfl (fn_host F.host F.name ((r5 _).less (by omega)) (by omega)) (EvL.one (Ev.name ((List.Mem.tail _ (List.Mem.tail _ (List.Mem.tail _ (List.Mem.tail _ (List.Mem.tail _ (List.Mem.tail _ (List.Mem.tail _ (List.Mem.head _)))))))))))) PySem.F.slot_str_upper PySem.F.type_str_upper EvL.nil (Bf.upper ?_) rfl (by decide)) ?_) (.inr ⟨rfl, rfl⟩) ⟨rfl, rfl⟩ fun s2 S2 => ?_
  · rw [host_up, S_len, List.length_map]; omega
  · rw [host_up]
  refine st_if S2 (b := false) (Tst.cast (Tst.cm (Ev.fn rfl (fn_udm (x' := hostL w) (y' := hostL w) F.udm F.lib b.pat ((r5 _).less (by omega)) el (lower_S (abc_hostL w)) (abc_hostL w).noDig (abc_hostL w).noDig ?_ ?_) (EvL.cons (Ev.name ((List.Mem.head _))) (EvL.one (Ev.cast (Ev.meth (Ev.name ((List.Mem.head _))) PySem.F.slot_str_lower PySem.F.type_str_lower EvL.nil (Bf.lower ?_) rfl (by decide)) ?_)))) Ev.bool Cmp.isNot_bool) ?_) (fun h => nomatch h) fun _ s3 S3 => ?_
  · omega
  · omega
  · rw [el, S_len]; omega
  · rw [el]
  · rw [hostL, dm_self]; rfl
  refine st_if S3 (b := false) (Tst.cast (Tst.cm (Ev.comp (ρt := fun d => [(Str.ofString "front", .d d)]) (ρf := [(Str.ofString "host", .d (.str (S ((hostL w).map up))))]) (p := fun _ => false) (f := fun d => d) (ds := strD (frs w 0 (w.length - 1))) rfl ?_ rfl ?_ ⟨⟨(List.Mem.head _), rfl, rfl, rfl⟩, trivial⟩
    (IterE.listD (g := true) (Ev.name ((List.Mem.tail _ (List.Mem.tail _ (List.Mem.tail _ (List.Mem.tail _ (List.Mem.head _))))))) room.handled rfl) ?_ ?_ ?_ (fun _ _ _ _ h => nomatch h) ?_) (Ev.list (ds := []) EvL.nil (by simp)) (Cmp.ne_data ?_ (by rfl) (r0 _))) ?_) (fun h => nomatch h) fun _ s4 S4 => ?_
  · decide
  · decide
  · intro d _ y q hq
    cases List.mem_singleton.mp hq; rfl
  · intro Y C d hd; exact AsgC.name rfl rfl
  · intro Y C d hd
    obtain ⟨f, hf, rfl⟩ := List.mem_map.mp hd
    obtain ⟨m, hm1, hm2, rfl⟩ := mem_fronts hf
    have hl3 := take_le w m (by omega)
    refine TstC.one (Tst.cast (Tst.cm (Ev.fn rfl (fn_udm (x' := hostL w) (y' := (nameL (w.take m) ++ dloc).drop 1) F.udm F.lib b.pat ((r5 _).less (by omega)) el (lower_S (abc_drop1 _)) (abc_hostL w).noDig (abc_drop1 _).noDig ?_ ?_) (EvL.cons (Ev.name ((List.Mem.tail _ (List.Mem.head _)))) (EvL.one (Ev.cast (Ev.slice_str (lo := some ((1 : Nat) : Int)) (hi := none) (Ev.bin (Ev.name ((List.Mem.head _))) Ev.str (Bin.add_str (b := dloc) ?_)) Ev.int trivial ?_) ?_)))) Ev.bool Cmp.isNot_bool) ?_)
    · omega
    · rw [List.length_drop, List.length_append]; simp; omega
    · rw [sizeLine_eq]; simp; omega
    · rw [sizeLine_eq, List.length_append]; simp; omega
    · rw [sl_natD]
    · rw [hostL, dm_bare]; rfl
  · rw [strD_len, frs_len]; omega
  · show shaped (.list _) = true
    rw [filter_none]; rfl
  · show (!PyData.eqv (.list _) (.list [])) = _
    rw [filter_none]; rfl
  exact k s4 S4

theorem law2_13 (F : LF2 c) (room : Rm A 6) {w r : List Bool} (hw : 2 ≤ w.length ∧ w.length ≤ 6) (k : Goes c A pm code doc a X s₀ 16 (rho10 w r)) : Goes c A pm code doc a X s₀ 13 (rho10 w r) := by
  intro s St
  have b := F.base
  have r5 : ∀ env, Rm (A.deeper env) 5 := fun env => room.deeper
  have r0 : ∀ env, Rm (A.deeper env) 0 := fun env => (r5 env).less (by omega)
  obtain ⟨x, y, hxy⟩ := two_labels hw.1
  have e1 : nameL (w.take 2) = 46 :: (lab x ++ 46 :: lab y) := by
    rw [hxy]; simp [nameL]
  have hlx := lab_le x
  have hly := lab_le y
  refine st_asg (p := .d (.str (S (lab x ++ 46 :: lab y)))) St (Ev.cast (Ev.slice_str (lo := some ((1 : Nat) : Int)) (hi := none) (Ev.fn rfl (fn_name (r := w.take 2) F.name ((r5 _).less (by omega)) (by rw [List.length_take]; omega)) (EvL.one (Ev.cast (Ev.slice_list (lo := none) (hi := some ((2 : Nat) : Int)) (Ev.opn (Ev.name ((List.Mem.tail _ (List.Mem.tail _ (List.Mem.tail _ (List.Mem.tail _ (List.Mem.tail _ (List.Mem.tail _ (List.Mem.tail _ (List.Mem.tail _ (List.Mem.head _)))))))))))) trivial Ev.int ?_) ?_))) Ev.int trivial ?_) ?_) (.inl rfl) ⟨rfl, rfl⟩ fun s1 S1 => ?_
  · rw [rowD_len, sizeLine_eq]; omega
  · rw [sl_rowD, sl_natT]
  · rw [sizeLine_eq, e1]; simp; omega
  · rw [e1, sl_natD]; rfl
  have hab : Abc (lab x ++ 46 :: lab y) := fun ch hc => abc_name [x, y] ch (by
    have : nameL [x, y] = 46 :: (lab x ++ 46 :: lab y) := by simp [nameL]
    rw [this]; exact .tail _ hc)
  refine st_if S1 (b := false) (Tst.cast (Tst.or (b := false) (Tst.cast (Tst.cm (Ev.fn rfl (fn_reach F.reach F.hdn b.pat ((r5 _).less (by omega)) hab.noDig (by simp; omega)) (EvL.one (Ev.name ((List.Mem.head _))))) (Ev.name ((List.Mem.head _))) Cmp.ne_str) ?_) fun _ => Tst.or (b := false) (Tst.cast (Tst.cm (Ev.comp (ρt := fun d => [(Str.ofString "front", .d d)]) (ρf := [(Str.ofString "name", .d (.str (S (nameL w))))]) (p := fun _ => false) (f := fun d => d) (ds := strD (frs w 0 (w.length - 1))) rfl ?_ rfl ?_ ⟨⟨(List.Mem.tail _ (List.Mem.tail _ (List.Mem.tail _ (List.Mem.tail _ (List.Mem.tail _ (List.Mem.tail _ (List.Mem.head _))))))), rfl, rfl, rfl⟩, trivial⟩
    (IterE.listD (g := true) (Ev.name ((List.Mem.tail _ (List.Mem.tail _ (List.Mem.tail _ (List.Mem.tail _ (List.Mem.tail _ (List.Mem.head _)))))))) room.handled rfl) ?_ ?_ ?_ (fun _ _ _ _ h => nomatch h) ?_) (Ev.list (ds := []) EvL.nil (by simp)) (Cmp.ne_data ?_ (by rfl) (r0 _))) ?_) fun _ => Tst.or_nil) rfl) (fun h => nomatch h) fun _ s2 S2 => ?_
  · rw [reach_pair]; simp
  · decide
  · decide
  · intro d _ y q hq
    cases List.mem_singleton.mp hq; rfl
  · intro Y C d hd; exact AsgC.name rfl rfl
  · intro Y C d hd
    obtain ⟨f, hf, rfl⟩ := List.mem_map.mp hd
    obtain ⟨m, hm1, hm2, rfl⟩ := mem_fronts hf
    refine TstC.one (Tst.cast (Tst.cm (Ev.fn rfl (fn_ell0 (x := nameL (w.take m)) (g := nameL w) F.ell b ((r5 _).less (by omega)) (good_name _)) (EvL.cons (Ev.name ((List.Mem.head _))) (EvL.one (Ev.name ((List.Mem.tail _ (List.Mem.head _))))))) Ev.bool Cmp.isNot_bool) ?_)
    have : (nameL (w.take m) == nameL w) = false := by
      cases hb : (nameL (w.take m) == nameL w) with
      | false => rfl
      | true =>
        have := congrArg List.length (name_inj (eq_of_beq hb))
        rw [List.length_take] at this
        omega
    rw [this]; rfl
  · rw [strD_len, frs_len]; omega
  · show shaped (.list _) = true
    rw [filter_none]; rfl
  · show (!PyData.eqv (.list _) (.list [])) = _
    rw [filter_none]; rfl
  have hb0 : (bords w 0 w.length).length ≤ 5 := by rw [bords_len]; omega
  refine st_if S2 (b := false) (Tst.cast (Tst.not (Tst.plain (Ev.fn rfl (fn_like (x := aparts w 0 w.length) (y := dueL w 0 w.length) F.like b ((r5 _).less (by omega)) (by rw [aparts_len]; omega) (by rw [dueL_len]; omega)) (EvL.cons (Ev.name ((List.Mem.tail _ (List.Mem.tail _ (List.Mem.head _))))) (EvL.one (Ev.cast (Ev.comp (ρt := pairR (Str.ofString "many") (Str.ofString "one")) (ρf := [(Str.ofString "size", .d (.int (w.length : Int)))]) (p := fun _ => true) (f := enumF fun m one => .bool (one && decide (2 * m ≤ w.length - 0))) (ds := enumT (boolD (bords w 0 w.length))) rfl ?_ rfl ?_
      ⟨⟨(List.Mem.tail _ (List.Mem.tail _ (List.Mem.tail _ (List.Mem.tail _ (List.Mem.tail _ (List.Mem.tail _ (List.Mem.tail _ (List.Mem.head _)))))))), rfl, rfl, rfl⟩, trivial⟩ (IterE.enum1 (g := true) rfl b.enumerate.1 b.enumerate.2 room.handled (Ev.name ((List.Mem.tail _ (List.Mem.tail _ (List.Mem.tail _ (List.Mem.tail _ (List.Mem.head _))))))) Ev.int) ?_ ?_ (fun _ _ _ _ => TstC.nil) ?_ ?_) ?_)))) Tru.bool)) ?_) (fun h => nomatch h) fun _ s3 S3 => ?_
  · decide
  · decide
  · intro d hd z q' hq'
    obtain ⟨m, o, _, rfl⟩ := mem_enumB hd
    rcases List.mem_cons.mp hq' with e | hq'
    · cases e; rfl
    · cases List.mem_singleton.mp hq'; rfl
  · intro Y C d hd
    obtain ⟨m, o, _, rfl⟩ := mem_enumB hd
    exact AsgC.pair room.handled rfl rfl rfl (by decide)
  · intro Y C d hd _
    obtain ⟨m, o, hm, rfl⟩ := mem_enumB hd
    show Ev _ _ _ _ _ _ (.d (.bool (o && decide (2 * ((m : Int) + 1).toNat ≤ w.length - 0))))
    refine Ev.and2 (Ev.name ((List.Mem.tail _ (List.Mem.head _)))) fun _ => Ev.cast (Ev.cm (Ev.bin Ev.int (Ev.name ((List.Mem.head _))) (Bin.mul_int ?_)) (Ev.name ((List.Mem.tail _ (List.Mem.tail _ (List.Mem.head _))))) Cmp.le_int) ?_
    · exact IntMulOk.of_left (by decide)
    · congr 2
      rw [decide_eq_decide]; omega
  · rw [enumT_length, boolD_len]; omega
  · rw [due_comp]
  · rw [factA w 0 w.length (by omega) (Nat.le_refl _)]; rfl
  exact k s3 (S3.sub ⟨(List.Mem.tail _ (List.Mem.head _)), (List.Mem.tail _ (List.Mem.tail _ (List.Mem.head _))), (List.Mem.tail _ (List.Mem.tail _ (List.Mem.tail _ (List.Mem.head _)))), (List.Mem.tail _ (List.Mem.tail _ (List.Mem.tail _ (List.Mem.tail _ (List.Mem.head _))))), (List.Mem.tail _ (List.Mem.tail _ (List.Mem.tail _ (List.Mem.tail _ (List.Mem.tail _ (List.Mem.head _)))))), (List.Mem.tail _ (List.Mem.tail _ (List.Mem.tail _ (List.Mem.tail _ (List.Mem.tail _ (List.Mem.tail _ (List.Mem.head _))))))), (List.Mem.tail _ (List.Mem.tail _ (List.Mem.tail _ (List.Mem.tail _ (List.Mem.tail _ (List.Mem.tail _ (List.Mem.tail _ (List.Mem.head _)))))))), (List.Mem.tail _ (List.Mem.tail _ (List.Mem.tail _ (List.Mem.tail _ (List.Mem.tail _ (List.Mem.tail _ (List.Mem.tail _ (List.Mem.tail _ (List.Mem.head _))))))))), (List.Mem.tail _ (List.Mem.tail _ (List.Mem.tail _ (List.Mem.tail _ (List.Mem.tail _ (List.Mem.tail _ (List.Mem.tail _ (List.Mem.tail _ (List.Mem.tail _ (List.Mem.head _)))))))))), trivial⟩)
end
end Mine
end

section
open PySem PySem.W PyProof.Rows PySem.SeqAt
set_option Elab.async false
set_option maxRecDepth 100000
namespace Mine
def rho18 (w r : List Bool) : List (Str × Pd) := [(Str.ofString "made", .d (.bool (madeB w))), (Str.ofString "root", .d (.int (rootN w : Int))), (Str.ofString "name", .d (.str (S (nameL w)))), (Str.ofString "size", .d (.int (w.length : Int))), (Str.ofString "row", .d (.list (rowD r))), (Str.ofString "rule", .d (.list (rowD w)))]
section
variable {c : Cx} {A : Around} {pm code doc : Value} {a : Addr} {X : List Addr} {s₀ : Shared}
set_option maxHeartbeats 1000000 in
theorem law2_16 (F : LF2 c) (room : Rm A 6) {w r : List Bool} (hR : RuleOk w) (k : Goes c A pm code doc a X s₀ 19 (rho18 w r)) : Goes c A pm code doc a X s₀ 16 (rho10 w r) := by
  intro s St
  have b := F.base
  have r5 : ∀ env, Rm (A.deeper env) 5 := fun env => room.deeper
  have r0 : ∀ env, Rm (A.deeper env) 0 := fun env => (r5 env).less (by omega)
  have hw := hR.lo
  have hw6 := hR.hi
  have h1 := hR.rlo
  have h2 := hR.rhi
  have hal : (aparts w 0 w.length).length ≤ 5 := by rw [aparts_len]; omega
  have hml := mulsF_len (dueL w 0 w.length) 0
  rw [dueL_len] at hml
  refine st_asg (p := .d (.int (rootN w : Int))) St (Ev.cast (Ev.bf rfl b.min.1 b.min.2 (Bf.min_list (xs := (w.length : Int) :: mulsF (dueL w 0 w.length) 0) (by simp) room.handled) (EvL.one (Ev.opn (Ev.cast (Ev.bin (Ev.opn (Ev.list (ds := [.int (w.length : Int)]) (EvL.one (Ev.name ((List.Mem.tail _ (List.Mem.tail _ (List.Mem.tail _ (List.Mem.tail _ (List.Mem.tail _ (List.Mem.tail _ (List.Mem.head _)))))))))) (by simp))) (Ev.opn (Ev.comp (ρt := pairR (Str.ofString "many") (Str.ofString "one")) (ρf := []) (p := enumP) (f := enumF fun m _ => .int (m : Int)) (ds := enumT (boolD (aparts w 0 w.length))) rfl ?_ rfl ?_
    trivial (IterE.enum1 (g := true) rfl b.enumerate.1 b.enumerate.2 room.handled (Ev.name ((List.Mem.tail _ (List.Mem.head _)))) Ev.int) ?_ ?_ ?_ ?_ ?_)) (Bin.add_list ?_)) ?_)))) ?_) (.inl rfl) ⟨rfl, rfl⟩ fun s1 S1 => ?_
  · decide
  · decide
  · intro d hd z q' hq'
    obtain ⟨m, o, _, rfl⟩ := mem_enumB hd
    rcases List.mem_cons.mp hq' with e | hq'
    · cases e; rfl
    · cases List.mem_singleton.mp hq'; rfl
  · intro Y C d hd
    obtain ⟨m, o, _, rfl⟩ := mem_enumB hd
    exact AsgC.pair room.handled rfl rfl rfl (by decide)
  · intro Y C d hd
    obtain ⟨m, o, _, rfl⟩ := mem_enumB hd
    exact TstC.one (Tst.plain (Ev.name ((List.Mem.tail _ (List.Mem.head _)))) Tru.bool)
  · intro Y C d hd _
    obtain ⟨m, o, _, rfl⟩ := mem_enumB hd
    show Ev _ _ _ _ _ _ (.d (.int ((((m : Int) + 1).toNat : Nat) : Int)))
    rw [show ((((m : Int) + 1).toNat : Nat) : Int) = (m : Int) + 1 by omega]
    exact Ev.name ((List.Mem.head _))
  · rw [enumT_length, boolD_len]; omega
  · rw [muls_comp, aparts_due (by omega) (Nat.le_refl _), List.length_map]; simp; omega
  · rw [muls_comp, aparts_due (by omega) (Nat.le_refl _)]; rfl
  · have : least ((w.length : Int) :: mulsF (dueL w 0 w.length) 0) = (rootN w : Int) := hR.root
    rw [this]
  generalize hrt : rootN w = rt at *
  have hq : w.length / rt ≤ 6 := Nat.le_trans (Nat.div_le_self _ _) hw6
  have hq1 : 1 ≤ w.length / rt := Nat.div_pos h2 h1
  have htl := take_le w rt (by omega)
  refine st_asg (p := .d (.list (strD (List.replicate (w.length / rt) (nameL (w.take rt)))))) S1 (Ev.cast (Ev.bin (Ev.list (ds := [.str (S (nameL (w.take rt)))]) (EvL.one (Ev.fn rfl (fn_name (r := w.take rt) F.name ((r5 _).less (by omega)) (by rw [List.length_take]; omega)) (EvL.one (Ev.cast (Ev.slice_list (lo := none) (hi := some (rt : Int)) (Ev.opn (Ev.name ((List.Mem.tail _ (List.Mem.tail _ (List.Mem.tail _ (List.Mem.tail _ (List.Mem.tail _ (List.Mem.tail _ (List.Mem.tail _ (List.Mem.tail _ (List.Mem.tail _ (List.Mem.head _))))))))))))) trivial (Ev.name ((List.Mem.head _))) ?_) ?_)))) (by simp)) (Ev.cast (q := .d (.int ((w.length / rt : Nat) : Int))) (Ev.bin (Ev.name ((List.Mem.tail _ (List.Mem.tail _ (List.Mem.tail _ (List.Mem.tail _ (List.Mem.tail _ (List.Mem.tail _ (List.Mem.tail _ (List.Mem.head _)))))))))) (Ev.name ((List.Mem.head _))) (Bin.fdiv_int (by omega) (by omega))) ?_) (Bin.mul_list (by simp; omega) (by simp))) ?_) (.inl rfl) ⟨rfl, rfl⟩ fun s2 S2 => ?_
  · rw [rowD_len, sizeLine_eq]; omega
  · rw [sl_rowD, sl_natT]
  · rw [Int.fdiv_eq_ediv_of_nonneg _ (by omega)]; rfl
  · rw [flat_rep, strD, List.map_replicate]
  have hsz : ∀ u ∈ List.replicate (w.length / rt) (nameL (w.take rt)), Good u ∧ u.length ≤ 30 := by
    intro u hu
    rw [List.eq_of_mem_replicate hu]; exact ⟨good_name _, htl⟩
  have hjoin : (joinL dots (List.replicate (w.length / rt) (nameL (w.take rt)))).length ≤ 60000 := by
    have := joinL_le (k := 30) _ fun u hu => (hsz u hu).2
    rw [List.length_replicate] at this
    have h3 : w.length / rt * (30 + 3) ≤ 6 * 33 := Nat.mul_le_mul_right _ hq
    omega
  have hnl := nameL_le w
  have hfn : Fn c (A.deeper (LE pm code doc s₀.heap.objs.size a)) (defAt T2 9).name [.d (.str (S (joinL dots (List.replicate (w.length / rt) (nameL (w.take rt)))))), .d (.str (S (nameL w)))] (.d (.bool (matchB w rt))) := by
    by_cases h3 : w.length / rt = 1
    · have := fn_ell0 (x := nameL (w.take rt)) (g := nameL w) F.ell b ((r5 (LE pm code doc s₀.heap.objs.size a)).less (by omega)) (good_name _)
      rw [matchB, if_pos h3, h3]
      exact this
    · rw [matchB, if_neg h3]
      exact fn_ell F.ell b ((r5 _).less (by omega)) (fun u hu => (hsz u hu).1) (by rw [List.length_replicate]; omega) (fun u hu => by have := (hsz u hu).2; omega) (by rw [List.length_replicate]; omega) (by omega) hjoin
  have hfit : (((List.replicate (w.length / rt) (nameL (w.take rt))).map S).map (·.length)).sum + ((List.replicate (w.length / rt) (nameL (w.take rt))).map S).length * 3 ≤ 16777216 := by
    have : ∀ l : List (List Nat), (∀ u ∈ l, u.length ≤ 30) → (l.map ((fun x : Str => x.length) ∘ S)).sum ≤ 30 * l.length := by
      intro l
      induction l with
      | nil => intro _; simp
      | cons u l ih =>
        intro h
        have h1 := ih fun v hv => h v (.tail _ hv)
        have h2 := h u (.head _)
        simp only [List.map_cons, List.sum_cons, List.length_cons, Function.comp, S_len]
        rw [Nat.mul_succ]
        have h3 : (l.map (fun x => (S x).length)).sum ≤ 30 * l.length := h1
        omega
    have h3 := this _ fun u hu => (hsz u hu).2
    rw [List.length_replicate] at h3
    rw [List.map_map, List.length_map, List.length_replicate]
    omega
  refine st_asg (p := .d (.bool (madeB w))) S2 (Ev.cast (Ev.and2 (a := decide (w.length % rt = 0)) (b := matchB w rt) (Ev.cast (Ev.cm (Ev.bin (Ev.name ((List.Mem.tail _ (List.Mem.tail _ (List.Mem.tail _ (List.Mem.tail _ (List.Mem.tail _ (List.Mem.tail _ (List.Mem.tail _ (List.Mem.tail _ (List.Mem.head _))))))))))) (Ev.name ((List.Mem.tail _ (List.Mem.head _)))) (Bin.mod_int (by omega))) Ev.int Cmp.eq_int) ?_) fun _ => Ev.fn rfl hfn (EvL.cons (Ev.cast (Ev.meth Ev.str PySem.F.slot_str_join PySem.F.type_str_join (EvL.one (Ev.opn (Ev.cast (q := .d (.list (((List.replicate (w.length / rt) (nameL (w.take rt))).map S).map .str))) (Ev.name ((List.Mem.head _))) ?_))) (Bf.join ?_) rfl (by decide)) ?_) (EvL.one (Ev.name ((List.Mem.tail _ (List.Mem.tail _ (List.Mem.tail _ (List.Mem.tail _ (List.Mem.tail _ (List.Mem.tail _ (List.Mem.tail _ (List.Mem.head _))))))))))))) ?_) (.inl rfl) ⟨rfl, rfl⟩ fun s3 S3 => ?_
  · rw [Int.fmod_eq_emod_of_nonneg _ (by omega)]
    congr 2
    rw [Bool.eq_iff_iff, beq_iff_eq, decide_eq_true_eq]
    omega
  · rw [strD, List.map_map]; rfl
  · exact hfit
  · show Pd.d (.str (Str.join (Str.ofString "...") _)) = _
    rw [lit_dots, join_S]
  · rw [madeB, hrt]
  refine k s3 ?_
  have e : rho18 w r = [(Str.ofString "made", .d (.bool (madeB w))), (Str.ofString "root", .d (.int (rt : Int))), (Str.ofString "name", .d (.str (S (nameL w)))), (Str.ofString "size", .d (.int (w.length : Int))), (Str.ofString "row", .d (.list (rowD r))), (Str.ofString "rule", .d (.list (rowD w)))] := by rw [rho18, hrt]
  rw [e]
  exact S3.sub ⟨(List.Mem.head _), (List.Mem.tail _ (List.Mem.tail _ (List.Mem.head _))), (List.Mem.tail _ (List.Mem.tail _ (List.Mem.tail _ (List.Mem.tail _ (List.Mem.tail _ (List.Mem.tail _ (List.Mem.tail _ (List.Mem.tail _ (List.Mem.head _))))))))), (List.Mem.tail _ (List.Mem.tail _ (List.Mem.tail _ (List.Mem.tail _ (List.Mem.tail _ (List.Mem.tail _ (List.Mem.tail _ (List.Mem.tail _ (List.Mem.tail _ (List.Mem.head _)))))))))), (List.Mem.tail _ (List.Mem.tail _ (List.Mem.tail _ (List.Mem.tail _ (List.Mem.tail _ (List.Mem.tail _ (List.Mem.tail _ (List.Mem.tail _ (List.Mem.tail _ (List.Mem.tail _ (List.Mem.head _))))))))))), (List.Mem.tail _ (List.Mem.tail _ (List.Mem.tail _ (List.Mem.tail _ (List.Mem.tail _ (List.Mem.tail _ (List.Mem.tail _ (List.Mem.tail _ (List.Mem.tail _ (List.Mem.tail _ (List.Mem.tail _ (List.Mem.head _)))))))))))), trivial⟩
end
end Mine
end

section
open PySem PySem.W PyProof.Rows PySem.SeqAt
set_option Elab.async false
set_option maxRecDepth 100000
namespace Mine
theorem knot_len {w : List Bool} (hR : RuleOk w) : (knot w).length ≤ 12 := by
  have := hR.hi
  rw [knot, List.length_append, List.length_drop]; omega
/-- the row's search: it ends, and the ends are few -/
theorem row_ends {w r : List Bool} (hR : RuleOk w) (hr : r.length ≤ 10) : ∃ N, Bfs w r N ∧ (bst w r N).2.length < 64 ∧ (madeB w = true → (bst w r N).2 = [pile w r]) := by
  obtain ⟨N, hB⟩ := bfs_ten (w := w) hr
  have hlo := hR.lo
  refine ⟨N, hB, ?_, fun hm => one_end hB (hR.cfl hm) (by omega) hr⟩
  cases hm : madeB w with
  | true =>
    rw [one_end hB (hR.cfl hm) (by omega) hr]; simp
  | false =>
    have h1 := few_rows (hR.three hm) hr N
    rw [hB.all]
    exact Nat.lt_of_le_of_lt (List.length_filter_le _ _) (by omega)
section
variable {c : Cx} {A : Around} {pm code doc : Value} {a : Addr} {X : List Addr} {s₀ : Shared}
set_option maxHeartbeats 1000000 in
theorem law2_19 (F : LF2 c) (room : Rm A 6) {w r : List Bool} (hR : RuleOk w) (hr : r.length ≤ 10) : Goes c A pm code doc a X s₀ 19 (rho18 w r) := by
  intro s St
  have b := F.base
  have r5 : ∀ env, Rm (A.deeper env) 5 := fun env => room.deeper
  have r0 : ∀ env, Rm (A.deeper env) 0 := fun env => (r5 env).less (by omega)
  have hlo := hR.lo
  have hhi := hR.hi
  have hkl := knot_len hR
  have hw10 : 1 ≤ w.length ∧ w.length ≤ 10 := by omega
  have h1 := hR.rlo
  have h2 := hR.rhi
  obtain ⟨N, hB, h64, hone, hd1, hd2⟩ := hR.knot
  obtain ⟨M, hBr, h64r, hpile⟩ := row_ends hR hr
  generalize hE : (bst w (knot w) N).2 = E at *
  have hfit : rootN w ≤ w.length := h2
  refine st_asg (p := .d (.list (rowD (knot w)))) St (Ev.cast (Ev.bin (Ev.opn (Ev.name ((List.Mem.tail _ (List.Mem.tail _ (List.Mem.tail _ (List.Mem.tail _ (List.Mem.tail _ (List.Mem.head _))))))))) (Ev.opn (Ev.slice_list (lo := some (rootN w : Int)) (hi := none) (Ev.opn (Ev.name ((List.Mem.tail _ (List.Mem.tail _ (List.Mem.tail _ (List.Mem.tail _ (List.Mem.tail _ (List.Mem.head _))))))))) (Ev.name ((List.Mem.tail _ (List.Mem.head _)))) trivial ?_)) (Bin.add_list ?_)) ?_) (.inl rfl) ⟨rfl, rfl⟩ fun s1 S1 => ?_
  · rw [rowD_len, sizeLine_eq]; omega
  · rw [sl_rowD, rowD_len, rowD_len, sl_natD, List.length_drop]; omega
  · rw [sl_rowD, sl_natD, row_append]; rfl
  refine st_asg (p := .d (.list (endsD E))) S1 (Ev.cast (Ev.fn rfl (fn_hends (r := knot w) (w := w) F.ends F.melted F.reach F.hdn F.ell b ((r5 _).less (by omega)) hw10 (by omega) hB (by rw [hE]; exact h64)) (EvL.cons (Ev.fn rfl (fn_host (r := knot w) F.host F.name ((r5 _).less (by omega)) (by omega)) (EvL.one (Ev.name ((List.Mem.head _))))) (EvL.one (Ev.name ((List.Mem.tail _ (List.Mem.tail _ (List.Mem.tail _ (List.Mem.head _))))))))) (by rw [hE])) (.inr ⟨rfl, rfl⟩) ⟨rfl, rfl⟩ fun s2 S2 => ?_
  refine st_asg (p := .d (.list (hostsD [w.drop (rootN w), w.take (w.length - rootN w)]))) S2 (Ev.list (ds := [.str (S (hostL (w.drop (rootN w)))), .str (S (hostL (w.take (w.length - rootN w))))]) (EvL.cons (Ev.fn rfl (fn_host (r := w.drop (rootN w)) F.host F.name ((r5 _).less (by omega)) (by rw [List.length_drop]; omega)) (EvL.one (Ev.cast (Ev.slice_list (lo := some (rootN w : Int)) (hi := none) (Ev.opn (Ev.name ((List.Mem.tail _ (List.Mem.tail _ (List.Mem.tail _ (List.Mem.tail _ (List.Mem.tail _ (List.Mem.tail _ (List.Mem.tail _ (List.Mem.head _))))))))))) (Ev.name ((List.Mem.tail _ (List.Mem.tail _ (List.Mem.tail _ (List.Mem.head _)))))) trivial ?_) ?_)))
    (EvL.one (Ev.fn rfl (fn_host (r := w.take (w.length - rootN w)) F.host F.name ((r5 _).less (by omega)) (by rw [List.length_take]; omega)) (EvL.one (Ev.cast (Ev.slice_list (lo := none) (hi := some ((w.length - rootN w : Nat) : Int)) (Ev.opn (Ev.name ((List.Mem.tail _ (List.Mem.tail _ (List.Mem.tail _ (List.Mem.tail _ (List.Mem.tail _ (List.Mem.tail _ (List.Mem.tail _ (List.Mem.head _))))))))))) trivial (Ev.cast (Ev.bin (Ev.name ((List.Mem.tail _ (List.Mem.tail _ (List.Mem.tail _ (List.Mem.tail _ (List.Mem.tail _ (List.Mem.head _)))))))) (Ev.name ((List.Mem.tail _ (List.Mem.tail _ (List.Mem.tail _ (List.Mem.head _)))))) Bin.sub_int) ?_) ?_) ?_))))) (by simp)) (.inl rfl) ⟨rfl, rfl⟩ fun s3 S3 => ?_
  · rw [rowD_len, sizeLine_eq]; omega
  · rw [sl_rowD, sl_natD]
  · congr 2; omega
  · rw [rowD_len, sizeLine_eq]; omega
  · rw [sl_rowD, sl_natT]
  refine st_if S3 (b := false) (Tst.cast (Tst.or (b := false) (Tst.cast (Tst.cm (Ev.name ((List.Mem.tail _ (List.Mem.head _)))) (Ev.fn rfl (fn_plain (r := knot w) (w := w) F.plain F.host F.name b ((r5 _).less (by omega)) hw10 (by omega) hB (by rw [hE]; exact h64)) (EvL.cons (Ev.name ((List.Mem.tail _ (List.Mem.tail _ (List.Mem.head _))))) (EvL.one (Ev.name ((List.Mem.tail _ (List.Mem.tail _ (List.Mem.tail _ (List.Mem.tail _ (List.Mem.tail _ (List.Mem.tail _ (List.Mem.tail _ (List.Mem.tail _ (List.Mem.head _)))))))))))))) (Cmp.ne_data (shaped_list (scal_ends _)) (shaped_list (scal_ends _)) (r0 _))) ?_) fun _ => Tst.or (b := false) (Tst.cast (Tst.cm (Ev.comp (ρt := fun d => [(Str.ofString "half", .d d)]) (ρf := [(Str.ofString "tied", .d (.list (endsD E)))]) (p := fun _ => false) (f := fun d => d) (ds := hostsD [w.drop (rootN w), w.take (w.length - rootN w)]) rfl ?_ rfl ?_ ⟨⟨(List.Mem.tail _ (List.Mem.head _)), rfl, rfl, rfl⟩, trivial⟩
    (IterE.listD (g := true) (Ev.name ((List.Mem.head _))) room.handled rfl) ?_ ?_ ?_ (fun _ _ _ _ h => nomatch h) ?_) (Ev.list (ds := []) EvL.nil (by simp)) (Cmp.ne_data ?_ (by rfl) (r0 _))) ?_) fun _ => Tst.or_nil) rfl) (fun h => nomatch h) fun _ s4 S4 => ?_
  · show (!PyData.eqv (.list _) (.list _)) = _
    rw [hE, eqv_refl_scal (scal_ends _)]; rfl
  · decide
  · decide
  · intro d _ y q hq
    cases List.mem_singleton.mp hq; rfl
  · intro Y C d hd; exact AsgC.name rfl rfl
  · intro Y C d hd
    obtain ⟨x, hx, rfl⟩ : ∃ x, x ∈ E ∧ d = .str (S (hostL x)) := by
      rcases List.mem_cons.mp hd with e | hd
      · exact ⟨_, hd1, e⟩
      · exact ⟨_, hd2, List.mem_singleton.mp hd⟩
    refine TstC.one (Tst.cast (Tst.cm (Ev.name ((List.Mem.head _))) (Ev.opn (Ev.name ((List.Mem.tail _ (List.Mem.head _))))) (Cmp.notIn_list (p1 := .d (.str (S (hostL x)))) (shaped_scal (strOk_S (abc_hostL x).lt)) (scals_lay (scal_ends _)).1 (r0 _))) ?_)
    show (!(endsD E).any fun y => PyData.eqv y (.str (S (hostL x)))) = false
    rw [endsD_mem hx]; rfl
  · rw [hostsD_len]; simp
  · show shaped (.list _) = true
    rw [filter_none]; rfl
  · show (!PyData.eqv (.list _) (.list [])) = _
    rw [filter_none]; rfl
  refine st_if S4 (b := false) (Tst.cast (Tst.or (b := false) (Tst.cast (Tst.cm (Ev.cast (Ev.cm (Ev.cast (Ev.bf rfl b.len.1 b.len.2 (Bf.len_list (xs := endsD E) (by rw [endsD_len]; omega)) (EvL.one (Ev.opn (Ev.name ((List.Mem.tail _ (List.Mem.head _))))))) (by rw [endsD_len])) Ev.int Cmp.eq_int) (q := .d (.bool (decide (E.length = 1)))) ?_) (Ev.name ((List.Mem.tail _ (List.Mem.tail _ (List.Mem.tail _ (List.Mem.head _)))))) Cmp.isNot_bool) ?_) fun _ => Tst.or (b := false) (Tst.cast (Tst.cm (Ev.cast (Ev.cm (Ev.item_nat (k := 0) (d := .str (S (hostL (w.drop (rootN w))))) (Ev.opn (Ev.name ((List.Mem.head _)))) Ev.int rfl (by rw [hostsD_len]; simp)) (Ev.item_nat (k := 1) (d := .str (S (hostL (w.take (w.length - rootN w))))) (Ev.opn (Ev.name ((List.Mem.head _)))) Ev.int rfl (by rw [hostsD_len]; simp)) Cmp.eq_str) (q := .d (.bool (madeB w))) ?_) (Ev.name ((List.Mem.tail _ (List.Mem.tail _ (List.Mem.tail _ (List.Mem.head _)))))) Cmp.isNot_bool) ?_) fun _ => Tst.or_nil) rfl) (fun h => nomatch h) fun _ s5 S5 => ?_
  · congr 2
    rw [Bool.eq_iff_iff, beq_iff_eq, decide_eq_true_eq]
    omega
  · rw [hone]; simp
  · rw [host_beq, hR.half]
  · simp
  refine st_asg (p := .d (.list (endsD (bst w r M).2))) S5 (Ev.fn rfl (fn_hends (r := r) (w := w) F.ends F.melted F.reach F.hdn F.ell b ((r5 _).less (by omega)) hw10 (by omega) hBr h64r) (EvL.cons (Ev.fn rfl (fn_host (r := r) F.host F.name ((r5 _).less (by omega)) (by omega)) (EvL.one (Ev.name ((List.Mem.tail _ (List.Mem.tail _ (List.Mem.tail _ (List.Mem.tail _ (List.Mem.tail _ (List.Mem.tail _ (List.Mem.tail _ (List.Mem.head _)))))))))))) (EvL.one (Ev.name ((List.Mem.tail _ (List.Mem.tail _ (List.Mem.tail _ (List.Mem.tail _ (List.Mem.tail _ (List.Mem.head _))))))))))) (.inl rfl) ⟨rfl, rfl⟩ fun s6 S6 => ?_
  refine st_if S6 (b := false) (Tst.cast (Tst.cm (Ev.name ((List.Mem.head _))) (Ev.fn rfl (fn_plain (r := r) (w := w) F.plain F.host F.name b ((r5 _).less (by omega)) hw10 (by omega) hBr h64r) (EvL.cons (Ev.name ((List.Mem.tail _ (List.Mem.tail _ (List.Mem.tail _ (List.Mem.tail _ (List.Mem.tail _ (List.Mem.tail _ (List.Mem.tail _ (List.Mem.tail _ (List.Mem.head _))))))))))) (EvL.one (Ev.name ((List.Mem.tail _ (List.Mem.tail _ (List.Mem.tail _ (List.Mem.tail _ (List.Mem.tail _ (List.Mem.tail _ (List.Mem.tail _ (List.Mem.tail _ (List.Mem.tail _ (List.Mem.head _))))))))))))))) (Cmp.ne_data (shaped_list (scal_ends _)) (shaped_list (scal_ends _)) (r0 _))) ?_) (fun h => nomatch h) fun _ s7 S7 => ?_
  · show (!PyData.eqv (.list _) (.list _)) = _
    rw [eqv_refl_scal (scal_ends _)]; rfl
  have hpl := pile_le w r
  refine st_retF S7 (Ev.cast (Ev.or2 (a := !madeB w) (b := true) (Ev.not (Ev.name ((List.Mem.tail _ (List.Mem.tail _ (List.Mem.tail _ (List.Mem.tail _ (List.Mem.head _))))))) Tru.bool) fun hm => Ev.cast (Ev.cm (Ev.name ((List.Mem.head _))) (Ev.list (ds := [.str (S (hostL (pile w r)))]) (EvL.one (Ev.fn rfl (fn_host (r := pile w r) F.host F.name ((r5 _).less (by omega)) (by omega)) (EvL.one (Ev.fn rfl (fn_pile (r := r) (w := w) F.pile b ((r5 _).less (by omega)) hw10 (by omega)) (EvL.cons (Ev.name ((List.Mem.tail _ (List.Mem.tail _ (List.Mem.tail _ (List.Mem.tail _ (List.Mem.tail _ (List.Mem.tail _ (List.Mem.tail _ (List.Mem.tail _ (List.Mem.head _))))))))))) (EvL.one (Ev.name ((List.Mem.tail _ (List.Mem.tail _ (List.Mem.tail _ (List.Mem.tail _ (List.Mem.tail _ (List.Mem.tail _ (List.Mem.tail _ (List.Mem.tail _ (List.Mem.tail _ (List.Mem.head _)))))))))))))))))) (by simp)) (Cmp.eq_data (shaped_list (scal_ends _)) ?_ (r0 _))) ?_) ?_)
  · exact shaped_list (by rw [← endsD_one]; exact scal_ends _)
  · have hm : madeB w = true := by simpa using hm
    show Pd.d (.bool (PyData.eqv (.list _) (.list _))) = _
    rw [hpile hm, endsD_one]
    rw [← endsD_one, eqv_refl_scal (scal_ends _)]
  · simp
/-- law 2, as the text gives it -/
theorem fn_law2 (h : FnAt c (defAt T2 20)) (F : LF2 c) (room : Rm A 7) {ns : List Int} (hns : ns.length ≤ 63) : Fn c A (defAt T2 20).name [.l (ns.map .int)] (.d (.bool true)) := by
  refine Fn.at [Str.ofString "script"] h (room.less (by omega)) (by (intro pm code doc vs hv; exact match vs, hv with | [_], _ => rfl)) rfl (by decide) (by (intro pm code doc n hn L a; revert n; refine (kindsOk (names := [])).mpr ?_; first | exact ⟨.inl rfl, trivial⟩ | exact ⟨.inl rfl, .inl rfl, trivial⟩ | exact ⟨.inl rfl, .inl rfl, .inl rfl, trivial⟩ | exact ⟨.inr ⟨rfl, rfl⟩, trivial⟩ | exact ⟨.inl rfl, .inr ⟨rfl, rfl⟩, trivial⟩ | exact ⟨.inr ⟨rfl, rfl⟩, .inl rfl, trivial⟩ | exact ⟨.inr ⟨rfl, rfl⟩, .inr ⟨rfl, rfl⟩, trivial⟩ | exact ⟨.inr ⟨rfl, rfl⟩, .inr ⟨rfl, rfl⟩, .inr ⟨rfl, rfl⟩, trivial⟩ | exact ⟨.inr ⟨rfl, rfl⟩, .inr ⟨rfl, rfl⟩, .inl rfl, trivial⟩ | exact ⟨.inr ⟨rfl, rfl⟩, .inl rfl, .inl rfl, trivial⟩ | exact ⟨.inr ⟨rfl, rfl⟩, .inl rfl, .inr ⟨rfl, rfl⟩, trivial⟩ | exact ⟨.inl rfl, .inl rfl, .inr ⟨rfl, rfl⟩, trivial⟩ | exact ⟨.inl rfl, .inr ⟨rfl, rfl⟩, .inl rfl, trivial⟩ | exact ⟨.inl rfl, .inr ⟨rfl, rfl⟩, .inr ⟨rfl, rfl⟩, trivial⟩)) ?_
  intro pm code doc a X s₀ s St
  have r6 : Rm A 6 := room.less (by omega)
  refine law2_0 F r6 hns (fun x0 tl _ => ?_) s St
  have hR := rule_ok x0
  have hr := rowSt_le (ruleOf x0) tl
  exact law2_3 F r6 ⟨hR.lo, hR.hi⟩ (law2_7 F r6 ⟨hR.lo, hR.hi⟩ (law2_9 F r6 ⟨hR.lo, hR.hi⟩ (law2_13 F r6 ⟨hR.lo, hR.hi⟩ (law2_16 F r6 hR (law2_19 F r6 hR hr)))))
end
end Mine
end

open PySem PySem.W PyProof.Rows
set_option Elab.async false
set_option maxRecDepth 100000
set_option maxHeartbeats 8000000
theorem PySem.Challenge.cw_qc0008_02_holds : PySem.Challenge.rw_qc0008_02.Holds := by
  w_on
  o_law
  k_head
  (case hw => w_witness2)
  k_fill
  intro w s₀ s₁ mg mb G Y fa o pm cd doc dV kV ho hd hcd hD hmg hg args vals as hpre hlay hrd hwl hlo
  clear hD hd
  have KX := kIn_of Y
  have T := G.T
  let c : Mine.Cx := ⟨PySem.Challenge.rw_qc0008_02.row.prog, w, mg, mb, s₁.heap, T.g, T.b, T.nolimit⟩
  have hbase : Mine.Base c := {
    mark := ⟨_, mg_of KX T.g (by rfl)⟩
    pat := ⟨36, 35, _, _, _, _, _, _, _, mg_of KX T.g (by rfl), KX 36 _ rfl, rfl, rfl, rfl, KX 35 _ rfl, rfl⟩
    len := ⟨mg_none_of KX T.g (by rfl), (T.builtins _ (by decide)).trans (by kernel_rfl)⟩
    range := ⟨mg_none_of KX T.g (by rfl), (T.builtins _ (by decide)).trans (by kernel_rfl)⟩
    zip := ⟨mg_none_of KX T.g (by rfl), (T.builtins _ (by decide)).trans (by kernel_rfl)⟩
    enumerate := ⟨mg_none_of KX T.g (by rfl), (T.builtins _ (by decide)).trans (by kernel_rfl)⟩
    min := ⟨mg_none_of KX T.g (by rfl), (T.builtins _ (by decide)).trans (by kernel_rfl)⟩
    sorted := ⟨mg_none_of KX T.g (by rfl), (T.builtins _ (by decide)).trans (by kernel_rfl)⟩ }
  have F : Mine.LF2 c := {
    hdn := Mine.FnAt.of (c := c) T 0 (by kernel_rfl)
    lib := Mine.FnAt.of (c := c) T 1 (by kernel_rfl)
    udm := Mine.FnAt.of (c := c) T 2 (by kernel_rfl)
    reach := Mine.FnAt.of (c := c) T 3 (by kernel_rfl)
    ell := Mine.FnAt.of (c := c) T 4 (by kernel_rfl)
    name := Mine.FnAt.of (c := c) T 5 (by kernel_rfl)
    host := Mine.FnAt.of (c := c) T 6 (by kernel_rfl)
    rule := Mine.FnAt.of (c := c) T 7 (by kernel_rfl)
    row := Mine.FnAt.of (c := c) T 8 (by kernel_rfl)
    melted := Mine.FnAt.of (c := c) T 9 (by kernel_rfl)
    ends := Mine.FnAt.of (c := c) T 10 (by kernel_rfl)
    plain := Mine.FnAt.of (c := c) T 11 (by kernel_rfl)
    pile := Mine.FnAt.of (c := c) T 12 (by kernel_rfl)
    like := Mine.FnAt.of (c := c) T 13 (by kernel_rfl)
    base := hbase }
  have hlaw : Mine.FnAt c (Mine.defAt Mine.T2 20) := Mine.FnAt.of (c := c) T 14 (by kernel_rfl)
  wrow_args hpre hlay hrd hwl hlo
  rename_i ns _ _ _ _ _ _ _ l vs _ hL _ _ _ hI _ hcond _
  have hns : ns.length ≤ 63 := by omega
  obtain ⟨a, o', fd, h1, h2, h3, h4⟩ := Mine.fn_law2 hlaw F (Mine.rm_caller (by omega)) hns
  have e : a = fa := by
    have h5 : c.mg (Mine.defAt Mine.T2 20).name = some (.ref fa) := hmg
    rw [h1] at h5
    exact Value.ref.inj (Option.some.inj h5)
  subst e
  have hg4 := h4 [] s₁ [.ref l] ⟨fun _ _ e => e, fun _ h => nomatch h⟩ ⟨⟨l, _, rfl, hL, by simpa using Mine.RelL.of_ints hI⟩, trivial⟩
  exact Mine.good_of hg4 hg (raisesW_false (by wrow_none_raised)) (by wrow_post)
