import PyProof.Rows.All
import Wide.All
import OpenK.AllK
import Wide.FinOn
import PySem.Challenge.RW_sc0088_01
open PySem PySem.W PyProof.Rows
set_option Elab.async false
set_option maxRecDepth 100000
set_option linter.unusedVariables false
set_option linter.unusedSimpArgs false
namespace Mine
abbrev Zm := Addr → Option Obj
inductive PV where
  | none
  | bool (b : Bool)
  | int (i : Int)
  | str (s : List Nat)
  | list (xs : List PV)
  | tuple (xs : List PV)
  | inst (C : Addr) (ns : List Str) (xs : List PV)
  | addr (a : Addr)
  | ty (T : String)
abbrev listO (vs : List Value) (n : Nat) : Obj := ⟨.type "list", none, .seq vs.toArray n, #[]⟩
abbrev tupO (vs : List Value) (n : Nat) : Obj := ⟨.type "tuple", none, .seq vs.toArray n, #[]⟩
inductive KeysAre : List DictEntry → List Str → Prop
  | nil : KeysAre [] []
  | cons {e : DictEntry} {es : List DictEntry} {x : Str} {xs : List Str} {t : Tok} : e.key = .str x t → KeysAre es xs → KeysAre (e :: es) (x :: xs)
mutual
def Rep (z : Zm) : PV → Value → Prop
  | .none, v => v = .none
  | .bool b, v => v = .bool b
  | .int i, v => ∃ t, v = .int i t
  | .str s, v => ∃ t, v = .str ⟨s.toArray⟩ t
  | .list xs, v => ∃ a vs n, v = .ref a ∧ z a = some (listO vs n) ∧ RepL z xs vs
  | .tuple xs, v => ∃ a vs n, v = .ref a ∧ z a = some (tupO vs n) ∧ RepL z xs vs
  | .inst C ns xs, v => ∃ a d es n vs, v = .ref a ∧ z a = some (instObj C d) ∧ z d = some (dictOf es n) ∧
      KeysAre es ns ∧ es.map (·.val) = vs ∧ RepL z xs vs
  | .addr a, v => v = .ref a
  | .ty T, v => v = .type T
def RepL (z : Zm) : List PV → List Value → Prop
  | [], vs => vs = []
  | x :: xs, vs => ∃ v r, vs = v :: r ∧ Rep z x v ∧ RepL z xs r
end
def ZLe (z z' : Zm) : Prop := ∀ a o, z a = some o → z' a = some o
theorem ZLe.refl (z : Zm) : ZLe z z := fun _ _ e => e
theorem ZLe.trans {z z' z'' : Zm} (h : ZLe z z') (h' : ZLe z' z'') : ZLe z z'' := fun a o e => h' a o (h a o e)
mutual
theorem Rep.mono {z z' : Zm} (h : ZLe z z') : ∀ {p : PV} {v : Value}, Rep z p v → Rep z' p v
  | .none, _, r => by simpa only [Rep] using r
  | .bool _, _, r => by simpa only [Rep] using r
  | .int _, _, r => by simpa only [Rep] using r
  | .str _, _, r => by simpa only [Rep] using r
  | .list xs, _, r => by
    simp only [Rep] at r ⊢
    obtain ⟨a, vs, n, e, q, l⟩ := r
    exact ⟨a, vs, n, e, h _ _ q, RepL.mono h l⟩
  | .tuple xs, _, r => by
    simp only [Rep] at r ⊢
    obtain ⟨a, vs, n, e, q, l⟩ := r
    exact ⟨a, vs, n, e, h _ _ q, RepL.mono h l⟩
  | .inst C ns xs, _, r => by
    simp only [Rep] at r ⊢
    obtain ⟨a, d, es, n, vs, e, q, q', k1, k2, l⟩ := r
    exact ⟨a, d, es, n, vs, e, h _ _ q, h _ _ q', k1, k2, RepL.mono h l⟩
  | .addr _, _, r => by simpa only [Rep] using r
  | .ty _, _, r => by simpa only [Rep] using r
theorem RepL.mono {z z' : Zm} (h : ZLe z z') : ∀ {p : List PV} {v : List Value}, RepL z p v → RepL z' p v
  | [], _, r => by simpa only [RepL] using r
  | x :: xs, _, r => by
    simp only [RepL] at r ⊢
    obtain ⟨v, r', e, q, l⟩ := r
    exact ⟨v, r', e, Rep.mono h q, RepL.mono h l⟩
end
theorem rep_addr {z : Zm} (a : Addr) : Rep z (.addr a) (.ref a) := by simp only [Rep]
theorem rep_ty {z : Zm} (T : String) : Rep z (.ty T) (.type T) := by simp only [Rep]
theorem rep_none {z : Zm} : Rep z .none .none := by simp only [Rep]
theorem rep_bool {z : Zm} (b : Bool) : Rep z (.bool b) (.bool b) := by simp only [Rep]
theorem rep_int {z : Zm} (i : Int) (t : Tok) : Rep z (.int i) (.int i t) := by simp only [Rep]; exact ⟨t, rfl⟩
theorem rep_str {z : Zm} (s : List Nat) (t : Tok) : Rep z (.str s) (.str ⟨s.toArray⟩ t) := by simp only [Rep]; exact ⟨t, rfl⟩
theorem rep_strS {z : Zm} {s : List Nat} (x : Str) (t : Tok) (h : x.cps.toList = s) : Rep z (.str s) (.str x t) := by
  subst h; simp only [Rep]; exact ⟨t, by cases x; simp⟩
theorem rep_list {z : Zm} {a : Addr} {vs : List Value} {n : Nat} {xs : List PV} (h : z a = some (listO vs n)) (l : RepL z xs vs) : Rep z (.list xs) (.ref a) := by
  simp only [Rep]; exact ⟨a, vs, n, rfl, h, l⟩
theorem rep_tuple {z : Zm} {a : Addr} {vs : List Value} {n : Nat} {xs : List PV} (h : z a = some (tupO vs n)) (l : RepL z xs vs) : Rep z (.tuple xs) (.ref a) := by
  simp only [Rep]; exact ⟨a, vs, n, rfl, h, l⟩
theorem repL_nil {z : Zm} : RepL z [] [] := by simp only [RepL]
theorem repL_cons {z : Zm} {x : PV} {v : Value} {xs : List PV} {vs : List Value} (h : Rep z x v) (l : RepL z xs vs) : RepL z (x :: xs) (v :: vs) := by
  simp only [RepL]; exact ⟨v, vs, rfl, h, l⟩
theorem RepL.length {z : Zm} : ∀ {xs : List PV} {vs : List Value}, RepL z xs vs → vs.length = xs.length
  | [], _, r => by simp only [RepL] at r; subst r; rfl
  | _ :: _, _, r => by
    simp only [RepL] at r
    obtain ⟨v, r', rfl, _, l⟩ := r
    simp [RepL.length l]
theorem RepL.append {z : Zm} : ∀ {xs ys : List PV} {vs us : List Value}, RepL z xs vs → RepL z ys us → RepL z (xs ++ ys) (vs ++ us)
  | [], _, _, _, r, q => by simp only [RepL] at r; subst r; exact q
  | _ :: _, _, _, _, r, q => by
    simp only [RepL] at r
    obtain ⟨v, r', rfl, h, l⟩ := r
    exact repL_cons h (RepL.append l q)
theorem RepL.get {z : Zm} : ∀ {xs : List PV} {vs : List Value} {i : Nat} {x : PV}, RepL z xs vs → xs[i]? = some x → ∃ v, vs[i]? = some v ∧ Rep z x v
  | [], _, _, _, _, e => by simp at e
  | y :: ys, _, i, x, r, e => by
    simp only [RepL] at r
    obtain ⟨v, r', rfl, h, l⟩ := r
    cases i with
    | zero => simp at e; subst e; exact ⟨v, by simp, h⟩
    | succ j => simp at e; obtain ⟨u, hu, q⟩ := RepL.get l e; exact ⟨u, by simpa using hu, q⟩
theorem RepL.get' {z : Zm} : ∀ {xs : List PV} {vs : List Value} {i : Nat} {v : Value}, RepL z xs vs → vs[i]? = some v → ∃ x, xs[i]? = some x ∧ Rep z x v
  | [], _, _, _, r, e => by simp only [RepL] at r; subst r; simp at e
  | y :: ys, _, i, x, r, e => by
    simp only [RepL] at r
    obtain ⟨v, r', rfl, h, l⟩ := r
    cases i with
    | zero => simp at e; subst e; exact ⟨y, by simp, h⟩
    | succ j => simp at e; obtain ⟨u, hu, q⟩ := RepL.get' l e; exact ⟨u, by simpa using hu, q⟩
theorem RepL.drop {z : Zm} : ∀ {xs : List PV} {vs : List Value} (n : Nat), RepL z xs vs → RepL z (xs.drop n) (vs.drop n)
  | _, _, 0, r => by simpa using r
  | [], _, n + 1, r => by simp only [RepL] at r; subst r; simp [RepL]
  | y :: ys, _, n + 1, r => by
    simp only [RepL] at r
    obtain ⟨v, r', rfl, h, l⟩ := r
    simpa using RepL.drop n l
theorem RepL.take {z : Zm} : ∀ {xs : List PV} {vs : List Value} (n : Nat), RepL z xs vs → RepL z (xs.take n) (vs.take n)
  | _, _, 0, r => by simp [RepL]
  | [], _, n + 1, r => by simp only [RepL] at r; subst r; simp [RepL]
  | y :: ys, _, n + 1, r => by
    simp only [RepL] at r
    obtain ⟨v, r', rfl, h, l⟩ := r
    simpa using repL_cons h (RepL.take n l)
def Kp (md : Bool) (s s' : Shared) : Prop := ∃ h' tk gs, s' = { s with heap := h', toks := tk, gens := gs } ∧ (∀ b o, s.heap.get? b = some o → h'.get? b = some o) ∧ (md = true → gs = s.gens) ∧ (AllBare s.gens → AllBare gs)
structure Grow (md : Bool) (z : Zm) (s : Shared) (z' : Zm) (s' : Shared) : Prop where
  keeps : Kp md s s'
  sub : ZLe z z'
  zin : ∀ a o, z' a = some o → s'.heap.get? a = some o
  new : ∀ a o, z' a = some o → z a = some o ∨ s.heap.get? a = none
def ZIn (z : Zm) (s : Shared) : Prop := ∀ a o, z a = some o → s.heap.get? a = some o
section
variable {md : Bool}
theorem Kp.old {s s' : Shared} (k : Kp md s s') : ∀ b o, s.heap.get? b = some o → s'.heap.get? b = some o := by
  obtain ⟨h, tk, gs, rfl, q, _⟩ := k; exact q
theorem Kp.refl (s : Shared) : Kp md s s := ⟨s.heap, s.toks, s.gens, rfl, fun _ _ e => e, fun _ => rfl, fun h => h⟩
theorem Kp.trans {s s' s'' : Shared} (k : Kp md s s') (k' : Kp md s' s'') : Kp md s s'' := by
  obtain ⟨h, tk, gs, rfl, q, g, b⟩ := k
  obtain ⟨h', tk', gs', rfl, q', g', b'⟩ := k'
  exact ⟨h', tk', gs', rfl, fun b o e => q' b o (q b o e), fun e => (g' e).trans (g e), fun x => b' (b x)⟩
theorem Kp.toks (s : Shared) (n : Nat) : Kp md s { s with toks := n } := ⟨s.heap, n, s.gens, rfl, fun _ _ e => e, fun _ => rfl, fun h => h⟩
theorem Kp.heap (s : Shared) (h : Heap) (n : Nat) (q : ∀ b o, s.heap.get? b = some o → h.get? b = some o) : Kp md s { s with heap := h, toks := n } := ⟨h, n, s.gens, rfl, q, fun _ => rfl, fun h => h⟩
theorem Kp.of {s s' : Shared} (k : Keeps s s') : Kp md s s' := by
  obtain ⟨h, tk, rfl, q⟩ := k; exact Kp.heap _ _ _ q
theorem Kp.os {s s' : Shared} (k : Kp md s s') : s'.os = s.os := by obtain ⟨h, tk, gs, rfl, _⟩ := k; rfl
theorem Kp.drawn {s s' : Shared} (k : Kp md s s') : s'.drawn = s.drawn := by obtain ⟨h, tk, gs, rfl, _⟩ := k; rfl
theorem Kp.gens {s s' : Shared} (k : Kp md s s') (h : md = true) : s'.gens = s.gens := by obtain ⟨h', tk, gs, rfl, _, g, _⟩ := k; exact g h
theorem Kp.bare {s s' : Shared} (k : Kp md s s') (h : AllBare s.gens) : AllBare s'.gens := by obtain ⟨h', tk, gs, rfl, _, _, g⟩ := k; exact g h
theorem Kp.loose {s s' : Shared} (k : Kp md s s') : Kp false s s' := by
  obtain ⟨h', tk, gs, rfl, q, g, b⟩ := k; exact ⟨h', tk, gs, rfl, q, fun e => (by cases e), b⟩
theorem Grow.same {z : Zm} {s s' : Shared} (hz : ZIn z s) (k : Kp md s s') : Grow md z s z s' :=
  ⟨k, ZLe.refl z, fun a o e => k.old a o (hz a o e), fun _ _ e => .inl e⟩
theorem Grow.refl {z : Zm} {s : Shared} (hz : ZIn z s) : Grow md z s z s := Grow.same hz (Kp.refl s)
theorem Grow.trans {z z' z'' : Zm} {s s' s'' : Shared} (g : Grow md z s z' s') (g' : Grow md z' s' z'' s'') : Grow md z s z'' s'' where
  keeps := g.keeps.trans g'.keeps
  sub := g.sub.trans g'.sub
  zin := g'.zin
  new := fun a o e => by
    rcases g'.new a o e with h | h
    · exact g.new a o h
    · refine .inr ?_
      cases q : s.heap.get? a with
      | none => rfl
      | some o' => rw [g.keeps.old a o' q] at h; cases h
theorem Grow.loose {z z' : Zm} {s s' : Shared} (g : Grow md z s z' s') : Grow false z s z' s' := ⟨g.keeps.loose, g.sub, g.zin, g.new⟩
def ZAdd (z : Zm) (a : Addr) (o : Obj) : Zm := fun b => if b = a then some o else z b
theorem ZAdd.self (z : Zm) (a : Addr) (o : Obj) : ZAdd z a o a = some o := by simp [ZAdd]
theorem ZAdd.le {z : Zm} {a : Addr} {o : Obj} (h : z a = none) : ZLe z (ZAdd z a o) := fun b p e => by
  unfold ZAdd
  by_cases hb : b = a
  · subst hb; rw [h] at e; cases e
  · simp [hb, e]
theorem ZAdd.in {z : Zm} {s : Shared} {a : Addr} {o : Obj} (hz : ZIn z s) (h : s.heap.get? a = some o) : ZIn (ZAdd z a o) s := fun b p e => by
  unfold ZAdd at e
  by_cases hb : b = a
  · subst hb; simp at e; subst e; exact h
  · simp [hb] at e; exact hz b p e
theorem fresh_none {z : Zm} {s : Shared} (hz : ZIn z s) {a : Addr} (ha : s.heap.get? a = none) : z a = none := by
  cases e : z a with
  | none => rfl
  | some o => rw [hz a o e] at ha; cases ha
theorem Grow.freeze {z z' : Zm} {s s' : Shared} (g : Grow md z s z' s') {a : Addr} {o : Obj} (hn : s.heap.get? a = none) (hz : z' a = none) (ho : s'.heap.get? a = some o) : Grow md z s (ZAdd z' a o) s' where
  keeps := g.keeps
  sub := g.sub.trans (ZAdd.le hz)
  zin := ZAdd.in g.zin ho
  new := fun b p e => by
    unfold ZAdd at e
    by_cases hb : b = a
    · subst hb; exact .inr hn
    · simp [hb] at e; exact g.new b p e
theorem Grow.add {z : Zm} {s s' : Shared} (hz : ZIn z s) (k : Kp md s s') {a : Addr} {o : Obj} (hn : s.heap.get? a = none) (ho : s'.heap.get? a = some o) : Grow md z s (ZAdd z a o) s' :=
  (Grow.same hz k).freeze hn (fresh_none hz hn) ho
theorem get_size_none (h : Heap) : h.get? h.objs.size = none := by
  cases e : h.get? h.objs.size with
  | none => rfl
  | some o => exact absurd (Heap.lt_size e) (Nat.lt_irrefl _)
theorem Kp.push (s : Shared) (o : Obj) (n : Nat) : Kp md s { s with heap := s.heap.push o, toks := n } := Kp.heap _ _ _ fun _ _ e => Heap.get?_push_of_some _ e
theorem Grow.push {z : Zm} {s : Shared} (hz : ZIn z s) (o : Obj) (hf : o.isFreed = false) (n : Nat) : Grow md z s (ZAdd z s.heap.objs.size o) { s with heap := s.heap.push o, toks := n } :=
  Grow.add hz (Kp.push s o n) (get_size_none _) (Heap.get?_push_size _ hf)
end
def LookV (env : Env) (h : Heap) (x : Str) (v : Value) : Prop :=
  (x == ("__debug__" : Str)) = false ∧ ((env.kindOf x = some .local ∧ ∃ m, h.Ns env.locals m ∧ m x = some v) ∨
    (env.kindOf x = some .cell ∧ ∃ c, env.cells.lookup x = some c ∧ h.IsCell c (some v)))
theorem LookV.keeps {env : Env} {h h' : Heap} {x : Str} {v : Value} (q : LookV env h x v) (hk : ∀ b o, h.get? b = some o → h'.get? b = some o) : LookV env h' x v := by
  obtain ⟨hd, q⟩ := q
  refine ⟨hd, ?_⟩
  rcases q with ⟨hl, m, hn, hm⟩ | ⟨hl, c, hc, hv⟩
  · exact .inl ⟨hl, m, hn.keeps hk, hm⟩
  · exact .inr ⟨hl, c, hc, hv.keeps hk⟩
abbrev PEnv := List (Str × PV)
structure EP (hb : Heap) (env : Env) (z : Zm) (s : Shared) (P : PEnv) : Prop where
  fn : env.scope.kind = .function
  gl : env.globals = mainGlobals
  bu : env.builtins = builtinsNs
  hz : ∀ a o, hb.get? a = some o → z a = some o
  zin : ZIn z s
  var : ∀ x pv, P.lookup x = some pv → ∃ v, LookV env s.heap x v ∧ Rep z pv v
  cel : ∀ x c, env.cells.lookup x = some c → ∃ v, s.heap.IsCell c v
theorem EP.grow {md : Bool} {hb : Heap} {env : Env} {z z' : Zm} {s s' : Shared} {P : PEnv} (e : EP hb env z s P) (g : Grow md z s z' s') : EP hb env z' s' P where
  fn := e.fn
  gl := e.gl
  bu := e.bu
  hz := fun a o q => g.sub _ _ (e.hz a o q)
  zin := g.zin
  var := fun x pv q => let ⟨v, l, r⟩ := e.var x pv q; ⟨v, l.keeps g.keeps.old, r.mono g.sub⟩
  cel := fun x c q => let ⟨v, l⟩ := e.cel x c q; ⟨v, l.keeps g.keeps.old⟩
theorem EP.hbk {hb : Heap} {env : Env} {z : Zm} {s : Shared} {P : PEnv} (e : EP hb env z s P) : ∀ a o, hb.get? a = some o → s.heap.get? a = some o := fun a o q => e.zin a o (e.hz a o q)
def Post (md : Bool) (z : Zm) (s : Shared) (pv : PV) : Value → Shared → Prop := fun v s' => ∃ z', Grow md z s z' s' ∧ Rep z' pv v
abbrev noE : Value → Shared → Prop := fun _ _ => False
structure Cst where
  md : Bool
  prog : Program
  w : World
  hb : Heap
  mg : Str → Option Value
  mb : Str → Option Value
structure Cst.Ok (C : Cst) : Prop where
  g : C.hb.Ns mainGlobals C.mg
  b : C.hb.Ns builtinsNs C.mb
  nolimit : C.hb.NoLimit
  bt : ∀ x : Str, x ≠ "__name__" → C.mb x = bootBuiltins x
abbrev Cst.M (C : Cst) : Model := model C.prog C.w
def Ev (C : Cst) (A : Around) (env : Env) (P : PEnv) (e : Expr) (pv : PV) : Prop :=
  ∀ s z, EP C.hb env z s P → wpAny C.M A (eval e env) (Post C.md z s pv) noE s
def Op1 (C : Cst) (A : Around) (t : Value → Sem Value) (a r : PV) : Prop :=
  ∀ s z va, ZIn z s → Rep z a va → wpAny C.M A (t va) (Post C.md z s r) noE s
def Op2 (C : Cst) (A : Around) (t : Value → Value → Sem Value) (a b r : PV) : Prop :=
  ∀ s z va vb, ZIn z s → Rep z a va → Rep z b vb → wpAny C.M A (t va vb) (Post C.md z s r) noE s
section
variable {C : Cst} {A : Around} {env : Env} {P : PEnv}
theorem Post.via {z z' : Zm} {s s' : Shared} {pv : PV} (g : Grow C.md z s z' s') {v : Value} {s'' : Shared} (h : Post C.md z' s' pv v s'') : Post C.md z s pv v s'' :=
  let ⟨z'', g', r⟩ := h; ⟨z'', g.trans g', r⟩
theorem wp_via {t : Sem Value} {z z' : Zm} {s s' : Shared} {pv : PV} (g : Grow C.md z s z' s') (h : wpAny C.M A t (Post C.md z' s' pv) noE s') : wpAny C.M A t (Post C.md z s pv) noE s' :=
  wpAny_mono h (fun _ _ q => Post.via g q) fun _ _ x => x
theorem post_same {z : Zm} {s s' : Shared} {pv : PV} {v : Value} (hz : ZIn z s) (k : Kp C.md s s') (r : Rep z pv v) : Post C.md z s pv v s' := ⟨z, Grow.same hz k, r⟩
theorem post_toks {z : Zm} {s : Shared} {pv : PV} {v : Value} {n : Nat} (hz : ZIn z s) (r : Rep z pv v) : Post C.md z s pv v { s with toks := n } := post_same hz (Kp.toks s n) r
theorem post_here {z : Zm} {s : Shared} {pv : PV} {v : Value} (hz : ZIn z s) (r : Rep z pv v) : Post C.md z s pv v s := post_same hz (Kp.refl s) r
theorem Ev_name {x : Str} {pos : Pos} {pv : PV} (h : P.lookup x = some pv) : Ev C A env P (.Name x pos) pv := fun s z ep => by
  obtain ⟨v, ⟨hd, q⟩, r⟩ := ep.var x pv h
  refine wpAny_Name ?_ hd
  rcases q with ⟨hl, m, hn, hm⟩ | ⟨hl, c, hc, hv⟩
  · exact wpAny_loadName_local ep.fn hl hn hm (post_here ep.zin r)
  · exact wpAny_loadName_cell ep.fn hl hc hv (post_here ep.zin r)
theorem Ev_int {i : Int} {k : Nat} {pos : Pos} : Ev C A env P (.Constant (.int i) k pos) (.int i) := fun _ _ ep =>
  wpAny_Constant_int (post_toks ep.zin (rep_int _ _))
theorem Ev_str {x : Str} {k : Nat} {pos : Pos} {l : List Nat} (h : x.cps.toList = l) : Ev C A env P (.Constant (.str x) k pos) (.str l) := fun _ _ ep =>
  Calls.Constant_str (post_toks ep.zin (rep_strS _ _ h))
theorem Ev_none {k : Nat} {pos : Pos} : Ev C A env P (.Constant .none k pos) .none := fun _ _ ep => by
  rw [eval_Constant]; exact wpAny_pure (post_here ep.zin rep_none)
theorem Ev_bool {b : Bool} {k : Nat} {pos : Pos} : Ev C A env P (.Constant (.bool b) k pos) (.bool b) := fun _ _ ep => by
  rw [eval_Constant]; exact wpAny_pure (post_here ep.zin (rep_bool b))
theorem Ev_bin {l r : Expr} {op : Operator} {pos : Pos} {a b c : PV} (hl : Ev C A env P l a) (hr : Ev C A env P r b) (ho : Op2 C A (binaryOp op) a b c) :
    Ev C A env P (.BinOp l op r pos) c := fun s z ep => by
  refine wpAny_BinOp (wpAny_mono (hl s z ep) (fun va s₁ h₁ => ?_) fun _ _ x => x)
  obtain ⟨z₁, g₁, r₁⟩ := h₁
  have ep₁ := ep.grow g₁
  refine wpAny_mono (hr s₁ z₁ ep₁) (fun vb s₂ h₂ => ?_) fun _ _ x => x
  obtain ⟨z₂, g₂, r₂⟩ := h₂
  exact wp_via (g₁.trans g₂) (ho s₂ z₂ va vb g₂.zin (r₁.mono g₂.sub) r₂)
theorem Ev_cmp {l r : Expr} {op : CmpOp} {pos : Pos} {a b c : PV} (hl : Ev C A env P l a) (hr : Ev C A env P r b) (ho : Op2 C A (compareOp op) a b c)
    (hm : behindInMarks op r = false := by with_unfolding_all rfl) :
    Ev C A env P (.Compare l [op] [r] pos) c := fun s z ep => by
  refine wpAny_Compare1 (wpAny_mono (hl s z ep) (fun va s₁ h₁ => ?_) fun _ _ x => x) hm
  obtain ⟨z₁, g₁, r₁⟩ := h₁
  have ep₁ := ep.grow g₁
  refine wpAny_mono (hr s₁ z₁ ep₁) (fun vb s₂ h₂ => ?_) fun _ _ x => x
  obtain ⟨z₂, g₂, r₂⟩ := h₂
  exact wp_via (g₁.trans g₂) (ho s₂ z₂ va vb g₂.zin (r₁.mono g₂.sub) r₂)
def PostB (md : Bool) (_z : Zm) (s : Shared) (b : Bool) : Bool → Shared → Prop := fun r s' => r = b ∧ Kp md s s'
def Tst (C : Cst) (A : Around) (env : Env) (P : PEnv) (e : Expr) (b : Bool) : Prop :=
  ∀ s z, EP C.hb env z s P → wpAny C.M A (isTrue e env (eval e env)) (PostB C.md z s b) noE s
def Tru (C : Cst) (A : Around) (a : PV) (b : Bool) : Prop :=
  ∀ s z va, ZIn z s → Rep z a va → wpAny C.M A (truthy va) (PostB C.md z s b) noE s
theorem Tst_cmp {l r : Expr} {op : CmpOp} {pos : Pos} {a b : PV} {c : Bool} (hl : Ev C A env P l a) (hr : Ev C A env P r b) (ho : Op2 C A (compareOp op) a b (.bool c))
    (hm : behindInMarks op r = false := by with_unfolding_all rfl) :
    Tst C A env P (.Compare l [op] [r] pos) c := fun s z ep => by
  refine wpAny_isTrue_Compare1 (wpAny_mono (hl s z ep) (fun va s₁ h₁ => ?_) fun _ _ x => x) hm
  obtain ⟨z₁, g₁, r₁⟩ := h₁
  have ep₁ := ep.grow g₁
  refine wpAny_mono (hr s₁ z₁ ep₁) (fun vb s₂ h₂ => ?_) fun _ _ x => x
  obtain ⟨z₂, g₂, r₂⟩ := h₂
  refine wpAny_mono (ho s₂ z₂ va vb g₂.zin (r₁.mono g₂.sub) r₂) (fun vc s₃ h₃ => ?_) fun _ _ x => x
  obtain ⟨z₃, g₃, r₃⟩ := h₃
  simp only [Rep] at r₃
  subst r₃
  exact wpAny_truthy_bool ⟨rfl, (g₁.trans (g₂.trans g₃)).keeps⟩
theorem isTrue_val {e : Expr} {s : Shared} {z : Zm} {a : PV} {b : Bool} (ep : EP C.hb env z s P) (he : Ev C A env P e a) (ht : Tru C A a b)
    (hd : isTrue e env (eval e env) = (do let v ← eval e env; standAt e.pos; holding [v] (truthy v))) : wpAny C.M A (isTrue e env (eval e env)) (PostB C.md z s b) noE s := by
  rw [hd]
  refine wpAny_bind (wpAny_mono (he s z ep) (fun va s₁ h₁ => ?_) fun _ _ x => x)
  obtain ⟨z₁, g₁, r₁⟩ := h₁
  refine wpAny_bind (wpAny_standAt (wpAny_holding (wpAny_mono (ht s₁ z₁ va g₁.zin r₁) (fun r s₂ h₂ => ?_) fun _ _ x => x)))
  exact ⟨h₂.1, g₁.keeps.trans h₂.2⟩
theorem Tst_val {e : Expr} {a : PV} {b : Bool} (he : Ev C A env P e a) (ht : Tru C A a b)
    (hd : isTrue e env (eval e env) = (do let v ← eval e env; standAt e.pos; holding [v] (truthy v)) := by rfl) : Tst C A env P e b := fun _ _ ep => isTrue_val ep he ht hd
theorem Tst_not {e : Expr} {pos : Pos} {b : Bool} (he : Tst C A env P e b) : Tst C A env P (.UnaryOp .Not e pos) (!b) := fun s z ep => by
  show wpAny C.M A (do return !(← isTrue e env (eval e env))) _ _ s
  refine wpAny_bind (wpAny_mono (he s z ep) (fun r s₁ h₁ => wpAny_pure ?_) fun _ _ x => x)
  exact ⟨by rw [h₁.1], h₁.2⟩
theorem EP.kept {md : Bool} {hb : Heap} {z : Zm} {s s' : Shared} (ep : EP hb env z s P) (k : Kp md s s') : EP hb env z s' P := ep.grow (Grow.same ep.zin k)
def All (C : Cst) (A : Around) (env : Env) (P : PEnv) (op : BoolOp) (es : List Expr) (b : Bool) : Prop :=
  ∀ s z, EP C.hb env z s P → wpAny C.M A (allTrue op es env) (PostB C.md z s b) noE s
theorem All_nil {op : BoolOp} : All C A env P op [] (op == .And) := fun s z ep => by
  unfold allTrue; exact wpAny_pure ⟨rfl, Kp.refl s⟩
theorem All_and_false {e : Expr} {es : List Expr} (h : Tst C A env P e false) : All C A env P .And (e :: es) false := fun s z ep => by
  unfold allTrue
  refine wpAny_bind (wpAny_mono (h s z ep) (fun r s₁ h₁ => ?_) fun _ _ x => x)
  obtain ⟨rfl, k⟩ := h₁
  exact wpAny_pure ⟨rfl, k⟩
theorem All_and_true {e : Expr} {es : List Expr} {b : Bool} (h : Tst C A env P e true) (h' : All C A env P .And es b) : All C A env P .And (e :: es) b := fun s z ep => by
  unfold allTrue
  refine wpAny_bind (wpAny_mono (h s z ep) (fun r s₁ h₁ => ?_) fun _ _ x => x)
  obtain ⟨rfl, k⟩ := h₁
  exact wpAny_mono (h' s₁ z (ep.kept k)) (fun r s₂ h₂ => ⟨h₂.1, k.trans h₂.2⟩) fun _ _ x => x
theorem All_or_true {e : Expr} {es : List Expr} (h : Tst C A env P e true) : All C A env P .Or (e :: es) true := fun s z ep => by
  unfold allTrue
  refine wpAny_bind (wpAny_mono (h s z ep) (fun r s₁ h₁ => ?_) fun _ _ x => x)
  obtain ⟨rfl, k⟩ := h₁
  exact wpAny_pure ⟨rfl, k⟩
theorem All_or_false {e : Expr} {es : List Expr} {b : Bool} (h : Tst C A env P e false) (h' : All C A env P .Or es b) : All C A env P .Or (e :: es) b := fun s z ep => by
  unfold allTrue
  refine wpAny_bind (wpAny_mono (h s z ep) (fun r s₁ h₁ => ?_) fun _ _ x => x)
  obtain ⟨rfl, k⟩ := h₁
  exact wpAny_mono (h' s₁ z (ep.kept k)) (fun r s₂ h₂ => ⟨h₂.1, k.trans h₂.2⟩) fun _ _ x => x
theorem Tst_bool {op : BoolOp} {es : List Expr} {pos : Pos} {b : Bool} (h : All C A env P op es b) : Tst C A env P (.BoolOp op es pos) b := fun s z ep => by
  show wpAny C.M A (allTrue op es env) _ _ s
  exact h s z ep
theorem Ev_ifexp {t b o : Expr} {pos : Pos} {c : Bool} {pv : PV} (ht : Tst C A env P t c) (h1 : c = true → Ev C A env P b pv) (h2 : c = false → Ev C A env P o pv) :
    Ev C A env P (.IfExp t b o pos) pv := fun s z ep => by
  show wpAny C.M A (do if ← isTrue t env (eval t env) then eval b env else eval o env) _ _ s
  refine wpAny_bind (wpAny_mono (ht s z ep) (fun r s₁ h₁ => ?_) fun _ _ x => x)
  obtain ⟨rfl, k⟩ := h₁
  cases r with
  | true => exact wp_via (Grow.same ep.zin k) (h1 rfl s₁ z (ep.kept k))
  | false => exact wp_via (Grow.same ep.zin k) (h2 rfl s₁ z (ep.kept k))
theorem Tru_bool {b : Bool} : Tru C A (.bool b) b := fun s z va hz r => by
  simp only [Rep] at r; subst r; exact wpAny_truthy_bool ⟨rfl, Kp.refl s⟩
end
end Mine
namespace Mine
section
variable {C : Cst} {A : Around}
theorem op2_int {t : Value → Value → Sem Value} {a b c : Int} (h : ∀ (s : Shared) (ta tb : Tok) (Q : Value → Shared → Prop), Q (.int c s.toks) { s with toks := s.toks + 1 } → wpAny C.M A (t (.int a ta) (.int b tb)) Q noE s) :
    Op2 C A t (.int a) (.int b) (.int c) := fun s z va vb hz ra rb => by
  simp only [Rep] at ra rb
  obtain ⟨ta, rfl⟩ := ra
  obtain ⟨tb, rfl⟩ := rb
  exact h s ta tb _ (post_toks hz (rep_int _ _))
theorem op2_intB {t : Value → Value → Sem Value} {a b : Int} {c : Bool} (h : ∀ (s : Shared) (ta tb : Tok) (Q : Value → Shared → Prop), Q (.bool c) s → wpAny C.M A (t (.int a ta) (.int b tb)) Q noE s) :
    Op2 C A t (.int a) (.int b) (.bool c) := fun s z va vb hz ra rb => by
  simp only [Rep] at ra rb
  obtain ⟨ta, rfl⟩ := ra
  obtain ⟨tb, rfl⟩ := rb
  exact h s ta tb _ (post_here hz (rep_bool _))
theorem op_add {a b : Int} : Op2 C A (binaryOp .Add) (.int a) (.int b) (.int (a + b)) := op2_int fun _ _ _ _ h => P.add_int h
theorem op_sub {a b : Int} : Op2 C A (binaryOp .Sub) (.int a) (.int b) (.int (a - b)) := op2_int fun _ _ _ _ h => P.sub_int h
theorem op_iadd {a b : Int} : Op2 C A (inplaceOp .Add) (.int a) (.int b) (.int (a + b)) := op2_int fun _ _ _ _ h => P.iadd_int h
theorem op_isub {a b : Int} : Op2 C A (inplaceOp .Sub) (.int a) (.int b) (.int (a - b)) := op2_int fun _ _ _ _ h => P.isub_int h
theorem op_mul {a b : Int} (hm : IntMulOk a b) : Op2 C A (binaryOp .Mult) (.int a) (.int b) (.int (a * b)) := op2_int fun _ _ _ _ h => P.mul_int h hm
theorem mulOk_left {a b : Int} (h1 : -(2 ^ 62) < a) (h2 : a < 2 ^ 62) : IntMulOk a b := IntMulOk.of_left (by
  have := intBits_le_64 (k := a) (by omega) (by omega); exact this)
theorem op_fdiv {a b : Int} (hb : b ≠ 0) (hs : b.natAbs < 1073741824) : Op2 C A (binaryOp .FloorDiv) (.int a) (.int b) (.int (a.fdiv b)) :=
  op2_int fun _ _ _ _ h => floordiv_int hb h (.inl (PyProof.noPylong_small hs))
theorem op_fmod {a b : Int} (hb : b ≠ 0) : Op2 C A (binaryOp .Mod) (.int a) (.int b) (.int (a.fmod b)) := op2_int fun _ _ _ _ h => mod_int' hb h
theorem op_eq {a b : Int} : Op2 C A (compareOp .Eq) (.int a) (.int b) (.bool (decide (a = b))) := op2_intB fun _ _ _ _ h => P.eq_int (by rw [show (a == b) = decide (a = b) from rfl]; exact h)
theorem op_ne {a b : Int} : Op2 C A (compareOp .NotEq) (.int a) (.int b) (.bool (!decide (a = b))) := op2_intB fun _ _ _ _ h => P.ne_int (by rw [show (a != b) = !decide (a = b) from rfl]; exact h)
theorem op_lt {a b : Int} : Op2 C A (compareOp .Lt) (.int a) (.int b) (.bool (decide (a < b))) := op2_intB fun _ _ _ _ h => P.lt_int h
theorem op_le {a b : Int} : Op2 C A (compareOp .LtE) (.int a) (.int b) (.bool (decide (a ≤ b))) := op2_intB fun _ _ _ _ h => P.le_int h
theorem op_gt {a b : Int} : Op2 C A (compareOp .Gt) (.int a) (.int b) (.bool (decide (a > b))) := op2_intB fun _ _ _ _ h => P.gt_int h
theorem op_ge {a b : Int} : Op2 C A (compareOp .GtE) (.int a) (.int b) (.bool (decide (a ≥ b))) := op2_intB fun _ _ _ _ h => P.ge_int h
theorem Ev_neg {env : Env} {P : PEnv} {e : Expr} {pos : Pos} {a : Int} (h : Ev C A env P e (.int a)) : Ev C A env P (.UnaryOp .USub e pos) (.int (-a)) := fun s z ep => by
  show wpAny C.M A (do let v ← eval e env; standAt pos; holding [v] (unaryOp .USub v)) _ _ s
  refine wpAny_bind (wpAny_mono (h s z ep) (fun va s₁ h₁ => ?_) fun _ _ x => x)
  obtain ⟨z₁, g₁, r₁⟩ := h₁
  simp only [Rep] at r₁
  obtain ⟨t, rfl⟩ := r₁
  exact wpAny_bind (wpAny_standAt (wpAny_holding (PySem.P.neg_int (Post.via g₁ (post_toks g₁.zin (rep_int _ _))))))
theorem Tru_int {a : Int} : Tru C A (.int a) (a != 0) := fun s z va hz r => by
  simp only [Rep] at r
  obtain ⟨t, rfl⟩ := r
  exact P.truthy_int ⟨rfl, Kp.refl s⟩
theorem Tru_str {l : List Nat} (h : l.length < 2 ^ 62) : Tru C A (.str l) (!l.isEmpty) := fun s z va hz r => by
  simp only [Rep] at r
  obtain ⟨t, rfl⟩ := r
  refine P.truthy_str (by simp [Str.length]; omega) ⟨?_, Kp.toks s _⟩
  cases l with
  | nil => rfl
  | cons x r =>
    simp only [Str.length, List.size_toArray, List.length_cons, List.isEmpty_cons, Bool.not_false, bne_iff_ne, ne_eq]
    omega
theorem op2_str {t : Value → Value → Sem Value} {a b c : List Nat}
    (h : ∀ (s : Shared) (ta tb : Tok) (Q : Value → Shared → Prop), (∀ t' k, Q (.str ⟨c.toArray⟩ t') { s with toks := k }) → wpAny C.M A (t (.str ⟨a.toArray⟩ ta) (.str ⟨b.toArray⟩ tb)) Q noE s) :
    Op2 C A t (.str a) (.str b) (.str c) := fun s z va vb hz ra rb => by
  simp only [Rep] at ra rb
  obtain ⟨ta, rfl⟩ := ra
  obtain ⟨tb, rfl⟩ := rb
  exact h s ta tb _ fun t' k => post_toks hz (rep_str _ _)
theorem op2_strB {t : Value → Value → Sem Value} {a b : List Nat} {c : Bool}
    (h : ∀ (s : Shared) (ta tb : Tok) (Q : Value → Shared → Prop), Q (.bool c) s → wpAny C.M A (t (.str ⟨a.toArray⟩ ta) (.str ⟨b.toArray⟩ tb)) Q noE s) :
    Op2 C A t (.str a) (.str b) (.bool c) := fun s z va vb hz ra rb => by
  simp only [Rep] at ra rb
  obtain ⟨ta, rfl⟩ := ra
  obtain ⟨tb, rfl⟩ := rb
  exact h s ta tb _ (post_here hz (rep_bool _))
theorem str_app (a b : List Nat) : ((⟨a.toArray⟩ : Str) ++ (⟨b.toArray⟩ : Str)) = ⟨(a ++ b).toArray⟩ := by
  apply Str.ext'
  simp [Str.cps_append]
theorem list_beq (a b : List Nat) : (a == b) = decide (a = b) := by
  rw [Bool.eq_iff_iff]; simp
theorem op_eqS {a b : List Nat} : Op2 C A (compareOp .Eq) (.str a) (.str b) (.bool (decide (a = b))) :=
  op2_strB fun s _ _ _ h => P.eq_str (by rw [show ((⟨a.toArray⟩ : Str).cps.toList == (⟨b.toArray⟩ : Str).cps.toList) = decide (a = b) from by simpa using list_beq a b]; exact h)
theorem op_neS {a b : List Nat} : Op2 C A (compareOp .NotEq) (.str a) (.str b) (.bool (!decide (a = b))) :=
  op2_strB fun s _ _ _ h => P.ne_str (by
    have e : ((⟨a.toArray⟩ : Str).cps.toList != (⟨b.toArray⟩ : Str).cps.toList) = !decide (a = b) := by
      have := list_beq a b
      simp only [bne, this]
    rw [e]; exact h)
theorem op_addS {a b : List Nat} (hs : a.length + b.length ≤ 10000000) : Op2 C A (binaryOp .Add) (.str a) (.str b) (.str (a ++ b)) :=
  op2_str fun s _ _ _ h => SB.add (by intro t' k; rw [str_app]; exact h t' k) (by simp [Str.length, sizeLine]; omega)
theorem op_iaddS {a b : List Nat} (hs : a.length + b.length ≤ 10000000) : Op2 C A (inplaceOp .Add) (.str a) (.str b) (.str (a ++ b)) :=
  op2_str fun s _ _ _ h => SB.iadd (by intro t' k; rw [str_app]; exact h t' k) (by simp [Str.length, sizeLine]; omega)
theorem txt_mul_one (c : Nat) (n : Int) : Txt.mul ⟨#[c]⟩ n = ⟨(List.replicate n.toNat c).toArray⟩ := by
  have key : ∀ (k : Nat) (acc : Array Nat), (List.replicate k (#[c] : Array Nat)).foldl (· ++ ·) acc = acc ++ (List.replicate k c).toArray := by
    intro k
    induction k with
    | zero => intro acc; simp
    | succ k ih => intro acc; rw [List.replicate_succ, List.foldl_cons, ih, List.replicate_succ]; apply Array.ext'; simp
  unfold Txt.mul
  split
  · rename_i h
    have : n.toNat = 0 := by omega
    rw [this]; rfl
  · split
    · rename_i h h'
      have : n = 1 := by simpa [Str.length] using h'
      subst this; rfl
    · rw [key]; simp
theorem op_mulS {c : Nat} {n : Int} (h1 : -1000000 ≤ n) (h2 : n ≤ 1000000) : Op2 C A (binaryOp .Mult) (.str [c]) (.int n) (.str (List.replicate n.toNat c)) := fun s z va vb hz ra rb => by
  simp only [Rep] at ra rb
  obtain ⟨ta, rfl⟩ := ra
  obtain ⟨tb, rfl⟩ := rb
  refine SB.mul ⟨by simp; omega, ?_, ?_⟩ fun t' k => post_toks hz (by rw [show ([c] : List Nat).toArray = #[c] from rfl, txt_mul_one]; exact rep_str _ _)
  · intro hn _
    simp only [Str.length]
    have : (1 : Int) ≤ (2 ^ 63 - 1) / n := by
      apply Int.le_ediv_of_mul_le <;> omega
    have e : ((([c] : List Nat).toArray.size : Nat) : Int) = 1 := rfl
    rw [e]
    generalize (2 ^ 63 - 1 : Int) / n = q at this ⊢
    omega
  · intro hn _
    simp only [Builtin.Str.tooLong, Str.length, sizeLine]
    simp; omega
theorem op_is {a b : PV} {c : Bool} {v : CmpOp} (hv : (v = .Is ∧ (∀ va vb, (∃ z, Rep z a va) → (∃ z, Rep z b vb) → plainIs va vb = true ∧ (va == vb) = c)) ∨ (v = .IsNot ∧ (∀ va vb, (∃ z, Rep z a va) → (∃ z, Rep z b vb) → plainIs va vb = true ∧ (!(va == vb)) = c))) :
    Op2 C A (compareOp v) a b (.bool c) := fun s z va vb hz ra rb => by
  rcases hv with ⟨rfl, h⟩ | ⟨rfl, h⟩
  · obtain ⟨h1, h2⟩ := h va vb ⟨z, ra⟩ ⟨z, rb⟩
    exact wpAny_is_plain h1 (post_here hz (by rw [h2]; exact rep_bool _))
  · obtain ⟨h1, h2⟩ := h va vb ⟨z, ra⟩ ⟨z, rb⟩
    exact wpAny_isNot_plain h1 (post_here hz (by rw [h2]; exact rep_bool _))
theorem op_isNot_bool {a b : Bool} : Op2 C A (compareOp .IsNot) (.bool a) (.bool b) (.bool (!(a == b))) := op_is (.inr ⟨rfl, fun va vb ⟨_, ra⟩ ⟨_, rb⟩ => by
  simp only [Rep] at ra rb; subst ra rb; exact ⟨rfl, by cases a <;> cases b <;> rfl⟩⟩)
theorem op_is_none_none : Op2 C A (compareOp .Is) .none .none (.bool true) := op_is (.inl ⟨rfl, fun va vb ⟨_, ra⟩ ⟨_, rb⟩ => by
  simp only [Rep] at ra rb; subst ra rb; exact ⟨rfl, rfl⟩⟩)
theorem op_is_int_none {a : Int} : Op2 C A (compareOp .Is) (.int a) .none (.bool false) := op_is (.inl ⟨rfl, fun va vb ⟨_, ra⟩ ⟨_, rb⟩ => by
  simp only [Rep] at ra rb; obtain ⟨t, rfl⟩ := ra; subst rb; exact ⟨rfl, rfl⟩⟩)
end
end Mine
namespace Mine
def cutLo (lo : Option Int) (n : Nat) : Nat := lo.elim 0 (clipAt n)
def cutHi (hi : Option Int) (n : Nat) : Nat := hi.elim n (clipAt n)
def pySlice {α : Type} (l : List α) (lo hi : Option Int) : List α := (l.drop (cutLo lo l.length)).take (cutHi hi l.length - cutLo lo l.length)
theorem pySlice_length_le {α : Type} (l : List α) (lo hi : Option Int) : (pySlice l lo hi).length ≤ l.length := by
  unfold pySlice; simp only [List.length_take, List.length_drop]; omega
theorem strSlice_eq (lo hi : Option Int) (n : Nat) : Builtin.Str.strSliceIndices lo hi 1 n = (List.range (cutHi hi n - cutLo lo n)).map (cutLo lo n + ·) := by
  have e : Builtin.Str.strSliceIndices lo hi 1 n = sliceRange ((cutLo lo n : Nat) : Int) ((cutHi hi n : Nat) : Int) 1 := by
    cases lo <;> cases hi <;> simp [Builtin.Str.strSliceIndices, cutLo, cutHi, clipAt_cast]
  rw [e, sliceRange_one]
theorem picked_eq (l : List Nat) (lo hi : Option Int) : (Builtin.Str.strSliceIndices lo hi 1 l.length).filterMap (l.toArray[·]?) = pySlice l lo hi := by
  rw [strSlice_eq, pick_run]; rfl
theorem pySlice_whole {α : Type} (l : List α) (lo hi : Option Int) (h : cutHi hi l.length - cutLo lo l.length = l.length) : pySlice l lo hi = l := by
  unfold pySlice
  have h1 : cutHi hi l.length ≤ l.length := by
    unfold cutHi; cases hi with
    | none => simp
    | some k => have := clipAt_cast l.length k; simp only [Option.elim]; omega
  have h0 : l.length = 0 ∨ cutLo lo l.length = 0 := by omega
  rcases h0 with h0 | h0
  · have : l = [] := List.eq_nil_of_length_eq_zero h0
    subst this; simp
  · rw [h, h0]; simp
section
variable {C : Cst} {A : Around} {env : Env} {P : PEnv}
inductive EvPart (C : Cst) (A : Around) (env : Env) (P : PEnv) : Option Expr → Option Int → Prop
  | nil : EvPart C A env P none none
  | int {e : Expr} {k : Int} : Ev C A env P e (.int k) → EvPart C A env P (some e) (some k)
  | no {e : Expr} : Ev C A env P e .none → EvPart C A env P (some e) none
theorem evPart {x : Option Expr} {k : Option Int} (h : EvPart C A env P x k) {s : Shared} {z : Zm} (ep : EP C.hb env z s P) :
    wpAny C.M A (evalPart x env) (fun v s' => (∃ p : Option (Int × Tok), v = partValue p ∧ p.map (·.1) = k ∧ IsPart v k) ∧ ∃ z', Grow C.md z s z' s') noE s := by
  cases h with
  | nil => exact wpAny_pure ⟨⟨none, rfl, rfl, .none⟩, z, Grow.refl ep.zin⟩
  | int h =>
    refine wpAny_mono (h s z ep) (fun v s' h' => ?_) fun _ _ x => x
    obtain ⟨z', g, r⟩ := h'
    simp only [Rep] at r
    obtain ⟨t, rfl⟩ := r
    exact ⟨⟨some (_, t), rfl, rfl, .int _ _⟩, z', g⟩
  | no h =>
    refine wpAny_mono (h s z ep) (fun v s' h' => ?_) fun _ _ x => x
    obtain ⟨z', g, r⟩ := h'
    simp only [Rep] at r
    subst r
    exact ⟨⟨none, rfl, rfl, .none⟩, z', g⟩
theorem Ev_sliceS {value : Expr} {lower upper : Option Expr} {p pos : Pos} {l : List Nat} {lo hi : Option Int} (hv : Ev C A env P value (.str l)) (hl : EvPart C A env P lower lo) (hu : EvPart C A env P upper hi)
    (hs : l.length ≤ 10000000) : Ev C A env P (.Subscript value (.Slice lower upper none p) pos) (.str (pySlice l lo hi)) := fun s z ep => by
  refine Subscript_ (wpAny_mono (hv s z ep) (fun vo s₁ h₁ => ?_) fun _ _ x => x)
  obtain ⟨z₁, g₁, r₁⟩ := h₁
  simp only [Rep] at r₁
  obtain ⟨t, rfl⟩ := r₁
  have ep₁ := ep.grow g₁
  refine wpAny_Slice (wpAny_mono (evPart hl ep₁) (fun vl s₂ h₂ => ?_) fun _ _ x => x)
  obtain ⟨⟨pl, rfl, el, _⟩, z₂, g₂⟩ := h₂
  have ep₂ := ep₁.grow g₂
  refine wpAny_mono (evPart hu ep₂) (fun vu s₃ h₃ => ?_) fun _ _ x => x
  obtain ⟨⟨pu, rfl, eu, _⟩, z₃, g₃⟩ := h₃
  refine wpAny_pure ?_
  have G := g₁.trans (g₂.trans g₃)
  refine tail_any (typeIs_str _ _ t) F.slot_str_getitem.lookup (wpAny_getItem_str_slice (l := pl) (u := pu) (st := none) ⟨_, Heap.get?_push_size _ rfl, rfl, rfl⟩ rfl ?_) rfl
  have k4 : ∀ n, Kp C.md s { s₃ with heap := s₃.heap.push { cls := .type "slice", data := .fields #[partValue pl, partValue pu, .none] }, toks := n } := fun n => G.keeps.trans (Kp.push _ _ n)
  unfold sliceMade slicePicked
  simp only [Option.map_none, Option.getD_none, el, eu]
  have hlen : (⟨l.toArray⟩ : Str).length = l.length := by simp [Str.length]
  rw [hlen]
  split
  · rename_i hw
    have hw' : cutHi hi l.length - cutLo lo l.length = l.length := by
      simp only [strSlice_eq, List.length_map, List.length_range] at hw
      simpa using hw
    show Post C.md z s _ _ _
    rw [pySlice_whole l lo hi hw']
    exact post_same ep.zin (k4 _) (rep_str _ _)
  · rw [picked_eq]
    refine ⟨?_, post_same ep.zin (k4 _) (rep_str _ _)⟩
    have := pySlice_length_le l lo hi
    simp [Str.length, sizeLine]; omega
theorem Ev_sliceL {value : Expr} {lower upper : Option Expr} {p pos : Pos} {l : List PV} {lo hi : Option Int} (hv : Ev C A env P value (.list l)) (hl : EvPart C A env P lower lo) (hu : EvPart C A env P upper hi)
    (hs : l.length ≤ 10000000) : Ev C A env P (.Subscript value (.Slice lower upper none p) pos) (.list (pySlice l lo hi)) := fun s z ep => by
  refine Subscript_ (wpAny_mono (hv s z ep) (fun vo s₁ h₁ => ?_) fun _ _ x => x)
  obtain ⟨z₁, g₁, r₁⟩ := h₁
  simp only [Rep] at r₁
  obtain ⟨a, vs, n, rfl, ha, rl⟩ := r₁
  have ep₁ := ep.grow g₁
  refine wpAny_Slice (wpAny_mono (evPart hl ep₁) (fun vl s₂ h₂ => ?_) fun _ _ x => x)
  obtain ⟨⟨pl, _, el, ql⟩, z₂, g₂⟩ := h₂
  have ep₂ := ep₁.grow g₂
  refine wpAny_mono (evPart hu ep₂) (fun vu s₃ h₃ => ?_) fun _ _ x => x
  obtain ⟨⟨pu, _, eu, qu⟩, z₃, g₃⟩ := h₃
  refine wpAny_pure ?_
  have G := g₁.trans (g₂.trans g₃)
  have ha₃ : s₃.heap.get? a = some (listO vs n) := g₃.zin _ _ (g₃.sub _ _ (g₂.sub _ _ ha))
  have hL : (s₃.heap.push { cls := .type "slice", data := .fields #[vl, vu, .none] }).IsList a vs.toArray := ⟨_, Heap.get?_push_of_some _ ha₃, rfl, n, rfl⟩
  have hlen := rl.length
  refine tail_any (s := { s₃ with heap := s₃.heap.push { cls := .type "slice", data := .fields #[vl, vu, .none] } }) hL.typeIs slot_list_getitem.lookup
    (wpAny_getItem_list_slice (st := none) hL (Heap.IsSliceOf.new ..) ql qu .none (by simp) ?_ (by simp [sizeLine, hlen]; omega)) rfl
  have g4 : Grow C.md z₃ s₃ z₃ { s₃ with heap := s₃.heap.push { cls := .type "slice", data := .fields #[vl, vu, .none] } } := Grow.same g₃.zin (Kp.push _ _ _)
  have e : slicePick vs.toArray lo hi none = (pySlice vs lo hi).toArray := by
    rw [slicePick_plain]; simp [pySlice, cutLo, cutHi]
  rw [e]
  have g5 := Grow.push (md := C.md) g4.zin (listO (pySlice vs lo hi) 0) rfl s₃.toks
  refine ⟨_, G.trans (g4.trans g5), rep_list (ZAdd.self _ _ _) ?_⟩
  have r3 : RepL z₃ l vs := rl.mono (g₂.sub.trans g₃.sub)
  refine RepL.mono g5.sub ?_
  unfold pySlice
  rw [hlen]
  exact (r3.drop _).take _
theorem Ev_sub {value slice : Expr} {pos : Pos} {a i r : PV} (hv : Ev C A env P value a) (hi : Ev C A env P slice i)
    (ho : Op2 C A (fun va vi => subscriptTail value slice va vi) a i r) : Ev C A env P (.Subscript value slice pos) r := fun s z ep => by
  refine Subscript_ (wpAny_mono (hv s z ep) (fun vo s₁ h₁ => ?_) fun _ _ x => x)
  obtain ⟨z₁, g₁, r₁⟩ := h₁
  refine wpAny_mono (hi s₁ z₁ (ep.grow g₁)) (fun vi s₂ h₂ => ?_) fun _ _ x => x
  obtain ⟨z₂, g₂, r₂⟩ := h₂
  exact wp_via (g₁.trans g₂) (ho s₂ z₂ vo vi g₂.zin (r₁.mono g₂.sub) r₂)
def plainSub (slice : Expr) : Bool := match slice with | .Slice .. => false | _ => true
theorem subscripted_plain {slice : Expr} {o i : Value} (h : plainSub slice = true) : subscripted slice false o i = operate [o, i] (getItem o i) := by
  cases slice <;> first | rfl | (simp [plainSub] at h)
theorem op_itemS {value slice : Expr} {l : List Nat} {k : Int} {c : Nat} (h : (seqIndex? k l.length).bind (l[·]?) = some c) (hp : plainSub slice = true := by rfl) (hk : -(2 ^ 62) < k ∧ k < 2 ^ 62) :
    Op2 C A (fun va vi => subscriptTail value slice va vi) (.str l) (.int k) (.str [c]) := fun s z va vb hz ra rb => by
  simp only [Rep] at ra rb
  obtain ⟨ta, rfl⟩ := ra
  obtain ⟨tb, rfl⟩ := rb
  refine tail_any (typeIs_str _ _ _) F.slot_str_getitem.lookup (PySem.P.getItem_str (c := c) (by simp; omega) ?_ (post_toks hz ?_)) (subscripted_plain hp)
  · simpa [Str.length] using h
  · exact rep_strS _ _ rfl
theorem op_itemL {value slice : Expr} {l : List PV} {k : Int} {c : PV} (h : (seqIndex? k l.length).bind (l[·]?) = some c) (hp : plainSub slice = true := by rfl) (hk : -(2 ^ 62) < k ∧ k < 2 ^ 62) :
    Op2 C A (fun va vi => subscriptTail value slice va vi) (.list l) (.int k) c := fun s z va vb hz ra rb => by
  simp only [Rep] at ra rb
  obtain ⟨a, vs, n, rfl, ha, rl⟩ := ra
  obtain ⟨tb, rfl⟩ := rb
  have hL : s.heap.IsList a vs.toArray := ⟨_, hz _ _ ha, rfl, n, rfl⟩
  have hlen := rl.length
  refine tail_any hL.typeIs slot_list_getitem.lookup ?_ (subscripted_plain hp)
  unfold seqIndex? at h
  by_cases h0 : k < 0
  · simp only [h0, if_true] at h
    split at h
    · rename_i hc
      simp only [Bool.and_eq_true, decide_eq_true_eq] at hc
      obtain ⟨v, hv, r⟩ := rl.get (by simpa using h)
      refine wpAny_getItem_list_neg hL h0 (by simp [hlen]; omega) (by omega) (x := v) (by simpa [hlen] using hv) (post_here hz r)
    · simp at h
  · simp only [h0, if_false] at h
    split at h
    · rename_i hc
      obtain ⟨v, hv, r⟩ := rl.get (by simpa using h)
      refine wpAny_getItem_list hL (by omega) (by omega) (x := v) (by simpa using hv) (post_here hz r)
    · simp at h
theorem op_itemT {value slice : Expr} {l : List PV} {k : Int} {c : PV} (h : (seqIndex? k l.length).bind (l[·]?) = some c) (hp : plainSub slice = true := by rfl) (hk : -(2 ^ 62) < k ∧ k < 2 ^ 62) :
    Op2 C A (fun va vi => subscriptTail value slice va vi) (.tuple l) (.int k) c := fun s z va vb hz ra rb => by
  simp only [Rep] at ra rb
  obtain ⟨a, vs, n, rfl, ha, rl⟩ := ra
  obtain ⟨tb, rfl⟩ := rb
  have hT : IsTup s.heap a vs.toArray := ⟨_, hz _ _ ha, rfl, n, rfl⟩
  have hlen := rl.length
  obtain ⟨j, hj, hx⟩ := Option.bind_eq_some_iff.mp h
  obtain ⟨v, hv, r⟩ := rl.get hx
  exact item_tupleT hT (by omega) (by omega) (by rw [hlen]; exact hj) hv (post_here hz r) (subscripted_plain hp)
def noStar (e : Expr) : Bool := match e with | .Starred .. => false | _ => true
theorem starEach_cons {e : Expr} {rest : List Expr} (h : noStar e = true) : starEach (e :: rest) env = (false, eval e env) :: starEach rest env := by
  cases e <;> first | rfl | (simp [noStar] at h)
inductive Evs (C : Cst) (A : Around) (env : Env) (P : PEnv) : List Expr → List PV → Prop
  | nil : Evs C A env P [] []
  | cons {e : Expr} {es : List Expr} {a : PV} {as : List PV} : Ev C A env P e a → Evs C A env P es as → noStar e = true → Evs C A env P (e :: es) (a :: as)
theorem Evs.plain {es : List Expr} {as : List PV} (h : Evs C A env P es as) (pos : Pos) : (backTo pos (starEach es env)).any (·.1) = false := by
  induction h with
  | nil => rfl
  | cons _ _ hn ih => rw [starEach_cons hn]; simpa [backTo] using ih
def PostL (md : Bool) (z : Zm) (s : Shared) (as : List PV) : List Value → Shared → Prop := fun vs s' => ∃ z', Grow md z s z' s' ∧ RepL z' as vs
theorem evs_spliced {es : List Expr} {as : List PV} (h : Evs C A env P es as) (pos : Pos) : ∀ {s : Shared} {z : Zm}, EP C.hb env z s P →
    wpAny C.M A (spliced (backTo pos (starEach es env))) (PostL C.md z s as) noE s := by
  induction h with
  | nil => intro s z ep; exact Calls.spliced_nil ⟨z, Grow.refl ep.zin, repL_nil⟩
  | cons he _ hn ih =>
    intro s z ep
    rw [starEach_cons hn]
    refine Calls.spliced_cons (wpAny_mono (he s z ep) (fun v s₁ h₁ => ?_) fun _ _ x => x)
    obtain ⟨z₁, g₁, r₁⟩ := h₁
    refine wpAny_mono (ih (ep.grow g₁)) (fun vs s₂ h₂ => ?_) fun _ _ x => x
    obtain ⟨z₂, g₂, r₂⟩ := h₂
    exact ⟨z₂, g₁.trans g₂, repL_cons (r₁.mono g₂.sub) r₂⟩
def PostN (md : Bool) (z : Zm) (s : Shared) (xs : List PV) : Value → Shared → Prop := fun v s' =>
  ∃ z' a vs n, v = .ref a ∧ Grow md z s z' s' ∧ s'.heap.get? a = some (listO vs n) ∧ RepL z' xs vs ∧ z' a = none ∧ s.heap.get? a = none
def EvN (C : Cst) (A : Around) (env : Env) (P : PEnv) (e : Expr) (xs : List PV) : Prop :=
  ∀ s z, EP C.hb env z s P → wpAny C.M A (eval e env) (PostN C.md z s xs) noE s
theorem PostN.post {md : Bool} {z : Zm} {s s' : Shared} {xs : List PV} {v : Value} (h : PostN md z s xs v s') : Post md z s (.list xs) v s' := by
  obtain ⟨z', a, vs, n, rfl, g, ha, r, hz, hn⟩ := h
  exact ⟨_, g.freeze hn hz ha, rep_list (ZAdd.self _ _ _) (r.mono (ZAdd.le hz))⟩
theorem Ev.ofN {e : Expr} {xs : List PV} (h : EvN C A env P e xs) : Ev C A env P e (.list xs) := fun s z ep =>
  wpAny_mono (h s z ep) (fun _ _ q => q.post) fun _ _ x => x
theorem EvN_list {es : List Expr} {as : List PV} {pos : Pos} (h : Evs C A env P es as) (hs : as.length ≤ 1000000) : EvN C A env P (.List es pos) as := fun s z ep => by
  refine List_ (wpAny_mono (evs_spliced h pos ep) (fun vs s₁ h₁ => ?_) fun _ _ x => x)
  obtain ⟨z₁, g₁, r₁⟩ := h₁
  have hlen := r₁.length
  refine wpAny_newObj_type ?_ (by show vs.toArray.size ≤ sizeLine; simp [sizeLine]; omega)
  refine ⟨z₁, s₁.heap.objs.size, vs, 0, rfl, g₁.trans (Grow.same g₁.zin (Kp.push _ _ _)), Heap.get?_push_size _ rfl, r₁, fresh_none g₁.zin (get_size_none _), ?_⟩
  cases q : s.heap.get? s₁.heap.objs.size with
  | none => rfl
  | some o => have := g₁.keeps.old _ _ q; rw [get_size_none] at this; cases this
theorem Ev_list {es : List Expr} {as : List PV} {pos : Pos} (h : Evs C A env P es as) (hs : as.length ≤ 1000000) : Ev C A env P (.List es pos) (.list as) := .ofN (EvN_list h hs)
theorem Ev_tuple {es : List Expr} {as : List PV} {pos : Pos} {k : Nat} (h : Evs C A env P es as) (hs : as.length ≤ 1000000) : Ev C A env P (.Tuple es k pos) (.tuple as) := fun s z ep => by
  refine Tuple_ (wpAny_mono (evs_spliced h pos ep) (fun vs s₁ h₁ => ?_) fun _ _ x => x)
  obtain ⟨z₁, g₁, r₁⟩ := h₁
  have hlen := r₁.length
  refine wpAny_newObj_type ?_ (by show vs.toArray.size ≤ sizeLine; simp [sizeLine]; omega)
  have g2 := Grow.push (md := C.md) g₁.zin (tupO vs 0) rfl s₁.toks
  exact ⟨_, g₁.trans g2, rep_tuple (ZAdd.self _ _ _) (r₁.mono g2.sub)⟩
def Op2N (C : Cst) (A : Around) (t : Value → Value → Sem Value) (a b : PV) (xs : List PV) : Prop :=
  ∀ s z va vb, ZIn z s → Rep z a va → Rep z b vb → wpAny C.M A (t va vb) (PostN C.md z s xs) noE s
theorem Op2N.op {t : Value → Value → Sem Value} {a b : PV} {xs : List PV} (h : Op2N C A t a b xs) : Op2 C A t a b (.list xs) := fun s z va vb hz ra rb =>
  wpAny_mono (h s z va vb hz ra rb) (fun _ _ q => q.post) fun _ _ x => x
theorem PostN.via {md : Bool} {z z' : Zm} {s s' s'' : Shared} {xs : List PV} {v : Value} (g : Grow md z s z' s') (h : PostN md z' s' xs v s'') : PostN md z s xs v s'' := by
  obtain ⟨z'', a, vs, n, rfl, g', ha, r, hz, hn⟩ := h
  refine ⟨z'', a, vs, n, rfl, g.trans g', ha, r, hz, ?_⟩
  cases q : s.heap.get? a with
  | none => rfl
  | some o => have := g.keeps.old _ _ q; rw [hn] at this; cases this
theorem EvN_bin {l r : Expr} {op : Operator} {pos : Pos} {a b : PV} {xs : List PV} (hl : Ev C A env P l a) (hr : Ev C A env P r b) (ho : Op2N C A (binaryOp op) a b xs) :
    EvN C A env P (.BinOp l op r pos) xs := fun s z ep => by
  refine wpAny_BinOp (wpAny_mono (hl s z ep) (fun va s₁ h₁ => ?_) fun _ _ x => x)
  obtain ⟨z₁, g₁, r₁⟩ := h₁
  have ep₁ := ep.grow g₁
  refine wpAny_mono (hr s₁ z₁ ep₁) (fun vb s₂ h₂ => ?_) fun _ _ x => x
  obtain ⟨z₂, g₂, r₂⟩ := h₂
  exact wpAny_mono (ho s₂ z₂ va vb g₂.zin (r₁.mono g₂.sub) r₂) (fun _ _ q => q.via (g₁.trans g₂)) fun _ _ x => x
theorem opN_addL {xs ys : List PV} (hs : xs.length + ys.length ≤ 10000000) : Op2N C A (binaryOp .Add) (.list xs) (.list ys) (xs ++ ys) := fun s z va vb hz ra rb => by
  simp only [Rep] at ra rb
  obtain ⟨a, vs, n, rfl, ha, rl⟩ := ra
  obtain ⟨b, us, m, rfl, hb, ru⟩ := rb
  refine PySem.P.add_list (items := vs.toArray) (items2 := us.toArray) (hz _ _ ha) (hz _ _ hb) ?_ (by simp [rl.length, ru.length, sizeLine]; omega)
  refine ⟨z, s.heap.objs.size, vs ++ us, 0, rfl, Grow.same hz (Kp.push _ _ _), ?_, rl.append ru, fresh_none hz (get_size_none _), get_size_none _⟩
  have : (vs.toArray ++ us.toArray) = (vs ++ us).toArray := by simp
  rw [this]
  exact Heap.get?_push_size _ rfl
theorem op_addL {xs ys : List PV} (hs : xs.length + ys.length ≤ 10000000) : Op2 C A (binaryOp .Add) (.list xs) (.list ys) (.list (xs ++ ys)) := (opN_addL hs).op
end
end Mine
namespace Mine
structure Fc where
  env : Env
  A : Around
  s₀ : Shared
  z₀ : Zm
  /-- names that the frame does not store: their cells are another frame's -/
  ro : Str → Bool
abbrev noRo : Str → Bool := fun _ => false
abbrev OEnv := List (Str × List PV)
def upd {α : Type} : List (Str × α) → Str → α → List (Str × α)
  | [], x, v => [(x, v)]
  | (y, u) :: r, x, v => if y = x then (y, v) :: r else (y, u) :: upd r x v
def del {α : Type} : List (Str × α) → Str → List (Str × α)
  | [], _ => []
  | (y, u) :: r, x => if y = x then del r x else (y, u) :: del r x
theorem lookup_upd {α : Type} (x : Str) (v : α) : ∀ (P : List (Str × α)) (y : Str), (upd P x v).lookup y = if y = x then some v else P.lookup y
  | [], y => by
    by_cases h : y = x
    · subst h; simp [upd]
    · have : (y == x) = false := beq_eq_false_iff_ne.mpr h
      simp [upd, List.lookup, h, this]
  | (k, u) :: r, y => by
    unfold upd
    by_cases hk : k = x
    · subst hk
      rw [if_pos rfl]
      by_cases h : y = k
      · subst h; simp [List.lookup]
      · have : (y == k) = false := beq_eq_false_iff_ne.mpr h
        simp [List.lookup, h, this]
    · rw [if_neg hk]
      by_cases h : y = k
      · subst h; simp [List.lookup, hk]
      · have : (y == k) = false := beq_eq_false_iff_ne.mpr h
        simp only [List.lookup, this]
        exact lookup_upd x v r y
theorem lookup_del {α : Type} (x : Str) : ∀ (P : List (Str × α)) (y : Str), (del P x).lookup y = if y = x then none else P.lookup y
  | [], y => by simp [del, List.lookup]
  | (k, u) :: r, y => by
    unfold del
    by_cases hk : k = x
    · subst hk
      rw [if_pos rfl, lookup_del k r y]
      by_cases h : y = k
      · simp [h]
      · have : (y == k) = false := beq_eq_false_iff_ne.mpr h
        simp [List.lookup, h, this]
    · rw [if_neg hk]
      by_cases h : y = k
      · subst h; simp [List.lookup, hk]
      · have : (y == k) = false := beq_eq_false_iff_ne.mpr h
        simp only [List.lookup, this]
        exact lookup_del x r y
theorem Ns_unique {h : Heap} {a : Addr} {m m' : Str → Option Value} (x : h.Ns a m) (y : h.Ns a m') : m = m' := by
  obtain ⟨o, es, ep, ho, hd, _, hm⟩ := x
  obtain ⟨o', es', ep', ho', hd', _, hm'⟩ := y
  rw [ho] at ho'; cases ho'
  rw [hd] at hd'; cases hd'
  funext n; rw [← hm, ← hm']
theorem IsCell_unique {h : Heap} {c : Addr} {v v' : Option Value} (x : h.IsCell c v) (y : h.IsCell c v') : v = v' := by
  obtain ⟨o, ho, hd⟩ := x
  obtain ⟨o', ho', hd'⟩ := y
  rw [ho] at ho'; cases ho'
  rw [hd] at hd'; cases hd'; rfl
theorem LookV.unique {env : Env} {h : Heap} {x : Str} {v v' : Value} (a : LookV env h x v) (b : LookV env h x v') : v = v' := by
  obtain ⟨_, a⟩ := a
  obtain ⟨_, b⟩ := b
  rcases a with ⟨k, m, hn, hm⟩ | ⟨k, c, hc, hv⟩ <;> rcases b with ⟨k', m', hn', hm'⟩ | ⟨k', c', hc', hv'⟩
  · have := Ns_unique hn hn'; subst this; rw [hm] at hm'; exact Option.some.inj hm'
  · rw [k] at k'; cases k'
  · rw [k] at k'; cases k'
  · rw [hc] at hc'; cases hc'; exact Option.some.inj (IsCell_unique hv hv')
structure FS (C : Cst) (F : Fc) (g₀ : Array GenState) (X : Zm) (z : Zm) (s : Shared) (P : PEnv) (W : OEnv) : Prop where
  ep : EP C.hb F.env z s P
  z0 : ZLe F.z₀ z
  znew : ∀ a o, z a = some o → F.z₀ a = some o ∨ F.s₀.heap.get? a = none
  keep : ∀ b o, F.s₀.heap.get? b = some o → s.heap.get? b = some o
  os : s.os = F.s₀.os
  drawn : s.drawn = F.s₀.drawn
  gens : C.md = true → s.gens = g₀
  bare : AllBare F.s₀.gens → AllBare s.gens
  loc : ∃ m, s.heap.Ns F.env.locals m
  locN : F.s₀.heap.get? F.env.locals = none
  locZ : z F.env.locals = none
  locX : X F.env.locals = none
  cell : ∀ x c, F.env.cells.lookup x = some c → (∃ v, s.heap.IsCell c v) ∧ (F.ro x = false → z c = none ∧ F.s₀.heap.get? c = none ∧ X c = none)
  cellD : ∀ x y c, F.ro x = false → F.env.cells.lookup x = some c → F.env.cells.lookup y = some c → x = y
  own : ∀ x xs, W.lookup x = some xs → ∃ a vs n, LookV F.env s.heap x (.ref a) ∧ s.heap.get? a = some (listO vs n) ∧ RepL z xs vs ∧ z a = none ∧ F.s₀.heap.get? a = none ∧ X a = none
  ownD : ∀ x y a, (W.lookup x).isSome = true → (W.lookup y).isSome = true → LookV F.env s.heap x (.ref a) → LookV F.env s.heap y (.ref a) → x = y
  xin : ∀ a o, X a = some o → s.heap.get? a = some o
section
variable {C : Cst} {F : Fc} {g₀ : Array GenState} {X z : Zm} {s : Shared} {P : PEnv} {W : OEnv}
theorem LookV.back {env : Env} {h h' : Heap} {x : Str} {v : Value} (q : LookV env h' x v) (hk : ∀ b o, h.get? b = some o → h'.get? b = some o)
    (hl : ∃ m, h.Ns env.locals m) (hc : ∀ x c, env.cells.lookup x = some c → ∃ v, h.IsCell c v) : LookV env h x v := by
  obtain ⟨hd, q⟩ := q
  refine ⟨hd, ?_⟩
  rcases q with ⟨k, m, hn, hm⟩ | ⟨k, c, hcl, hv⟩
  · obtain ⟨m', hn'⟩ := hl
    have := Ns_unique (hn'.keeps hk) hn
    subst this
    exact .inl ⟨k, m', hn', hm⟩
  · obtain ⟨v', hv'⟩ := hc x c hcl
    have := IsCell_unique (hv'.keeps hk) hv
    subst this
    exact .inr ⟨k, c, hcl, hv'⟩
theorem FS.grow {z' : Zm} {s' : Shared} (f : FS C F g₀ X z s P W) (g : Grow C.md z s z' s') : FS C F g₀ X z' s' P W where
  ep := f.ep.grow g
  z0 := f.z0.trans g.sub
  znew := fun a o e => by
    rcases g.new a o e with h | h
    · exact f.znew a o h
    · refine .inr ?_
      cases q : F.s₀.heap.get? a with
      | none => rfl
      | some o' => rw [f.keep a o' q] at h; cases h
  keep := fun b o e => g.keeps.old b o (f.keep b o e)
  os := g.keeps.os.trans f.os
  drawn := g.keeps.drawn.trans f.drawn
  gens := fun h => (g.keeps.gens h).trans (f.gens h)
  bare := fun h => g.keeps.bare (f.bare h)
  loc := let ⟨m, hn⟩ := f.loc; ⟨m, hn.keeps g.keeps.old⟩
  locN := f.locN
  locZ := by
    cases e : z' F.env.locals with
    | none => rfl
    | some o =>
      rcases g.new _ _ e with h | h
      · rw [f.locZ] at h; cases h
      · obtain ⟨m, o', _, _, ho, _⟩ := f.loc; rw [ho] at h; cases h
  locX := f.locX
  cell := fun x c hc => by
    obtain ⟨⟨v, hv⟩, hh⟩ := f.cell x c hc
    refine ⟨⟨v, hv.keeps g.keeps.old⟩, fun hro => ?_⟩
    obtain ⟨h1, h2, h3⟩ := hh hro
    refine ⟨?_, h2, h3⟩
    cases e : z' c with
    | none => rfl
    | some o =>
      rcases g.new _ _ e with h | h
      · rw [h1] at h; cases h
      · obtain ⟨o', ho, _⟩ := hv; rw [ho] at h; cases h
  cellD := f.cellD
  own := fun x xs hx => by
    obtain ⟨a, vs, n, l, ha, r, h1, h2, h3⟩ := f.own x xs hx
    refine ⟨a, vs, n, l.keeps g.keeps.old, g.keeps.old _ _ ha, r.mono g.sub, ?_, h2, h3⟩
    cases e : z' a with
    | none => rfl
    | some o =>
      rcases g.new _ _ e with h | h
      · rw [h1] at h; cases h
      · rw [ha] at h; cases h
  ownD := fun x y a hx hy lx ly => f.ownD x y a hx hy (lx.back g.keeps.old f.loc fun x c hc => (f.cell x c hc).1) (ly.back g.keeps.old f.loc fun x c hc => (f.cell x c hc).1)
  xin := fun a o e => g.keeps.old a o (f.xin a o e)
def Spot (env : Env) (x : Str) (d : Addr) : Prop :=
  (x == ("__debug__" : Str)) = false ∧ ((env.kindOf x = some .local ∧ d = env.locals) ∨ (env.kindOf x = some .cell ∧ env.cells.lookup x = some d))
theorem store_raw {x : Str} {v : Value} {d : Addr} (f : FS C F g₀ X z s P W) (hx : Spot F.env x d) (hro : F.ro x = false) {Q : Unit → Shared → Prop}
    (h : ∀ h' n, Heap.SameBut d s.heap h' → LookV F.env h' x v → (∀ y u, y ≠ x → LookV F.env s.heap y u → LookV F.env h' y u) → (∀ y u, y ≠ x → LookV F.env h' y u → LookV F.env s.heap y u) →
      (∃ m, h'.Ns F.env.locals m) → (∀ y c, F.env.cells.lookup y = some c → ∃ u, h'.IsCell c u) → Q () { s with heap := h', toks := n }) :
    wpAny C.M F.A (storeName F.env x v) Q noE s := by
  obtain ⟨hd, hx⟩ := hx
  obtain ⟨m, hn⟩ := f.loc
  rcases hx with ⟨hk, rfl⟩ | ⟨hk, hc⟩
  · refine wpAny_storeName_local hk hn (fun h' hn' hs => ?_) (by rw [f.ep.fn]; rfl)
    have nc : ∀ y c, F.env.cells.lookup y = some c → c ≠ F.env.locals := fun y c hc e => by
      obtain ⟨⟨u, o, ho, hdt⟩, _⟩ := f.cell y c hc
      obtain ⟨o', es, ep, ho', hd', _⟩ := hn
      rw [e, ho'] at ho; cases ho
      rw [hd'] at hdt; cases hdt
    refine h h' _ hs ⟨hd, .inl ⟨hk, _, hn', by simp⟩⟩ (fun y u hy q => ?_) (fun y u hy q => ?_) ⟨_, hn'⟩ (fun y c hc => ?_)
    · obtain ⟨hd', q⟩ := q
      refine ⟨hd', ?_⟩
      rcases q with ⟨k, m', hm', e⟩ | ⟨k, c, hc, e⟩
      · have := Ns_unique hn hm'; subst this
        exact .inl ⟨k, _, hn', by simp [hy, e]⟩
      · exact .inr ⟨k, c, hc, e.sameBut hs (nc y c hc)⟩
    · obtain ⟨hd', q⟩ := q
      refine ⟨hd', ?_⟩
      rcases q with ⟨k, m', hm', e⟩ | ⟨k, c, hc, e⟩
      · have := Ns_unique hn' hm'; subst this
        simp [hy] at e
        exact .inl ⟨k, _, hn, e⟩
      · obtain ⟨⟨v', hv'⟩, _⟩ := f.cell y c hc
        have := IsCell_unique (hv'.sameBut hs (nc y c hc)) e
        subst this
        exact .inr ⟨k, c, hc, hv'⟩
    · obtain ⟨⟨v', hv'⟩, _⟩ := f.cell y c hc
      exact ⟨v', hv'.sameBut hs (nc y c hc)⟩
  · obtain ⟨⟨v₀, hv₀⟩, _⟩ := f.cell x d hc
    have nl : F.env.locals ≠ d := fun e => by
      obtain ⟨o, ho, hdt⟩ := hv₀
      obtain ⟨o', es, ep, ho', hd', _⟩ := hn
      rw [← e, ho'] at ho; cases ho
      rw [hd'] at hdt; cases hdt
    refine wpAny_storeName_cell f.ep.fn hk hc hv₀ fun h' hv hs => ?_
    refine h h' _ hs ⟨hd, .inr ⟨hk, d, hc, hv⟩⟩ (fun y u hy q => ?_) (fun y u hy q => ?_) ⟨m, hn.sameBut hs nl⟩ (fun y c hc' => ?_)
    · obtain ⟨hd', q⟩ := q
      refine ⟨hd', ?_⟩
      rcases q with ⟨k, m', hm', e⟩ | ⟨k, c, hc', e⟩
      · exact .inl ⟨k, m', hm'.sameBut hs nl, e⟩
      · have : c ≠ d := fun e' => hy (f.cellD x y d hro hc (e' ▸ hc')).symm
        exact .inr ⟨k, c, hc', e.sameBut hs this⟩
    · obtain ⟨hd', q⟩ := q
      refine ⟨hd', ?_⟩
      rcases q with ⟨k, m', hm', e⟩ | ⟨k, c, hc', e⟩
      · have := Ns_unique (hn.sameBut hs nl) hm'; subst this
        exact .inl ⟨k, m, hn, e⟩
      · have hcd : c ≠ d := fun e' => hy (f.cellD x y d hro hc (e' ▸ hc')).symm
        obtain ⟨⟨v', hv'⟩, _⟩ := f.cell y c hc'
        have := IsCell_unique (hv'.sameBut hs hcd) e
        subst this
        exact .inr ⟨k, c, hc', hv'⟩
    · by_cases e : c = d
      · subst e; exact ⟨_, hv⟩
      · obtain ⟨⟨v', hv'⟩, _⟩ := f.cell y c hc'
        exact ⟨v', hv'.sameBut hs e⟩
theorem spot_facts {x : Str} {d : Addr} (f : FS C F g₀ X z s P W) (hx : Spot F.env x d) (hro : F.ro x = false) :
    z d = none ∧ F.s₀.heap.get? d = none ∧ X d = none ∧ (∀ vs n, s.heap.get? d ≠ some (listO vs n)) := by
  obtain ⟨_, hx⟩ := hx
  rcases hx with ⟨_, rfl⟩ | ⟨_, hc⟩
  · refine ⟨f.locZ, f.locN, f.locX, fun vs n e => ?_⟩
    obtain ⟨m, o, es, ep, ho, hd, _⟩ := f.loc
    rw [ho] at e; cases e; cases hd
  · obtain ⟨⟨v, o, ho, hd⟩, hh⟩ := f.cell x d hc
    obtain ⟨h1, h2, h3⟩ := hh hro
    refine ⟨h1, h2, h3, fun vs n e => ?_⟩
    rw [ho] at e; cases e; cases hd
structure Mv (X z z' : Zm) : Prop where
  sub : ZLe z z'
  new : ∀ a o, z' a = some o → z a = some o ∨ X a = none
theorem Mv.refl (X z : Zm) : Mv X z z := ⟨ZLe.refl z, fun _ _ e => .inl e⟩
theorem Mv.trans {X z z' z'' : Zm} (a : Mv X z z') (b : Mv X z' z'') : Mv X z z'' where
  sub := a.sub.trans b.sub
  new := fun c o e => by
    rcases b.new c o e with h | h
    · exact a.new c o h
    · exact .inr h
theorem Mv.less {X X' z z' : Zm} (a : Mv X' z z') (h : ZLe X X') : Mv X z z' := ⟨a.sub, fun c o e => by
  rcases a.new c o e with q | q
  · exact .inl q
  · refine .inr ?_
    cases e' : X c with
    | none => rfl
    | some p => rw [h c p e'] at q; cases q⟩
theorem Grow.mv {md : Bool} {X z z' : Zm} {s s' : Shared} (g : Grow md z s z' s') (hX : ∀ a o, X a = some o → s.heap.get? a = some o) : Mv X z z' :=
  ⟨g.sub, fun a o e => by
    rcases g.new a o e with h | h
    · exact .inl h
    · refine .inr ?_
      cases q : X a with
      | none => rfl
      | some p => rw [hX a p q] at h; cases h⟩
theorem FS.store {x : Str} {v : Value} {pv : PV} {d : Addr} (f : FS C F g₀ X z s P W) (hx : Spot F.env x d) (hro : F.ro x = false) (r : Rep z pv v) :
    wpAny C.M F.A (storeName F.env x v) (fun _ s' => FS C F g₀ X z s' (upd P x pv) (del W x)) noE s := by
  obtain ⟨q1, q2, q3, q4⟩ := spot_facts f hx hro
  refine store_raw f hx hro fun h' n hs l1 l2 l3 hl hcs => ?_
  have up : ∀ b o, b ≠ d → s.heap.get? b = some o → h'.get? b = some o := fun b o hb e => (hs.2 b hb).trans e
  have zk : ∀ a o, z a = some o → h'.get? a = some o := fun a o e => up a o (fun e' => by subst e'; rw [q1] at e; cases e) (f.ep.zin a o e)
  refine
    { ep := ⟨f.ep.fn, f.ep.gl, f.ep.bu, f.ep.hz, zk, fun y p hp => ?_, hcs⟩
      z0 := f.z0, znew := f.znew
      keep := fun b o e => up b o (fun e' => by subst e'; rw [q2] at e; cases e) (f.keep b o e)
      os := f.os, drawn := f.drawn, gens := f.gens, bare := f.bare, loc := hl, locN := f.locN, locZ := f.locZ, locX := f.locX
      cell := fun y c hc => ⟨hcs y c hc, (f.cell y c hc).2⟩
      cellD := f.cellD
      own := fun y xs hy => ?_
      ownD := fun y w a hy hw ly lw => ?_
      xin := fun a o e => up a o (fun e' => by subst e'; rw [q3] at e; cases e) (f.xin a o e) }
  · rw [lookup_upd] at hp
    by_cases hy : y = x
    · rw [if_pos hy] at hp; cases hp; subst hy; exact ⟨v, l1, r⟩
    · rw [if_neg hy] at hp
      obtain ⟨u, lu, ru⟩ := f.ep.var y p hp
      exact ⟨u, l2 y u hy lu, ru⟩
  · rw [lookup_del] at hy
    by_cases e : y = x
    · rw [if_pos e] at hy; cases hy
    · rw [if_neg e] at hy
      obtain ⟨a, vs, k, l, ha, rl, h1, h2, h3⟩ := f.own y xs hy
      exact ⟨a, vs, k, l2 y _ e l, up a _ (fun e' => q4 vs k (e' ▸ ha)) ha, rl, h1, h2, h3⟩
  · rw [lookup_del] at hy hw
    by_cases e1 : y = x
    · rw [if_pos e1] at hy; cases hy
    · by_cases e2 : w = x
      · rw [if_pos e2] at hw; cases hw
      · rw [if_neg e1] at hy; rw [if_neg e2] at hw
        exact f.ownD y w a hy hw (l3 y _ e1 ly) (l3 w _ e2 lw)
theorem FS.storeOwn {x : Str} {a : Addr} {vs : List Value} {n : Nat} {xs : List PV} {d : Addr} (f : FS C F g₀ X z s P W) (hx : Spot F.env x d) (hro : F.ro x = false)
    (ha : s.heap.get? a = some (listO vs n)) (r : RepL z xs vs) (hz : z a = none) (h0 : F.s₀.heap.get? a = none) (hX : X a = none)
    (hnew : ∀ y ys, W.lookup y = some ys → ¬ LookV F.env s.heap y (.ref a)) :
    wpAny C.M F.A (storeName F.env x (.ref a)) (fun _ s' => FS C F g₀ X z s' (del P x) (upd W x xs)) noE s := by
  obtain ⟨q1, q2, q3, q4⟩ := spot_facts f hx hro
  refine store_raw f hx hro fun h' k hs l1 l2 l3 hl hcs => ?_
  have up : ∀ b o, b ≠ d → s.heap.get? b = some o → h'.get? b = some o := fun b o hb e => (hs.2 b hb).trans e
  have zk : ∀ a o, z a = some o → h'.get? a = some o := fun a o e => up a o (fun e' => by subst e'; rw [q1] at e; cases e) (f.ep.zin a o e)
  have ha' : h'.get? a = some (listO vs n) := up a _ (fun e' => q4 vs n (e' ▸ ha)) ha
  refine
    { ep := ⟨f.ep.fn, f.ep.gl, f.ep.bu, f.ep.hz, zk, fun y p hp => ?_, hcs⟩
      z0 := f.z0, znew := f.znew
      keep := fun b o e => up b o (fun e' => by subst e'; rw [q2] at e; cases e) (f.keep b o e)
      os := f.os, drawn := f.drawn, gens := f.gens, bare := f.bare, loc := hl, locN := f.locN, locZ := f.locZ, locX := f.locX
      cell := fun y c hc => ⟨hcs y c hc, (f.cell y c hc).2⟩
      cellD := f.cellD
      own := fun y ys hy => ?_
      ownD := fun y w b hy hw ly lw => ?_
      xin := fun a o e => up a o (fun e' => by subst e'; rw [q3] at e; cases e) (f.xin a o e) }
  · rw [lookup_del] at hp
    by_cases hy : y = x
    · rw [if_pos hy] at hp; cases hp
    · rw [if_neg hy] at hp
      obtain ⟨u, lu, ru⟩ := f.ep.var y p hp
      exact ⟨u, l2 y u hy lu, ru⟩
  · rw [lookup_upd] at hy
    by_cases e : y = x
    · rw [if_pos e] at hy; cases hy; subst e; exact ⟨a, vs, n, l1, ha', r, hz, h0, hX⟩
    · rw [if_neg e] at hy
      obtain ⟨b, us, k', l, hb, rl, h1, h2, h3⟩ := f.own y ys hy
      exact ⟨b, us, k', l2 y _ e l, up b _ (fun e' => q4 us k' (e' ▸ hb)) hb, rl, h1, h2, h3⟩
  · rw [lookup_upd] at hy hw
    by_cases e1 : y = x
    · by_cases e2 : w = x
      · rw [e1, e2]
      · rw [if_neg e2] at hw
        subst e1
        have : b = a := by have := ly.unique l1; cases this; rfl
        subst this
        obtain ⟨ws, hws⟩ := Option.isSome_iff_exists.mp hw
        exact absurd (l3 w _ e2 lw) (hnew w ws hws)
    · rw [if_neg e1] at hy
      by_cases e2 : w = x
      · subst e2
        have : b = a := by have := lw.unique l1; cases this; rfl
        subst this
        obtain ⟨ws, hws⟩ := Option.isSome_iff_exists.mp hy
        exact absurd (l3 y _ e1 ly) (hnew y ws hws)
      · rw [if_neg e2] at hw
        exact f.ownD y w b hy hw (l3 y _ e1 ly) (l3 w _ e2 lw)
theorem FS.change {x : Str} {a : Addr} {us : List Value} {n' : Nat} {xs ys : List PV} {h' : Heap} {k : Nat} (f : FS C F g₀ X z s P W) (hx : W.lookup x = some xs) (hl : LookV F.env s.heap x (.ref a))
    (hs : Heap.SameBut a s.heap h') (ha : h'.get? a = some (listO us n')) (r : RepL z ys us) : FS C F g₀ X z { s with heap := h', toks := k } P (upd W x ys) := by
  obtain ⟨a', vs', m', l', ha', rl', hz, h0, hX⟩ := f.own x xs hx
  have ea : a' = a := by have := l'.unique hl; cases this; rfl
  subst ea
  have up : ∀ b o, b ≠ a' → s.heap.get? b = some o → h'.get? b = some o := fun b o hb e => (hs.2 b hb).trans e
  have zk : ∀ b o, z b = some o → h'.get? b = some o := fun b o e => up b o (fun e' => by subst e'; rw [hz] at e; cases e) (f.ep.zin b o e)
  have nl : F.env.locals ≠ a' := fun e => by
    obtain ⟨m, o, es, ep, ho, hd, _⟩ := f.loc
    rw [e, ha'] at ho; cases ho; cases hd
  have nc : ∀ y c, F.env.cells.lookup y = some c → c ≠ a' := fun y c hc e => by
    obtain ⟨⟨v, o, ho, hd⟩, _⟩ := f.cell y c hc
    rw [e, ha'] at ho; cases ho; cases hd
  have l2 : ∀ y u, LookV F.env s.heap y u → LookV F.env h' y u := fun y u q => by
    obtain ⟨hd', q⟩ := q
    refine ⟨hd', ?_⟩
    rcases q with ⟨kd, m', hm', e⟩ | ⟨kd, c, hc, e⟩
    · exact .inl ⟨kd, m', hm'.sameBut hs nl, e⟩
    · exact .inr ⟨kd, c, hc, e.sameBut hs (nc y c hc)⟩
  have l3 : ∀ y u, LookV F.env h' y u → LookV F.env s.heap y u := fun y u q => by
    obtain ⟨hd', q⟩ := q
    refine ⟨hd', ?_⟩
    rcases q with ⟨kd, m', hm', e⟩ | ⟨kd, c, hc, e⟩
    · obtain ⟨m, hn⟩ := f.loc
      have := Ns_unique (hn.sameBut hs nl) hm'; subst this
      exact .inl ⟨kd, m, hn, e⟩
    · obtain ⟨⟨v', hv'⟩, _⟩ := f.cell y c hc
      have := IsCell_unique (hv'.sameBut hs (nc y c hc)) e
      subst this
      exact .inr ⟨kd, c, hc, hv'⟩
  refine
    { ep := ⟨f.ep.fn, f.ep.gl, f.ep.bu, f.ep.hz, zk, fun y p hp => let ⟨u, lu, ru⟩ := f.ep.var y p hp; ⟨u, l2 y u lu, ru⟩, fun y c hc => let ⟨⟨v, hv⟩, _⟩ := f.cell y c hc; ⟨v, hv.sameBut hs (nc y c hc)⟩⟩
      z0 := f.z0, znew := f.znew
      keep := fun b o e => up b o (fun e' => by subst e'; rw [h0] at e; cases e) (f.keep b o e)
      os := f.os, drawn := f.drawn, gens := f.gens, bare := f.bare, loc := let ⟨m, hn⟩ := f.loc; ⟨m, hn.sameBut hs nl⟩, locN := f.locN, locZ := f.locZ, locX := f.locX
      cell := fun y c hc => let ⟨⟨v, hv⟩, q⟩ := f.cell y c hc; ⟨⟨v, hv.sameBut hs (nc y c hc)⟩, q⟩
      cellD := f.cellD
      own := fun y zs hy => ?_
      ownD := fun y w b hy hw ly lw => ?_
      xin := fun b o e => up b o (fun e' => by subst e'; rw [hX] at e; cases e) (f.xin b o e) }
  · rw [lookup_upd] at hy
    by_cases e : y = x
    · rw [if_pos e] at hy; cases hy; subst e; exact ⟨a', us, n', l2 _ _ hl, ha, r, hz, h0, hX⟩
    · rw [if_neg e] at hy
      obtain ⟨b, ws, k', l, hb, rl, h1, h2, h3⟩ := f.own y zs hy
      refine ⟨b, ws, k', l2 y _ l, up b _ (fun e' => e ?_) hb, rl, h1, h2, h3⟩
      subst e'
      exact f.ownD y x b (by rw [hy]; rfl) (by rw [hx]; rfl) l hl
  · have hy' : (W.lookup y).isSome = true := by
      rw [lookup_upd] at hy
      by_cases e : y = x
      · subst e; rw [hx]; rfl
      · rw [if_neg e] at hy; exact hy
    have hw' : (W.lookup w).isSome = true := by
      rw [lookup_upd] at hw
      by_cases e : w = x
      · subst e; rw [hx]; rfl
      · rw [if_neg e] at hw; exact hw
    exact f.ownD y w b hy' hw' (l3 y _ ly) (l3 w _ lw)
theorem FS.thaw {x : Str} {xs : List PV} (f : FS C F g₀ X z s P W) (hx : W.lookup x = some xs) :
    ∃ a o, s.heap.get? a = some o ∧ z a = none ∧ F.s₀.heap.get? a = none ∧ X a = none ∧ LookV F.env s.heap x (.ref a) ∧ ZIn (ZAdd z a o) s ∧ Rep (ZAdd z a o) (.list xs) (.ref a) ∧
      EP C.hb F.env (ZAdd z a o) s (upd P x (.list xs)) := by
  obtain ⟨a, vs, n, l, ha, r, hz, h0, hX⟩ := f.own x xs hx
  have hle : ZLe z (ZAdd z a (listO vs n)) := ZAdd.le hz
  have hin : ZIn (ZAdd z a (listO vs n)) s := ZAdd.in f.ep.zin ha
  have hr : Rep (ZAdd z a (listO vs n)) (.list xs) (.ref a) := rep_list (ZAdd.self _ _ _) (r.mono hle)
  refine ⟨a, _, ha, hz, h0, hX, l, hin, hr, ⟨f.ep.fn, f.ep.gl, f.ep.bu, fun b o e => hle _ _ (f.ep.hz b o e), hin, fun y p hp => ?_, f.ep.cel⟩⟩
  rw [lookup_upd] at hp
  by_cases hy : y = x
  · rw [if_pos hy] at hp; cases hp; subst hy; exact ⟨_, l, hr⟩
  · rw [if_neg hy] at hp
    obtain ⟨u, lu, ru⟩ := f.ep.var y p hp
    exact ⟨u, lu, ru.mono hle⟩
theorem FS.freeze {x : Str} {xs : List PV} (f : FS C F g₀ X z s P W) (hx : W.lookup x = some xs) :
    ∃ z', Mv X z z' ∧ FS C F g₀ X z' s (upd P x (.list xs)) (del W x) := by
  obtain ⟨a, vs, n, l, ha, r, hz, h0, hX⟩ := f.own x xs hx
  have hle : ZLe z (ZAdd z a (listO vs n)) := ZAdd.le hz
  have hin : ZIn (ZAdd z a (listO vs n)) s := ZAdd.in f.ep.zin ha
  have hr : Rep (ZAdd z a (listO vs n)) (.list xs) (.ref a) := rep_list (ZAdd.self _ _ _) (r.mono hle)
  have off : ∀ b, b ≠ a → z b = none → ZAdd z a (listO vs n) b = none := fun b hb e => by unfold ZAdd; rw [if_neg hb]; exact e
  have nl : F.env.locals ≠ a := fun e => by
    obtain ⟨m, o, es, ep, ho, hd, _⟩ := f.loc
    rw [e, ha] at ho; cases ho; cases hd
  have nc : ∀ y c, F.env.cells.lookup y = some c → c ≠ a := fun y c hc e => by
    obtain ⟨⟨v, o, ho, hd⟩, _⟩ := f.cell y c hc
    rw [e, ha] at ho; cases ho; cases hd
  refine ⟨_, ⟨hle, fun b o e => ?_⟩,
    { ep := ⟨f.ep.fn, f.ep.gl, f.ep.bu, fun b o e => hle _ _ (f.ep.hz b o e), hin, fun y p hp => ?_, f.ep.cel⟩
      z0 := f.z0.trans hle
      znew := fun b o e => ?_
      keep := f.keep, os := f.os, drawn := f.drawn, gens := f.gens, bare := f.bare, loc := f.loc, locN := f.locN, locZ := off _ nl f.locZ, locX := f.locX
      cell := fun y c hc => let ⟨p1, p2⟩ := f.cell y c hc; ⟨p1, fun hr => let ⟨q1, q2, q3⟩ := p2 hr; ⟨off _ (nc y c hc) q1, q2, q3⟩⟩
      cellD := f.cellD
      own := fun y ys hy => ?_
      ownD := fun y w b hy hw ly lw => ?_
      xin := f.xin }⟩
  · unfold ZAdd at e
    by_cases hb : b = a
    · subst hb; exact .inr hX
    · rw [if_neg hb] at e; exact .inl e
  · rw [lookup_upd] at hp
    by_cases hy : y = x
    · rw [if_pos hy] at hp; cases hp; subst hy; exact ⟨_, l, hr⟩
    · rw [if_neg hy] at hp
      obtain ⟨u, lu, ru⟩ := f.ep.var y p hp
      exact ⟨u, lu, ru.mono hle⟩
  · unfold ZAdd at e
    by_cases hb : b = a
    · subst hb; exact .inr h0
    · rw [if_neg hb] at e; exact f.znew b o e
  · rw [lookup_del] at hy
    by_cases e : y = x
    · rw [if_pos e] at hy; cases hy
    · rw [if_neg e] at hy
      obtain ⟨b, us, k', lb, hb, rl, h1, h2, h3⟩ := f.own y ys hy
      refine ⟨b, us, k', lb, hb, rl.mono hle, off b (fun e' => e ?_) h1, h2, h3⟩
      subst e'
      exact f.ownD y x b (by rw [hy]; rfl) (by rw [hx]; rfl) lb l
  · rw [lookup_del] at hy hw
    by_cases e1 : y = x
    · rw [if_pos e1] at hy; cases hy
    · by_cases e2 : w = x
      · rw [if_pos e2] at hw; cases hw
      · rw [if_neg e1] at hy; rw [if_neg e2] at hw
        exact f.ownD y w b hy hw ly lw
def PSub {α : Type} (P' P : List (Str × α)) : Prop := ∀ x v, P'.lookup x = some v → P.lookup x = some v
theorem PSub.refl {α : Type} (P : List (Str × α)) : PSub P P := fun _ _ e => e
theorem PSub.nil {α : Type} (P : List (Str × α)) : PSub [] P := fun _ _ e => by cases e
theorem FS.weak {P' : PEnv} {W' : OEnv} (f : FS C F g₀ X z s P W) (hp : PSub P' P) (hw : PSub W' W) : FS C F g₀ X z s P' W' :=
  { f with
    ep := ⟨f.ep.fn, f.ep.gl, f.ep.bu, f.ep.hz, f.ep.zin, fun x pv e => f.ep.var x pv (hp x pv e), f.ep.cel⟩
    own := fun x xs e => f.own x xs (hw x xs e)
    ownD := fun x y a hx hy => f.ownD x y a (by
      obtain ⟨v, e⟩ := Option.isSome_iff_exists.mp hx; rw [hw _ _ e]; rfl) (by
      obtain ⟨v, e⟩ := Option.isSome_iff_exists.mp hy; rw [hw _ _ e]; rfl) }
theorem FS.lessX {X' : Zm} (f : FS C F g₀ X' z s P W) (h : ZLe X X') : FS C F g₀ X z s P W :=
  have no : ∀ a, X' a = none → X a = none := fun a e => by
    cases q : X a with
    | none => rfl
    | some o => rw [h a o q] at e; cases e
  { f with
    locX := no _ f.locX
    cell := fun x c hc => let ⟨a, b⟩ := f.cell x c hc; ⟨a, fun hr => let ⟨p, q, t⟩ := b hr; ⟨p, q, no _ t⟩⟩
    own := fun x xs hx => let ⟨a, vs, n, l, ha, r, h1, h2, h3⟩ := f.own x xs hx; ⟨a, vs, n, l, ha, r, h1, h2, no _ h3⟩
    xin := fun a o e => f.xin a o (h a o e) }
end
inductive Out where
  | next (P : PEnv) (W : OEnv)
  | brk (P : PEnv) (W : OEnv)
  | ret (pv : PV)
def EndO (C : Cst) (F : Fc) (g₀ : Array GenState) (X z : Zm) (o : Out) (fl : Flow) (s' : Shared) : Prop :=
  match o with
  | .next P W => fl = .next ∧ ∃ z', Mv X z z' ∧ FS C F g₀ X z' s' P W
  | .brk P W => fl = .brk ∧ ∃ z', Mv X z z' ∧ FS C F g₀ X z' s' P W
  | .ret pv => ∃ v z', fl = .ret v ∧ Mv X z z' ∧ FS C F g₀ X z' s' [] [] ∧ Rep z' pv v
def Ex1 (C : Cst) (A : Around) (env : Env) (X : Zm) (P : PEnv) (W : OEnv) (st : Stmt) (o : Out) : Prop :=
  ∀ s₀ z₀ g₀ z s, FS C ⟨env, A, s₀, z₀, noRo⟩ g₀ X z s P W → wpAny C.M A (exec st env) (EndO C ⟨env, A, s₀, z₀, noRo⟩ g₀ X z o) noE s
def Ex (C : Cst) (A : Around) (env : Env) (X : Zm) (P : PEnv) (W : OEnv) (ss : List Stmt) (o : Out) : Prop :=
  ∀ s₀ z₀ g₀ z s, FS C ⟨env, A, s₀, z₀, noRo⟩ g₀ X z s P W → wpAny C.M A (execs ss env) (EndO C ⟨env, A, s₀, z₀, noRo⟩ g₀ X z o) noE s
def EvF (C : Cst) (A : Around) (env : Env) (X : Zm) (P : PEnv) (W : OEnv) (e : Expr) (pv : PV) : Prop :=
  ∀ s₀ z₀ g₀ z s, FS C ⟨env, A, s₀, z₀, noRo⟩ g₀ X z s P W → wpAny C.M A (eval e env) (fun v s' => ∃ z', Mv X z z' ∧ FS C ⟨env, A, s₀, z₀, noRo⟩ g₀ X z' s' P W ∧ Rep z' pv v ∧ Kp C.md s s') noE s
def TsF (C : Cst) (A : Around) (env : Env) (X : Zm) (P : PEnv) (W : OEnv) (e : Expr) (b : Bool) : Prop :=
  ∀ s₀ z₀ g₀ z s, FS C ⟨env, A, s₀, z₀, noRo⟩ g₀ X z s P W → wpAny C.M A (isTrue e env (eval e env)) (fun r s' => r = b ∧ ∃ z', Mv X z z' ∧ FS C ⟨env, A, s₀, z₀, noRo⟩ g₀ X z' s' P W) noE s
section
variable {C : Cst} {A : Around} {env : Env} {X : Zm} {P : PEnv} {W : OEnv}
theorem EvF.of {e : Expr} {pv : PV} (h : Ev C A env P e pv) : EvF C A env X P W e pv := fun s₀ z₀ g₀ z s f =>
  wpAny_mono (h s z f.ep) (fun v s' h' => by
    obtain ⟨z', g, r⟩ := h'
    exact ⟨z', g.mv f.xin, f.grow g, r, g.keeps⟩) fun _ _ x => x
theorem TsF.of {e : Expr} {b : Bool} (h : Tst C A env P e b) : TsF C A env X P W e b := fun s₀ z₀ g₀ z s f =>
  wpAny_mono (h s z f.ep) (fun v s' h' => by
    obtain ⟨rfl, k⟩ := h'
    exact ⟨rfl, z, Mv.refl X z, f.grow (Grow.same f.ep.zin k)⟩) fun _ _ x => x
inductive Flat : PV → Prop
  | int (i : Int) : Flat (.int i)
  | str (s : List Nat) : Flat (.str s)
  | bool (b : Bool) : Flat (.bool b)
  | none : Flat .none
theorem Flat.rep {pv : PV} (h : Flat pv) {z z' : Zm} {v : Value} (r : Rep z pv v) : Rep z' pv v := by
  cases h <;> (simp only [Rep] at r ⊢; exact r)
theorem EvF.thaw {e : Expr} {pv : PV} {x : Str} {xs : List PV} (hx : W.lookup x = some xs) (h : Ev C A env (upd P x (.list xs)) e pv) (hf : Flat pv) : EvF C A env X P W e pv := fun s₀ z₀ g₀ z s f => by
  obtain ⟨a, o, ha, hz, h0, hX, l, hin, hr, ep⟩ := f.thaw hx
  refine wpAny_mono (h s _ ep) (fun v s' h' => ?_) fun _ _ x => x
  obtain ⟨z', g, r⟩ := h'
  exact ⟨z, Mv.refl X z, f.grow (Grow.same f.ep.zin g.keeps), hf.rep r, g.keeps⟩
theorem TsF.thaw {e : Expr} {b : Bool} {x : Str} {xs : List PV} (hx : W.lookup x = some xs) (h : Tst C A env (upd P x (.list xs)) e b) : TsF C A env X P W e b := fun s₀ z₀ g₀ z s f => by
  obtain ⟨a, o, ha, hz, h0, hX, l, hin, hr, ep⟩ := f.thaw hx
  refine wpAny_mono (h s _ ep) (fun v s' h' => ?_) fun _ _ x => x
  obtain ⟨rfl, k⟩ := h'
  exact ⟨rfl, z, Mv.refl X z, f.grow (Grow.same f.ep.zin k)⟩
theorem EndO.mv {F : Fc} {g₀ : Array GenState} {z z' : Zm} {o : Out} {fl : Flow} {s' : Shared} (m : Mv X z z') (h : EndO C F g₀ X z' o fl s') : EndO C F g₀ X z o fl s' := by
  cases o with
  | next P W => obtain ⟨rfl, z'', m', f⟩ := h; exact ⟨rfl, z'', m.trans m', f⟩
  | brk P W => obtain ⟨rfl, z'', m', f⟩ := h; exact ⟨rfl, z'', m.trans m', f⟩
  | ret pv => obtain ⟨v, z'', e, m', f⟩ := h; exact ⟨v, z'', e, m.trans m', f⟩
theorem Ex_nil : Ex C A env X P W [] (.next P W) := fun s₀ z₀ g₀ z s f => wpAny_pure ⟨rfl, z, Mv.refl X z, f⟩
theorem Ex_cons {st : Stmt} {ss : List Stmt} {P' : PEnv} {W' : OEnv} {o : Out} (h : Ex1 C A env X P W st (.next P' W')) (h' : Ex C A env X P' W' ss o) : Ex C A env X P W (st :: ss) o := fun s₀ z₀ g₀ z s f => by
  rw [execs_cons]
  refine wpAny_bind (wpAny_mono (h s₀ z₀ g₀ z s f) (fun fl s' q => ?_) fun _ _ x => x)
  obtain ⟨rfl, z', m, f'⟩ := q
  exact wpAny_mono (h' s₀ z₀ g₀ z' s' f') (fun fl s'' q => EndO.mv m q) fun _ _ x => x
theorem Ex_ret {st : Stmt} {ss : List Stmt} {pv : PV} (h : Ex1 C A env X P W st (.ret pv)) : Ex C A env X P W (st :: ss) (.ret pv) := fun s₀ z₀ g₀ z s f => by
  rw [execs_cons]
  refine wpAny_bind (wpAny_mono (h s₀ z₀ g₀ z s f) (fun fl s' q => ?_) fun _ _ x => x)
  obtain ⟨v, z', rfl, q⟩ := q
  exact wpAny_pure ⟨v, z', rfl, q⟩
theorem Ex_brk {st : Stmt} {ss : List Stmt} {P' : PEnv} {W' : OEnv} (h : Ex1 C A env X P W st (.brk P' W')) : Ex C A env X P W (st :: ss) (.brk P' W') := fun s₀ z₀ g₀ z s f => by
  rw [execs_cons]
  refine wpAny_bind (wpAny_mono (h s₀ z₀ g₀ z s f) (fun fl s' q => ?_) fun _ _ x => x)
  obtain ⟨rfl, q⟩ := q
  exact wpAny_pure ⟨rfl, q⟩
theorem Ex_freeze {ss : List Stmt} {o : Out} {x : Str} {xs : List PV} (hx : W.lookup x = some xs) (h : Ex C A env X (upd P x (.list xs)) (del W x) ss o) : Ex C A env X P W ss o := fun s₀ z₀ g₀ z s f => by
  obtain ⟨z', m, f'⟩ := f.freeze hx
  exact wpAny_mono (h s₀ z₀ g₀ z' s f') (fun fl s'' q => EndO.mv m q) fun _ _ x => x
theorem Ex_weak {ss : List Stmt} {o : Out} {P' : PEnv} {W' : OEnv} (h : Ex C A env X P' W' ss o) (hp : PSub P' P) (hw : PSub W' W) : Ex C A env X P W ss o := fun s₀ z₀ g₀ z s f =>
  h s₀ z₀ g₀ z s (f.weak hp hw)
theorem Ex_conseq {ss : List Stmt} {P₁ P₂ : PEnv} {W₁ W₂ : OEnv} (h : Ex C A env X P W ss (.next P₁ W₁)) (hp : PSub P₂ P₁) (hw : PSub W₂ W₁) : Ex C A env X P W ss (.next P₂ W₂) := fun s₀ z₀ g₀ z s f =>
  wpAny_mono (h s₀ z₀ g₀ z s f) (fun fl s' q => let ⟨a, z', m, f'⟩ := q; ⟨a, z', m, f'.weak hp hw⟩) fun _ _ x => x
def Can (env : Env) (x : Str) : Prop := ∃ d, Spot env x d
theorem Can.loc {x : Str} (h : env.kindOf x = some .local) (hd : (x == ("__debug__" : Str)) = false := by decide) : Can env x := ⟨_, hd, .inl ⟨h, rfl⟩⟩
theorem Can.cell {x : Str} (h : env.kindOf x = some .cell) (hc : (env.cells.lookup x).isSome = true) (hd : (x == ("__debug__" : Str)) = false := by decide) : Can env x := by
  obtain ⟨c, e⟩ := Option.isSome_iff_exists.mp hc
  exact ⟨c, hd, .inr ⟨h, e⟩⟩
theorem Ex1_if {test : Expr} {body orelse : List Stmt} {pos : Pos} {b : Bool} {o : Out} (ht : TsF C A env X P W test b) (h1 : b = true → Ex C A env X P W body o) (h2 : b = false → Ex C A env X P W orelse o) :
    Ex1 C A env X P W (.If test body orelse pos) o := fun s₀ z₀ g₀ z s f => by
  show wpAny C.M A (do standAt pos; if ← isTrue test env (eval test env) then execs body env else execs orelse env) _ _ s
  refine wpAny_bind (wpAny_standAt (wpAny_bind (wpAny_mono (ht s₀ z₀ g₀ z s f) (fun r s' q => ?_) fun _ _ x => x)))
  obtain ⟨rfl, z', m, f'⟩ := q
  cases r with
  | true => exact wpAny_mono (h1 rfl s₀ z₀ g₀ z' s' f') (fun fl s'' q => EndO.mv m q) fun _ _ x => x
  | false => exact wpAny_mono (h2 rfl s₀ z₀ g₀ z' s' f') (fun fl s'' q => EndO.mv m q) fun _ _ x => x
theorem Ex1_return {e : Expr} {pos : Pos} {pv : PV} (h : EvF C A env X P W e pv) : Ex1 C A env X P W (.Return (some e) pos) (.ret pv) := fun s₀ z₀ g₀ z s f =>
  wpAny_Return_some (wpAny_mono (h s₀ z₀ g₀ z s f) (fun v s' q => by
    obtain ⟨z', m, f', r, _⟩ := q
    exact ⟨v, z', rfl, m, f'.weak (PSub.nil _) (PSub.nil _), r⟩) fun _ _ x => x)
theorem Ex1_break {pos : Pos} : Ex1 C A env X P W (.Break pos) (.brk P W) := fun s₀ z₀ g₀ z s f => by
  exact wpAny_Break ⟨rfl, z, Mv.refl X z, f⟩
theorem load_name {x : Str} {pv : PV} {s : Shared} {z : Zm} (ep : EP C.hb env z s P) (h : P.lookup x = some pv) {Q : Value → Shared → Prop} (hQ : ∀ v, Rep z pv v → Q v s) : wpAny C.M A (loadName env x) Q noE s := by
  obtain ⟨v, ⟨hd, q⟩, r⟩ := ep.var x pv h
  rcases q with ⟨hl, m, hn, hm⟩ | ⟨hl, c, hc, hv⟩
  · exact wpAny_loadName_local ep.fn hl hn hm (hQ v r)
  · exact wpAny_loadName_cell ep.fn hl hc hv (hQ v r)
theorem Ex1_aug {x : Str} {np pos : Pos} {op : Operator} {value : Expr} {a b c : PV} (hx : Can env x) (hl : P.lookup x = some a) (hv : Ev C A env P value b) (ho : Op2 C A (inplaceOp op) a b c) :
    Ex1 C A env X P W (.AugAssign (.Name x np) op value pos) (.next (upd P x c) (del W x)) := fun s₀ z₀ g₀ z s f => by
  obtain ⟨d, hx⟩ := hx
  refine wpAny_AugAssign_Name (load_name f.ep hl fun va ra => ?_)
  refine wpAny_mono (hv s z f.ep) (fun vb s₁ h₁ => ?_) fun _ _ x => x
  obtain ⟨z₁, g₁, rb⟩ := h₁
  refine wpAny_mono (ho s₁ z₁ va vb g₁.zin (ra.mono g₁.sub) rb) (fun vc s₂ h₂ => ?_) fun _ _ x => x
  obtain ⟨z₂, g₂, rc⟩ := h₂
  have G := g₁.trans g₂
  refine wpAny_mono ((f.grow G).store (F := ⟨env, A, s₀, z₀, noRo⟩) hx rfl rc) (fun _ s₃ f₃ => ?_) fun _ _ x => x
  exact ⟨rfl, z₂, G.mv f.xin, f₃⟩
theorem Ex1_assign {x : Str} {px pos : Pos} {value : Expr} {a : PV} (hx : Can env x) (hv : EvF C A env X P W value a) (hs : swapsWith value (some (.Name x px)) pos.line env = pure false := by rfl) :
    Ex1 C A env X P W (.Assign [.Name x px] value pos) (.next (upd P x a) (del W x)) := fun s₀ z₀ g₀ z s f => by
  obtain ⟨d, hx⟩ := hx
  refine wpAny_Assign_Name (wpAny_mono (hv s₀ z₀ g₀ z s f) (fun v s₁ h₁ => ?_) fun _ _ x => x) hs
  obtain ⟨z₁, m, f₁, r, _⟩ := h₁
  refine wpAny_mono (f₁.store (F := ⟨env, A, s₀, z₀, noRo⟩) hx rfl r) (fun _ s₃ f₃ => ?_) fun _ _ x => x
  exact ⟨rfl, z₁, m, f₃⟩
def PostNF (C : Cst) (F : Fc) (g₀ : Array GenState) (X : Zm) (P : PEnv) (W : OEnv) (z : Zm) (s : Shared) (xs : List PV) (v : Value) (s' : Shared) : Prop :=
  ∃ z' a vs n, v = .ref a ∧ Mv X z z' ∧ FS C F g₀ X z' s' P W ∧ s'.heap.get? a = some (listO vs n) ∧ RepL z' xs vs ∧ z' a = none ∧ s.heap.get? a = none ∧ ∀ y ys, W.lookup y = some ys → ¬ LookV F.env s'.heap y (.ref a)
def EvNF (C : Cst) (A : Around) (env : Env) (X : Zm) (P : PEnv) (W : OEnv) (e : Expr) (xs : List PV) : Prop :=
  ∀ s₀ z₀ g₀ z s, FS C ⟨env, A, s₀, z₀, noRo⟩ g₀ X z s P W → wpAny C.M A (eval e env) (PostNF C ⟨env, A, s₀, z₀, noRo⟩ g₀ X P W z s xs) noE s
theorem FS.notOwn {F : Fc} {g₀ : Array GenState} {z : Zm} {s s' : Shared} (f : FS C F g₀ X z s P W) (k : ∀ b o, s.heap.get? b = some o → s'.heap.get? b = some o) {a : Addr} (hn : s.heap.get? a = none) :
    ∀ y ys, W.lookup y = some ys → ¬ LookV F.env s'.heap y (.ref a) := fun y ys hy l => by
  obtain ⟨b, vs, n, lb, hb, _⟩ := f.own y ys hy
  have := lb.unique (l.back k f.loc fun x c hc => (f.cell x c hc).1)
  cases this
  rw [hn] at hb; cases hb
theorem EvNF.of {e : Expr} {xs : List PV} (h : EvN C A env P e xs) : EvNF C A env X P W e xs := fun s₀ z₀ g₀ z s f =>
  wpAny_mono (h s z f.ep) (fun v s' h' => by
    obtain ⟨z', a, vs, n, rfl, g, ha, r, hz, hn⟩ := h'
    exact ⟨z', a, vs, n, rfl, g.mv f.xin, f.grow g, ha, r, hz, hn, f.notOwn g.keeps.old hn⟩) fun _ _ x => x
theorem RepL.flat {z z' : Zm} : ∀ {xs : List PV} {vs : List Value}, (∀ x ∈ xs, Flat x) → RepL z xs vs → RepL z' xs vs
  | [], _, _, r => by simpa only [RepL] using r
  | x :: xs, _, h, r => by
    simp only [RepL] at r ⊢
    obtain ⟨v, r', e, q, l⟩ := r
    exact ⟨v, r', e, (h x List.mem_cons_self).rep q, RepL.flat (fun y hy => h y (List.mem_cons_of_mem _ hy)) l⟩
theorem EvNF.thaw {e : Expr} {xs ys : List PV} {x : Str} (hx : W.lookup x = some ys) (h : EvN C A env (upd P x (.list ys)) e xs) (hf : ∀ y ∈ xs, Flat y) : EvNF C A env X P W e xs := fun s₀ z₀ g₀ z s f => by
  obtain ⟨a, o, ha, hz, h0, hX, l, hin, hr, ep⟩ := f.thaw hx
  refine wpAny_mono (h s _ ep) (fun v s' h' => ?_) fun _ _ x => x
  obtain ⟨z', b, vs, n, rfl, g, hb, r, hz', hn⟩ := h'
  have k : Kp C.md s s' := g.keeps
  exact ⟨z, b, vs, n, rfl, Mv.refl X z, f.grow (Grow.same f.ep.zin k), hb, RepL.flat hf r, fresh_none f.ep.zin hn, hn, f.notOwn k.old hn⟩
theorem Ex1_assignN {x : Str} {px pos : Pos} {value : Expr} {xs : List PV} (hx : Can env x) (hv : EvNF C A env X P W value xs) (hs : swapsWith value (some (.Name x px)) pos.line env = pure false := by rfl) :
    Ex1 C A env X P W (.Assign [.Name x px] value pos) (.next (del P x) (upd W x xs)) := fun s₀ z₀ g₀ z s f => by
  obtain ⟨d, hx⟩ := hx
  refine wpAny_Assign_Name (wpAny_mono (hv s₀ z₀ g₀ z s f) (fun v s₁ h₁ => ?_) fun _ _ x => x) hs
  obtain ⟨z', a, vs, n, rfl, m, f₁, ha, r, hz, hn, hnew⟩ := h₁
  have h0 : s₀.heap.get? a = none := by
    cases q : s₀.heap.get? a with
    | none => rfl
    | some o => have := f.keep a o q; rw [hn] at this; cases this
  have hX : X a = none := by
    cases q : X a with
    | none => rfl
    | some o => have := f.xin a o q; rw [hn] at this; cases this
  refine wpAny_mono (f₁.storeOwn (F := ⟨env, A, s₀, z₀, noRo⟩) hx rfl ha r hz h0 hX hnew) (fun _ s₃ f₃ => ?_) fun _ _ x => x
  exact ⟨rfl, z', m, f₃⟩
theorem setItem_exact {a : Addr} {vs : List Value} {n : Nat} {k : Int} {t : Tok} {v : Value} {s : Shared} {Q : Unit → Shared → Prop} (ho : s.heap.get? a = some (listO vs n)) (h0 : 0 ≤ k) (hf : k < 2 ^ 62) (hn : k < vs.length)
    (hQ : ∀ h' n', h'.get? a = some (listO (vs.set k.toNat v) n') → Heap.SameBut a s.heap h' → Q () { s with heap := h' }) : wpAny C.M A (setItem (.ref a) (.int k t) v) Q noE s := by
  have hl : s.heap.IsList a vs.toArray := ⟨_, ho, rfl, n, rfl⟩
  unfold setItem
  refine wpAny_holding ?_
  refine wpAny_bind (wpAny_sequenceKey hl.typeIs (by decide) ?_)
  refine wpAny_bind (wpAny_callSpecial?_slot (name := Str.ofString "__setitem__") hl.typeIs slot_list_setitem (wpAny_call_entry slot_list_setitem hl.typeIs entry_list_setitem ?_ (args_list_setitem _ _ _)))
  show wpAny _ _ (Builtin.List.listSubscript? (.int k t) >>= _) _ _ s
  refine wpAny_bind (wpAny_listSubscript_int (fitsIndex_of h0 (by omega)) ?_)
  clear hf
  obtain ⟨j, rfl⟩ := Int.eq_ofNat_of_zero_le h0
  have hj : j < vs.toArray.size := by simp; omega
  show wpAny _ _ ((seqItemAt a j >>= fun r => pure (r.map (j, ·))) >>= _) _ _ s
  refine wpAny_bind (wpAny_bind (wpAny_seqItemAt ho rfl (wpAny_pure ?_)))
  rw [Array.getElem?_eq_getElem hj]
  show wpAny _ _ (setSeqItemAt a j v >>= _) _ _ s
  refine wpAny_bind (wpAny_setSeqItemAt ho rfl ?_)
  have e : Obj.mapSeq (·.setIfInBounds j v) (listO vs n) = listO (vs.set j v) n := by simp [Obj.mapSeq]
  have fin : Q () { s with heap := s.heap.update a (Obj.mapSeq (·.setIfInBounds j v)) } :=
    hQ _ n (by rw [Heap.get?_update_self _ ho (by rw [e]; rfl), e]; rfl) (Heap.SameBut.update ..)
  first
    | exact wpAny_bind (wpAny_pure (wpAny_pure ⟨.none, rfl, wpAny_pure fin⟩))
    | exact wpAny_pure ⟨.none, rfl, wpAny_pure fin⟩
theorem RepL.set {z : Zm} : ∀ {xs : List PV} {vs : List Value} (i : Nat) {x : PV} {v : Value}, RepL z xs vs → Rep z x v → RepL z (xs.set i x) (vs.set i v)
  | [], _, _, _, _, r, _ => by simp only [RepL] at r; subst r; simp [RepL]
  | y :: ys, _, i, x, v, r, q => by
    simp only [RepL] at r
    obtain ⟨u, r', rfl, h, l⟩ := r
    cases i with
    | zero => exact repL_cons q l
    | succ j => exact repL_cons h (RepL.set j l q)
theorem Ex1_setitem {x : Str} {np px pos : Pos} {idx value : Expr} {ys : List PV} {k : Int} {a : PV} (hx : W.lookup x = some ys) (hd : (x == ("__debug__" : Str)) = false := by decide)
    (hv : EvF C A env X P W value a) (hi : Ev C A env P idx (.int k)) (h0 : 0 ≤ k) (hk : k < ys.length) (hf : k < 2 ^ 62)
    (hs : swapsWith value (some (.Subscript (.Name x np) idx px)) pos.line env = pure false := by rfl) :
    Ex1 C A env X P W (.Assign [.Subscript (.Name x np) idx px] value pos) (.next P (upd W x (ys.set k.toNat a))) := fun s₀ z₀ g₀ z s f => by
  refine wpAny_Assign_Subscript (wpAny_mono (hv s₀ z₀ g₀ z s f) (fun v s₁ h₁ => ?_) fun _ _ x => x) hs
  obtain ⟨z₁, m₁, f₁, r, _⟩ := h₁
  obtain ⟨b, vs, n, l, hb, rl, hz, h0', hX⟩ := f₁.own x ys hx
  have hload : wpAny C.M A (eval (.Name x np) env) (fun v s' => v = .ref b ∧ s' = s₁) noE s₁ := by
    obtain ⟨_, q⟩ := l
    refine wpAny_Name ?_ hd
    rcases q with ⟨hl, m, hn, hm⟩ | ⟨hl, c, hc, hv⟩
    · exact wpAny_loadName_local f₁.ep.fn hl hn hm ⟨rfl, rfl⟩
    · exact wpAny_loadName_cell f₁.ep.fn hl hc hv ⟨rfl, rfl⟩
  refine wpAny_mono hload (fun ov s₂ h₂ => ?_) fun _ _ x => x
  obtain ⟨rfl, rfl⟩ := h₂
  refine wpAny_mono (hi s₂ z₁ f₁.ep) (fun iv s₃ h₃ => ?_) fun _ _ x => x
  obtain ⟨z₃, g₃, r₃⟩ := h₃
  simp only [Rep] at r₃
  obtain ⟨t, rfl⟩ := r₃
  have f₃ := f₁.grow g₃
  have hlen := rl.length
  refine setItem_exact (g₃.keeps.old _ _ hb) h0 hf (by omega) fun h' n' ha hsb => ?_
  exact ⟨rfl, z₃, m₁.trans (g₃.mv f₁.xin), f₃.change hx (l.keeps g₃.keeps.old) hsb ha ((rl.mono g₃.sub).set _ (r.mono g₃.sub))⟩
theorem Ex1_append {x : Str} {np apos cpos pos : Pos} {value : Expr} {ys : List PV} {a : PV} (hx : W.lookup x = some ys) (hv : EvF C A env X P W value a) (hy : ys.length ≤ 1000000)
    (hsw : swapsWith (.Call (.Attribute (.Name x np) "append" apos) [value] [] cpos) none pos.line env = pure false := by rfl) (hns : noStar value = true := by rfl) (hline : (apos.endLine == cpos.line) = true := by rfl)
    (hm : env.scope.kind = .function) (hd : (x == ("__debug__" : Str)) = false := by decide) :
    Ex1 C A env X P W (.Expr (.Call (.Attribute (.Name x np) "append" apos) [value] [] cpos) pos) (.next P (upd W x (ys ++ [a]))) := fun s₀ z₀ g₀ z s f => by
  obtain ⟨b, vs, n, l, hb, rl, hz, h0', hX⟩ := f.own x ys hx
  have hload : wpAny C.M A (eval (.Name x np) env) (fun v s' => v = .ref b ∧ s' = s) noE s := by
    obtain ⟨_, q⟩ := l
    refine wpAny_Name ?_ hd
    rcases q with ⟨hl, m, hn, hm⟩ | ⟨hl, c, hc, hv⟩
    · exact wpAny_loadName_local f.ep.fn hl hn hm ⟨rfl, rfl⟩
    · exact wpAny_loadName_cell f.ep.fn hl hc hv ⟨rfl, rfl⟩
  refine wpAny_Expr ?_ (by simp [interactive, hm]) hsw
  refine wpAny_Call_append rfl ?_ hline (by rw [starEach_cons hns]; rfl) ?_
  · rw [starEach_cons hns]; rfl
  refine wpAny_mono hload (fun ov s₂ h₂ => ?_) fun _ _ x => x
  obtain ⟨rfl, rfl⟩ := h₂
  refine ⟨b, vs.toArray, rfl, ⟨_, n, hb, rfl, rfl, rfl⟩, ?_⟩
  refine wpAny_mono (hv s₀ z₀ g₀ z s₂ f) (fun v s₁ h₁ => ?_) fun _ _ x => x
  obtain ⟨z₁, m₁, f₁, r, k₁⟩ := h₁
  have l₁ := l.keeps k₁.old
  have hlen := rl.length
  obtain ⟨b', vs', n', l', hb', rl', _⟩ := f₁.own x ys hx
  have eb : b' = b := by have := l'.unique l₁; cases this; rfl
  subst eb
  have e1 := k₁.old _ _ hb
  rw [e1] at hb'
  have hv' : vs' = vs := by
    have := (congrArg (fun o : Option Obj => o.map (·.data)) hb').symm
    simp at this
    exact this.1
  subst hv'
  refine wpAny_list_append_plain (hsz := by simp [sizeLine]; omega) ⟨n, e1⟩ fun h' hp hsb => ?_
  obtain ⟨n'', ha⟩ := hp
  refine ⟨rfl, z₁, m₁, f₁.change hx l₁ hsb (us := vs' ++ [v]) (n' := n'') (by rw [ha]; simp) (rl'.append (repL_cons r repL_nil))⟩
end
end Mine
namespace Mine
def HbZ (C : Cst) (z : Zm) : Prop := ∀ a o, C.hb.get? a = some o → z a = some o
structure WG (md : Bool) (Wr : Addr → Prop) (z : Zm) (s : Shared) (z' : Zm) (s' : Shared) : Prop where
  same : ∃ h' tk gs, s' = { s with heap := h', toks := tk, gens := gs }
  old : ∀ b o, ¬ Wr b → s.heap.get? b = some o → s'.heap.get? b = some o
  sub : ZLe z z'
  zin : ZIn z' s'
  new : ∀ a o, z' a = some o → z a = some o ∨ s.heap.get? a = none
  gens : md = true → s'.gens = s.gens
  bare : AllBare s.gens → AllBare s'.gens
structure Itr (C : Cst) (A : Around) (it : Value) (gen : Bool) (St : List PV → (Addr → Prop) → Zm → Shared → Prop) : Prop where
  frame : ∀ xs Wr z s z' s', St xs Wr z s → ZLe z z' → ZIn z' s' → HbZ C z' → (∀ a o, Wr a → s.heap.get? a = some o → s'.heap.get? a = some o) → (gen = true → s'.gens = s.gens) → St xs Wr z' s'
  live : ∀ xs Wr z s, St xs Wr z s → ∀ a, Wr a → (s.heap.get? a).isSome = true
  item : ∀ x xs Wr z s, HbZ C z → ZIn z s → (∀ a, Wr a → z a = none) → St (x :: xs) Wr z s → wpAny C.M A (pyNext it) (fun r s' => ∃ v z' Wr', r = some v ∧ WG C.md Wr z s z' s' ∧
    (∀ a, Wr a → Wr' a) ∧ (∀ a, Wr' a → Wr a ∨ s.heap.get? a = none) ∧ (∀ a, Wr' a → z' a = none) ∧ Rep z' x v ∧ St xs Wr' z' s') noE s
  done : ∀ Wr z s, HbZ C z → ZIn z s → (∀ a, Wr a → z a = none) → St [] Wr z s → wpAny C.M A (pyNext it) (fun r s' => r = none ∧ WG C.md Wr z s z s') noE s
  self : ∀ xs Wr z s, St xs Wr z s → wpAny C.M A (pyIter it) (fun r s' => r = it ∧ s' = s) noE s
  let_ : ∀ xs Wr z s tgt v, St xs Wr z s → wpAny C.M A (letOwnedTupleGo tgt it v) (fun _ s' => s' = s) noE s
structure WrOk (F : Fc) (X z : Zm) (s : Shared) (W : OEnv) (Wr : Addr → Prop) : Prop where
  z : ∀ a, Wr a → z a = none
  s0 : ∀ a, Wr a → F.s₀.heap.get? a = none
  x : ∀ a, Wr a → X a = none
  loc : ¬ Wr F.env.locals
  cell : ∀ x c, F.env.cells.lookup x = some c → ¬ Wr c
  own : ∀ x xs a, W.lookup x = some xs → LookV F.env s.heap x (.ref a) → ¬ Wr a
def ItE (C : Cst) (A : Around) (env : Env) (P : PEnv) (iter : Expr) (gen : Bool) (items : List PV) : Prop :=
  ∀ s z, EP C.hb env z s P → wpAny C.M A (eval iter env) (fun x s₁ => wpAny C.M A (pyIter x) (fun it s₂ =>
    ∃ z₂ Wr St, Grow C.md z s z₂ s₂ ∧ (∀ a, Wr a → z₂ a = none ∧ s.heap.get? a = none) ∧ Itr C A it gen St ∧ St items Wr z₂ s₂) noE s₁) noE s
def ItF (C : Cst) (A : Around) (env : Env) (X : Zm) (P : PEnv) (W : OEnv) (iter : Expr) (gen : Bool) (items : List PV) : Prop :=
  ∀ s₀ z₀ g₀ z s, FS C ⟨env, A, s₀, z₀, noRo⟩ g₀ X z s P W → wpAny C.M A (eval iter env) (fun x s₁ => wpAny C.M A (pyIter x) (fun it s₂ =>
    ∃ z₂ Wr St, Mv X z z₂ ∧ FS C ⟨env, A, s₀, z₀, noRo⟩ g₀ X z₂ s₂ P W ∧ WrOk ⟨env, A, s₀, z₀, noRo⟩ X z₂ s₂ W Wr ∧ Itr C A it gen St ∧ St items Wr z₂ s₂) noE s₁) noE s
section
variable {C : Cst} {F : Fc} {g₀ : Array GenState} {X z : Zm} {s : Shared} {P : PEnv} {W : OEnv} {Wr : Addr → Prop}
theorem FS.wrOk {z' : Zm} {s' : Shared} (f : FS C F g₀ X z s P W) (f' : FS C F g₀ X z' s' P W) (k : ∀ b o, s.heap.get? b = some o → s'.heap.get? b = some o) (h : ∀ a, Wr a → z' a = none ∧ s.heap.get? a = none) : WrOk F X z' s' W Wr where
  z := fun a w => (h a w).1
  s0 := fun a w => by
    cases q : F.s₀.heap.get? a with
    | none => rfl
    | some o => have := f.keep a o q; rw [(h a w).2] at this; cases this
  x := fun a w => by
    cases q : X a with
    | none => rfl
    | some o => have := f.xin a o q; rw [(h a w).2] at this; cases this
  loc := fun w => by
    obtain ⟨m, o, es, ep, ho, _⟩ := f.loc
    have := (h _ w).2
    rw [ho] at this; cases this
  cell := fun x c hc w => by
    obtain ⟨⟨v, o, ho, _⟩, _⟩ := f.cell x c hc
    have := (h _ w).2
    rw [ho] at this; cases this
  own := fun x xs a hx l w => by
    exact f.notOwn k (h a w).2 x xs hx l
theorem ItF.of {A : Around} {env : Env} {iter : Expr} {gen : Bool} {items : List PV} (h : ItE C A env P iter gen items) : ItF C A env X P W iter gen items := fun s₀ z₀ g₀ z s f =>
  wpAny_mono (h s z f.ep) (fun x s₁ h₁ => wpAny_mono h₁ (fun it s₂ h₂ => by
    obtain ⟨z₂, Wr, St, g, hw, I, st⟩ := h₂
    exact ⟨z₂, Wr, St, g.mv f.xin, f.grow g, f.wrOk (f.grow g) g.keeps.old hw, I, st⟩) fun _ _ x => x) fun _ _ x => x
theorem LookV.keeps' {env : Env} {h h' : Heap} {x : Str} {v : Value} (q : LookV env h x v) (hl : ∀ o, h.get? env.locals = some o → h'.get? env.locals = some o)
    (hc : ∀ c o, env.cells.lookup x = some c → h.get? c = some o → h'.get? c = some o) : LookV env h' x v := by
  obtain ⟨hd, q⟩ := q
  refine ⟨hd, ?_⟩
  rcases q with ⟨k, m, hn, hm⟩ | ⟨k, c, hcl, o, ho, hv⟩
  · exact .inl ⟨k, m, hn.at' hl, hm⟩
  · exact .inr ⟨k, c, hcl, o, hc c o hcl ho, hv⟩
theorem FS.wg {z' : Zm} {s' : Shared} (f : FS C F g₀ X z s P W) (w : WrOk F X z s W Wr) (hlive : ∀ a, Wr a → (s.heap.get? a).isSome = true) (g : WG C.md Wr z s z' s') :
    Mv X z z' ∧ FS C F g₀ X z' s' P W ∧ WrOk F X z' s' W Wr := by
  have kl : ∀ o, s.heap.get? F.env.locals = some o → s'.heap.get? F.env.locals = some o := fun o e => g.old _ o w.loc e
  have kc : ∀ x c o, F.env.cells.lookup x = some c → s.heap.get? c = some o → s'.heap.get? c = some o := fun x c o hc e => g.old c o (w.cell x c hc) e
  have fw : ∀ x v, LookV F.env s.heap x v → LookV F.env s'.heap x v := fun x v l => l.keeps' kl fun c o hc e => kc x c o hc e
  have bk : ∀ x v, LookV F.env s'.heap x v → LookV F.env s.heap x v := fun x v l => by
    obtain ⟨hd, q⟩ := l
    refine ⟨hd, ?_⟩
    rcases q with ⟨k, m, hn, hm⟩ | ⟨k, c, hcl, hv⟩
    · obtain ⟨m', hn'⟩ := f.loc
      have := Ns_unique (hn'.at' kl) hn
      subst this
      exact .inl ⟨k, m', hn', hm⟩
    · obtain ⟨⟨v', o, ho, hd'⟩, _⟩ := f.cell x c hcl
      have := IsCell_unique ⟨o, kc x c o hcl ho, hd'⟩ hv
      subst this
      exact .inr ⟨k, c, hcl, o, ho, hd'⟩
  have zn : ∀ a o, s.heap.get? a = some o → z a = none → z' a = none := fun a o e q => by
    cases e' : z' a with
    | none => rfl
    | some p =>
      rcases g.new a p e' with h | h
      · rw [q] at h; cases h
      · rw [e] at h; cases h
  obtain ⟨h', tk, gs, es⟩ := g.same
  have hos : s'.os = s.os := by rw [es]
  have hdr : s'.drawn = s.drawn := by rw [es]
  have m : Mv X z z' := ⟨g.sub, fun a o e => by
    rcases g.new a o e with q | q
    · exact .inl q
    · refine .inr ?_
      cases e' : X a with
      | none => rfl
      | some p => rw [f.xin a p e'] at q; cases q⟩
  refine ⟨m,
    { ep := ⟨f.ep.fn, f.ep.gl, f.ep.bu, fun a o e => g.sub _ _ (f.ep.hz a o e), g.zin, fun x pv hx => let ⟨v, l, r⟩ := f.ep.var x pv hx; ⟨v, fw x v l, r.mono g.sub⟩, fun x c hc => let ⟨⟨v, o, ho, hd⟩, _⟩ := f.cell x c hc; ⟨v, o, kc x c o hc ho, hd⟩⟩
      z0 := f.z0.trans g.sub
      znew := fun a o e => ?_
      keep := fun b o e => g.old b o (fun q => by rw [w.s0 b q] at e; cases e) (f.keep b o e)
      os := hos.trans f.os, drawn := hdr.trans f.drawn
      gens := fun h => (g.gens h).trans (f.gens h)
      bare := fun h => g.bare (f.bare h)
      loc := let ⟨m, hn⟩ := f.loc; ⟨m, hn.at' kl⟩
      locN := f.locN
      locZ := by obtain ⟨_, o, _, _, ho, _⟩ := f.loc; exact zn _ o ho f.locZ
      locX := f.locX
      cell := fun x c hc => ?_
      cellD := f.cellD
      own := fun x xs hx => ?_
      ownD := fun x y a hx hy lx ly => f.ownD x y a hx hy (bk x _ lx) (bk y _ ly)
      xin := fun a o e => g.old a o (fun q => by rw [w.x a q] at e; cases e) (f.xin a o e) },
    { z := fun a q => ?_, s0 := w.s0, x := w.x, loc := w.loc, cell := w.cell, own := fun x xs a hx l => w.own x xs a hx (bk x _ l) }⟩
  · rcases g.new a o e with h | h
    · exact f.znew a o h
    · refine .inr ?_
      cases q : F.s₀.heap.get? a with
      | none => rfl
      | some p => rw [f.keep a p q] at h; cases h
  · obtain ⟨⟨v, o, ho, hd⟩, hh⟩ := f.cell x c hc
    exact ⟨⟨v, o, kc x c o hc ho, hd⟩, fun hr => let ⟨h1, h2, h3⟩ := hh hr; ⟨zn c o ho h1, h2, h3⟩⟩
  · obtain ⟨a, vs, n, l, ha, r, h1, h2, h3⟩ := f.own x xs hx
    exact ⟨a, vs, n, fw x _ l, g.old a _ (w.own x xs a hx l) ha, r.mono g.sub, zn a _ ha h1, h2, h3⟩
  · obtain ⟨o, ho⟩ := Option.isSome_iff_exists.mp (hlive a q)
    exact zn a o ho (w.z a q)
theorem WrOk.more {z' : Zm} {s' : Shared} {Wr' : Addr → Prop} (f : FS C F g₀ X z s P W) (f' : FS C F g₀ X z' s' P W) (w : WrOk F X z' s' W Wr) (g : ∀ b o, ¬ Wr b → s.heap.get? b = some o → s'.heap.get? b = some o)
    (h : ∀ a, Wr' a → Wr a ∨ s.heap.get? a = none) (hz : ∀ a, Wr' a → z' a = none) : WrOk F X z' s' W Wr' where
  z := hz
  s0 := fun a q => by
    rcases h a q with q | q
    · exact w.s0 a q
    · cases e : F.s₀.heap.get? a with
      | none => rfl
      | some o => have := f.keep a o e; rw [q] at this; cases this
  x := fun a q => by
    rcases h a q with q | q
    · exact w.x a q
    · cases e : X a with
      | none => rfl
      | some o => have := f.xin a o e; rw [q] at this; cases this
  loc := fun q => by
    rcases h _ q with q | q
    · exact w.loc q
    · obtain ⟨m, o, es, ep, ho, _⟩ := f.loc
      rw [ho] at q; cases q
  cell := fun x c hc q => by
    rcases h _ q with q | q
    · exact w.cell x c hc q
    · obtain ⟨⟨v, o, ho, _⟩, _⟩ := f.cell x c hc
      rw [ho] at q; cases q
  own := fun x xs a hx l q => by
    rcases h _ q with q | q
    · exact w.own x xs a hx l q
    · obtain ⟨b, vs, n, lb, hb, _⟩ := f.own x xs hx
      have l' : LookV F.env s'.heap x (.ref b) := lb.keeps' (fun o e => g _ o w.loc e) fun c o hc e => g c o (w.cell x c hc) e
      have := l'.unique l
      cases this
      rw [hb] at q; cases q
open Classical in
noncomputable def XW (X : Zm) (Wr : Addr → Prop) (s : Shared) : Zm := fun a => if Wr a then s.heap.get? a else X a
theorem XW.wr {X : Zm} {Wr : Addr → Prop} {s : Shared} {a : Addr} (h : Wr a) : XW X Wr s a = s.heap.get? a := by unfold XW; rw [if_pos h]
theorem XW.no {X : Zm} {Wr : Addr → Prop} {s : Shared} {a : Addr} (h : ¬ Wr a) : XW X Wr s a = X a := by unfold XW; rw [if_neg h]
theorem XW.le {X : Zm} {Wr : Addr → Prop} {s : Shared} (h : ∀ a, Wr a → X a = none) : ZLe X (XW X Wr s) := fun a o e => by
  by_cases q : Wr a
  · rw [h a q] at e; cases e
  · rw [XW.no q]; exact e
abbrev Cst.mode (C : Cst) (m : Bool) : Cst := { C with md := m }
theorem FS.intoBody (f : FS C F g₀ X z s P W) (w : WrOk F X z s W Wr) (mb : Bool) : FS (C.mode mb) F s.gens (XW X Wr s) z s P W where
  ep := f.ep
  z0 := f.z0
  znew := f.znew
  keep := f.keep
  os := f.os
  drawn := f.drawn
  gens := fun _ => rfl
  bare := f.bare
  loc := f.loc
  locN := f.locN
  locZ := f.locZ
  locX := by rw [XW.no w.loc]; exact f.locX
  cell := fun x c hc => let ⟨a, b⟩ := f.cell x c hc; ⟨a, fun hr => let ⟨p, q, t⟩ := b hr; ⟨p, q, by rw [XW.no (w.cell x c hc)]; exact t⟩⟩
  cellD := f.cellD
  own := fun x xs hx => let ⟨a, vs, n, l, ha, r, h1, h2, h3⟩ := f.own x xs hx; ⟨a, vs, n, l, ha, r, h1, h2, by rw [XW.no (w.own x xs a hx l)]; exact h3⟩
  ownD := f.ownD
  xin := fun a o e => by
    by_cases q : Wr a
    · rw [XW.wr q] at e; exact e
    · rw [XW.no q] at e; exact f.xin a o e
theorem FS.outOfBody {mb : Bool} {z' : Zm} {s' : Shared} {P' : PEnv} {W' : OEnv} (hm : C.md = true → mb = true) (f : FS C F g₀ X z s P W) (w : WrOk F X z s W Wr) (hlive : ∀ a, Wr a → (s.heap.get? a).isSome = true)
    (m : Mv (XW X Wr s) z z') (f' : FS (C.mode mb) F s.gens (XW X Wr s) z' s' P' W') : Mv X z z' ∧ FS C F g₀ X z' s' P' W' ∧ WrOk F X z' s' W' Wr ∧ (∀ a o, Wr a → s.heap.get? a = some o → s'.heap.get? a = some o) ∧ (mb = true → s'.gens = s.gens) := by
  have hle : ZLe X (XW X Wr s) := XW.le w.x
  have nn : ∀ a, Wr a → XW X Wr s a ≠ none := fun a q e => by
    rw [XW.wr q] at e
    have := hlive a q
    rw [e] at this; cases this
  have fl := f'.lessX hle
  refine ⟨m.less hle, ⟨f'.ep, f'.z0, f'.znew, f'.keep, f'.os, f'.drawn, fun h => (f'.gens (hm h)).trans (f.gens h), f'.bare, f'.loc, f'.locN, f'.locZ, fl.locX, fl.cell, f'.cellD, fl.own, f'.ownD, fl.xin⟩,
    ⟨fun a q => ?_, w.s0, w.x, w.loc, w.cell, fun x xs a hx l q => ?_⟩, fun a o q e => f'.xin a o (by rw [XW.wr q]; exact e), fun h => f'.gens h⟩
  · cases e : z' a with
    | none => rfl
    | some o =>
      rcases m.new a o e with h | h
      · rw [w.z a q] at h; cases h
      · exact absurd h (nn a q)
  · obtain ⟨b, vs, n, lb, _, _, _, _, h3⟩ := f'.own x xs hx
    have := lb.unique l
    cases this
    exact nn a q h3
def AsgT (C : Cst) (A : Around) (env : Env) (ro : Str → Bool) (tgt : Expr) (x : PV) (P : PEnv) (W : OEnv) (P' : PEnv) (W' : OEnv) : Prop :=
  ∀ X s₀ z₀ g₀ z s v, FS C ⟨env, A, s₀, z₀, ro⟩ g₀ X z s P W → Rep z x v → wpAny C.M A (assign tgt env v) (fun _ s' => ∃ z', Mv X z z' ∧ FS C ⟨env, A, s₀, z₀, ro⟩ g₀ X z' s' P' W') noE s
inductive Lp (B : PV → PEnv → OEnv → Out → Prop) : List PV → PEnv → OEnv → Out → Prop
  | nil : ∀ {P : PEnv} {W : OEnv}, Lp B [] P W (.next P W)
  | step : ∀ {x : PV} {xs : List PV} {P : PEnv} {W : OEnv} {P' : PEnv} {W' : OEnv} {o : Out}, B x P W (.next P' W') → Lp B xs P' W' o → Lp B (x :: xs) P W o
  | brk : ∀ {x : PV} {xs : List PV} {P : PEnv} {W : OEnv} {P' : PEnv} {W' : OEnv}, B x P W (.brk P' W') → Lp B (x :: xs) P W (.next P' W')
  | ret : ∀ {x : PV} {xs : List PV} {P : PEnv} {W : OEnv} {pv : PV}, B x P W (.ret pv) → Lp B (x :: xs) P W (.ret pv)
def Turn (C : Cst) (A : Around) (env : Env) (X : Zm) (tgt : Expr) (body : List Stmt) (x : PV) (P : PEnv) (W : OEnv) (o : Out) : Prop :=
  ∃ P₁ W₁, AsgT C A env noRo tgt x P W P₁ W₁ ∧ ∀ X', ZLe X X' → Ex C A env X' P₁ W₁ body o
end
section
variable {C : Cst} {A : Around} {env : Env} {X : Zm} {P : PEnv} {W : OEnv}
theorem wp_noE {α : Type} {M : Model} {t : Sem α} {Q : α → Shared → Prop} {E : Value → Shared → Prop} {s : Shared} (h : wpAny M A t Q noE s) : wpAny M A t Q E s := wpAny_mono h (fun _ _ x => x) fun _ _ x => x.elim
theorem Ex1_for {tgt iter : Expr} {body : List Stmt} {pos : Pos} {gen mb : Bool} {items : List PV} {o : Out} (hm : C.md = true → mb = true) (hg : gen = true → mb = true)
    (hi : ItF C A env X P W iter gen items) (hl : Lp (Turn (C.mode mb) A env X tgt body) items P W o)
    (hs : ∀ x, foldedSetIterable iter env x = pure x := by intro _; rfl) : Ex1 C A env X P W (.For tgt iter body [] pos) o := fun s₀ z₀ g₀ z s f => by
  refine wpAny_For (wpAny_mono (hi s₀ z₀ g₀ z s f) (fun x s₁ h₁ => wpAny_mono h₁ (fun it s₂ h₂ => ?_) fun _ _ x => x) fun _ _ x => x) hs
  obtain ⟨z₂, Wr, St, m₂, f₂, w₂, I, st₂⟩ := h₂
  refine codeAny_forLoop_any
    (fun n s' => ∃ xs z' P' W' Wr, n = xs.length ∧ Mv X z z' ∧ FS C ⟨env, A, s₀, z₀, noRo⟩ g₀ X z' s' P' W' ∧ WrOk ⟨env, A, s₀, z₀, noRo⟩ X z' s' W' Wr ∧ St xs Wr z' s' ∧ Lp (Turn (C.mode mb) A env X tgt body) xs P' W' o) ?_ items.length
    ⟨items, z₂, P, W, Wr, rfl, m₂, f₂, w₂, st₂, hl⟩
  clear m₂ f₂ w₂ st₂ Wr
  rintro n s₃ ⟨xs, z₃, P₃, W₃, Wr, rfl, m₃, f₃, w₃, st₃, hl₃⟩
  cases xs with
  | nil =>
    refine wp_noE (wpAny_mono (I.done Wr z₃ s₃ f₃.ep.hz f₃.ep.zin w₃.z st₃) (fun r s₄ h₄ => ?_) fun _ _ x => x)
    obtain ⟨rfl, g⟩ := h₄
    obtain ⟨m₄, f₄, _⟩ := f₃.wg w₃ (I.live _ _ _ _ st₃) g
    cases hl₃
    exact wpAny_pure ⟨rfl, z₃, m₃, f₄⟩
  | cons x xs =>
    refine wp_noE (wpAny_mono (I.item x xs Wr z₃ s₃ f₃.ep.hz f₃.ep.zin w₃.z st₃) (fun r s₄ h₄ => ?_) fun _ _ x => x)
    obtain ⟨v, z₄, Wr', rfl, g, hw1, hw2, hw3, rv, st₄⟩ := h₄
    obtain ⟨m₄, f₄, w₄'⟩ := f₃.wg w₃ (I.live _ _ _ _ st₃) g
    have w₄ := WrOk.more f₃ f₄ w₄' g.old hw2 hw3
    have M₄ := m₃.trans m₄
    refine wp_noE (wpAny_mono (I.let_ xs Wr' z₄ s₄ tgt v st₄) (fun u s₅ h₅ => ?_) fun _ _ x => x)
    cases h₅
    clear u
    have live₄ := I.live _ _ _ _ st₄
    have turn : ∀ {o₁ : Out}, Turn (C.mode mb) A env X tgt body x P₃ W₃ o₁ → wpAny C.M A (assign tgt env v) (fun _ s₆ => wpAny C.M A (execs body env) (fun fl s₇ => EndO (C.mode mb) ⟨env, A, s₀, z₀, noRo⟩ s₄.gens (XW X Wr' s₄) z₄ o₁ fl s₇) noE s₆) noE s₄ := fun {o₁} ht => by
      obtain ⟨P₁, W₁, ha, hb⟩ := ht
      refine wpAny_mono (ha (XW X Wr' s₄) s₀ z₀ s₄.gens z₄ s₄ v (f₄.intoBody w₄ mb) rv) (fun _ s₆ h₆ => ?_) fun _ _ x => x
      obtain ⟨z₆, m₆, f₆⟩ := h₆
      exact wpAny_mono (hb _ (XW.le w₄.x) s₀ z₀ s₄.gens z₆ s₆ f₆) (fun fl s₇ q => EndO.mv m₆ q) fun _ _ x => x
    have last : ∀ {z' : Zm} {s' : Shared} {P' : PEnv} {W' : OEnv}, Mv (XW X Wr' s₄) z₄ z' → FS (C.mode mb) ⟨env, A, s₀, z₀, noRo⟩ s₄.gens (XW X Wr' s₄) z' s' P' W' → _ := fun m f => f₄.outOfBody hm w₄ live₄ m f
    cases hl₃ with
    | step hb hr =>
      refine wp_noE (wpAny_mono (turn hb) (fun _ s₆ h₆ => wp_noE (wpAny_mono h₆ (fun fl s₇ h₇ => ?_) fun _ _ x => x)) fun _ _ x => x)
      obtain ⟨rfl, z₇, m₇, f₇⟩ := h₇
      obtain ⟨m₈, f₈, w₈, k₈, g₈⟩ := last m₇ f₇
      exact ⟨xs.length, Nat.lt_succ_self _, xs, z₇, _, _, Wr', rfl, M₄.trans m₈, f₈, w₈, I.frame _ _ _ _ _ _ st₄ m₈.sub f₈.ep.zin f₈.ep.hz k₈ (fun e => g₈ (hg e)), hr⟩
    | brk hb =>
      refine wp_noE (wpAny_mono (turn hb) (fun _ s₆ h₆ => wp_noE (wpAny_mono h₆ (fun fl s₇ h₇ => ?_) fun _ _ x => x)) fun _ _ x => x)
      obtain ⟨rfl, z₇, m₇, f₇⟩ := h₇
      obtain ⟨m₈, f₈, _⟩ := last m₇ f₇
      exact ⟨rfl, z₇, M₄.trans m₈, f₈⟩
    | ret hb =>
      refine wp_noE (wpAny_mono (turn hb) (fun _ s₆ h₆ => wp_noE (wpAny_mono h₆ (fun fl s₇ h₇ => ?_) fun _ _ x => x)) fun _ _ x => x)
      obtain ⟨u, z₇, rfl, m₇, f₇, r₇⟩ := h₇
      obtain ⟨m₈, f₈, _⟩ := last m₇ f₇
      exact ⟨u, z₇, rfl, M₄.trans m₈, f₈, r₇⟩
end
end Mine
namespace Mine
section
variable {C : Cst} {A : Around} {env : Env} {X : Zm} {P : PEnv} {W : OEnv}
theorem AsgT_name {ro : Str → Bool} {x : Str} {px : Pos} {a : PV} (hx : Can env x) (hro : ro x = false := by rfl) : AsgT C A env ro (.Name x px) a P W (upd P x a) (del W x) := fun X s₀ z₀ g₀ z s v f r => by
  obtain ⟨d, hx⟩ := hx
  exact wpAny_assign_Name (wpAny_mono (f.store (F := ⟨env, A, s₀, z₀, ro⟩) hx hro r) (fun _ s₃ f₃ => ⟨z, Mv.refl X z, f₃⟩) fun _ _ x => x)
theorem extBut_keeps {h h' : Heap} (k : Heap.ExtBut h.objs.size h h') : ∀ b o, h.get? b = some o → h'.get? b = some o := fun b o e => k b o (Nat.ne_of_lt (Heap.lt_size e)) e
theorem repL_two {z : Zm} {a b : PV} {vs : List Value} (r : RepL z [a, b] vs) : ∃ u v, vs = [u, v] ∧ Rep z a u ∧ Rep z b v := by
  simp only [RepL] at r
  obtain ⟨u, r', rfl, ru, v, r'', rfl, rv, rfl⟩ := r
  exact ⟨u, v, rfl, ru, rv⟩
theorem AsgT_pair {ro : Str → Bool} {x y : Str} {px py pos : Pos} {k : Nat} {a b : PV} (hA : A.handled = none) (hx : Can env x) (hy : Can env y) (hrx : ro x = false := by rfl) (hry : ro y = false := by rfl) :
    AsgT C A env ro (.Tuple [.Name x px, .Name y py] k pos) (.tuple [a, b]) P W (upd (upd P x a) y b) (del (del W x) y) := fun X s₀ z₀ g₀ z s v f r => by
  simp only [Rep] at r
  obtain ⟨t, vs, n, rfl, ht, rl⟩ := r
  obtain ⟨u, w, rfl, ru, rw'⟩ := repL_two rl
  obtain ⟨d, hx⟩ := hx
  obtain ⟨d', hy⟩ := hy
  refine assign_Tuple_tuple hA (items := #[u, w]) ⟨_, f.ep.zin _ _ ht, rfl, n, rfl⟩ rfl rfl fun h' hk => ?_
  have f₁ := f.grow (Grow.same f.ep.zin (Kp.heap s h' s.toks (extBut_keeps hk)))
  show wpAny C.M A (do holding [w] (assign (.Name x px) env u); holding [] (assign (.Name y py) env w); pure ()) _ _ _
  refine wpAny_bind (wpAny_holding (wpAny_assign_Name (wpAny_mono (f₁.store (F := ⟨env, A, s₀, z₀, ro⟩) hx hrx ru) (fun _ s₂ f₂ => ?_) fun _ _ x => x)))
  refine wpAny_bind (wpAny_holding (wpAny_assign_Name (wpAny_mono (f₂.store (F := ⟨env, A, s₀, z₀, ro⟩) hy hry rw') (fun _ s₃ f₃ => wpAny_pure ?_) fun _ _ x => x)))
  exact ⟨z, Mv.refl X z, f₃⟩
theorem Ex1_assignT {elts : List Expr} {k : Nat} {tpos pos : Pos} {value : Expr} {a : PV} {P' : PEnv} {W' : OEnv} (hv : EvF C A env X P W value a) (ht : AsgT C A env noRo (.Tuple elts k tpos) a P W P' W')
    (hs : swapsWithSole [.Tuple elts k tpos] value pos.line env = pure false := by rfl) (hw : swappedStores [.Tuple elts k tpos] value env = pure none := by rfl) :
    Ex1 C A env X P W (.Assign [.Tuple elts k tpos] value pos) (.next P' W') := fun s₀ z₀ g₀ z s f => by
  refine Assign_Tuple (wpAny_mono (hv s₀ z₀ g₀ z s f) (fun v s₁ h₁ => ?_) fun _ _ x => x) hs hw
  obtain ⟨z₁, m, f₁, r, _⟩ := h₁
  refine wpAny_mono (ht X s₀ z₀ g₀ z₁ s₁ v f₁ r) (fun _ s₃ h₃ => ?_) fun _ _ x => x
  obtain ⟨z₃, m₃, f₃⟩ := h₃
  exact ⟨rfl, z₃, m.trans m₃, f₃⟩
theorem Ex1_swap {x y : Str} {elts : List Expr} {k : Nat} {tpos pos : Pos} {value : Expr} {a b : PV} (hA : A.handled = none) (hx : Can env x) (hy : Can env y) (hv : EvF C A env X P W value (.tuple [a, b]))
    (hw : swappedStores [.Tuple elts k tpos] value env = pure (some [x, y])) (hs : swapsWithSole [.Tuple elts k tpos] value pos.line env = pure false := by rfl) :
    Ex1 C A env X P W (.Assign [.Tuple elts k tpos] value pos) (.next (upd (upd P y b) x a) (del (del W y) x)) := fun s₀ z₀ g₀ z s f => by
  refine Assign_Tuple_swapped (names := [x, y]) (wpAny_mono (hv s₀ z₀ g₀ z s f) (fun v s₁ h₁ => ?_) fun _ _ x => x) hs hw
  obtain ⟨z₁, m, f₁, r, _⟩ := h₁
  simp only [Rep] at r
  obtain ⟨t, vs, n, rfl, ht, rl⟩ := r
  obtain ⟨u, w, rfl, ru, rw'⟩ := repL_two rl
  obtain ⟨d, hx⟩ := hx
  obtain ⟨d', hy⟩ := hy
  refine unpackItems_tuple hA (items := #[u, w]) ⟨_, f₁.ep.zin _ _ ht, rfl, n, rfl⟩ fun h' hk => ?_
  have f₂ := f₁.grow (Grow.same f₁.ep.zin (Kp.heap s₁ h' s₁.toks (extBut_keeps hk)))
  show wpAny C.M A (do holding [u] (bindName env y w); holding [] (bindName env x u); pure ()) _ _ _
  refine wpAny_bind (wpAny_holding (wpAny_bindName (wpAny_mono (f₂.store (F := ⟨env, A, s₀, z₀, noRo⟩) hy rfl rw') (fun _ s₂ f₂ => ?_) fun _ _ x => x)))
  refine wpAny_bind (wpAny_holding (wpAny_bindName (wpAny_mono (f₂.store (F := ⟨env, A, s₀, z₀, noRo⟩) hx rfl ru) (fun _ s₃ f₃ => wpAny_pure ?_) fun _ _ x => x)))
  exact ⟨rfl, z₁, m, f₃⟩
theorem Ex1_assign3 {x y w : Str} {px py pw pos : Pos} {value : Expr} {a : PV} (hx : Can env x) (hy : Can env y) (hw : Can env w) (hv : EvF C A env X P W value a)
    (hsw : swappedStores [.Name x px, .Name y py, .Name w pw] value env = pure none := by rfl) :
    Ex1 C A env X P W (.Assign [.Name x px, .Name y py, .Name w pw] value pos) (.next (upd (upd (upd P x a) y a) w a) (del (del (del W x) y) w)) := fun s₀ z₀ g₀ z s f => by
  refine wpAny_Assign_three (wpAny_mono (hv s₀ z₀ g₀ z s f) (fun v s₁ h₁ => ?_) fun _ _ x => x) rfl hsw
  obtain ⟨z₁, m, f₁, r, _⟩ := h₁
  refine wpAny_mono (AsgT_name hx rfl X s₀ z₀ g₀ z₁ s₁ v f₁ r) (fun _ s₂ h₂ => ?_) fun _ _ x => x
  obtain ⟨z₂, m₂, f₂⟩ := h₂
  refine wpAny_mono (AsgT_name hy rfl X s₀ z₀ g₀ z₂ s₂ v f₂ (r.mono m₂.sub)) (fun _ s₃ h₃ => ?_) fun _ _ x => x
  obtain ⟨z₃, m₃, f₃⟩ := h₃
  refine wpAny_mono (AsgT_name hw rfl X s₀ z₀ g₀ z₃ s₃ v f₃ ((r.mono m₂.sub).mono m₃.sub)) (fun _ s₄ h₄ => ?_) fun _ _ x => x
  obtain ⟨z₄, m₄, f₄⟩ := h₄
  exact ⟨rfl, z₄, m.trans (m₂.trans (m₃.trans m₄)), f₄⟩
inductive Wh (C : Cst) (A : Around) (env : Env) (X : Zm) (test : Expr) (body : List Stmt) : Nat → PEnv → OEnv → Out → Prop
  | done : ∀ {n : Nat} {P : PEnv} {W : OEnv}, TsF C A env X P W test false → Wh C A env X test body n P W (.next P W)
  | step : ∀ {n : Nat} {P : PEnv} {W : OEnv} {P' : PEnv} {W' : OEnv} {o : Out}, TsF C A env X P W test true → Ex C A env X P W body (.next P' W') → Wh C A env X test body n P' W' o → Wh C A env X test body (n + 1) P W o
theorem Ex1_while {test : Expr} {body : List Stmt} {pos : Pos} {n : Nat} {o : Out} (h : Wh C A env X test body n P W o) : Ex1 C A env X P W (.While test body [] pos) o := fun s₀ z₀ g₀ z s f => by
  refine wpAny_While ?_
  refine codeAny_whileLoop (R := fun r s' => match r with | .ok f => EndO C ⟨env, A, s₀, z₀, noRo⟩ g₀ X z o f s' | .error e => cameBackBy _ A env noE e s')
    (fun n s' => ∃ z' P' W', Mv X z z' ∧ FS C ⟨env, A, s₀, z₀, noRo⟩ g₀ X z' s' P' W' ∧ Wh C A env X test body n P' W' o) ?_ n ⟨z, P, W, Mv.refl X z, f, h⟩
  rintro n s₁ ⟨z₁, P₁, W₁, m₁, f₁, h₁⟩
  cases h₁ with
  | done ht =>
    refine wp_noE (wpAny_mono (ht s₀ z₀ g₀ z₁ s₁ f₁) (fun b s₂ h₂ => ?_) fun _ _ x => x)
    obtain ⟨rfl, z₂, m₂, f₂⟩ := h₂
    exact wpAny_pure ⟨rfl, z₂, m₁.trans m₂, f₂⟩
  | step ht hb hr =>
    refine wp_noE (wpAny_mono (ht s₀ z₀ g₀ z₁ s₁ f₁) (fun b s₂ h₂ => ?_) fun _ _ x => x)
    obtain ⟨rfl, z₂, m₂, f₂⟩ := h₂
    refine wp_noE (wpAny_mono (hb s₀ z₀ g₀ z₂ s₂ f₂) (fun fl s₃ h₃ => ?_) fun _ _ x => x)
    obtain ⟨rfl, z₃, m₃, f₃⟩ := h₃
    exact ⟨_, Nat.lt_succ_self _, z₃, _, _, m₁.trans (m₂.trans m₃), f₃, hr⟩
theorem let_plain {tgt : Expr} {I : Addr} {v : Value} {s : Shared} {o : Obj} {n : String} (ho : s.heap.get? I = some o) (hc : o.cls = .type n)
    (hn : (["enumerate", "zip", "dict_itemiterator", "dict_reverseitemiterator", "odict_iterator", "itertools.zip_longest", "itertools.pairwise"].contains n) = false) :
    wpAny C.M A (letOwnedTupleGo tgt (.ref I) v) (fun _ s' => s' = s) noE s := by
  have key : ∀ a, wpAny C.M A (do
      let o ← load I
      match o.cls, o.data with
      | .type n, .fields vs =>
        if ["enumerate", "zip", "dict_itemiterator", "dict_reverseitemiterator", "odict_iterator", "itertools.zip_longest", "itertools.pairwise"].contains n && vs[0]? == some (rawInt a) then
          rule "for.unpacks-the-owned-tuple"
          updateField I 0 .none
      | _, _ => pure ()) (fun _ s' => s' = s) noE s := fun a => by
    refine wpAny_bind (wpAny_load ho ?_)
    rw [hc]
    cases hd : o.data <;> first | exact wpAny_pure rfl | skip
    simp only [hn, Bool.false_and, Bool.false_eq_true, if_false]
    exact wpAny_pure rfl
  cases tgt <;> first | exact wpAny_pure rfl | (cases v <;> first | exact wpAny_pure rfl | exact key _)
theorem Itr.ofWalks {I : Addr} {fp wr : List Addr} {n : Nat} {Pv : Nat → Value → Prop} {St' : Nat → Heap → Prop} (W : Walks C.prog C.w A I fp wr n Pv St') (z₀ : Zm) (items : List PV) (hn : items.length = n)
    (hv : ∀ i v, i < n → Pv i v → ∃ x, items[i]? = some x ∧ Rep z₀ x v) (hfp : ∀ b ∈ fp, b ∈ wr ∨ (z₀ b).isSome = true) (hlive : ∀ i h, St' i h → ∀ b ∈ wr, (h.get? b).isSome = true)
    (hcls : ∀ i h, St' i h → ∃ o nm, h.get? I = some o ∧ o.cls = .type nm ∧ (["enumerate", "zip", "dict_itemiterator", "dict_reverseitemiterator", "odict_iterator", "itertools.zip_longest", "itertools.pairwise"].contains nm) = false) :
    Itr C A (.ref I) false (fun xs Wr z s => Wr = (· ∈ wr) ∧ ZLe z₀ z ∧ ZIn z₀ s ∧ ∃ i, i ≤ n ∧ St' i s.heap ∧ xs = items.drop i) where
  frame := by
    rintro xs Wr z s z' s' ⟨rfl, h0, h1, i, hi, st, rfl⟩ hz hin _ hw _
    refine ⟨rfl, h0.trans hz, fun a o e => hin a o (hz a o (h0 a o e)), i, hi, W.frame _ _ _ st fun b hb o e => ?_, rfl⟩
    rcases hfp b hb with h | h
    · exact hw b o h e
    · obtain ⟨p, hp⟩ := Option.isSome_iff_exists.mp h
      have := h1 b p hp
      rw [e] at this; cases this
      exact hin b _ (hz b _ (h0 b _ hp))
  live := by
    rintro xs Wr z s ⟨rfl, _, _, i, _, st, _⟩ a ha
    exact hlive i _ st a ha
  item := by
    rintro x xs Wr z s _ hz hw ⟨rfl, h0, h1, i, hi, st, e⟩
    have hlt : i < n := by
      rcases Nat.lt_or_ge i n with h | h
      · exact h
      · rw [List.drop_of_length_le (by omega)] at e; cases e
    refine W.item i s _ _ hlt st fun v h' tk hp st' hk => ?_
    obtain ⟨y, hy, r⟩ := hv i v hlt hp
    have hd : items.drop i = y :: items.drop (i + 1) := by
      obtain ⟨hl, rfl⟩ := List.getElem?_eq_some_iff.mp hy
      exact List.drop_eq_getElem_cons hl
    rw [hd] at e; cases e
    have kz : ∀ a o, z a = some o → h'.get? a = some o := fun a o e => hk a o (fun q => by rw [hw a q] at e; cases e) (hz a o e)
    exact ⟨v, z, _, rfl, ⟨⟨h', tk, s.gens, rfl⟩, fun b o hb e => hk b o hb e, ZLe.refl z, kz, fun _ _ e => .inl e, fun _ => rfl, fun h => h⟩, fun _ h => h, fun _ h => .inl h, hw, r.mono h0, rfl, h0, fun a o e => kz a o (h0 a o e), i + 1, hlt, st', rfl⟩
  done := by
    rintro Wr z s _ hz hw ⟨rfl, h0, h1, i, hi, st, e⟩
    have hin : i = n := by
      rcases Nat.lt_or_ge i n with h | h
      · have : (items.drop i).length = 0 := by rw [← e]; rfl
        rw [List.length_drop] at this; omega
      · omega
    subst hin
    refine W.done s _ _ st fun h' tk hk => ?_
    have kz : ∀ a o, z a = some o → h'.get? a = some o := fun a o e => hk a o (fun q => by rw [hw a q] at e; cases e) (hz a o e)
    exact ⟨rfl, ⟨h', tk, s.gens, rfl⟩, fun b o hb e => hk b o hb e, ZLe.refl z, kz, fun _ _ e => .inl e, fun _ => rfl, fun h => h⟩
  self := by
    rintro xs Wr z s ⟨_, _, _, i, _, st, _⟩
    exact W.self i s _ _ st ⟨rfl, rfl⟩
  let_ := by
    rintro xs Wr z s tgt v ⟨_, _, _, i, _, st, _⟩
    obtain ⟨o, nm, ho, hc, hn⟩ := hcls i _ st
    exact let_plain ho hc hn
theorem ItE_list {e : Expr} {xs : List PV} (hA : A.handled = none) (h : Ev C A env P e (.list xs)) : ItE C A env P e false xs := fun s z ep => by
  refine wpAny_mono (h s z ep) (fun v s₁ h₁ => ?_) fun _ _ x => x
  obtain ⟨z₁, g₁, r⟩ := h₁
  simp only [Rep] at r
  obtain ⟨a, vs, n, rfl, ha, rl⟩ := r
  have hl : s₁.heap.IsList a vs.toArray := ⟨_, g₁.zin _ _ ha, rfl, n, rfl⟩
  have hlen := rl.length
  have hne : a ≠ s₁.heap.objs.size := Nat.ne_of_lt (Heap.lt_size (g₁.zin _ _ ha))
  refine wpAny_pyIter_list hl ?_
  refine ⟨z₁, (· ∈ [s₁.heap.objs.size]), _, g₁.trans (Grow.same g₁.zin (Kp.push _ _ _)), fun b hb => ?_, Itr.ofWalks (Walks.list hA s₁.heap.objs.size a hne vs.toArray) z₁ xs (by simp [hlen]) (fun i v hi hv => ?_) (fun b hb => ?_) (fun i h st b hb => ?_) (fun i h st => ?_), ?_⟩
  · simp only [List.mem_singleton] at hb
    subst hb
    refine ⟨fresh_none g₁.zin (get_size_none _), ?_⟩
    cases q : s.heap.get? s₁.heap.objs.size with
    | none => rfl
    | some o => have := g₁.keeps.old _ _ q; rw [get_size_none] at this; cases this
  · exact rl.get' (by simpa using hv)
  · simp only [List.mem_cons, List.not_mem_nil, or_false] at hb
    rcases hb with rfl | rfl
    · exact .inl (List.mem_singleton.mpr rfl)
    · exact .inr (by rw [ha]; rfl)
  · simp only [List.mem_singleton] at hb
    subst hb
    obtain ⟨⟨o, ho, _⟩, _⟩ := st
    rw [ho]; rfl
  · obtain ⟨⟨o, ho, hc, _⟩, _⟩ := st
    exact ⟨o, "list_iterator", ho, hc, by decide⟩
  · refine ⟨rfl, ZLe.refl _, fun a o e => Heap.get?_push_of_some _ (g₁.zin a o e), 0, Nat.zero_le _, ⟨⟨_, Heap.get?_push_size _ rfl, rfl, rfl⟩, ⟨_, Heap.get?_push_of_some _ (g₁.zin _ _ ha), rfl, n, rfl⟩⟩, rfl⟩
def signs (l : List Nat) : List PV := l.map fun c => .str [c]
theorem itr_str {l : List Nat} {t : Tok} {s s₁ : Shared} {z z₁ : Zm} (hA : A.handled = none) (g₁ : Grow C.md z s z₁ s₁) :
    wpAny C.M A (pyIter (.str ⟨l.toArray⟩ t)) (fun it s₂ => ∃ z₂ Wr St, Grow C.md z s z₂ s₂ ∧ (∀ a, Wr a → z₂ a = none ∧ s.heap.get? a = none) ∧ Itr C A it false St ∧ St (signs l) Wr z₂ s₂) noE s₁ := by
  refine wpAny_pyIter_strU ?_
  have hn : s.heap.get? s₁.heap.objs.size = none := by
    cases q : s.heap.get? s₁.heap.objs.size with
    | none => rfl
    | some o => have := g₁.keeps.old _ _ q; rw [get_size_none] at this; cases this
  have done : ∀ T, (T = "str_iterator" ∨ T = "str_ascii_iterator") → Walks C.prog C.w A s₁.heap.objs.size [s₁.heap.objs.size] [s₁.heap.objs.size] (⟨l.toArray⟩ : Str).cps.size (SignAt ⟨l.toArray⟩) (fun i h => h.IsStrIter s₁.heap.objs.size T ⟨l.toArray⟩ t i) →
      ∃ z₂ Wr St, Grow C.md z s z₂ { s₁ with heap := s₁.heap.push { cls := .type T, data := .fields #[.str ⟨l.toArray⟩ t, .int 0 0] } } ∧ (∀ a, Wr a → z₂ a = none ∧ s.heap.get? a = none) ∧ Itr C A (.ref s₁.heap.objs.size) false St ∧ St (signs l) Wr z₂ { s₁ with heap := s₁.heap.push { cls := .type T, data := .fields #[.str ⟨l.toArray⟩ t, .int 0 0] } } := by
    intro T hT W
    refine ⟨z₁, (· ∈ [s₁.heap.objs.size]), _, g₁.trans (Grow.same g₁.zin (Kp.push _ _ _)), fun b hb => ?_, Itr.ofWalks W z₁ (signs l) (by simp [signs]) (fun i v hi hv => ?_) (fun b hb => .inl hb) (fun i h st b hb => ?_) (fun i h st => ?_), ?_⟩
    · simp only [List.mem_singleton] at hb
      subst hb
      exact ⟨fresh_none g₁.zin (get_size_none _), hn⟩
    · obtain ⟨c, t', hc, rfl⟩ := hv
      refine ⟨.str [c], ?_, rep_strS _ _ rfl⟩
      simp at hc
      simp [signs, hc]
    · simp only [List.mem_singleton] at hb
      subst hb
      obtain ⟨o, ho, _⟩ := st
      rw [ho]; rfl
    · obtain ⟨o, ho, hc, _⟩ := st
      refine ⟨o, T, ho, hc, ?_⟩
      rcases hT with rfl | rfl <;> decide
    · exact ⟨rfl, ZLe.refl _, fun a o e => Heap.get?_push_of_some _ (g₁.zin a o e), 0, Nat.zero_le _, ⟨_, Heap.get?_push_size _ rfl, rfl, rfl⟩, rfl⟩
  cases ha : (⟨l.toArray⟩ : Str).cps.all (· < 128)
  · have e : strIterType ⟨l.toArray⟩ = "str_iterator" := by unfold strIterType; rw [ha]; rfl
    rw [e]
    exact done _ (.inl rfl) (Walks.strWide hA _ _ t)
  · have e : strIterType ⟨l.toArray⟩ = "str_ascii_iterator" := by unfold strIterType; rw [ha]; rfl
    rw [e]
    exact done _ (.inr rfl) (Walks.strAscii hA _ _ t)
theorem ItE_str {e : Expr} {l : List Nat} (hA : A.handled = none) (h : Ev C A env P e (.str l)) : ItE C A env P e false (signs l) := fun s z ep => by
  refine wpAny_mono (h s z ep) (fun v s₁ h₁ => ?_) fun _ _ x => x
  obtain ⟨z₁, g₁, r⟩ := h₁
  simp only [Rep] at r
  obtain ⟨t, rfl⟩ := r
  exact itr_str hA g₁
end
end Mine
namespace Mine
section
variable {C : Cst} {A : Around} {env : Env} {X : Zm} {P : PEnv} {W : OEnv}
def GlobIs (C : Cst) (x : Str) (fv : Value) : Prop := C.mg x = some fv ∨ (C.mg x = none ∧ C.mb x = some fv)
theorem eval_global {x : Str} {pos : Pos} {fv : Value} {s : Shared} {z : Zm} {Q : Value → Shared → Prop} (ok : C.Ok) (ep : EP C.hb env z s P) (hk : env.kindOf x = some .globalImplicit) (hg : GlobIs C x fv) (h : Q fv s)
    (hd : (x == ("__debug__" : Str)) = false := by decide) : wpAny C.M A (eval (.Name x pos) env) Q noE s := by
  refine Calls.Name_function_global ep.fn hk ?_ hd
  rcases hg with hg | ⟨h0, hg⟩
  · exact Calls.loadGlobal_global (by rw [ep.gl]; exact ok.g.keeps ep.hbk) hg h
  · exact Calls.loadGlobal_builtin (by rw [ep.gl]; exact ok.g.keeps ep.hbk) h0 (by rw [ep.bu]; exact ok.b.keeps ep.hbk) hg h
theorem Ev_globInt {x : Str} {pos : Pos} {i : Int} {t : Tok} (ok : C.Ok) (hk : env.kindOf x = some .globalImplicit) (hg : GlobIs C x (.int i t)) (hd : (x == ("__debug__" : Str)) = false := by decide) :
    Ev C A env P (.Name x pos) (.int i) := fun s z ep => eval_global ok ep hk hg (post_here ep.zin (rep_int _ _)) hd
def CallW (C : Cst) (fv : Value) : Prop := ∀ (A : Around) (pos : Pos) (first : List Value) (trees : List (Bool × Sem Value)) (Q : Value → Shared → Prop) (s : Shared), trees.any (·.1) = false →
  wpAny C.M A (spliced trees) (fun vs s₁ => (∀ a o, C.hb.get? a = some o → s₁.heap.get? a = some o) ∧ wpAny C.M A (call fv (first ++ vs)) Q noE s₁) noE s → wpAny C.M A (callWith pos fv first trees []) Q noE s
theorem evalArgs_any {fv : Value} {trees : List (Bool × Sem Value)} {Q : Args → Shared → Prop} {s : Shared} (hp : trees.any (·.1) = false) (h : wpAny C.M A (spliced trees) (fun vs s' => Q ⟨vs, []⟩ s') noE s) :
    wpAny C.M A (evalArgs fv true trees []) Q noE s := by
  cases trees with
  | nil =>
    unfold evalArgs
    show wpAny C.M A (spliced [] >>= _) _ _ s
    refine wpAny_bind (wpAny_mono h (fun vs s' h' => ?_) fun _ _ x => x)
    refine wpAny_bind (wpAny_pure ?_)
    refine wpAny_holding ?_
    exact wpAny_bind (wpAny_pure (wpAny_bind (wpAny_pure (wpAny_pure h'))))
  | cons t r =>
    obtain ⟨b, x⟩ := t
    simp only [List.any_cons, Bool.or_eq_false_iff] at hp
    obtain ⟨rfl, _⟩ := hp
    exact Calls.evalArgs_plain h
theorem CallW.builtin (id : String) : CallW C (.builtin id) := fun A pos first trees Q s hp h =>
  Calls.callWith_builtin hp (evalArgs_any hp (wpAny_mono h (fun _ _ q => q.2) fun _ _ x => x))
theorem CallW.type (T : String) : CallW C (.type T) := fun A pos first trees Q s hp h =>
  PySem.callWith_type hp (evalArgs_any hp (wpAny_mono h (fun _ _ q => q.2) fun _ _ x => x))
theorem CallW.func {f : Addr} {o : Obj} {fd : FuncData} (ho : C.hb.get? f = some o) (hd : o.data = .func fd) : CallW C (.ref f) := fun A pos first trees Q s hp h =>
  Calls.callWith_function (o := o) (fd := fd) (evalArgs_any hp (wpAny_mono h (fun _ _ q => ⟨⟨q.1 _ _ ho, hd⟩, q.2⟩) fun _ _ x => x))
def OpC (C : Cst) (A : Around) (fv : Value) (as : List PV) (r : PV) : Prop :=
  ∀ s z vs, HbZ C z → ZIn z s → RepL z as vs → wpAny C.M A (call fv vs) (Post C.md z s r) noE s
theorem Ev_call {x : Str} {p pos : Pos} {fv : Value} {args : List Expr} {as : List PV} {r : PV} (ok : C.Ok) (hk : env.kindOf x = some .globalImplicit) (hg : GlobIs C x fv) (hw : CallW C fv) (ha : Evs C A env P args as) (ho : OpC C A fv as r)
    (hd : (x == ("__debug__" : Str)) = false := by decide) : Ev C A env P (.Call (.Name x p) args [] pos) r := fun s z ep => by
  refine wpAny_Call_NameR (eval_global ok ep hk hg ?_ hd)
  refine hw A pos [] _ _ s (ha.plain pos) (wpAny_mono (evs_spliced ha pos ep) (fun vs s₁ h₁ => ?_) fun _ _ x => x)
  obtain ⟨z₁, g₁, rl⟩ := h₁
  have ep₁ := ep.grow g₁
  exact ⟨ep₁.hbk, wp_via g₁ (ho s₁ z₁ vs ep₁.hz g₁.zin rl)⟩
theorem repL_one {z : Zm} {a : PV} {vs : List Value} (r : RepL z [a] vs) : ∃ u, vs = [u] ∧ Rep z a u := by
  simp only [RepL] at r
  obtain ⟨u, r', rfl, ru, rfl⟩ := r
  exact ⟨u, rfl, ru⟩
theorem opC_len_str {l : List Nat} (h : l.length < 2 ^ 62) : OpC C A (.builtin "len") [.str l] (.int l.length) := fun s z vs hb hz r => by
  obtain ⟨u, rfl, ru⟩ := repL_one r
  simp only [Rep] at ru
  obtain ⟨t, rfl⟩ := ru
  refine PySem.P.len_str (by simp [Str.length]; omega) ?_
  have e : (((⟨l.toArray⟩ : Str).length : Nat) : Int) = l.length := by simp [Str.length]
  rw [e]
  exact post_same hz (Kp.toks s _) (rep_int _ _)
theorem opC_len_list {xs : List PV} (h : xs.length < 2 ^ 62) : OpC C A (.builtin "len") [.list xs] (.int xs.length) := fun s z vs hb hz r => by
  obtain ⟨u, rfl, ru⟩ := repL_one r
  simp only [Rep] at ru
  obtain ⟨a, us, n, rfl, ha, rl⟩ := ru
  have hlen := rl.length
  refine PyProof.Rows.len_list (items := us.toArray) ⟨_, hz _ _ ha, rfl, n, rfl⟩ (by simp [hlen]; omega) ?_
  have e : ((us.toArray.size : Nat) : Int) = xs.length := by simp [hlen]
  rw [e]
  exact post_same hz (Kp.toks s _) (rep_int _ _)
theorem opC_len_tuple {xs : List PV} (h : xs.length < 2 ^ 62) : OpC C A (.builtin "len") [.tuple xs] (.int xs.length) := fun s z vs hb hz r => by
  obtain ⟨u, rfl, ru⟩ := repL_one r
  simp only [Rep] at ru
  obtain ⟨a, us, n, rfl, ha, rl⟩ := ru
  have hlen := rl.length
  refine PyProof.Rows.len_tuple (items := us.toArray) ⟨_, hz _ _ ha, rfl, n, rfl⟩ (by simp [hlen]; omega) ?_
  have e : ((us.toArray.size : Nat) : Int) = xs.length := by simp [hlen]
  rw [e]
  exact post_same hz (Kp.toks s _) (rep_int _ _)
theorem opC_max2 {a b : Int} (hA : A.handled = none) : OpC C A (.builtin "max") [.int a, .int b] (.int (max a b)) := fun s z vs hb hz r => by
  obtain ⟨u, v, rfl, ru, rv⟩ := repL_two r
  simp only [Rep] at ru rv
  obtain ⟨t, rfl⟩ := ru
  obtain ⟨t', rfl⟩ := rv
  refine max_two_ints hA fun h' tk hk => ?_
  by_cases c : b > a
  · rw [if_pos c, show max a b = b by omega]; exact post_same hz (Kp.heap s h' tk hk) (rep_int _ _)
  · rw [if_neg c, show max a b = a by omega]; exact post_same hz (Kp.heap s h' tk hk) (rep_int _ _)
theorem opC_min2 {a b : Int} (hA : A.handled = none) : OpC C A (.builtin "min") [.int a, .int b] (.int (min a b)) := fun s z vs hb hz r => by
  obtain ⟨u, v, rfl, ru, rv⟩ := repL_two r
  simp only [Rep] at ru rv
  obtain ⟨t, rfl⟩ := ru
  obtain ⟨t', rfl⟩ := rv
  refine min_two_ints hA fun h' tk hk => ?_
  by_cases c : b < a
  · rw [if_pos c, show min a b = b by omega]; exact post_same hz (Kp.heap s h' tk hk) (rep_int _ _)
  · rw [if_neg c, show min a b = a by omega]; exact post_same hz (Kp.heap s h' tk hk) (rep_int _ _)
def iL (ns : List Int) : List PV := ns.map .int
theorem repL_ints {z : Zm} : ∀ {ns : List Int} {vs : List Value}, RepL z (iL ns) vs → ∃ l : List (Int × Tok), vs.toArray = intItems l.toArray ∧ l.map (·.1) = ns
  | [], _, r => by
    simp only [iL, List.map_nil, RepL] at r
    subst r
    exact ⟨[], by simp [intItems], rfl⟩
  | n :: ns, _, r => by
    simp only [iL, List.map_cons, RepL] at r
    obtain ⟨v, r', rfl, ru, rl⟩ := r
    simp only [Rep] at ru
    obtain ⟨t, rfl⟩ := ru
    obtain ⟨l, hl, he⟩ := repL_ints rl
    refine ⟨(n, t) :: l, ?_, by simp [he]⟩
    apply Array.ext'
    have := congrArg Array.toList hl
    simp [intItems] at this ⊢
    exact this
def maxL : List Int → Int
  | [] => 0
  | a :: r => r.foldl max a
theorem foldl_max_le : ∀ (r : List Int) (a M : Int), a ≤ M → (∀ x ∈ r, x ≤ M) → r.foldl max a ≤ M
  | [], a, M, h, _ => h
  | x :: r, a, M, h, hx => foldl_max_le r (max a x) M (by have := hx x List.mem_cons_self; omega) fun y hy => hx y (List.mem_cons_of_mem _ hy)
theorem foldl_max_ge : ∀ (r : List Int) (a x : Int), (x ≤ a ∨ x ∈ r) → x ≤ r.foldl max a
  | [], a, x, h => by rcases h with h | h; exact h; cases h
  | y :: r, a, x, h => foldl_max_ge r (max a y) x (by
      rcases h with h | h
      · left; omega
      · rcases List.mem_cons.mp h with rfl | h
        · left; omega
        · exact .inr h)
theorem maxL_eq {ns : List Int} {M : Int} (h1 : M ∈ ns) (h2 : ∀ a ∈ ns, a ≤ M) : maxL ns = M := by
  cases ns with
  | nil => cases h1
  | cons a r =>
    apply Int.le_antisymm
    · exact foldl_max_le r a M (h2 a List.mem_cons_self) fun x hx => h2 x (List.mem_cons_of_mem _ hx)
    · refine foldl_max_ge r a M ?_
      rcases List.mem_cons.mp h1 with rfl | h
      · exact .inl (Int.le_refl _)
      · exact .inr h
theorem opC_maxL {ns : List Int} (hA : A.handled = none) (hne : ns ≠ []) : OpC C A (.builtin "max") [.list (iL ns)] (.int (maxL ns)) := fun s z vs hb hz r => by
  obtain ⟨u, rfl, ru⟩ := repL_one r
  simp only [Rep] at ru
  obtain ⟨a, us, n, rfl, ha, rl⟩ := ru
  obtain ⟨l, hl, rfl⟩ := repL_ints rl
  have hls : s.heap.IsList a (intItems l.toArray) := ⟨_, hz _ _ ha, rfl, n, by rw [← hl]⟩
  have hne' : 0 < l.toArray.size := by cases l with | nil => exact absurd rfl hne | cons _ _ => simp
  refine max_intList hA hls hne' fun v h' tk hv hk => ?_
  obtain ⟨t, rfl⟩ := intItems_at hv
  obtain ⟨h1, h2⟩ := argBest_gt (numAt l.toArray) (l.toArray.size - 1)
  have e : maxL (l.map (·.1)) = numAt l.toArray (argBest (fun i j => decide (numAt l.toArray i > numAt l.toArray j)) (l.toArray.size - 1)) := by
    refine maxL_eq ?_ fun b hb => ?_
    · rw [numAt_eq]; exact getD_mem (by simp at hne' h1 ⊢; omega)
    · obtain ⟨j, hj, rfl⟩ := mem_getD hb
      have := h2 j (by simp at hj ⊢; omega)
      simpa [numAt_eq] using this
  rw [e]
  exact post_same hz (Kp.heap s h' tk hk) (rep_int _ _)
theorem inLong_of {k : Int} (h1 : -(2 ^ 62) ≤ k) (h2 : k ≤ 2 ^ 62) : InLong k := by unfold InLong; omega
theorem sum_take_bound {B : Int} (hB : 0 ≤ B) : ∀ (l : List Int), (∀ x ∈ l, 0 ≤ x ∧ x ≤ B) → ∀ j, 0 ≤ (l.take j).sum ∧ (l.take j).sum ≤ l.length * B
  | [], _, j => by simp
  | x :: l, h, 0 => by
    have := Int.mul_nonneg (Int.natCast_nonneg (x :: l).length) hB
    simp only [List.take_zero, List.sum_nil]; omega
  | x :: l, h, j + 1 => by
    have ih := sum_take_bound hB l (fun y hy => h y (List.mem_cons_of_mem _ hy)) j
    have := h x List.mem_cons_self
    simp only [List.take_succ_cons, List.sum_cons, List.length_cons]
    have e : ((l.length + 1 : Nat) : Int) * B = l.length * B + B := by push_cast; rw [Int.add_mul, Int.one_mul]
    rw [e]; omega
theorem opC_sum {ns : List Int} (hA : A.handled = none) (hb1 : ∀ x ∈ ns, 0 ≤ x ∧ x ≤ 1000000) (hlen : ns.length ≤ 1000000) : OpC C A (.builtin "sum") [.list (iL ns)] (.int ns.sum) := fun s z vs hb hz r => by
  obtain ⟨u, rfl, ru⟩ := repL_one r
  simp only [Rep] at ru
  obtain ⟨a, us, n, rfl, ha, rl⟩ := ru
  obtain ⟨l, hl, rfl⟩ := repL_ints rl
  have hls : s.heap.IsList a (intItems l.toArray) := ⟨_, hz _ _ ha, rfl, n, by rw [← hl]⟩
  have hll : (l.map (·.1)).length ≤ 1000000 := hlen
  refine sum_intList hA hls (fun j hj => ?_) fun h' tk t' hk => ?_
  · constructor
    · rw [numAt_eq]
      have hm : ((l.map (·.1)).getD j 0) ∈ l.map (·.1) := getD_mem (by simpa using hj)
      have := hb1 _ hm
      exact inLong_of (by simp at this ⊢; omega) (by simp at this ⊢; omega)
    · rw [preSum_eq]
      have := sum_take_bound (by omega) _ hb1 (j + 1)
      show InLong (((l.map (·.1)).take (j + 1)).sum)
      generalize ((l.map (·.1)).take (j + 1)).sum = S at this ⊢
      generalize (l.map (·.1)).length = N at this hll
      exact inLong_of (by omega) (by omega)
  · rw [preSum_eq, List.take_of_length_le (by simp)]
    exact post_same hz (Kp.heap s h' tk hk) (rep_int _ _)
theorem opC_isBool_int {i : Int} : OpC C A (.builtin "isinstance") [.int i, .ty "bool"] (.bool false) := fun s z vs hb hz r => by
  obtain ⟨u, v, rfl, ru, rv⟩ := repL_two r
  simp only [Rep] at ru rv
  obtain ⟨t, rfl⟩ := ru
  subst rv
  exact IsiPair.int_bool (post_same hz (Kp.toks s _) (rep_bool _))
theorem Ev_globTy {x : Str} {pos : Pos} {T : String} (ok : C.Ok) (hk : env.kindOf x = some .globalImplicit) (hg : GlobIs C x (.type T)) (hd : (x == ("__debug__" : Str)) = false := by decide) :
    Ev C A env P (.Name x pos) (.ty T) := fun s z ep => eval_global ok ep hk hg (post_here ep.zin (rep_ty _)) hd
theorem opC_tuple {xs : List PV} (h : xs.length ≤ 1000000) : OpC C A (.type "tuple") [.list xs] (.tuple xs) := fun s z vs hb hz r => by
  obtain ⟨u, rfl, ru⟩ := repL_one r
  simp only [Rep] at ru
  obtain ⟨a, us, n, rfl, ha, rl⟩ := ru
  have hlen := rl.length
  refine call_tuple_list (items := us.toArray) ⟨_, hz _ _ ha, rfl, n, rfl⟩ (fun h' hk => ?_) (by simp [hlen, sizeLine]; omega)
  have g1 : Grow C.md z s z { s with heap := h' } := Grow.same hz (Kp.heap s h' s.toks hk)
  have g2 := Grow.push (md := C.md) g1.zin (tupO us 0) rfl s.toks
  exact ⟨_, g1.trans g2, rep_tuple (ZAdd.self _ _ _) (rl.mono g2.sub)⟩
end
end Mine
namespace Mine
theorem bindL_miss (kindOf : Str → Option NameKind) : ∀ (bs : List (Str × Value)) (m : Str → Option Value) (x : Str), bs.lookup x = none → bindL kindOf bs m x = m x
  | [], _, _, _ => rfl
  | (n, v) :: r, m, x, h => by
    have hn : (x == n) = false := by
      cases q : x == n with
      | false => rfl
      | true => simp [List.lookup, q] at h
    have hr : r.lookup x = none := by simpa [List.lookup, hn] using h
    have hx : x ≠ n := fun e => by subst e; simp at hn
    show bindL kindOf r _ x = m x
    rw [bindL_miss kindOf r _ x hr]
    by_cases k : kindOf n = some .local
    · rw [if_pos k]; simp [hx]
    · rw [if_neg k]
theorem bindC_miss (kindOf : Str → Option NameKind) : ∀ (bs : List (Str × Value)) (m : Str → Option Value) (x : Str), bs.lookup x = none → bindC kindOf bs m x = m x
  | [], _, _, _ => rfl
  | (n, v) :: r, m, x, h => by
    have hn : (x == n) = false := by
      cases q : x == n with
      | false => rfl
      | true => simp [List.lookup, q] at h
    have hr : r.lookup x = none := by simpa [List.lookup, hn] using h
    have hx : x ≠ n := fun e => by subst e; simp at hn
    show bindC kindOf r _ x = m x
    rw [bindC_miss kindOf r _ x hr]
    by_cases k : kindOf n = some .local
    · rw [if_pos k]
    · rw [if_neg k]; simp [hx]
theorem lookup_none_of {β : Type} {x : Str} : ∀ {bs : List (Str × β)}, x ∉ bs.map (·.1) → bs.lookup x = none
  | [], _ => rfl
  | (n, v) :: r, h => by
    simp only [List.map_cons, List.mem_cons, not_or] at h
    have : (x == n) = false := beq_eq_false_iff_ne.mpr h.1
    simp only [List.lookup, this]
    exact lookup_none_of h.2
theorem bind_get (kindOf : Str → Option NameKind) : ∀ (bs : List (Str × Value)) (m cm : Str → Option Value) (x : Str) (v : Value), (bs.map (·.1)).Nodup → bs.lookup x = some v →
    (kindOf x = some .local → bindL kindOf bs m x = some v) ∧ (kindOf x = some .cell → bindC kindOf bs cm x = some v)
  | [], _, _, _, _, _, h => by cases h
  | (n, u) :: r, m, cm, x, v, hd, h => by
    simp only [List.map_cons, List.nodup_cons] at hd
    by_cases e : x = n
    · subst e
      simp only [List.lookup, beq_self_eq_true] at h
      cases h
      have hr := lookup_none_of hd.1
      refine ⟨fun k => ?_, fun k => ?_⟩
      · show bindL kindOf r _ x = _
        rw [bindL_miss _ _ _ _ hr, if_pos k]; simp
      · show bindC kindOf r _ x = _
        rw [bindC_miss _ _ _ _ hr, if_neg (by rw [k]; decide)]; simp
    · have hn : (x == n) = false := beq_eq_false_iff_ne.mpr e
      simp only [List.lookup, hn] at h
      exact ⟨fun k => (bind_get kindOf r _ cm x v hd.2 h).1 k, fun k => (bind_get kindOf r m _ x v hd.2 h).2 k⟩
structure DefAt (C : Cst) (f : Addr) (params : Arguments) (body : List Stmt) (scope : Scope) : Prop where
  at_ : ∃ o name qual pm c doc, C.hb.get? f = some o ∧ o.data = .func (methDef name qual params body scope pm (.ref c) doc) ∧ C.hb.CodeRec (.ref c) qual
def Room (A : Around) (n : Nat) : Prop := A.handled = none ∧ A.depth + n ≤ recursionLimit ∧ A.units + 10 * n + 100 ≤ cLine
theorem Room.less {A : Around} {n m : Nat} (h : Room A n) (hm : m ≤ n) : Room A m := ⟨h.1, by have := h.2.1; omega, by have := h.2.2; omega⟩
theorem Room.eq {A : Around} {n : Nat} (h : Room A n) : A.units + 64 < cLine := by have := h.2.2; omega
theorem Room.depth {A : Around} {n : Nat} (h : Room A (n + 1)) : A.depth < recursionLimit := by have := h.2.1; omega
structure EnvOf (scope : Scope) (env : Env) : Prop where
  names : env.scope.names = scope.names
  kind : env.scope.kind = .function
  cell : ∀ x, scope.names.lookup x = some .cell → (env.cells.lookup x).isSome = true
  bk : env.blockKind = .function
def retOf : Out → PV
  | .ret pv => pv
  | _ => .none
def NoX : Zm := fun _ => none
def FunOk (C : Cst) (n : Nat) (f : Addr) (as : List PV) (r : PV) : Prop := ∀ A, Room A n → OpC C A (.ref f) as r
theorem cells_some : ∀ (names : List (Str × NameKind)) (n : Nat) (acc : List (Str × Addr)) (x : Str), ((acc.lookup x).isSome = true ∨ names.lookup x = some .cell) → ((cellsFrom n names acc).lookup x).isSome = true
  | [], n, acc, x, h => by
    rcases h with h | h
    · exact h
    · cases h
  | (y, k) :: r, n, acc, x, h => by
    unfold cellsFrom
    by_cases hk : (k == NameKind.cell) = true
    · rw [if_pos hk]
      refine cells_some r _ _ x ?_
      by_cases e : x = y
      · subst e; left; simp [List.lookup]
      · have : (x == y) = false := beq_eq_false_iff_ne.mpr e
        simp only [List.lookup, this] at h ⊢
        exact h
    · rw [if_neg hk]
      refine cells_some r _ _ x ?_
      rcases h with h | h
      · exact .inl h
      · by_cases e : x = y
        · subst e
          simp only [List.lookup, beq_self_eq_true, Option.some.injEq] at h
          subst h
          exact absurd rfl hk
        · have : (x == y) = false := beq_eq_false_iff_ne.mpr e
          simp only [List.lookup, this] at h
          exact .inr h
theorem RepL.bind {z : Zm} : ∀ {names : List Str} {as : List PV} {vs : List Value} {x : Str} {pv : PV}, names.length = as.length → RepL z as vs → (names.zip as).lookup x = some pv → ∃ v, (names.zip vs).lookup x = some v ∧ Rep z pv v
  | [], _, _, _, _, _, _, h => by cases h
  | n :: ns, [], _, _, _, hl, _, _ => by cases hl
  | n :: ns, a :: as, _, x, pv, hl, r, h => by
    simp only [RepL] at r
    obtain ⟨v, r', rfl, ru, rl⟩ := r
    simp only [List.zip_cons_cons, List.lookup] at h ⊢
    by_cases e : (x == n) = true
    · rw [e] at h ⊢; cases h; exact ⟨v, rfl, ru⟩
    · simp only [Bool.not_eq_true] at e
      rw [e] at h ⊢
      exact RepL.bind (by simpa using hl) rl h
section
variable {C : Cst}
theorem def_entry {A : Around} {n : Nat} {f : Addr} {params : Arguments} {body : List Stmt} {scope : Scope} {names : List Str} {as : List PV} {R : Result → Shared → Prop} {sB s : Shared} {z X : Zm} {vs : List Value} (ok : C.Ok) (D : DefAt C f params body scope)
    (hp : ∀ (name qual : Str) (pm code doc : Value) (vs : List Value), vs.length = names.length → bindArgs (methDef name qual params body scope pm code doc) ⟨vs, []⟩ = pure (names.zip vs))
    (hlen : names.length = as.length) (hnd : names.Nodup) (hkind : ∀ x ∈ names, scope.names.lookup x = some .local ∨ scope.names.lookup x = some .cell) (hdbg : ∀ x ∈ names, (x == ("__debug__" : Str)) = false)
    (hr : Room A (n + 1)) (hbz : HbZ C z) (hz : ZIn z s) (hzB : ZIn z sB) (rl : RepL z as vs) (hB : ∀ b o, sB.heap.get? b = some o → s.heap.get? b = some o) (hos : s.os = sB.os) (hdr : s.drawn = sB.drawn) (hgs : s.gens = sB.gens)
    (hX : ∀ a o, X a = some o → s.heap.get? a = some o)
    (hb : ∀ env, Room (A.deeper env) n → EnvOf scope env → ∀ s₁, FS C ⟨env, A.deeper env, sB, z, noRo⟩ s.gens X z s₁ (names.zip as) [] →
      wpAny C.M (A.deeper env) (execs body env) (fun fl s' => R (.ok (.ret (match fl with | .ret v => v | _ => .none))) s') noE s₁)
    (hco : scope.isCoroutine = false := by rfl) (hgen : scope.isGenerator = false := by rfl) (hk : scope.kind = .function := by rfl) : codeAny C.M A (.call (.ref f) ⟨vs, []⟩) R s := by
  obtain ⟨o', name, qual, pm, c, doc, ho, hdat, hcd⟩ := D.at_
  have old : ∀ a o, C.hb.get? a = some o → s.heap.get? a = some o := fun a o e => hz a o (hbz a o e)
  have hvl : vs.length = names.length := by rw [rl.length, hlen]
  have hmem : ∀ x ∈ names.zip vs, x.1 ∈ names := fun x hx => (List.of_mem_zip hx).1
  have hroom : A.depth < recursionLimit := hr.depth
  refine codeAny_call_cells (fd := methDef name qual params body scope pm (.ref c) doc) (binds := names.zip vs) hroom (old _ _ ho) hdat (ok.nolimit.keeps old) (hcd.keeps old) rfl
    (hp name qual pm (.ref c) doc vs hvl) rfl (fun x hx => ?_) (fun s₁ IC => ?_) hco hgen hk
  · rcases hkind _ (hmem x hx) with h | h
    · exact .inl h
    · exact .inr ⟨h, cells_some _ _ _ _ (.inr h)⟩
  · obtain ⟨⟨⟨h₁, tk, rfl⟩, ns, keep, fresh⟩, cell, apart, above⟩ := IC
    generalize hE : callEnvC (methDef name qual params body scope pm (.ref c) doc) s.heap.objs.size f = env at *
    have hEs : env.scope = scope := by rw [← hE]; rfl
    have hEn : env.scope.names = scope.names := by rw [hEs]
    have hL : env.locals = s.heap.objs.size := by rw [← hE]; rfl
    have hEo : EnvOf scope env := ⟨hEn, by rw [hEs]; exact hk, fun x hx => by rw [← hE]; exact cells_some _ _ _ _ (.inr hx), by
      unfold Env.blockKind; rw [hEs, hk]; rfl⟩
    have hLn : s.heap.get? env.locals = none := by rw [hL]; exact get_size_none _
    have fr : ∀ a, env.locals < a → s.heap.get? a = none := fun a ha => by
      cases q : s.heap.get? a with
      | none => rfl
      | some o => exact absurd (Nat.lt_of_lt_of_le (Heap.lt_size q) (Nat.le_of_lt (hL ▸ ha))) (Nat.lt_irrefl _)
    have noB : ∀ a, s.heap.get? a = none → sB.heap.get? a = none := fun a e => by
      cases q : sB.heap.get? a with
      | none => rfl
      | some o => rw [hB a o q] at e; cases e
    have noX : ∀ a, s.heap.get? a = none → X a = none := fun a e => by
      cases q : X a with
      | none => rfl
      | some o => rw [hX a o q] at e; cases e
    have hnodup : ((names.zip vs).map (·.1)).Nodup := by rw [List.map_fst_zip (by omega)]; exact hnd
    have f0 : FS C ⟨env, A.deeper env, sB, z, noRo⟩ s.gens X z { s with heap := h₁, toks := tk } (names.zip as) [] := by
      refine
        { ep := ⟨by rw [hEs]; exact hk, by rw [← hE]; rfl, by rw [← hE]; rfl, hbz, fun a o e => keep a o (hz a o e), fun x pv hx => ?_, fun x c hc => ⟨_, cell x c hc⟩⟩
          z0 := ZLe.refl z, znew := fun a o e => .inl e, keep := fun b o e => keep b o (hB b o e), os := hos, drawn := hdr, gens := fun _ => rfl, bare := fun h => by rw [hgs]; exact h
          loc := ⟨_, ns⟩, locN := noB _ hLn, locZ := fresh_none hz hLn, locX := noX _ hLn
          cell := fun x c hc => ?_
          cellD := fun x y c _ hx hy => ?_
          own := fun x xs hx => by cases hx
          ownD := fun x y a hx => by cases hx
          xin := fun a o e => keep a o (hX a o e) }
      · obtain ⟨v, hv, rv⟩ := RepL.bind hlen rl hx
        have hxn : x ∈ names := by
          rcases Classical.em (x ∈ (names.zip vs).map (·.1)) with hc | hc
          · rw [List.map_fst_zip (by omega)] at hc; exact hc
          · rw [lookup_none_of hc] at hv; cases hv
        refine ⟨v, ⟨hdbg x hxn, ?_⟩, rv⟩
        have hko : env.kindOf x = scope.names.lookup x := by unfold Env.kindOf; rw [hEn]
        have hg := bind_get env.kindOf (names.zip vs) (fun _ => none) (fun _ => none) x v hnodup hv
        rcases hkind x hxn with h | h
        · exact .inl ⟨hko.trans h, _, ns, hg.1 (hko.trans h)⟩
        · obtain ⟨c, hc⟩ := Option.isSome_iff_exists.mp (hEo.cell x h)
          refine .inr ⟨hko.trans h, c, hc, ?_⟩
          have := cell x c hc
          rw [hg.2 (hko.trans h)] at this
          exact this
      · have hlt : env.locals < c := above x c (mem_of_lookup hc)
        exact ⟨⟨_, cell x c hc⟩, fun _ => ⟨fresh_none hz (fr c hlt), noB _ (fr c hlt), noX _ (fr c hlt)⟩⟩
      · exact name_of_addr apart (mem_of_lookup hx) (mem_of_lookup hy)
    have hr' : Room (A.deeper env) n := ⟨hr.1, by rw [depth_deeper]; have := hr.2.1; omega, by rw [Around.deeper_units]; have := hr.2.2; omega⟩
    exact wp_noE (hb env hr' hEo _ f0)
theorem funOk_of {n : Nat} {f : Addr} {params : Arguments} {body : List Stmt} {scope : Scope} {names : List Str} {as : List PV} {o : Out} (ok : C.Ok) (D : DefAt C f params body scope)
    (hp : ∀ (name qual : Str) (pm code doc : Value) (vs : List Value), vs.length = names.length → bindArgs (methDef name qual params body scope pm code doc) ⟨vs, []⟩ = pure (names.zip vs))
    (hlen : names.length = as.length) (hnd : names.Nodup) (hkind : ∀ x ∈ names, scope.names.lookup x = some .local ∨ scope.names.lookup x = some .cell) (hdbg : ∀ x ∈ names, (x == ("__debug__" : Str)) = false)
    (hb : ∀ A env, Room A n → EnvOf scope env → Ex C A env NoX (names.zip as) [] body o)
    (hret : (∃ pv, o = .ret pv) ∨ (∃ P W, o = .next P W))
    (hco : scope.isCoroutine = false := by rfl) (hgen : scope.isGenerator = false := by rfl) (hk : scope.kind = .function := by rfl) : FunOk C (n + 1) f as (retOf o) := fun A hr s z vs hbz hz rl => by
  refine wpAny_call (def_entry (X := NoX) (sB := s) ok D hp hlen hnd hkind hdbg hr hbz hz hz rl (fun _ _ e => e) rfl rfl rfl (fun a o e => by cases e) (fun env hr' hEo s₁ f0 => ?_) hco hgen hk)
  refine wpAny_mono (hb _ env hr' hEo s z s.gens z _ f0) (fun fl s' q => ?_) fun _ _ x => x
  have fin : ∀ (pv : PV) (v : Value) (z' : Zm) (P : PEnv) (W : OEnv), FS C ⟨env, A.deeper env, s, z, noRo⟩ s.gens NoX z' s' P W → Rep z' pv v → Post C.md z s pv v s' := fun pv v z' P W f' rv => by
    refine ⟨z', ⟨⟨s'.heap, s'.toks, s'.gens, ?_, f'.keep, f'.gens, f'.bare⟩, f'.z0, f'.ep.zin, f'.znew⟩, rv⟩
    have h1 := f'.os
    have h2 := f'.drawn
    obtain ⟨a1, a2, a3, a4, a5⟩ := s'
    simp only at h1 h2
    subst h1 h2
    rfl
  cases o with
  | ret pv =>
    obtain ⟨v, z', rfl, m, f', rv⟩ := q
    exact fin pv v z' _ _ f' rv
  | next P W =>
    obtain ⟨rfl, z', m, f'⟩ := q
    exact fin .none .none z' _ _ f' rep_none
  | brk P W => rcases hret with ⟨_, h⟩ | ⟨_, _, h⟩ <;> cases h
end
section
variable {C : Cst} {A : Around} {env : Env} {P : PEnv} {sc : Scope}
theorem EnvOf.k {x : Str} {k : NameKind} (h : EnvOf sc env) (e : sc.names.lookup x = some k) : env.kindOf x = some k := by unfold Env.kindOf; rw [h.names]; exact e
theorem EnvOf.loc {x : Str} (h : EnvOf sc env) (e : sc.names.lookup x = some .local) (hd : (x == ("__debug__" : Str)) = false := by decide) : Can env x := Can.loc (h.k e) hd
theorem EnvOf.cel {x : Str} (h : EnvOf sc env) (e : sc.names.lookup x = some .cell) (hd : (x == ("__debug__" : Str)) = false := by decide) : Can env x := Can.cell (h.k e) (h.cell x e) hd
def Fun (C : Cst) (name : Str) (n : Nat) (as : List PV) (r : PV) : Prop := ∃ f, GlobIs C name (.ref f) ∧ CallW C (.ref f) ∧ FunOk C n f as r
theorem Ev_fun {x : Str} {p pos : Pos} {args : List Expr} {as : List PV} {r : PV} {n : Nat} (ok : C.Ok) (hr : Room A n) (hE : EnvOf sc env) (hk : sc.names.lookup x = some .globalImplicit) (ha : Evs C A env P args as) (h : Fun C x n as r)
    (hd : (x == ("__debug__" : Str)) = false := by decide) : Ev C A env P (.Call (.Name x p) args [] pos) r := by
  obtain ⟨f, hg, hw, hf⟩ := h
  exact Ev_call ok (hE.k hk) hg hw ha (hf A hr) hd
def DefG (C : Cst) (name : Str) (params : Arguments) (body : List Stmt) (scope : Scope) : Prop := ∃ f, GlobIs C name (.ref f) ∧ DefAt C f params body scope
theorem fun_of {name : Str} {n : Nat} {params : Arguments} {body : List Stmt} {scope : Scope} {names : List Str} {as : List PV} {o : Out} (ok : C.Ok) (D : DefG C name params body scope)
    (hp : ∀ (name qual : Str) (pm code doc : Value) (vs : List Value), vs.length = names.length → bindArgs (methDef name qual params body scope pm code doc) ⟨vs, []⟩ = pure (names.zip vs))
    (hlen : names.length = as.length) (hnd : names.Nodup) (hkind : ∀ x ∈ names, scope.names.lookup x = some .local ∨ scope.names.lookup x = some .cell) (hdbg : ∀ x ∈ names, (x == ("__debug__" : Str)) = false)
    (hb : ∀ A env, Room A n → EnvOf scope env → Ex C A env NoX (names.zip as) [] body o)
    (hret : (∃ pv, o = .ret pv) ∨ (∃ P W, o = .next P W))
    (hco : scope.isCoroutine = false := by rfl) (hgen : scope.isGenerator = false := by rfl) (hk : scope.kind = .function := by rfl) : Fun C name (n + 1) as (retOf o) := by
  obtain ⟨f, hg, hD⟩ := D
  obtain ⟨o', nm, q, pm, c, doc, ho, hd, hcd⟩ := hD.at_
  exact ⟨f, hg, CallW.func ho hd, funOk_of ok ⟨o', nm, q, pm, c, doc, ho, hd, hcd⟩ hp hlen hnd hkind hdbg hb hret hco hgen hk⟩
theorem Fun.more {name : Str} {n m : Nat} {as : List PV} {r : PV} (h : Fun C name n as r) (hm : n ≤ m) : Fun C name m as r := by
  obtain ⟨f, a, b, d⟩ := h
  exact ⟨f, a, b, fun A hr => d A (hr.less hm)⟩
end
end Mine
namespace Mine
def relN (names enames : List (Str × NameKind)) : List (Str × NameKind) :=
  names.map fun (n, k) => if (k == .free && enames.lookup n == some .cell) then (n, .cell) else (n, k)
def compScope (scope : Scope) (enames : List (Str × NameKind)) : Scope := { scope with names := relN scope.names enames }
theorem relabel_eq {scope : Scope} {env : Env} (hk : env.scope.kind = .function) : relabel scope env = compScope scope env.scope.names := by
  unfold relabel compScope relN Env.kindOf
  simp only [hk, beq_self_eq_true, Bool.and_true]
def closL (env : Env) : List (Str × NameKind) → List (Str × Addr) → List (Str × Addr)
  | [], acc => acc
  | (n, k) :: r, acc => if k == .free then closL env r ((n, (env.cells.lookup n).getD 0) :: acc) else closL env r acc
theorem closureFor_some {scope : Scope} {env : Env} (h : ∀ p ∈ scope.names, p.2 = .free → (env.cells.lookup p.1).isSome = true) : closureFor scope env = pure (closL env scope.names []) := by
  have key : ∀ (names : List (Str × NameKind)) (acc : List (Str × Addr)), (∀ p ∈ names, p.2 = .free → (env.cells.lookup p.1).isSome = true) →
      (forIn names acc (fun (x : Str × NameKind) (r : List (Str × Addr)) => match x with
        | (name, kind) => if (kind == .free) = true then do let a ← cellOf env name; pure (ForInStep.yield ((name, a) :: r)) else pure (ForInStep.yield r) : _ → _ → Sem (ForInStep (List (Str × Addr))))) = pure (closL env names acc) := by
    intro names
    induction names with
    | nil => intro acc _; rfl
    | cons p r ih =>
      intro acc hp
      obtain ⟨n, k⟩ := p
      rw [List.forIn_cons]
      unfold closL
      by_cases hk : (k == NameKind.free) = true
      · have hs := hp (n, k) List.mem_cons_self (by simpa using hk)
        obtain ⟨c, hc⟩ := Option.isSome_iff_exists.mp hs
        have hco : cellOf env n = pure c := by unfold cellOf; simp only at hc; rw [hc]
        simp only [hk, if_true, hco, pure_bind]
        have e : (env.cells.lookup n).getD 0 = c := by simp only at hc; rw [hc]; rfl
        rw [e]
        exact ih _ fun q hq => hp q (List.mem_cons_of_mem _ hq)
      · simp only [hk, if_false, pure_bind]
        exact ih _ fun q hq => hp q (List.mem_cons_of_mem _ hq)
  have := key scope.names [] h
  simp only [closureFor]
  rw [this]
  rfl
theorem closL_lookup {env : Env} : ∀ (names : List (Str × NameKind)) (acc : List (Str × Addr)) (x : Str) (c : Addr), (∀ p ∈ names, p.2 = .free → (env.cells.lookup p.1).isSome = true) →
    (closL env names acc).lookup x = some c → acc.lookup x = some c ∨ ((x, NameKind.free) ∈ names ∧ env.cells.lookup x = some c)
  | [], acc, x, c, _, h => .inl h
  | (n, k) :: r, acc, x, c, hp, h => by
    unfold closL at h
    by_cases hk : (k == NameKind.free) = true
    · rw [if_pos hk] at h
      have hkf : k = .free := by simpa using hk
      rcases closL_lookup r _ x c (fun q hq => hp q (List.mem_cons_of_mem _ hq)) h with h1 | h1
      · by_cases e : x = n
        · subst e
          simp only [List.lookup, beq_self_eq_true, Option.some.injEq] at h1
          obtain ⟨c', hc'⟩ := Option.isSome_iff_exists.mp (hp (x, k) List.mem_cons_self hkf)
          simp only at hc'
          rw [hc'] at h1
          simp only [Option.getD] at h1
          subst h1 hkf
          exact .inr ⟨List.mem_cons_self, hc'⟩
        · have : (x == n) = false := beq_eq_false_iff_ne.mpr e
          simp only [List.lookup, this] at h1
          exact .inl h1
      · exact .inr ⟨List.mem_cons_of_mem _ h1.1, h1.2⟩
    · rw [if_neg hk] at h
      rcases closL_lookup r _ x c (fun q hq => hp q (List.mem_cons_of_mem _ hq)) h with h1 | h1
      · exact .inl h1
      · exact .inr ⟨List.mem_cons_of_mem _ h1.1, h1.2⟩
theorem closL_some {env : Env} : ∀ (names : List (Str × NameKind)) (acc : List (Str × Addr)) (x : Str), ((acc.lookup x).isSome = true ∨ (x, NameKind.free) ∈ names) → ((closL env names acc).lookup x).isSome = true
  | [], acc, x, h => by
    rcases h with h | h
    · exact h
    · cases h
  | (n, k) :: r, acc, x, h => by
    unfold closL
    by_cases hk : (k == NameKind.free) = true
    · rw [if_pos hk]
      refine closL_some r _ x ?_
      by_cases e : x = n
      · subst e; left; simp [List.lookup]
      · have : (x == n) = false := beq_eq_false_iff_ne.mpr e
        simp only [List.lookup, this]
        rcases h with h | h
        · exact .inl h
        · rcases List.mem_cons.mp h with h | h
          · cases h; exact absurd rfl e
          · exact .inr h
    · rw [if_neg hk]
      refine closL_some r _ x ?_
      rcases h with h | h
      · exact .inl h
      · rcases List.mem_cons.mp h with h | h
        · cases h; exact absurd rfl hk
        · exact .inr h
theorem cellsFrom_acc : ∀ (names : List (Str × NameKind)) (n : Nat) (acc : List (Str × Addr)) (x : Str), (x, NameKind.cell) ∉ names → (cellsFrom n names acc).lookup x = acc.lookup x
  | [], _, _, _, _ => rfl
  | (y, k) :: r, n, acc, x, h => by
    simp only [List.mem_cons, not_or] at h
    unfold cellsFrom
    by_cases hk : (k == NameKind.cell) = true
    · rw [if_pos hk, cellsFrom_acc r _ _ x h.2]
      have hkf : k = .cell := by simpa using hk
      have : (x == y) = false := beq_eq_false_iff_ne.mpr fun e => h.1 (by rw [e, hkf])
      simp only [List.lookup, this]
    · rw [if_neg hk]; exact cellsFrom_acc r _ _ x h.2
theorem cellsFrom_spec : ∀ (names : List (Str × NameKind)) (h : Heap) (acc : List (Str × Addr)) (x : Str) (c : Addr), (cellsFrom h.objs.size names acc).lookup x = some c →
    acc.lookup x = some c ∨ (h.objs.size ≤ c ∧ (pushCells h names).IsCell c none ∧ (x, NameKind.cell) ∈ names)
  | [], _, _, _, _, e => .inl e
  | (y, k) :: r, h, acc, x, c, e => by
    unfold cellsFrom at e
    unfold pushCells
    by_cases hk : (k == NameKind.cell) = true
    · rw [if_pos hk] at e ⊢
      have hkf : k = .cell := by simpa using hk
      have hsz : (h.push { cls := .type "cell", data := .cell none }).objs.size = h.objs.size + 1 := Heap.size_push ..
      rw [← hsz] at e
      rcases cellsFrom_spec r _ _ x c e with h1 | ⟨h1, h2, h3⟩
      · by_cases ex : x = y
        · subst ex
          simp only [List.lookup, beq_self_eq_true, Option.some.injEq] at h1
          subst h1 hkf
          exact .inr ⟨Nat.le_refl _, ⟨_, pushCells_keeps r _ _ _ (Heap.get?_push_size _ rfl), rfl⟩, List.mem_cons_self⟩
        · have : (x == y) = false := beq_eq_false_iff_ne.mpr ex
          simp only [List.lookup, this] at h1
          exact .inl h1
      · exact .inr ⟨by rw [hsz] at h1; exact Nat.le_of_succ_le h1, h2, List.mem_cons_of_mem _ h3⟩
    · rw [if_neg hk] at e ⊢
      rcases cellsFrom_spec r _ _ x c e with h1 | ⟨h1, h2, h3⟩
      · exact .inl h1
      · exact .inr ⟨h1, h2, List.mem_cons_of_mem _ h3⟩
theorem cellsFrom_inj : ∀ (names : List (Str × NameKind)) (n n₀ : Nat) (acc : List (Str × Addr)), (∀ x c, acc.lookup x = some c → c < n) → (∀ x y c, n₀ ≤ c → acc.lookup x = some c → acc.lookup y = some c → x = y) →
    n₀ ≤ n → ∀ x y c, n₀ ≤ c → (cellsFrom n names acc).lookup x = some c → (cellsFrom n names acc).lookup y = some c → x = y
  | [], _, _, _, _, hi, _ => hi
  | (u, k) :: r, n, n₀, acc, hb, hi, hn => by
    unfold cellsFrom
    by_cases hk : (k == NameKind.cell) = true
    · rw [if_pos hk]
      refine cellsFrom_inj r (n + 1) n₀ _ (fun x c e => ?_) (fun x y c hc ex ey => ?_) (Nat.le_succ_of_le hn)
      · by_cases e' : x = u
        · subst e'; simp [List.lookup] at e; subst e; exact Nat.lt_succ_self _
        · have : (x == u) = false := beq_eq_false_iff_ne.mpr e'
          simp only [List.lookup, this] at e
          exact Nat.lt_succ_of_lt (hb x c e)
      · by_cases e1 : x = u <;> by_cases e2 : y = u
        · rw [e1, e2]
        · subst e1
          simp only [List.lookup, beq_self_eq_true, Option.some.injEq] at ex
          have : (y == x) = false := beq_eq_false_iff_ne.mpr e2
          simp only [List.lookup, this] at ey
          subst ex
          exact absurd (hb y _ ey) (Nat.lt_irrefl _)
        · subst e2
          simp only [List.lookup, beq_self_eq_true, Option.some.injEq] at ey
          have : (x == y) = false := beq_eq_false_iff_ne.mpr e1
          simp only [List.lookup, this] at ex
          subst ey
          exact absurd (hb x _ ex) (Nat.lt_irrefl _)
        · have h1 : (x == u) = false := beq_eq_false_iff_ne.mpr e1
          have h2 : (y == u) = false := beq_eq_false_iff_ne.mpr e2
          simp only [List.lookup, h1] at ex
          simp only [List.lookup, h2] at ey
          exact hi x y c hc ex ey
    · rw [if_neg hk]; exact cellsFrom_inj r n n₀ acc hb hi hn
section
variable {C : Cst} {A : Around} {env : Env} {X : Zm} {P : PEnv} {W : OEnv}
def TsAll (C : Cst) (A : Around) (env : Env) (P : PEnv) (ifs : List Expr) (b : Bool) : Prop :=
  ∀ s z, EP C.hb env z s P → wpAny C.M A (forIn ifs true fun c r => if r = true then do let ok ← isTrue c env (eval c env); pure (ForInStep.yield ok) else pure (ForInStep.yield r)) (PostB C.md z s b) noE s
theorem TsAll_nil : TsAll C A env P [] true := fun s z ep => wpAny_pure ⟨rfl, Kp.refl s⟩
theorem TsAll_one {c : Expr} {b : Bool} (h : Tst C A env P c b) : TsAll C A env P [c] b := fun s z ep => wpAny_tests_one (h s z ep)
theorem comp_new {scope : Scope} {s₂ : Shared} {cl : List (Str × Addr)} {K : Value → Env → Shared → Prop} (hk : scope.kind = .function)
    (h : ∀ h₁ cenv, cenv = newEnv scope (s₂.heap.objs.size + 1) env.globals (cellsFrom (s₂.heap.objs.size + 1 + 1) scope.names cl) env.qual none .none (some env) builtinsNs →
      h₁ = pushCells ((s₂.heap.push (listO [] 0)).push { cls := .type "dict", data := .dict #[] }) scope.names →
      K (.ref s₂.heap.objs.size) cenv { s₂ with heap := h₁ }) :
    wpAny C.M A (newList []) (fun acc s₃ => wpAny C.M A (newFunctionEnv scope env.globals cl [] env.qual none .none (some env)) (fun cenv s₄ => K acc cenv s₄) noE s₃) noE s₂ := by
  refine wpAny_newObj_type ?_
  simp only [newFunctionEnv, Option.isSome_some, if_true]
  refine wpAny_bind (wpAny_alloc ?_)
  refine wpAny_bind (wpAny_layCells _ (fun name kind cells => by cases hkc : kind == NameKind.cell <;> simp [hkc]) _ _ _ _ ?_)
  refine wpAny_bind ?_
  rw [List.forIn_nil]
  refine wpAny_pure (wpAny_pure ?_)
  have hsz : (s₂.heap.push (listO [] 0)).objs.size = s₂.heap.objs.size + 1 := Heap.size_push ..
  have hsz2 : ((s₂.heap.push (listO [] 0)).push { cls := .type "dict", data := .dict #[] }).objs.size = s₂.heap.objs.size + 1 + 1 := by rw [Heap.size_push, hsz]
  have hl : ([] : List Value).toArray = #[] := rfl
  refine h _ _ ?_ rfl
  simp only [newEnv, hsz, hsz2]
end
end Mine
namespace Mine
def compE (scope : Scope) (cl : List (Str × Addr)) (D : Addr) (env : Env) : Env :=
  { newEnv scope (D + 1) env.globals (cellsFrom (D + 1 + 1) scope.names cl) env.qual none .none (some env) builtinsNs with scope := relabel scope env }
theorem relN_lookup {names enames : List (Str × NameKind)} {x : Str} (h : (relN names enames).lookup x = some .cell) : (x, NameKind.cell) ∈ names ∨ (x, NameKind.free) ∈ names := by
  induction names with
  | nil => cases h
  | cons p r ih =>
    obtain ⟨n, k⟩ := p
    unfold relN at h
    rw [List.map_cons] at h
    by_cases hc : (k == NameKind.free && enames.lookup n == some NameKind.cell) = true
    · simp only [hc, if_true] at h
      by_cases e : x = n
      · subst e
        simp only [Bool.and_eq_true, beq_iff_eq] at hc
        rw [hc.1]
        exact .inr List.mem_cons_self
      · have : (x == n) = false := beq_eq_false_iff_ne.mpr e
        simp only [List.lookup, this] at h
        rcases ih h with q | q
        · exact .inl (List.mem_cons_of_mem _ q)
        · exact .inr (List.mem_cons_of_mem _ q)
    · simp only [hc, if_false] at h
      by_cases e : x = n
      · subst e
        simp [List.lookup] at h
        subst h
        exact .inl List.mem_cons_self
      · have : (x == n) = false := beq_eq_false_iff_ne.mpr e
        have h' : List.lookup x (relN r enames) = some .cell := by
          unfold relN
          simpa [List.lookup, this] using h
        rcases ih h' with q | q
        · exact .inl (List.mem_cons_of_mem _ q)
        · exact .inr (List.mem_cons_of_mem _ q)
theorem relN_miss {enames r : List (Str × NameKind)} {j n : Str} {k : NameKind} (hne : (j == n) = false) : (relN ((n, k) :: r) enames).lookup j = (relN r enames).lookup j := by
  show List.lookup j ((if (k == NameKind.free && enames.lookup n == some NameKind.cell) = true then (n, NameKind.cell) else (n, k)) :: relN r enames) = _
  by_cases h : (k == NameKind.free && enames.lookup n == some NameKind.cell) = true
  · rw [if_pos h]; simp only [List.lookup, hne]
  · rw [if_neg h]; simp only [List.lookup, hne]
theorem relN_free {enames : List (Str × NameKind)} {j : Str} : ∀ {names : List (Str × NameKind)}, names.lookup j = some .free → enames.lookup j = some .cell → (relN names enames).lookup j = some .cell
  | [], q, _ => by cases q
  | (n, k) :: r, q, hc => by
    by_cases e : j = n
    · subst e
      simp [List.lookup] at q
      subst q
      simp [relN, List.lookup, hc]
    · have hne : (j == n) = false := beq_eq_false_iff_ne.mpr e
      simp only [List.lookup, hne] at q
      rw [relN_miss hne]
      exact relN_free q hc
theorem relN_cell {enames : List (Str × NameKind)} {j : Str} : ∀ {names : List (Str × NameKind)}, names.lookup j = some .cell → (relN names enames).lookup j = some .cell
  | [], q => by cases q
  | (n, k) :: r, q => by
    by_cases e : j = n
    · subst e
      simp [List.lookup] at q
      subst q
      simp [relN, List.lookup]
    · have hne : (j == n) = false := beq_eq_false_iff_ne.mpr e
      simp only [List.lookup, hne] at q
      rw [relN_miss hne]
      exact relN_cell q
theorem FS.growth {C : Cst} {F : Fc} {g₀ : Array GenState} {X z' : Zm} {s' : Shared} {P' : PEnv} {W' : OEnv} (f' : FS C F g₀ X z' s' P' W') (hg : C.md = true → g₀ = F.s₀.gens) : Grow C.md F.z₀ F.s₀ z' s' := by
  refine ⟨⟨s'.heap, s'.toks, s'.gens, ?_, f'.keep, fun h => (f'.gens h).trans (hg h), f'.bare⟩, f'.z0, f'.ep.zin, f'.znew⟩
  have h1 := f'.os
  have h2 := f'.drawn
  obtain ⟨a1, a2, a3, a4, a5⟩ := s'
  simp only at h1 h2
  subst h1 h2
  rfl
theorem Ns_empty {h : Heap} {a : Addr} {o : Obj} (ho : h.get? a = some o) (hd : o.data = .dict #[]) : h.Ns a (fun _ => none) :=
  ⟨o, #[], 0, ho, hd, (fun _ hm => by simp at hm), fun _ => rfl⟩
section
variable {C : Cst} {A : Around} {env : Env} {X : Zm} {P : PEnv} {W : OEnv}
structure CompOk (scope : Scope) (enames : List (Str × NameKind)) (P P₀ : PEnv) : Prop where
  kind : scope.kind = .function
  self : ∀ p ∈ scope.names, scope.names.lookup p.1 = some p.2
  free : ∀ p ∈ scope.names, p.2 = .free → enames.lookup p.1 = some .cell
  cap : ∀ y pv, P₀.lookup y = some pv → P.lookup y = some pv ∧ (y, NameKind.free) ∈ scope.names ∧ (relN scope.names enames).lookup y = some .cell
theorem comp_run {elt iter : Expr} {j : Str} {px : Pos} {ifs : List Expr} {scope : Scope} {pos : Pos} {it : Value} {Wr : Addr → Prop} {St : List PV → (Addr → Prop) → Zm → Shared → Prop} {P₀ : PEnv} {items : List PV}
    {p : PV → Bool} {f : PV → PV} {s s₂ : Shared} {z z₂ : Zm} {R : Result → Shared → Prop}
    (hk : CompOk scope env.scope.names P P₀) (hcl : ∀ x, env.scope.names.lookup x = some .cell → (env.cells.lookup x).isSome = true)
    (ep : EP C.hb env z s P) (g₂ : Grow C.md z s z₂ s₂) (hW : ∀ a, Wr a → z₂ a = none ∧ s.heap.get? a = none) (I : Itr C A it false St) (st : St items Wr z₂ s₂)
    (hj : P₀.lookup j = none) (hjk : (relN scope.names env.scope.names).lookup j = some .local ∨ scope.names.lookup j = some .cell) (hjd : (j == ("__debug__" : Str)) = false)
    (htests : ∀ cenv, EnvOf (compScope scope env.scope.names) cenv → ∀ x ∈ items, TsAll C A cenv (upd P₀ j x) ifs (p x))
    (helt : ∀ cenv, EnvOf (compScope scope env.scope.names) cenv → ∀ x ∈ items, p x = true → Ev C A cenv (upd P₀ j x) elt (f x))
    (hsz : items.length ≤ 1000000)
    (hR : ∀ s' z' vs n, Grow C.md z s z' s' → s'.heap.get? s₂.heap.objs.size = some (listO vs n) → RepL z' ((items.filter p).map f) vs → z' s₂.heap.objs.size = none → z' (s₂.heap.objs.size + 1) = none →
      (∃ m, s'.heap.Ns (s₂.heap.objs.size + 1) m) → R (.ok .next) s') :
    codeAny C.M A (.compStart (.ListComp elt [⟨.Name j px, iter, ifs, 0⟩] scope pos) 0 it (.ref s₂.heap.objs.size) (compE scope (closL env scope.names []) s₂.heap.objs.size env)) R
      { s₂ with heap := pushCells ((s₂.heap.push (listO [] 0)).push { cls := .type "dict", data := .dict #[] }) scope.names } := by
  have ep₂ := ep.grow g₂
  have hfree : ∀ p ∈ scope.names, p.2 = .free → (env.cells.lookup p.1).isSome = true := fun p hp hpf => hcl _ (hk.free p hp hpf)
  generalize hcl' : closL env scope.names [] = cl
  generalize hcenv : compE scope cl s₂.heap.objs.size env = cenv
  generalize hh : pushCells ((s₂.heap.push (listO [] 0)).push { cls := .type "dict", data := .dict #[] }) scope.names = h₁
  have hsz1 : (s₂.heap.push (listO [] 0)).objs.size = s₂.heap.objs.size + 1 := Heap.size_push ..
  have hsz2 : ((s₂.heap.push (listO [] 0)).push { cls := .type "dict", data := .dict #[] }).objs.size = s₂.heap.objs.size + 1 + 1 := by rw [Heap.size_push, hsz1]
  have up : ∀ b o, ((s₂.heap.push (listO [] 0)).push { cls := .type "dict", data := .dict #[] }).get? b = some o → h₁.get? b = some o := fun b o e => hh ▸ pushCells_keeps _ _ b o e
  have old : ∀ b o, s₂.heap.get? b = some o → h₁.get? b = some o := fun b o e => up b o (Heap.get?_push_of_some _ (Heap.get?_push_of_some _ e))
  have hD : h₁.get? s₂.heap.objs.size = some (listO [] 0) := up _ _ (Heap.get?_push_of_some _ (Heap.get?_push_size _ rfl))
  have hL : h₁.get? (s₂.heap.objs.size + 1) = some { cls := .type "dict", data := .dict #[] } := up _ _ (by rw [← hsz1]; exact Heap.get?_push_size _ rfl)
  have new2 : ∀ a, s₂.heap.objs.size ≤ a → s₂.heap.get? a = none := fun a ha => by
    cases q : s₂.heap.get? a with
    | none => rfl
    | some o => exact absurd (Nat.lt_of_lt_of_le (Heap.lt_size q) ha) (Nat.lt_irrefl _)
  have new0 : ∀ a, s₂.heap.objs.size ≤ a → s.heap.get? a = none := fun a ha => by
    cases q : s.heap.get? a with
    | none => rfl
    | some o => have := g₂.keeps.old _ _ q; rw [new2 a ha] at this; cases this
  have hEs : cenv.scope = compScope scope env.scope.names := by rw [← hcenv]; exact relabel_eq ep₂.fn
  have hEc : cenv.cells = cellsFrom (s₂.heap.objs.size + 1 + 1) scope.names cl := by rw [← hcenv]; rfl
  have hEl : cenv.locals = s₂.heap.objs.size + 1 := by rw [← hcenv]; rfl
  have hko : ∀ x, cenv.kindOf x = (relN scope.names env.scope.names).lookup x := fun x => by unfold Env.kindOf; rw [hEs]; rfl
  have hcls : ∀ x c, cl.lookup x = some c → (x, NameKind.free) ∈ scope.names ∧ env.cells.lookup x = some c := fun x c e => by
    rw [← hcl'] at e
    rcases closL_lookup _ _ x c hfree e with h | h
    · cases h
    · exact h
  have hEo : EnvOf (compScope scope env.scope.names) cenv := by
    refine ⟨by rw [hEs], by rw [hEs]; exact hk.kind, fun x hx => ?_, ?_⟩
    · rw [hEc]
      rcases relN_lookup hx with h | h
      · exact cells_some _ _ _ _ (.inr (hk.self _ h))
      · exact cells_some _ _ _ _ (.inl (by rw [← hcl']; exact closL_some _ _ _ (.inr h)))
    · unfold Env.blockKind; rw [hEs]
      show (if scope.kind.isAnnotationScope then ScopeKind.function else scope.kind) = .function
      rw [hk.kind]; rfl
  let ro : Str → Bool := fun x => scope.names.lookup x == some .free
  have hjro : ro j = false := by
    show (scope.names.lookup j == some NameKind.free) = false
    rcases hjk with h | h
    · rcases q : scope.names.lookup j with _ | k
      · rfl
      · cases k <;> first | rfl | skip
        exfalso
        have hm := mem_of_lookup q
        have hc := hk.free _ hm rfl
        have : (relN scope.names env.scope.names).lookup j = some .cell := by
          exact relN_free q hc
        rw [this] at h; cases h
    · rw [h]; rfl
  have hcan : Can cenv j := by
    rcases hjk with h | h
    · exact Can.loc ((hko j).trans h) hjd
    · have hc : (relN scope.names env.scope.names).lookup j = some .cell := by
        exact relN_cell h
      exact Can.cell ((hko j).trans hc) (by rw [hEc]; exact cells_some _ _ _ _ (.inr h)) hjd
  -- the frame at the start
  have f0 : FS C ⟨cenv, A, s, z, ro⟩ s₂.gens NoX z₂ { s₂ with heap := h₁ } P₀ [] := by
    have bounded : ∀ x c, cl.lookup x = some c → c < s₂.heap.objs.size + 1 + 1 := fun x c e => by
      obtain ⟨v, hv⟩ := ep₂.cel x c (hcls x c e).2
      exact Nat.lt_succ_of_lt (Nat.lt_succ_of_lt hv.lt)
    refine
      { ep := ⟨by rw [hEs]; exact hk.kind, by rw [← hcenv]; exact ep₂.gl, by rw [← hcenv]; exact ep₂.bu, ep₂.hz, fun a o e => old a o (ep₂.zin a o e), fun x pv hx => ?_, fun x c hc => ?_⟩
        z0 := g₂.sub, znew := g₂.new, keep := fun b o e => old b o (g₂.keeps.old b o e), os := g₂.keeps.os, drawn := g₂.keeps.drawn, gens := fun _ => rfl, bare := fun h => g₂.keeps.bare h
        loc := ⟨_, by rw [hEl]; exact Ns_empty hL rfl⟩, locN := by rw [hEl]; exact new0 _ (Nat.le_succ _), locZ := by rw [hEl]; exact fresh_none ep₂.zin (new2 _ (Nat.le_succ _)), locX := rfl
        cell := fun x c hc => ?_
        cellD := fun x y c hro hx hy => ?_
        own := fun x xs hx => by cases hx
        ownD := fun x y a hx => by cases hx
        xin := fun a o e => by cases e }
    · obtain ⟨hP, hf, hrel⟩ := hk.cap x pv hx
      obtain ⟨v, l, r⟩ := ep₂.var x pv hP
      refine ⟨v, ⟨l.1, ?_⟩, r⟩
      rcases l.2 with ⟨kl, _⟩ | ⟨kl, c, hc, hv⟩
      · exfalso
        have := hk.free _ hf rfl
        unfold Env.kindOf at kl
        rw [this] at kl; cases kl
      · refine .inr ⟨(hko x).trans hrel, c, ?_, hv.keeps old⟩
        show cenv.cells.lookup x = some c
        rw [hEc, cellsFrom_acc _ _ _ _ (fun hm => by have := hk.self _ hm; rw [hk.self _ hf] at this; cases this)]
        obtain ⟨c', hc'⟩ := Option.isSome_iff_exists.mp (show (cl.lookup x).isSome = true by rw [← hcl']; exact closL_some _ _ _ (.inr hf))
        rw [hc', ← (hcls x c' hc').2, hc]
    · rw [hEc, ← hsz2] at hc
      rcases cellsFrom_spec _ _ _ x c hc with h | ⟨h1, h2, h3⟩
      · obtain ⟨v, hv⟩ := ep₂.cel x c (hcls x c h).2
        exact ⟨v, hv.keeps old⟩
      · exact ⟨none, by rw [← hh]; exact h2⟩
    · have hc' : cenv.cells.lookup x = some c := hc
      rw [hEc, ← hsz2] at hc'
      rcases cellsFrom_spec _ _ _ x c hc' with h | ⟨h1, h2, h3⟩
      · obtain ⟨v, hv⟩ := ep₂.cel x c (hcls x c h).2
        refine ⟨⟨v, hv.keeps old⟩, fun hro => ?_⟩
        have := hk.self _ (hcls x c h).1
        have hro' : (scope.names.lookup x == some NameKind.free) = false := hro
        rw [this] at hro'
        simp at hro'
      · rw [hsz2] at h1
        have h1' : s₂.heap.objs.size ≤ c := Nat.le_of_succ_le (Nat.le_of_succ_le h1)
        exact ⟨⟨none, by show h₁.IsCell c none; rw [← hh]; exact h2⟩, fun _ => ⟨fresh_none ep₂.zin (new2 c h1'), new0 c h1', rfl⟩⟩
    · have hx' : cenv.cells.lookup x = some c := hx
      have hy' : cenv.cells.lookup y = some c := hy
      rw [hEc] at hx' hy'
      have hge : s₂.heap.objs.size + 1 + 1 ≤ c := by
        have hx2 := hx'
        rw [← hsz2] at hx2
        rcases cellsFrom_spec _ _ _ x c hx2 with h | ⟨h1, _, _⟩
        · exfalso
          have := hk.self _ (hcls x c h).1
          have hro' : (scope.names.lookup x == some NameKind.free) = false := hro
          rw [this] at hro'
          simp at hro'
        · rw [hsz2] at h1; exact h1
      exact cellsFrom_inj _ _ _ _ bounded (fun u v c hc hu hv => absurd (bounded u c hu) (Nat.not_lt.mpr hc)) (Nat.le_refl _) x y c hge hx' hy'
  have w0 : WrOk ⟨cenv, A, s, z, ro⟩ NoX z₂ { s₂ with heap := h₁ } [] (fun a => a = s₂.heap.objs.size ∨ Wr a) := by
    have live₂ := I.live _ _ _ _ st
    refine ⟨fun a h => ?_, fun a h => ?_, fun a _ => rfl, fun h => ?_, fun x c hc h => ?_, fun x xs a hx => by cases hx⟩
    · rcases h with rfl | h
      · exact fresh_none ep₂.zin (new2 _ (Nat.le_refl _))
      · exact (hW a h).1
    · rcases h with rfl | h
      · exact new0 _ (Nat.le_refl _)
      · exact (hW a h).2
    · have h' : cenv.locals = s₂.heap.objs.size ∨ Wr cenv.locals := h
      rw [hEl] at h'
      rcases h' with h | h
      · exact absurd h (Nat.succ_ne_self _)
      · have := live₂ _ h
        rw [new2 _ (Nat.le_succ _)] at this; cases this
    · have hc' : cenv.cells.lookup x = some c := hc
      rw [hEc, ← hsz2] at hc'
      rcases cellsFrom_spec _ _ _ x c hc' with q | ⟨h1, h2, h3⟩
      · obtain ⟨v, hv⟩ := ep₂.cel x c (hcls x c q).2
        rcases h with h | h
        · have := hv.lt; rw [h] at this; exact Nat.lt_irrefl _ this
        · obtain ⟨u, o, ho, _⟩ := ep.cel x c (hcls x c q).2
          have := (hW c h).2
          rw [ho] at this; cases this
      · rw [hsz2] at h1
        rcases h with h | h
        · rw [h] at h1; exact absurd h1 (Nat.not_le.mpr (Nat.lt_succ_of_lt (Nat.lt_succ_self _)))
        · have := live₂ _ h
          rw [new2 _ (Nat.le_of_succ_le (Nat.le_of_succ_le h1))] at this; cases this
  -- the loop
  have hlt0 : ∀ a, Wr a → a ≠ s₂.heap.objs.size := fun a h e => by
    have := I.live _ _ _ _ st a h
    rw [e, new2 _ (Nat.le_refl _)] at this; cases this
  have st₄ : St items Wr z₂ { s₂ with heap := h₁ } := I.frame _ _ _ _ _ _ st (ZLe.refl _) f0.ep.zin f0.ep.hz (fun a o _ e => old a o e) (fun h => by cases h)
  have loop : codeAny C.M A (.compLoop (.ListComp elt [⟨.Name j px, iter, ifs, 0⟩] scope pos) 0 it (.ref s₂.heap.objs.size) cenv) R { s₂ with heap := h₁ } := by
    refine codeAny_compLoop_tests (fun n s' => ∃ xs ys z' vs nn Wr, n = xs.length ∧ FS C ⟨cenv, A, s, z, ro⟩ s₂.gens NoX z' s' P₀ [] ∧ WrOk ⟨cenv, A, s, z, ro⟩ NoX z' s' [] (fun a => a = s₂.heap.objs.size ∨ Wr a) ∧ St xs Wr z' s' ∧ (∀ a, Wr a → a ≠ s₂.heap.objs.size) ∧
        s'.heap.get? s₂.heap.objs.size = some (listO vs nn) ∧ RepL z' ys vs ∧ ys ++ ((xs.filter p).map f) = (items.filter p).map f ∧ (∀ x ∈ xs, x ∈ items) ∧ ys.length + xs.length ≤ 1000000) ?_ items.length
      ⟨items, [], z₂, [], 0, Wr, rfl, f0, w0, st₄, hlt0, hD, repL_nil, by simp, fun _ h => h, by simpa using hsz⟩
    clear st₄ w0 hW hlt0 st
    clear Wr
    rintro n s₃ ⟨xs, ys, z₃, vs, nn, Wr, rfl, f₃, w₃, st₃, hlt0, hD₃, rl₃, hys, hmem, hlen⟩
    have live₃ : ∀ a, (a = s₂.heap.objs.size ∨ Wr a) → (s₃.heap.get? a).isSome = true := fun a h => by
      rcases h with rfl | h
      · rw [hD₃]; rfl
      · exact I.live _ _ _ _ st₃ a h
    have wg : ∀ {z' s'}, WG C.md Wr z₃ s₃ z' s' → WG C.md (fun a => a = s₂.heap.objs.size ∨ Wr a) z₃ s₃ z' s' := fun g => ⟨g.same, fun b o h e => g.old b o (fun q => h (.inr q)) e, g.sub, g.zin, g.new, g.gens, g.bare⟩
    cases xs with
    | nil =>
      refine wp_noE (wpAny_mono (I.done Wr z₃ s₃ f₃.ep.hz f₃.ep.zin (fun a h => w₃.z a (.inr h)) st₃) (fun r s₄ h₄ => ?_) fun _ _ x => x)
      obtain ⟨rfl, g⟩ := h₄
      obtain ⟨m₄, f₄, w₄⟩ := f₃.wg w₃ live₃ (wg g)
      have hD₄ := g.old _ _ (fun h => hlt0 _ h rfl) hD₃
      simp only [List.filter_nil, List.map_nil, List.append_nil] at hys
      subst hys
      obtain ⟨m, hm⟩ := f₄.loc
      have hlz := f₄.locZ
      simp only [hEl] at hm hlz
      exact hR s₄ z₃ vs nn (f₄.growth (fun h => g₂.keeps.gens h)) hD₄ rl₃ (w₄.z _ (.inl rfl)) hlz ⟨m, hm⟩
    | cons x xs =>
      refine wp_noE (wpAny_mono (I.item x xs Wr z₃ s₃ f₃.ep.hz f₃.ep.zin (fun a h => w₃.z a (.inr h)) st₃) (fun r s₄ h₄ => ?_) fun _ _ x => x)
      obtain ⟨v, z₄, Wr', rfl, g, hw1, hw2, hw3, rv, st₄'⟩ := h₄
      obtain ⟨m₄, f₄, w₄'⟩ := f₃.wg w₃ live₃ (wg g)
      have hD₄ := g.old _ _ (fun h => hlt0 _ h rfl) hD₃
      have hlt1 : ∀ a, Wr' a → a ≠ s₂.heap.objs.size := fun a h e => by
        rcases hw2 a h with q | q
        · exact hlt0 a q e
        · rw [e, hD₃] at q; cases q
      have w₄ : WrOk ⟨cenv, A, s, z, ro⟩ NoX z₄ s₄ [] (fun a => a = s₂.heap.objs.size ∨ Wr' a) := WrOk.more f₃ f₄ w₄' (wg g).old (fun a h => by
        rcases h with h | h
        · exact .inl (.inl h)
        · rcases hw2 a h with q | q
          · exact .inl (.inr q)
          · exact .inr q) fun a h => by
        rcases h with h | h
        · exact w₄'.z a (.inl h)
        · exact hw3 a h
      clear w₄'
      have live₄ : ∀ a, (a = s₂.heap.objs.size ∨ Wr' a) → (s₄.heap.get? a).isSome = true := fun a h => by
        rcases h with rfl | h
        · rw [hD₄]; rfl
        · exact I.live _ _ _ _ st₄' a h
      have hx : x ∈ items := hmem x List.mem_cons_self
      have fb := f₄.intoBody w₄ C.md
      refine wp_noE (wpAny_mono (AsgT_name (ro := ro) hcan hjro _ s z s₄.gens z₄ s₄ v fb rv) (fun _ s₅ h₅ => ?_) fun _ _ x => x)
      obtain ⟨z₅, m₅, f₅⟩ := h₅
      have f₅' : FS C ⟨cenv, A, s, z, ro⟩ s₄.gens (XW NoX (fun a => a = s₂.heap.objs.size ∨ Wr' a) s₄) z₅ s₅ (upd P₀ j x) [] := f₅
      refine wp_noE (wpAny_mono (htests cenv hEo x hx s₅ z₅ f₅'.ep) (fun ok s₆ h₆ => ?_) fun _ _ x => x)
      obtain ⟨rfl, k₆⟩ := h₆
      have f₆ := f₅'.grow (Grow.same f₅'.ep.zin k₆)
      have hw : PSub P₀ (upd P₀ j x) := fun y pv e => by
        rw [lookup_upd]
        by_cases q : y = j
        · subst q; rw [hj] at e; cases e
        · rw [if_neg q]; exact e
      by_cases hp : p x = true
      · rw [hp, if_pos rfl]
        refine wp_noE (wpAny_mono (helt cenv hEo x hx hp s₆ z₅ f₆.ep) (fun y s₇ h₇ => ?_) fun _ _ x => x)
        obtain ⟨z₇, g₇, r₇⟩ := h₇
        have f₇ := f₆.grow g₇
        have m₇ : Mv (XW NoX (fun a => a = s₂.heap.objs.size ∨ Wr' a) s₄) z₄ z₇ := m₅.trans (g₇.mv f₆.xin)
        obtain ⟨m₈, f₈, w₈, k₈, _⟩ := f₄.outOfBody (mb := C.md) (fun h => h) w₄ live₄ m₇ f₇
        have hD₈ := k₈ _ _ (.inl rfl) hD₄
        have hvl := rl₃.length
        simp only [List.length_cons] at hlen
        refine wpAny_list_append_plain (hsz := by simp [sizeLine]; omega) ⟨nn, hD₈⟩ fun h' hp' hsb => ?_
        obtain ⟨n', hD₉⟩ := hp'
        have g₉ : WG C.md (fun a => a = s₂.heap.objs.size ∨ Wr' a) z₇ s₇ z₇ { s₇ with heap := h' } :=
          ⟨⟨h', s₇.toks, s₇.gens, rfl⟩, fun b o hb e => (hsb.2 b fun q => hb (.inl q)).trans e, ZLe.refl _, fun a o e => (hsb.2 a fun q => by rw [q, w₈.z _ (.inl rfl)] at e; cases e).trans (f₈.ep.zin a o e), fun _ _ e => .inl e, fun _ => rfl, fun h => h⟩
        have live₈ : ∀ a, (a = s₂.heap.objs.size ∨ Wr' a) → (s₇.heap.get? a).isSome = true := fun a h => by
          obtain ⟨o, ho⟩ := Option.isSome_iff_exists.mp (live₄ a h)
          rw [k₈ a o h ho]; rfl
        obtain ⟨m₉, f₉, w₉⟩ := f₈.wg w₈ live₈ g₉
        refine ⟨xs.length, Nat.lt_succ_self _, xs, ys ++ [f x], z₇, vs ++ [y], n', Wr', rfl, f₉.weak hw (PSub.refl _), ⟨w₉.z, w₉.s0, w₉.x, w₉.loc, w₉.cell, fun x xs a hx => by cases hx⟩,
          I.frame _ _ _ _ _ _ st₄' m₈.sub f₉.ep.zin f₉.ep.hz (fun a o ha e => (hsb.2 a (hlt1 a ha)).trans (k₈ a o (.inr ha) e)) (fun h => by cases h), hlt1, ?_, ((rl₃.mono g.sub).mono m₈.sub).append (repL_cons r₇ repL_nil), ?_, fun u hu => hmem u (List.mem_cons_of_mem _ hu), ?_⟩
        · show h'.get? s₂.heap.objs.size = _
          rw [hD₉]; simp
        · rw [← hys]; simp [hp]
        · simp; omega
      · simp only [Bool.not_eq_true] at hp
        rw [hp, if_neg (by decide)]
        obtain ⟨m₈, f₈, w₈, k₈, _⟩ := f₄.outOfBody (mb := C.md) (fun h => h) w₄ live₄ m₅ f₆
        refine ⟨xs.length, Nat.lt_succ_self _, xs, ys, z₅, vs, nn, Wr', rfl, f₈.weak hw (PSub.refl _), ⟨w₈.z, w₈.s0, w₈.x, w₈.loc, w₈.cell, fun x xs a hx => by cases hx⟩,
          I.frame _ _ _ _ _ _ st₄' m₈.sub f₈.ep.zin f₈.ep.hz (fun a o ha e => k₈ a o (.inr ha) e) (fun h => by cases h), hlt1, k₈ _ _ (.inl rfl) hD₄, (rl₃.mono g.sub).mono m₈.sub, ?_, fun u hu => hmem u (List.mem_cons_of_mem _ hu), ?_⟩
        · rw [← hys]; simp [hp]
        · simp only [List.length_cons] at hlen; omega
  exact codeAny_compStart_list loop (wp_noE (wpAny_mono (I.self _ _ _ _ st₄) (fun r s' h => by obtain ⟨rfl, rfl⟩ := h; exact loop) fun _ _ x => x))
end
end Mine
namespace Mine
section
variable {C : Cst} {A : Around} {env : Env} {X : Zm} {P : PEnv} {W : OEnv}
structure CompIs (C : Cst) (A : Around) (enames : List (Str × NameKind)) (P P₀ : PEnv) (elt : Expr) (j : Str) (ifs : List Expr) (scope : Scope) (items : List PV) (p : PV → Bool) (f : PV → PV) : Prop where
  ok : CompOk scope enames P P₀
  hj : P₀.lookup j = none
  hjk : (relN scope.names enames).lookup j = some .local ∨ scope.names.lookup j = some .cell
  hjd : (j == ("__debug__" : Str)) = false
  tests : ∀ cenv, EnvOf (compScope scope enames) cenv → ∀ x ∈ items, TsAll C A cenv (upd P₀ j x) ifs (p x)
  elts : ∀ cenv, EnvOf (compScope scope enames) cenv → ∀ x ∈ items, p x = true → Ev C A cenv (upd P₀ j x) elt (f x)
  size : items.length ≤ 1000000
theorem comp_any {elt iter : Expr} {j : Str} {px : Pos} {ifs : List Expr} {scope : Scope} {pos pos' : Pos} {P₀ : PEnv} {items : List PV} {p : PV → Bool} {f : PV → PV} {s : Shared} {z : Zm} {Q : Value → Shared → Prop}
    {use : Option (Value → Sem Unit)} (ep : EP C.hb env z s P) (hcl : ∀ x, env.scope.names.lookup x = some .cell → (env.cells.lookup x).isSome = true) (hi : ItE C A env P iter false items) (hc : CompIs C A env.scope.names P P₀ elt j ifs scope items p f)
    (hs : ∀ x, foldedSetIterable iter env x = pure x)
    (h : ∀ s' z' vs n D, Grow C.md z s z' s' → s'.heap.get? D = some (listO vs n) → RepL z' ((items.filter p).map f) vs → z' D = none → s.heap.get? D = none → z' (D + 1) = none → s.heap.get? (D + 1) = none → (∃ m, s'.heap.Ns (D + 1) m) →
      compPost C.M A noE use Q (.ref D) (D + 1) (.ok .next) s') :
    wpAny C.M A (comprehension (.ListComp elt [⟨.Name j px, iter, ifs, 0⟩] scope pos) scope env pos' (newList []) false (eval iter env) use) Q noE s := by
  have hfree : ∀ p ∈ scope.names, p.2 = .free → (env.cells.lookup p.1).isSome = true := fun p hp hpf => hcl _ (hc.ok.free p hp hpf)
  refine wpAny_comprehension_free rfl hs (closureFor_some hfree) hc.ok.kind (fun q hq hl => by rw [hc.ok.self q hq, hl]) ?_
  refine wpAny_mono (hi s z ep) (fun x s₁ h₁ => wpAny_mono h₁ (fun it s₂ h₂ => ?_) fun _ _ x => x) fun _ _ x => x
  obtain ⟨z₂, Wr, St, g₂, hW, I, st⟩ := h₂
  refine comp_new (K := fun acc cenv s₄ => codeAny C.M A (.compStart (.ListComp elt [⟨.Name j px, iter, ifs, 0⟩] scope pos) 0 it acc { cenv with scope := relabel scope env }) (compPost C.M A noE use Q acc cenv.locals) s₄) hc.ok.kind fun h₁ cenv hce hh => ?_
  subst hce hh
  have new2 : ∀ a, s₂.heap.objs.size ≤ a → s₂.heap.get? a = none := fun a ha => by
    cases q : s₂.heap.get? a with
    | none => rfl
    | some o => exact absurd (Nat.lt_of_lt_of_le (Heap.lt_size q) ha) (Nat.lt_irrefl _)
  have new0 : ∀ a, s₂.heap.objs.size ≤ a → s.heap.get? a = none := fun a ha => by
    cases q : s.heap.get? a with
    | none => rfl
    | some o => have := g₂.keeps.old _ _ q; rw [new2 a ha] at this; cases this
  exact comp_run hc.ok hcl ep g₂ hW I st hc.hj hc.hjk hc.hjd hc.tests hc.elts hc.size fun s' z' vs n g ha r hz hl hm =>
    h s' z' vs n _ g ha r hz (new0 _ (Nat.le_refl _)) hl (new0 _ (Nat.le_succ _)) hm
theorem EvN_comp {sc : Scope} {elt iter : Expr} {j : Str} {px : Pos} {ifs : List Expr} {scope : Scope} {pos : Pos} {P₀ : PEnv} {items : List PV} {p : PV → Bool} {f : PV → PV} (hE : EnvOf sc env)
    (hi : ItE C A env P iter false items) (hc : CompIs C A sc.names P P₀ elt j ifs scope items p f) (hs : ∀ x, foldedSetIterable iter env x = pure x := by intro _; rfl) :
    EvN C A env P (.ListComp elt [⟨.Name j px, iter, ifs, 0⟩] scope pos) ((items.filter p).map f) := fun s z ep => by
  rw [eval_ListComp]
  refine comp_any ep (fun x hx => hE.cell x (hE.names ▸ hx)) hi (hE.names ▸ hc) hs fun s' z' vs n D g ha r hz hD hl hL hm => ?_
  obtain ⟨m, hm⟩ := hm
  refine ⟨m, hm, fun h' hsb => ?_⟩
  have k : ∀ b o, s.heap.get? b = some o → h'.get? b = some o := fun b o e => (hsb.2 b fun q => by rw [q, hL] at e; cases e).trans (g.keeps.old b o e)
  obtain ⟨hh, tk, gs, hse, _, hg1, hg2⟩ := g.keeps
  refine ⟨z', D, vs, n, rfl, ⟨⟨h', s'.toks, s'.gens, by rw [hse], k, fun h => g.keeps.gens h, fun h => g.keeps.bare h⟩, g.sub, fun a o e => (hsb.2 a fun q => by rw [q, hl] at e; cases e).trans (g.zin a o e), g.new⟩,
    (hsb.2 D (Nat.ne_of_lt (Nat.lt_succ_self _))).trans ha, r, hz, hD⟩
theorem Ev_comp {sc : Scope} {elt iter : Expr} {j : Str} {px : Pos} {ifs : List Expr} {scope : Scope} {pos : Pos} {P₀ : PEnv} {items : List PV} {p : PV → Bool} {f : PV → PV} (hE : EnvOf sc env)
    (hi : ItE C A env P iter false items) (hc : CompIs C A sc.names P P₀ elt j ifs scope items p f) (hs : ∀ x, foldedSetIterable iter env x = pure x := by intro _; rfl) :
    Ev C A env P (.ListComp elt [⟨.Name j px, iter, ifs, 0⟩] scope pos) (.list ((items.filter p).map f)) := .ofN (EvN_comp hE hi hc hs)
theorem Ex1_assignComp {sc : Scope} {elt iter : Expr} {j y : Str} {px py : Pos} {ifs : List Expr} {scope : Scope} {pos spos : Pos} {P₀ : PEnv} {items : List PV} {p : PV → Bool} {f : PV → PV} (hE : EnvOf sc env)
    (hy : Can env y) (hi : ItE C A env P iter false items) (hc : CompIs C A sc.names P P₀ elt j ifs scope items p f)
    (hsw : swapsWith (.ListComp elt [⟨.Name j px, iter, ifs, 0⟩] scope pos) (some (.Name y py)) spos.line env = pure true) (hs : ∀ x, foldedSetIterable iter env x = pure x := by intro _; rfl) :
    Ex1 C A env X P W (.Assign [.Name y py] (.ListComp elt [⟨.Name j px, iter, ifs, 0⟩] scope pos) spos) (.next (upd P y (.list ((items.filter p).map f))) (del W y)) := fun s₀ z₀ g₀ z s fs => by
  obtain ⟨d, hy⟩ := hy
  rw [exec_Assign_Name_used _ _ _ _ hsw]
  refine wpAny_bind (wpAny_standAt (wpAny_bind ?_))
  show wpAny C.M A (do let _ ← comprehension (.ListComp elt [⟨.Name j px, iter, ifs, 0⟩] scope pos) scope env _ (newList []) false (eval iter env) (some (assign (.Name y py) env))) _ _ s
  refine wpAny_bind (wpAny_mono (comp_any (use := some (assign (.Name y py) env)) (Q := fun _ s' => EndO C ⟨env, A, s₀, z₀, noRo⟩ g₀ X z (.next (upd P y (.list ((items.filter p).map f))) (del W y)) .next s') fs.ep
    (fun x hx => hE.cell x (hE.names ▸ hx)) hi (hE.names ▸ hc) hs fun s' z' vs n D g ha r hz hD hl hL hm => ?_) (fun _ s' hq => wpAny_pure (wpAny_pure hq)) fun _ _ e => e)
  have G := g.freeze hD hz ha
  have f₁ := fs.grow G
  have hlD : D + 1 ≠ D := Nat.succ_ne_self _
  have hzl : ZAdd z' D (listO vs n) (D + 1) = none := by unfold ZAdd; rw [if_neg hlD]; exact hl
  have w₁ : WrOk ⟨env, A, s₀, z₀, noRo⟩ X (ZAdd z' D (listO vs n)) s' W (fun a => a = D + 1) := fs.wrOk f₁ g.keeps.old fun a h => by subst h; exact ⟨hzl, hL⟩
  obtain ⟨m, hm⟩ := hm
  obtain ⟨oL, es, ee, hoL, hrest⟩ := hm
  have live₁ : ∀ a, a = D + 1 → (s'.heap.get? a).isSome = true := fun a h => by subst h; rw [hoL]; rfl
  have fb := f₁.intoBody w₁ C.md
  have rD : Rep (ZAdd z' D (listO vs n)) (.list ((items.filter p).map f)) (.ref D) := rep_list (ZAdd.self _ _ _) (r.mono (ZAdd.le hz))
  refine wpAny_assign_Name (wpAny_mono (fb.store (F := ⟨env, A, s₀, z₀, noRo⟩) hy rfl rD) (fun _ s₂ f₂ => ?_) fun _ _ x => x)
  obtain ⟨m₃, f₃, w₃, k₃, _⟩ := f₁.outOfBody (mb := C.md) (fun h => h) w₁ live₁ (Mv.refl _ _) f₂
  have hoL₂ := k₃ _ _ rfl hoL
  refine ⟨m, ⟨oL, es, ee, hoL₂, hrest⟩, fun h' hsb => ?_⟩
  have g₄ : WG C.md (fun a => a = D + 1) (ZAdd z' D (listO vs n)) s₂ (ZAdd z' D (listO vs n)) { s₂ with heap := h' } :=
    ⟨⟨h', s₂.toks, s₂.gens, rfl⟩, fun b o hb e => (hsb.2 b hb).trans e, ZLe.refl _, fun a o e => (hsb.2 a fun q => by rw [q, hzl] at e; cases e).trans (f₃.ep.zin a o e), fun _ _ e => .inl e, fun _ => rfl, fun h => h⟩
  obtain ⟨m₄, f₄, _⟩ := f₃.wg w₃ (fun a h => by subst h; rw [hoL₂]; rfl) g₄
  exact ⟨rfl, _, (G.mv fs.xin).trans m₄, f₄⟩
end
end Mine
namespace Mine
section
variable {prog : Program} {w : World} {A : Around} {R : GenEnd} {Y : Protocol} {n : Nat} {s₀ : Shared} {c : Code} {fs : List Frame} {s : Shared} {env : Env}
  {K : Flow → Sem Fin} {H : Value → Sem Fin} {gd : Bool → Bool} {lv : List Value → List Value}
theorem seg_noE {α : Type} {m : Sem α} {K : α → Sem Fin} {H : Value → Sem Fin} {gd lv} {M : Model} (h : wpAny M (A.over c fs) m (fun a s' => Seg M A R Y n s₀ c (K a) fs s') noE s) : Seg M A R Y n s₀ c (m.wrap K H gd lv) fs s :=
  seg_wrap (wpAny_mono h (fun _ _ x => x) fun _ _ x => x.elim)
theorem seg_exec {st : Stmt} {Q : Shared → Prop} (h : wpAny (model prog w) (A.over c fs) (exec st env) (fun fl s' => fl = .next ∧ Q s') noE s) (hk : ∀ s', Q s' → Seg (model prog w) A R Y n s₀ c (K .next) fs s') :
    Seg (model prog w) A R Y n s₀ c ((exec st env).wrap K H gd lv) fs s :=
  seg_noE (wpAny_mono h (fun fl s' q => by obtain ⟨rfl, q⟩ := q; exact hk s' q) fun _ _ x => x)
theorem seg_if {test : Expr} {body orelse : List Stmt} {pos : Pos} {b : Bool} {Q : Shared → Prop} (h : wpAny (model prog w) (A.over c fs) (isTrue test env (eval test env)) (fun r s' => r = b ∧ Q s') noE s)
    (h1 : b = true → ∀ s', Q s' → Seg (model prog w) A R Y n s₀ c ((execs body env).wrap K H gd lv) fs s') (h2 : b = false → ∀ s', Q s' → Seg (model prog w) A R Y n s₀ c ((execs orelse env).wrap K H gd lv) fs s') :
    Seg (model prog w) A R Y n s₀ c ((exec (.If test body orelse pos) env).wrap K H gd lv) fs s := by
  show Seg (model prog w) A R Y n s₀ c (.at pos fun _ => ((isTrue test env (eval test env)) >>= fun b => if b then execs body env else execs orelse env).wrap K H gd lv) fs s
  refine seg_at ?_
  rw [Sem.bind_eq_wrap', Sem.wrap_wrap]
  refine seg_noE (wpAny_mono h (fun r s' q => ?_) fun _ _ x => x)
  obtain ⟨rfl, q⟩ := q
  cases r with
  | true => exact h1 rfl s' q
  | false => exact h2 rfl s' q
def backK (env : Env) (K : Flow → Sem Fin) (H : Value → Sem Fin) (gd : Bool → Bool) (lv : List Value → List Value) (r : Result) : Sem Fin :=
  ((match r with | .ok f => (.pure f : Sem Flow) | .error e => .raise e).onRaise fun (x : Value) => do
    if (← field x 1) == Value.none then unsupported "frame.own-activation:exception-without-traceback"
    setFlight x env.frame).wrap K H gd lv
theorem seg_For {tgt iter : Expr} {body : List Stmt} {pos : Pos}
    (h : wpAny (model prog w) (A.over c fs) (eval iter env) (fun x s₁ => wpAny (model prog w) (A.over c fs) (pyIter x) (fun it s₂ =>
      ∀ p, Seg (model prog w) A R Y n s₀ (.forLoop tgt it body [] env) ((model prog w).den (.forLoop tgt it body [] env)) (.ret (backK env K H gd lv) none (gd false) (lv []) c p [] :: fs) s₂) noE s₁) noE s)
    (hs : ∀ x, foldedSetIterable iter env x = pure x := by intro _; rfl) :
    Seg (model prog w) A R Y n s₀ c ((exec (.For tgt iter body [] pos) env).wrap K H gd lv) fs s := by
  rw [exec_For]
  show Seg (model prog w) A R Y n s₀ c (.at pos fun _ => (eval iter env >>= fun x => foldedSetIterable iter env x >>= fun x => standAt iter.pos >>= fun _ => holding [x] (pyIter x) >>= fun it =>
    runOwn (.forLoop tgt it body [] env) env).wrap K H gd lv) fs s
  refine seg_at ?_
  rw [Sem.bind_eq_wrap', Sem.wrap_wrap]
  refine seg_noE (wpAny_mono h (fun x s₁ h₁ => ?_) fun _ _ x => x)
  rw [hs x]
  show Seg (model prog w) A R Y n s₀ c (.at iter.pos fun _ => (holding [x] (pyIter x) >>= fun it => runOwn (.forLoop tgt it body [] env) env).wrap K H gd lv) fs s₁
  refine seg_at ?_
  rw [Sem.bind_eq_wrap', Sem.wrap_wrap]
  refine seg_noE (wpAny_holding (wpAny_mono h₁ (fun it s₂ h₂ => ?_) fun _ _ x => x))
  exact seg_call h₂
def turnK (tgt : Expr) (it : Value) (body : List Stmt) (env : Env) (f : Flow) : Sem Fin :=
  match f with
  | .next | .cont => .pure (.again (.forLoop tgt it body [] env))
  | .brk => .pure (.done .next)
  | .ret v => .pure (.done (.ret v))
def turnH (env : Env) (e : Value) : Sem Fin := (do noteFrame e env; theTreesLotGoes e : Sem Unit).wrap (fun _ => .raise e) .raise id id
theorem seg_forLoop {tgt : Expr} {it : Value} {body : List Stmt}
    (h : wpAny (model prog w) (A.over (.forLoop tgt it body [] env) fs) (pyNext it) (fun r s₁ => match r with
      | none => Seg (model prog w) A R Y n s₀ (.forLoop tgt it body [] env) (.pure (.again (.block [] env))) fs s₁
      | some v => wpAny (model prog w) (A.over (.forLoop tgt it body [] env) fs) (letOwnedTupleGo tgt it v) (fun _ s₂ => wpAny (model prog w) (A.over (.forLoop tgt it body [] env) fs) (assign tgt env v) (fun _ s₃ =>
          Seg (model prog w) A R Y n s₀ (.forLoop tgt it body [] env) ((execs body env).wrap (turnK tgt it body env) (turnH env) id id) fs s₃) noE s₂) noE s₁) noE s) :
    Seg (model prog w) A R Y n s₀ (.forLoop tgt it body [] env) ((model prog w).den (.forLoop tgt it body [] env)) fs s := by
  show Seg _ A R Y n s₀ _ ((forTurn tgt it body [] env).onRaise (fun x => do noteFrame x env; theTreesLotGoes x)) fs s
  unfold forTurn
  rw [Sem.onRaise_eq_wrap]
  show Seg _ A R Y n s₀ _ (.at tgt.pos fun _ => (((pyNext it).onRaise (fun _ => standAt { tgt.pos with line := 0 })) >>= fun r => _).wrap _ _ id id) fs s
  refine seg_at ?_
  rw [Sem.bind_eq_wrap', Sem.wrap_wrap, Sem.onRaise_eq_wrap, Sem.wrap_wrap]
  refine seg_noE (wpAny_mono h (fun r s₁ h₁ => ?_) fun _ _ x => x)
  cases r with
  | none => exact h₁
  | some v =>
    show Seg _ A R Y n s₀ _ (Sem.wrap _ _ id id (letOwnedTupleGo tgt it v >>= fun _ => assign tgt env v >>= fun _ => execs body env >>= fun f => _)) fs s₁
    rw [Sem.bind_eq_wrap', Sem.wrap_wrap]
    refine seg_noE (wpAny_mono h₁ (fun _ s₂ h₂ => ?_) fun _ _ x => x)
    rw [Sem.bind_eq_wrap', Sem.wrap_wrap]
    refine seg_noE (wpAny_mono h₂ (fun _ s₃ h₃ => ?_) fun _ _ x => x)
    rw [Sem.bind_eq_wrap', Sem.wrap_wrap]
    rw [Sem.wrap_congr (execs body env) _ _ (K' := turnK tgt it body env) (H' := turnH env) (fun f => by cases f <;> rfl) (fun e => by
      show (do noteFrame e env; theTreesLotGoes e : Sem Unit).bind (fun _ => .raise e) = _
      rw [Sem.bind_eq_wrap]; rfl)]
    exact h₃
theorem seg_loopEnd {tgt : Expr} {it : Value} {body : List Stmt} {cc : Code} {h g l p} (hk : Seg (model prog w) A R Y n s₀ c (K .next) fs s) :
    Seg (model prog w) A R Y n s₀ cc (.pure (.again (.block [] env))) (.ret (backK env K H gd lv) h g l c p [] :: fs) s := by
  refine seg_again rfl ?_
  show Seg (model prog w) A R Y n s₀ _ (leafOf (.ok .next)) _ s
  exact seg_leaf (.ok .next) hk
end
end Mine
namespace Mine
mutual
def toD : PV → PyData
  | .none => .none
  | .bool b => .bool b
  | .int i => .int i
  | .str l => .str ⟨l.toArray⟩
  | .list xs => .list (toDs xs)
  | .tuple xs => .tuple (toDs xs)
  | .inst _ _ _ => .none
  | .addr _ => .none
  | .ty _ => .none
def toDs : List PV → List PyData
  | [] => []
  | x :: xs => toD x :: toDs xs
end
mutual
def isData : PV → Bool
  | .inst _ _ _ => false
  | .addr _ => false
  | .ty _ => false
  | .list xs => isDatas xs
  | .tuple xs => isDatas xs
  | .none => true
  | .bool _ => true
  | .int _ => true
  | .str _ => true
def isDatas : List PV → Bool
  | [] => true
  | x :: xs => isData x && isDatas xs
end
mutual
theorem rep_reads {z : Zm} {s : Shared} (hz : ZIn z s) : ∀ {p : PV} {v : Value}, isData p = true → Rep z p v → ∃ as, Reads s.heap v (toD p) as
  | .none, v, _, r => by simp only [Rep] at r; subst r; exact ⟨_, .none⟩
  | .bool b, v, _, r => by simp only [Rep] at r; subst r; exact ⟨_, .bool b⟩
  | .int i, v, _, r => by simp only [Rep] at r; obtain ⟨t, rfl⟩ := r; exact ⟨_, .int i t⟩
  | .str l, v, _, r => by simp only [Rep] at r; obtain ⟨t, rfl⟩ := r; exact ⟨_, .str _ t⟩
  | .list xs, v, h, r => by
    simp only [Rep] at r
    obtain ⟨a, vs, n, rfl, ha, rl⟩ := r
    obtain ⟨as, ra⟩ := repL_reads hz (by simpa [isData] using h) rl
    rw [toD]
    exact ⟨_, .list (hz _ _ ha) rfl rfl (by simpa using ra)⟩
  | .tuple xs, v, h, r => by
    simp only [Rep] at r
    obtain ⟨a, vs, n, rfl, ha, rl⟩ := r
    obtain ⟨as, ra⟩ := repL_reads hz (by simpa [isData] using h) rl
    rw [toD]
    exact ⟨_, .tuple (hz _ _ ha) rfl rfl (by simpa using ra)⟩
  | .inst _ _ _, _, h, _ => by simp [isData] at h
  | .addr _, _, h, _ => by simp [isData] at h
  | .ty _, _, h, _ => by simp [isData] at h
theorem repL_reads {z : Zm} {s : Shared} (hz : ZIn z s) : ∀ {p : List PV} {v : List Value}, isDatas p = true → RepL z p v → ∃ as, ReadsAll s.heap v (toDs p) as
  | [], v, _, r => by simp only [RepL] at r; subst r; exact ⟨_, .nil⟩
  | x :: xs, v, h, r => by
    simp only [RepL] at r
    obtain ⟨u, r', rfl, ru, rl⟩ := r
    simp only [isDatas, Bool.and_eq_true] at h
    obtain ⟨as, ra⟩ := rep_reads hz h.1 ru
    obtain ⟨bs, rb⟩ := repL_reads hz h.2 rl
    rw [toDs]
    exact ⟨_, .cons ra rb⟩
end
section
variable {C : Cst} {A : Around} {env : Env} {X : Zm} {P : PEnv} {W : OEnv}
theorem op_eqD {a b : PV} {n : Nat} (hr : Room A n) (ha : isData a = true) (hb : isData b = true) (sa : SeqAt.shaped (toD a) = true) (sb : SeqAt.shaped (toD b) = true) :
    Op2 C A (compareOp .Eq) a b (.bool (PyData.eqv (toD a) (toD b))) := fun s z va vb hz ra rb => by
  obtain ⟨as, qa⟩ := rep_reads hz ha ra
  obtain ⟨bs, qb⟩ := rep_reads hz hb rb
  exact eq_dataH qa qb sa sb hr.eq (post_here hz (rep_bool _))
theorem op_neD {a b : PV} {n : Nat} (hr : Room A n) (ha : isData a = true) (hb : isData b = true) (sa : SeqAt.shaped (toD a) = true) (sb : SeqAt.shaped (toD b) = true) :
    Op2 C A (compareOp .NotEq) a b (.bool (!PyData.eqv (toD a) (toD b))) := fun s z va vb hz ra rb => by
  obtain ⟨as, qa⟩ := rep_reads hz ha ra
  obtain ⟨bs, qb⟩ := rep_reads hz hb rb
  exact ne_dataH qa qb sa sb hr.eq (post_here hz (rep_bool _))
theorem isDatas_iL : ∀ ns : List Int, isDatas (iL ns) = true
  | [] => rfl
  | n :: ns => by simp only [iL, List.map_cons, isDatas, isData, Bool.true_and]; exact isDatas_iL ns
theorem toDs_iL : ∀ ns : List Int, toDs (iL ns) = ns.map PyData.int
  | [] => rfl
  | n :: ns => by simp only [iL, List.map_cons, toDs, toD]; rw [← toDs_iL ns]; rfl
theorem op_eqIL {ns ms : List Int} {n : Nat} (hr : Room A n) : Op2 C A (compareOp .Eq) (.list (iL ns)) (.list (iL ms)) (.bool (decide (ns = ms))) := by
  have := op_eqD (C := C) (a := .list (iL ns)) (b := .list (iL ms)) hr (isDatas_iL ns) (isDatas_iL ms) (by rw [toD, toDs_iL]; exact ke_shaped_ints _) (by rw [toD, toDs_iL]; exact ke_shaped_ints _)
  simp only [toD, toDs_iL, PyData.eqv, ked_eqvAll] at this
  exact this
theorem op_neIL {ns ms : List Int} {n : Nat} (hr : Room A n) : Op2 C A (compareOp .NotEq) (.list (iL ns)) (.list (iL ms)) (.bool (!decide (ns = ms))) := by
  have := op_neD (C := C) (a := .list (iL ns)) (b := .list (iL ms)) hr (isDatas_iL ns) (isDatas_iL ms) (by rw [toD, toDs_iL]; exact ke_shaped_ints _) (by rw [toD, toDs_iL]; exact ke_shaped_ints _)
  simp only [toD, toDs_iL, PyData.eqv, ked_eqvAll] at this
  exact this
def rowsL (rs : List (List Int)) : List PV := rs.map fun r => .tuple (iL r)
theorem isDatas_rows : ∀ rs : List (List Int), isDatas (rowsL rs) = true
  | [] => rfl
  | r :: rs => by simp only [rowsL, List.map_cons, isDatas, isData, isDatas_iL, Bool.true_and]; exact isDatas_rows rs
theorem toDs_rows : ∀ rs : List (List Int), toDs (rowsL rs) = rs.map fun r => PyData.tuple (r.map PyData.int)
  | [] => rfl
  | r :: rs => by simp only [rowsL, List.map_cons, toDs, toD, toDs_iL]; rw [← toDs_rows rs]; rfl
theorem eqvAll_rows : ∀ rs qs : List (List Int), PyData.eqvAll (rs.map fun r => PyData.tuple (r.map PyData.int)) (qs.map fun r => PyData.tuple (r.map PyData.int)) = decide (rs = qs)
  | [], [] => by simp [PyData.eqvAll]
  | [], _ :: _ => by simp [PyData.eqvAll]
  | _ :: _, [] => by simp [PyData.eqvAll]
  | r :: rs, q :: qs => by
    simp only [List.map_cons, PyData.eqvAll, PyData.eqv, ked_eqvAll, eqvAll_rows rs qs]
    by_cases h : r = q <;> by_cases h' : rs = qs <;> simp [h, h']
theorem canLayAll_rows : ∀ rs : List (List Int), PyData.canLayAll0 (rs.map fun r => PyData.tuple (r.map PyData.int)) = true ∧ PyData.depthAll (rs.map fun r => PyData.tuple (r.map PyData.int)) ≤ 1
  | [] => by simp [PyData.canLayAll0, PyData.depthAll]
  | r :: rs => by
    obtain ⟨h1, h2⟩ := canLayAll_rows rs
    simp only [List.map_cons, PyData.canLayAll0, PyData.canLay0, PyData.depthAll, PyData.depth, ke_canLayAll0, ke_depthAll, h1, Bool.and_self, true_and]
    omega
theorem shaped_rows (rs : List (List Int)) : SeqAt.shaped (.list (rs.map fun r => PyData.tuple (r.map PyData.int))) = true := by
  obtain ⟨h1, h2⟩ := canLayAll_rows rs
  unfold SeqAt.shaped
  simp only [PyData.canLay0, PyData.depth, h1, Bool.true_and]
  exact decide_eq_true (by omega)
theorem op_neRows {rs qs : List (List Int)} {n : Nat} (hr : Room A n) : Op2 C A (compareOp .NotEq) (.list (rowsL rs)) (.list (rowsL qs)) (.bool (!decide (rs = qs))) := by
  have := op_neD (C := C) (a := .list (rowsL rs)) (b := .list (rowsL qs)) hr (isDatas_rows rs) (isDatas_rows qs) (by rw [toD, toDs_rows]; exact shaped_rows _) (by rw [toD, toDs_rows]; exact shaped_rows _)
  simp only [toD, toDs_rows, PyData.eqv, eqvAll_rows] at this
  exact this
theorem op_eqNorm {c d : List Int} {x y : Int} {n : Nat} (hr : Room A n) : Op2 C A (compareOp .Eq) (.tuple [.tuple (iL c), .int x]) (.tuple [.tuple (iL d), .int y]) (.bool (decide (c = d) && decide (x = y))) := by
  have sh : ∀ (c : List Int) (x : Int), SeqAt.shaped (toD (.tuple [.tuple (iL c), .int x])) = true := fun c x => by
    simp [SeqAt.shaped, toD, toDs, toDs_iL, PyData.canLay0, PyData.canLayAll0, PyData.depth, PyData.depthAll, ke_canLayAll0, ke_depthAll]
  have dt : ∀ (c : List Int) (x : Int), isData (.tuple [.tuple (iL c), .int x]) = true := fun c x => by simp [isData, isDatas, isDatas_iL]
  have := op_eqD (C := C) hr (dt c x) (dt d y) (sh c x) (sh d y)
  simp only [toD, toDs, toDs_iL, PyData.eqv, PyData.eqvAll, ked_eqvAll, Bool.and_true] at this
  have e : (x == y) = decide (x = y) := rfl
  rw [e] at this
  exact this
theorem op_inS {c : Nat} {l : List Nat} : Op2 C A (compareOp .In) (.str [c]) (.str l) (.bool (decide (c ∈ l))) := fun s z va vb hz ra rb => by
  simp only [Rep] at ra rb
  obtain ⟨t, rfl⟩ := ra
  obtain ⟨u, rfl⟩ := rb
  refine PyProof.Rows.in_str ?_
  have := StrLaws.found_one ⟨l.toArray⟩ c
  show Post C.md z s _ (.bool (!(Builtin.Str.occurrences ⟨l.toArray⟩ ⟨#[c]⟩ 0 (⟨l.toArray⟩ : Str).length 1).isEmpty)) s
  rw [this]
  exact post_here hz (by simpa using rep_bool (z := z) (decide (c ∈ l)))
theorem op_notInS {c : Nat} {l : List Nat} : Op2 C A (compareOp .NotIn) (.str [c]) (.str l) (.bool (!decide (c ∈ l))) := fun s z va vb hz ra rb => by
  simp only [Rep] at ra rb
  obtain ⟨t, rfl⟩ := ra
  obtain ⟨u, rfl⟩ := rb
  refine PyProof.Rows.notIn_str ?_
  have := StrLaws.found_one ⟨l.toArray⟩ c
  show Post C.md z s _ (.bool (!(!(Builtin.Str.occurrences ⟨l.toArray⟩ ⟨#[c]⟩ 0 (⟨l.toArray⟩ : Str).length 1).isEmpty))) s
  rw [this]
  exact post_here hz (by simpa using rep_bool (z := z) (!decide (c ∈ l)))
def eI (k : Int) : Value → Bool
  | .int a _ => a == k
  | _ => false
def eS (k : List Nat) : Value → Bool
  | .str a _ => a == (⟨k.toArray⟩ : Str)
  | _ => false
def eB (k : Bool) : Value → Bool
  | .bool a => a == k
  | _ => false
theorem any_eI {k : Int} {z : Zm} : ∀ {ns : List Int} {vs : List Value}, RepL z (iL ns) vs → vs.any (eI k) = decide (k ∈ ns)
  | [], _, r => by simp only [iL, List.map_nil, RepL] at r; subst r; rfl
  | n :: ns, _, r => by
    simp only [iL, List.map_cons, RepL] at r
    obtain ⟨v, r', rfl, ru, rl⟩ := r
    simp only [Rep] at ru
    obtain ⟨t, rfl⟩ := ru
    simp only [List.any_cons, any_eI rl, eI]
    by_cases h : n = k
    · subst h; simp
    · have h1 : (n == k) = false := beq_eq_false_iff_ne.mpr h
      have h2 : ¬ k = n := fun e => h e.symm
      simp [h1, h2]
theorem any_eS {k : List Nat} {z : Zm} : ∀ {ns : List (List Nat)} {vs : List Value}, RepL z (ns.map .str) vs → vs.any (eS k) = decide (k ∈ ns)
  | [], _, r => by simp only [List.map_nil, RepL] at r; subst r; rfl
  | n :: ns, _, r => by
    simp only [List.map_cons, RepL] at r
    obtain ⟨v, r', rfl, ru, rl⟩ := r
    simp only [Rep] at ru
    obtain ⟨t, rfl⟩ := ru
    simp only [List.any_cons, any_eS rl, eS]
    by_cases h : n = k
    · subst h; simp
    · have : ((⟨n.toArray⟩ : Str) == ⟨k.toArray⟩) = false := beq_eq_false_iff_ne.mpr fun e => h (by simpa using e)
      simp [this, Ne.symm h]
theorem any_eB {k : Bool} {z : Zm} : ∀ {ns : List Bool} {vs : List Value}, RepL z (ns.map .bool) vs → vs.any (eB k) = decide (k ∈ ns)
  | [], _, r => by simp only [List.map_nil, RepL] at r; subst r; rfl
  | n :: ns, _, r => by
    simp only [List.map_cons, RepL] at r
    obtain ⟨v, r', rfl, ru, rl⟩ := r
    simp only [Rep] at ru
    subst ru
    simp only [List.any_cons, any_eB rl, eB]
    by_cases h : n = k
    · subst h; simp
    · have h1 : (n == k) = false := beq_eq_false_iff_ne.mpr h
      have h2 : ¬ k = n := fun e => h e.symm
      simp [h1, h2]
theorem iL_mem {z : Zm} : ∀ {ns : List Int} {vs : List Value}, RepL z (iL ns) vs → ∀ v ∈ vs, ∃ a t, v = .int a t
  | [], _, r, v, h => by simp only [iL, List.map_nil, RepL] at r; subst r; cases h
  | n :: ns, _, r, v, h => by
    simp only [iL, List.map_cons, RepL] at r
    obtain ⟨u, r', rfl, ru, rl⟩ := r
    rcases List.mem_cons.mp h with rfl | h
    · simp only [Rep] at ru; obtain ⟨t, rfl⟩ := ru; exact ⟨_, _, rfl⟩
    · exact iL_mem rl v h
theorem sL_mem {z : Zm} : ∀ {ns : List (List Nat)} {vs : List Value}, RepL z (ns.map .str) vs → ∀ v ∈ vs, ∃ a t, v = .str a t
  | [], _, r, v, h => by simp only [List.map_nil, RepL] at r; subst r; cases h
  | n :: ns, _, r, v, h => by
    simp only [List.map_cons, RepL] at r
    obtain ⟨u, r', rfl, ru, rl⟩ := r
    rcases List.mem_cons.mp h with rfl | h
    · simp only [Rep] at ru; obtain ⟨t, rfl⟩ := ru; exact ⟨_, _, rfl⟩
    · exact sL_mem rl v h
theorem bL_mem {z : Zm} : ∀ {ns : List Bool} {vs : List Value}, RepL z (ns.map .bool) vs → ∀ v ∈ vs, ∃ a, v = .bool a
  | [], _, r, v, h => by simp only [List.map_nil, RepL] at r; subst r; cases h
  | n :: ns, _, r, v, h => by
    simp only [List.map_cons, RepL] at r
    obtain ⟨u, r', rfl, ru, rl⟩ := r
    rcases List.mem_cons.mp h with rfl | h
    · simp only [Rep] at ru; exact ⟨_, ru⟩
    · exact bL_mem rl v h
theorem op_inI {k : Int} {ns : List Int} : Op2 C A (compareOp .In) (.int k) (.list (iL ns)) (.bool (decide (k ∈ ns))) := fun s z va vb hz ra rb => by
  simp only [Rep] at ra rb
  obtain ⟨t, rfl⟩ := ra
  obtain ⟨a, vs, n, rfl, ha, rl⟩ := rb
  refine SeqAt.in_listAt (eI k) (items := vs.toArray) ⟨_, hz _ _ ha, rfl, n, rfl⟩ (fun y hy => ?_) ?_
  · obtain ⟨b, u, rfl⟩ := iL_mem rl y (by simpa using hy)
    exact SeqAt.EqAt.int_int b u k t
  · rw [List.any_toArray, any_eI rl]; exact post_here hz (rep_bool _)
theorem op_notInI {k : Int} {ns : List Int} : Op2 C A (compareOp .NotIn) (.int k) (.list (iL ns)) (.bool (!decide (k ∈ ns))) := fun s z va vb hz ra rb => by
  simp only [Rep] at ra rb
  obtain ⟨t, rfl⟩ := ra
  obtain ⟨a, vs, n, rfl, ha, rl⟩ := rb
  refine SeqAt.notIn_listAt (eI k) (items := vs.toArray) ⟨_, hz _ _ ha, rfl, n, rfl⟩ (fun y hy => ?_) ?_
  · obtain ⟨b, u, rfl⟩ := iL_mem rl y (by simpa using hy)
    exact SeqAt.EqAt.int_int b u k t
  · rw [List.any_toArray, any_eI rl]; exact post_here hz (rep_bool _)
theorem op_inSL {k : List Nat} {ns : List (List Nat)} : Op2 C A (compareOp .In) (.str k) (.list (ns.map .str)) (.bool (decide (k ∈ ns))) := fun s z va vb hz ra rb => by
  simp only [Rep] at ra rb
  obtain ⟨t, rfl⟩ := ra
  obtain ⟨a, vs, n, rfl, ha, rl⟩ := rb
  refine SeqAt.in_listAt (eS k) (items := vs.toArray) ⟨_, hz _ _ ha, rfl, n, rfl⟩ (fun y hy => ?_) ?_
  · obtain ⟨b, u, rfl⟩ := sL_mem rl y (by simpa using hy)
    exact SeqAt.EqAt.str_str b u _ t
  · rw [List.any_toArray, any_eS rl]; exact post_here hz (rep_bool _)
theorem op_inBL {k : Bool} {ns : List Bool} : Op2 C A (compareOp .In) (.bool k) (.list (ns.map .bool)) (.bool (decide (k ∈ ns))) := fun s z va vb hz ra rb => by
  simp only [Rep] at ra rb
  subst ra
  obtain ⟨a, vs, n, rfl, ha, rl⟩ := rb
  refine SeqAt.in_listAt (eB k) (items := vs.toArray) ⟨_, hz _ _ ha, rfl, n, rfl⟩ (fun y hy => ?_) ?_
  · obtain ⟨b, rfl⟩ := bL_mem rl y (by simpa using hy)
    exact SeqAt.EqAt.bool_bool b k
  · rw [List.any_toArray, any_eB rl]; exact post_here hz (rep_bool _)
end
end Mine
namespace Mine
section
variable {C : Cst} {A : Around} {env : Env} {X : Zm} {P : PEnv} {W : OEnv}
theorem Ev_methS {o : Expr} {name : Str} {id : String} {apos pos : Pos} {args : List Expr} {l : List Nat} {as : List PV} {r : PV} (hv : Ev C A env P o (.str l)) (ha : Evs C A env P args as) (slot : Slot "str" name id)
    (ty : typeOf (.builtin id) = pure (.type "method_descriptor")) (ho : OpC C A (.builtin id) (.str l :: as) r)
    (hbase : attributeBase o name env (eval o env) = eval o env := by rfl) (hline : (apos.endLine == pos.line) = true := by rfl) (hlen : args.length < 30 := by decide) :
    Ev C A env P (.Call (.Attribute o name apos) args [] pos) r := fun s z ep => by
  refine wpAny_Call_method hbase ?_ hline PySem.F.plainAttrs_str slot ty ?_
  · rw [Bool.and_eq_true, Bool.and_eq_true]
    refine ⟨⟨?_, rfl⟩, decide_eq_true (by simpa using hlen)⟩
    have := ha.plain pos
    rw [List.any_eq_false] at this
    rw [List.all_eq_true]
    intro x hx
    have := this x hx
    simpa using this
  refine wpAny_mono (hv s z ep) (fun v s₁ h₁ => ?_) fun _ _ x => x
  obtain ⟨z₁, g₁, r₁⟩ := h₁
  have r₁' := r₁
  simp only [Rep] at r₁'
  obtain ⟨t, rfl⟩ := r₁'
  refine ⟨typeIs_str _ _ _, (fun a e => by cases e), ?_⟩
  have ep₁ := ep.grow g₁
  refine CallW.builtin (C := C) id A pos _ _ _ s₁ (ha.plain pos) (wpAny_mono (evs_spliced ha pos ep₁) (fun vs s₂ h₂ => ?_) fun _ _ x => x)
  obtain ⟨z₂, g₂, rl⟩ := h₂
  have ep₂ := ep₁.grow g₂
  exact ⟨ep₂.hbk, wp_via (g₁.trans g₂) (ho s₂ z₂ _ ep₂.hz g₂.zin (repL_cons (r₁.mono g₂.sub) rl))⟩
theorem opC_lower {l m : List Nat} (h : (Txt.lower ⟨l.toArray⟩).cps.toList = m) (hm : m.length ≤ 1000000) : OpC C A (.builtin "str.lower") [.str l] (.str m) := fun s z vs hb hz r => by
  obtain ⟨u, rfl, ru⟩ := repL_one r
  simp only [Rep] at ru
  obtain ⟨t, rfl⟩ := ru
  refine SC.lower ?_ ?_
  · have : (Txt.lower ⟨l.toArray⟩).length = m.length := by rw [← h]; simp [Str.length]
    simp [Builtin.Str.tooLong, this, sizeLine]; omega
  · exact post_same hz (Kp.toks s _) (rep_strS _ _ h)
def joinL (sep : List Nat) : List (List Nat) → List Nat
  | [] => []
  | [x] => x
  | x :: y :: r => x ++ sep ++ joinL sep (y :: r)
theorem strJoin_eq (sep : List Nat) : ∀ xs : List (List Nat), (Str.join ⟨sep.toArray⟩ (xs.map fun x => ⟨x.toArray⟩)).cps.toList = joinL sep xs
  | [] => rfl
  | [x] => by simp [joinL, Str.join]
  | x :: y :: r => by
    have ih := strJoin_eq sep (y :: r)
    show (Str.join ⟨sep.toArray⟩ (⟨x.toArray⟩ :: ⟨y.toArray⟩ :: r.map fun x => ⟨x.toArray⟩)).cps.toList = _
    rw [join_cons_cons]
    simp only [List.map_cons] at ih
    simp only [Str.cps_append, Array.toList_append, ih, joinL]
theorem repL_strs {z : Zm} : ∀ {xs : List (List Nat)} {vs : List Value}, RepL z (xs.map .str) vs → StrsAre vs (xs.map fun x => ⟨x.toArray⟩)
  | [], _, r => by simp only [List.map_nil, RepL] at r; subst r; exact .nil
  | x :: xs, _, r => by
    simp only [List.map_cons, RepL] at r
    obtain ⟨v, r', rfl, ru, rl⟩ := r
    simp only [Rep] at ru
    obtain ⟨t, rfl⟩ := ru
    exact .cons _ t (repL_strs rl)
theorem opC_join {sep : List Nat} {xs : List (List Nat)} (hok : (xs.map List.length).sum + xs.length * sep.length ≤ 1000000) : OpC C A (.builtin "str.join") [.str sep, .list (xs.map .str)] (.str (joinL sep xs)) := fun s z vs hb hz r => by
  obtain ⟨u, v, rfl, ru, rv⟩ := repL_two r
  simp only [Rep] at ru rv
  obtain ⟨t, rfl⟩ := ru
  obtain ⟨a, us, n, rfl, ha, rl⟩ := rv
  refine PyProof.Rows.join_list (items := us.toArray) ⟨_, hz _ _ ha, rfl, n, rfl⟩ (by simpa using repL_strs rl) ?_ fun t' k => ?_
  · simp only [List.map_map, List.length_map]
    have e : (List.map ((fun x => Str.length x) ∘ fun (x : List Nat) => (⟨x.toArray⟩ : Str)) xs) = xs.map List.length := by
      apply List.map_congr_left; intro x _; simp [Str.length]
    have e2 : (⟨sep.toArray⟩ : Str).length = sep.length := by simp [Str.length]
    rw [e, e2]; omega
  · refine post_same hz (Kp.toks s _) (rep_strS _ _ ?_)
    have := of_decide_eq_true (p := Txt.join ⟨sep.toArray⟩ (xs.map fun x => ⟨x.toArray⟩) = Str.join ⟨sep.toArray⟩ (xs.map fun x => ⟨x.toArray⟩)) (by simpa using join_plain_closes ⟨sep.toArray⟩ (xs.map fun x => ⟨x.toArray⟩))
    rw [this, strJoin_eq]
def idx (c : Nat) (l : List Nat) : List Nat := (List.range l.length).filter fun i => l[i]? == some c
theorem occ_loop (x : Str) (c : Nat) (limit : Nat) : ∀ (k m : Nat) (acc : Array Nat) (free : Nat), free ≤ k → acc.size + m ≤ limit →
    (forIn (List.range' k m) (acc, free) (StrLaws.occBody x ⟨#[c]⟩ x.length limit)).run.fst.toList = acc.toList ++ (List.range' k m).filter fun i => x.cps.toList[i]? == some c
  | k, 0, acc, free, _, _ => by simp
  | k, m + 1, acc, free, hf, hl => by
    rw [List.range'_succ, List.forIn_cons]
    unfold StrLaws.occBody
    by_cases h : x.cps.toList[k]? = some c
    · have hc := (StrLaws.subAt_one x c k).mpr h
      rw [if_pos ⟨⟨⟨by show acc.size < limit; omega, hf⟩, hc.1⟩, hc.2⟩]
      have := occ_loop x c limit (k + 1) m (acc.push k) (k + 1) (Nat.le_refl _) (by simp; omega)
      simp only [List.filter_cons, h, beq_self_eq_true, if_true]
      show (forIn (List.range' (k + 1) m) (acc.push k, k + (⟨#[c]⟩ : Str).length) (StrLaws.occBody x ⟨#[c]⟩ x.length limit)).run.fst.toList = _
      rw [show k + (⟨#[c]⟩ : Str).length = k + 1 from rfl, this]
      simp
    · have hc : ¬ (((((acc, free) : Array Nat × Nat).fst.size < limit ∧ ((acc, free) : Array Nat × Nat).snd ≤ k) ∧ k + (⟨#[c]⟩ : Str).length ≤ x.length) ∧ Builtin.Str.subAt x ⟨#[c]⟩ k = true) := fun q => h ((StrLaws.subAt_one x c k).mp ⟨q.1.2, q.2⟩)
      rw [if_neg hc]
      have hb : (x.cps.toList[k]? == some c) = false := beq_eq_false_iff_ne.mpr h
      simp only [List.filter_cons, hb]
      exact occ_loop x c limit (k + 1) m acc free (Nat.le_succ_of_le hf) (by omega)
theorem occ_one (l : List Nat) (c : Nat) : Builtin.Str.occurrences ⟨l.toArray⟩ ⟨#[c]⟩ 0 (⟨l.toArray⟩ : Str).length ((⟨l.toArray⟩ : Str).length + 1) = idx c l := by
  rw [StrLaws.occ_eq, occ_loop _ _ _ _ _ _ _ (Nat.le_refl _) (by simp)]
  have e : (⟨l.toArray⟩ : Str).length = l.length := by simp [Str.length]
  simp only [e, Nat.sub_zero, List.nil_append]
  unfold idx
  rw [← List.range_eq_range', List.range_succ, List.filter_append]
  simp
theorem opC_count {l : List Nat} {c : Nat} : OpC C A (.builtin "str.count") [.str l, .str [c]] (.int (idx c l).length) := fun s z vs hb hz r => by
  obtain ⟨u, v, rfl, ru, rv⟩ := repL_two r
  simp only [Rep] at ru rv
  obtain ⟨t, rfl⟩ := ru
  obtain ⟨t', rfl⟩ := rv
  refine SC.count ?_
  have e : Txt.count ⟨l.toArray⟩ ⟨[c].toArray⟩ = ((idx c l).length : Nat) := by
    unfold Txt.count
    rw [show (⟨[c].toArray⟩ : Str) = ⟨#[c]⟩ from rfl, occ_one]
  rw [e]
  exact post_same hz (Kp.toks s _) (rep_int _ _)
def splitL (c : Nat) (l : List Nat) : List (List Nat) := ((0 :: (idx c l).map (· + 1)).zip (idx c l ++ [l.length])).map fun p => (l.drop p.1).take (p.2 - p.1)
theorem strSub_eq (l : List Nat) (i j : Nat) : (Builtin.Str.strSub ⟨l.toArray⟩ i j).cps.toList = (l.drop i).take (j - i) := by
  unfold Builtin.Str.strSub
  simp [List.extract_eq_take_drop]
theorem parts_eq (l : List Nat) (c : Nat) : (Builtin.Str.partsBetween ⟨l.toArray⟩ (idx c l) 1).map (fun x => x.cps.toList) = splitL c l := by
  unfold Builtin.Str.partsBetween splitL
  have e : (⟨l.toArray⟩ : Str).length = l.length := by simp [Str.length]
  simp only [e, List.map_map]
  apply List.map_congr_left
  intro p _
  exact strSub_eq l p.1 p.2
theorem strsFrom_rep {z : Zm} : ∀ (n : Nat) (xs : List Str), RepL z (xs.map fun x => .str x.cps.toList) (strsFrom n xs)
  | _, [] => repL_nil
  | n, x :: xs => repL_cons (rep_strS _ _ rfl) (strsFrom_rep (n + 1) xs)
theorem opC_split {l : List Nat} {c : Nat} (hc : c < 256) (hl : l.length ≤ 1000000) : OpC C A (.builtin "str.split") [.str l, .str [c]] (.list ((splitL c l).map .str)) := fun s z vs hb hz r => by
  obtain ⟨u, v, rfl, ru, rv⟩ := repL_two r
  simp only [Rep] at ru rv
  obtain ⟨t, rfl⟩ := ru
  obtain ⟨t', rfl⟩ := rv
  have elen : (⟨l.toArray⟩ : Str).length = l.length := by simp [Str.length]
  have hle : (idx c l).length ≤ l.length := by unfold idx; exact Nat.le_trans (List.length_filter_le _ _) (by simp)
  have self : splitL c l = [l] → Post C.md z s (.list ((splitL c l).map .str)) (.ref s.heap.objs.size) { s with heap := s.heap.push (listO [.str ⟨l.toArray⟩ t] 0) } := fun e => by
    rw [e]
    have g := Grow.push (md := C.md) hz (listO [.str ⟨l.toArray⟩ t] 0) rfl s.toks
    exact ⟨_, g, rep_list (ZAdd.self _ _ _) (repL_cons (rep_str _ _) repL_nil)⟩
  have single : idx c l = [] → splitL c l = [l] := fun e => by unfold splitL; rw [e]; simp
  by_cases h1 : (decide ((⟨l.toArray⟩ : Str).length < (⟨[c].toArray⟩ : Str).length) || decide (Builtin.Str.strKind ⟨l.toArray⟩ < Builtin.Str.strKind ⟨[c].toArray⟩)) = true
  · refine call_meets F.slot_str_split (typeIs_str _ _ _) F.entry_str_split (F.args_str_split_2 _ _) (meets_str_split_cannot_occur _ _ t t' h1) (self (single ?_))
    have hk : Builtin.Str.strKind ⟨[c].toArray⟩ = 1 := by unfold Builtin.Str.strKind; simp [hc]
    rw [hk, Bool.or_eq_true, decide_eq_true_eq, decide_eq_true_eq] at h1
    rcases h1 with h1 | h1
    · have : l.length = 0 := by rw [elen] at h1; simpa [Str.length] using h1
      have : l = [] := List.eq_nil_of_length_eq_zero this
      subst this; rfl
    · unfold Builtin.Str.strKind at h1
      split at h1 <;> (try split at h1) <;> omega
  · simp only [Bool.not_eq_true] at h1
    cases hf : (Builtin.Str.occurrences ⟨l.toArray⟩ ⟨[c].toArray⟩ 0 (⟨l.toArray⟩ : Str).length ((⟨l.toArray⟩ : Str).length + 1)).isEmpty
    · refine call_meets F.slot_str_split (typeIs_str _ _ _) F.entry_str_split (F.args_str_split_2 _ _) (meets_str_split_sep _ _ t t' h1 rfl hf (by rw [elen]; simp [sizeLine]; omega) ?_) ?_
      · rw [show (⟨[c].toArray⟩ : Str) = ⟨#[c]⟩ from rfl, occ_one]
        simp [Builtin.Str.partsBetween, sizeLine]; omega
      · rw [show (⟨[c].toArray⟩ : Str) = ⟨#[c]⟩ from rfl, occ_one, show (⟨#[c]⟩ : Str).length = 1 from rfl]
        have e : (splitL c l).map PV.str = (Builtin.Str.partsBetween ⟨l.toArray⟩ (idx c l) 1).map fun x => .str x.cps.toList := by rw [← parts_eq, List.map_map]; rfl
        rw [e]
        have g := Grow.push (md := C.md) hz (listO (strsFrom s.toks (Builtin.Str.partsBetween ⟨l.toArray⟩ (idx c l) 1)) 0) rfl (s.toks + (Builtin.Str.partsBetween ⟨l.toArray⟩ (idx c l) 1).length)
        exact ⟨_, g, rep_list (ZAdd.self _ _ _) (strsFrom_rep _ _)⟩
    · refine call_meets F.slot_str_split (typeIs_str _ _ _) F.entry_str_split (F.args_str_split_2 _ _) (meets_str_split_not_found _ _ t t' h1 rfl hf) (self (single ?_))
      rw [show (⟨[c].toArray⟩ : Str) = ⟨#[c]⟩ from rfl, occ_one] at hf
      simpa using hf
end
end Mine
namespace Mine
section
variable {C : Cst} {A : Around} {env : Env} {X : Zm} {P : PEnv} {W : OEnv}
theorem opN_rep {i k : Int} (h1 : -1000000 ≤ k) (h2 : k ≤ 1000000) : Op2N C A (binaryOp .Mult) (.list [.int i]) (.int k) (List.replicate k.toNat (.int i)) := fun s z va vb hz ra rb => by
  simp only [Rep] at ra rb
  obtain ⟨a, vs, n, rfl, ha, rl⟩ := ra
  obtain ⟨u, rfl⟩ := rb
  obtain ⟨v, rfl, rv⟩ := repL_one rl
  simp only [Rep] at rv
  obtain ⟨t, rfl⟩ := rv
  have hl := hz _ _ ha
  refine wpAny_binaryOp_repeat_ref (T := "list") (U := "int") (by decide) ⟨_, hl, rfl⟩ (fun s' => typeIs_int s' k u) noFill_list_mul F.fills_int_mul F.slot_int_rmul repeat_list F.slot_int_index.lookup
    (call_meets F.slot_int_rmul (typeIs_int s k u) F.entry_int_rmul (F.args_int_rmul_2 _ _) (int___rmul___int_list k u a #[.int i t] n)
      ⟨hl, rfl, ⟨_, hl, rfl⟩, call_meets F.slot_list_mul ⟨_, hl, rfl⟩ F.entry_list_mul (F.args_list_mul_2 _ _)
        (AutoListH.list___mul___list_int_3 a #[.int i t] n k u (by simp [Builtin.List.listFitsIndex]; omega) (by simp; omega) (by simp [Builtin.List.listTooLong, sizeLine]; omega))
        ⟨hl, ?_⟩⟩)
  have key : ∀ (m : Nat) (acc : Array Value), (List.replicate m (#[Value.int i t] : Array Value)).foldl (fun x1 x2 => x1 ++ x2) acc = acc ++ (List.replicate m (Value.int i t)).toArray := by
    intro m
    induction m with
    | zero => intro acc; simp
    | succ m ih => intro acc; rw [List.replicate_succ, List.foldl_cons, ih, List.replicate_succ]; apply Array.ext'; simp
  have rr : ∀ (m : Nat), RepL z (List.replicate m (.int i)) (List.replicate m (Value.int i t)) := by
    intro m
    induction m with
    | zero => exact repL_nil
    | succ m ih => rw [List.replicate_succ, List.replicate_succ]; exact repL_cons (rep_int _ _) ih
  refine ⟨z, s.heap.objs.size, List.replicate k.toNat (.int i t), 0, rfl, Grow.same hz (Kp.push _ _ _), ?_, rr _, fresh_none hz (get_size_none _), get_size_none _⟩
  have e : (List.foldl (fun x1 x2 => x1 ++ x2) (#[] : Array Value) (List.replicate (if (#[Value.int i t] : Array Value).isEmpty = true then 0 else k.toNat) #[Value.int i t])) = (List.replicate k.toNat (Value.int i t)).toArray := by
    rw [show (#[Value.int i t] : Array Value).isEmpty = false from rfl, if_neg (by decide), key]; simp
  rw [e]
  exact Heap.get?_push_size _ rfl
theorem op_pow {a n : Int} (hn : 0 ≤ n) (hs : n ≤ 1000) (h1 : -(2 ^ 62) < a) (h2 : a < 2 ^ 62) : Op2 C A (binaryOp .Pow) (.int a) (.int n) (.int (a ^ n.toNat)) := op2_int fun _ _ _ _ h => pow_int hn (by
  have := intBits_le_64 (k := a) (by omega) (by omega)
  have e : (Builtin.Int.intBits a : Int) * n ≤ 64 * 1000 := Int.mul_le_mul (by exact_mod_cast this) hs hn (by omega)
  omega) h
theorem Ev_orL {x y : Expr} {pos : Pos} {a : PV} (hx : Ev C A env P x a) (ht : Tru C A a true) : Ev C A env P (.BoolOp .Or [x, y] pos) a := fun s z ep => by
  show wpAny C.M A (do
    let v ← eval x env
    standAt pos
    let t ← holding [v] (truthy v)
    match BoolOp.Or, t with
    | .And, false | .Or, true => pure v
    | _, _ => boolOp pos .Or [eval y env]) _ _ s
  refine wpAny_bind (wpAny_mono (hx s z ep) (fun v s₁ h₁ => ?_) fun _ _ x => x)
  obtain ⟨z₁, g₁, r₁⟩ := h₁
  refine wpAny_bind (wpAny_standAt (wpAny_bind (wpAny_holding (wpAny_mono (ht s₁ z₁ v g₁.zin r₁) (fun b s₂ h₂ => ?_) fun _ _ x => x))))
  obtain ⟨rfl, k⟩ := h₂
  exact wpAny_pure ⟨z₁, g₁.trans (Grow.same g₁.zin k), r₁⟩
theorem Ev_orR {x y : Expr} {pos : Pos} {a b : PV} (hx : Ev C A env P x a) (ht : Tru C A a false) (hy : Ev C A env P y b) : Ev C A env P (.BoolOp .Or [x, y] pos) b := fun s z ep => by
  show wpAny C.M A (do
    let v ← eval x env
    standAt pos
    let t ← holding [v] (truthy v)
    match BoolOp.Or, t with
    | .And, false | .Or, true => pure v
    | _, _ => boolOp pos .Or [eval y env]) _ _ s
  refine wpAny_bind (wpAny_mono (hx s z ep) (fun v s₁ h₁ => ?_) fun _ _ x => x)
  obtain ⟨z₁, g₁, r₁⟩ := h₁
  refine wpAny_bind (wpAny_standAt (wpAny_bind (wpAny_holding (wpAny_mono (ht s₁ z₁ v g₁.zin r₁) (fun b s₂ h₂ => ?_) fun _ _ x => x))))
  obtain ⟨rfl, k⟩ := h₂
  have g₂ := g₁.trans (Grow.same g₁.zin k)
  exact wp_via g₂ (hy s₂ z₁ (ep.grow g₂))
def rangeI (a b : Int) : List Int := (List.range (b - a).toNat).map fun (i : Nat) => a + i
theorem rangeSize1 (a b : Int) : Builtin.Range.rangeSize a b 1 = ((b - a).toNat : Int) := by
  rw [rangeSize_one]; split <;> omega
theorem small1 {a b : Int} (h1 : -(2 ^ 61) < a) (h2 : a < 2 ^ 61) (h3 : -(2 ^ 61) < b) (h4 : b < 2 ^ 61) : Builtin.Range.small a b 1 = true := small_one (by omega) (by omega) (by omega) (by omega)
def RangeArgs (as : List PV) (a b : Int) : Prop := (as = [.int b] ∧ a = 0) ∨ as = [.int a, .int b]
theorem call_range {as : List PV} {a b : Int} (h : RangeArgs as a b) {s : Shared} {z : Zm} {vs : List Value} (hz : ZIn z s) (rl : RepL z as vs) :
    wpAny C.M A (call (.type "range") vs) (fun v s' => ∃ t u w, v = .ref s.heap.objs.size ∧ IsRange s'.heap s.heap.objs.size a b 1 t u w ∧ Kp C.md s s' ∧ s'.heap.objs.size = s.heap.objs.size + 1) noE s := by
  rcases h with ⟨rfl, rfl⟩ | rfl
  · obtain ⟨u, rfl, ru⟩ := repL_one rl
    simp only [Rep] at ru
    obtain ⟨t, rfl⟩ := ru
    exact call_range_1 ⟨_, _, _, rfl, Heap.get?_push_size _ rfl, Kp.push _ _ _, Heap.size_push ..⟩
  · obtain ⟨u, v, rfl, ru, rv⟩ := repL_two rl
    simp only [Rep] at ru rv
    obtain ⟨t, rfl⟩ := ru
    obtain ⟨t', rfl⟩ := rv
    exact call_range_2 ⟨_, _, _, rfl, Heap.get?_push_size _ rfl, Kp.push _ _ _, Heap.size_push ..⟩
theorem eval_range {x : Str} {p pos : Pos} {args : List Expr} {as : List PV} {a b : Int} (ok : C.Ok) (hk : env.kindOf x = some .globalImplicit) (hg : GlobIs C x (.type "range")) (ha : Evs C A env P args as) (hr : RangeArgs as a b)
    (hd : (x == ("__debug__" : Str)) = false := by decide) {s : Shared} {z : Zm} (ep : EP C.hb env z s P) :
    wpAny C.M A (eval (.Call (.Name x p) args [] pos) env) (fun v s' => ∃ z' r t u w, v = .ref r ∧ IsRange s'.heap r a b 1 t u w ∧ Grow C.md z s z' s' ∧ z' r = none ∧ s.heap.get? r = none) noE s := by
  refine wpAny_Call_NameR (eval_global ok ep hk hg ?_ hd)
  refine CallW.type (C := C) "range" A pos [] _ _ s (ha.plain pos) (wpAny_mono (evs_spliced ha pos ep) (fun vs s₁ h₁ => ?_) fun _ _ x => x)
  obtain ⟨z₁, g₁, rl⟩ := h₁
  have ep₁ := ep.grow g₁
  refine ⟨ep₁.hbk, wpAny_mono (call_range hr g₁.zin rl) (fun v s₂ h₂ => ?_) fun _ _ x => x⟩
  obtain ⟨t, u, w, rfl, hR, k, _⟩ := h₂
  refine ⟨z₁, _, t, u, w, rfl, hR, g₁.trans (Grow.same g₁.zin k), fresh_none g₁.zin (get_size_none _), ?_⟩
  cases q : s.heap.get? s₁.heap.objs.size with
  | none => rfl
  | some o => have := g₁.keeps.old _ _ q; rw [get_size_none] at this; cases this
theorem ItE_range {x : Str} {p pos : Pos} {args : List Expr} {as : List PV} {a b : Int} (ok : C.Ok) (hA : A.handled = none) (hk : env.kindOf x = some .globalImplicit) (hg : GlobIs C x (.type "range")) (ha : Evs C A env P args as) (hr : RangeArgs as a b)
    (h1 : -(2 ^ 61) < a) (h2 : a < 2 ^ 61) (h3 : -(2 ^ 61) < b) (h4 : b < 2 ^ 61) (hd : (x == ("__debug__" : Str)) = false := by decide) :
    ItE C A env P (.Call (.Name x p) args [] pos) false (iL (rangeI a b)) := fun s z ep => by
  refine wpAny_mono (eval_range ok hk hg ha hr hd ep) (fun v s₁ h => ?_) fun _ _ x => x
  obtain ⟨z₁, r, t, u, w, rfl, hR, g₁, hzr, hnr⟩ := h
  refine wpAny_pyIter_range hR (small1 h1 h2 h3 h4) ?_
  rw [rangeSize1]
  have hn : s.heap.get? s₁.heap.objs.size = none := by
    cases q : s.heap.get? s₁.heap.objs.size with
    | none => rfl
    | some o => have := g₁.keeps.old _ _ q; rw [get_size_none] at this; cases this
  refine ⟨z₁, (· ∈ [s₁.heap.objs.size]), _, g₁.trans (Grow.same g₁.zin (Kp.push _ _ _)), fun c hc => ?_, Itr.ofWalks (Walks.range hA s₁.heap.objs.size a 1 (b - a).toNat) z₁ (iL (rangeI a b)) (by simp [iL, rangeI]) (fun i v hi hv => ?_) (fun c hc => .inl hc)
    (fun i h st c hc => ?_) (fun i h st => ?_), ?_⟩
  · simp only [List.mem_singleton] at hc
    subst hc
    exact ⟨fresh_none g₁.zin (get_size_none _), hn⟩
  · obtain ⟨t', rfl⟩ := hv
    refine ⟨.int (a + i * 1), ?_, rep_int _ _⟩
    simp [iL, rangeI, hi]
  · simp only [List.mem_singleton] at hc
    subst hc
    rw [st]; rfl
  · exact ⟨_, "range_iterator", st, rfl, by decide⟩
  · refine ⟨rfl, ZLe.refl _, fun c o e => Heap.get?_push_of_some _ (g₁.zin c o e), 0, Nat.zero_le _, ?_, rfl⟩
    have := Heap.get?_push_size s₁.heap (o := { cls := .type "range_iterator", data := .fields #[rawInt a, rawInt ((b - a).toNat : Int), rawInt 1] }) rfl
    simpa using this
theorem EvN_listRange {x y : Str} {p p' pos pos' : Pos} {args : List Expr} {as : List PV} {a b : Int} (ok : C.Ok) (hA : A.handled = none) (hk : env.kindOf x = some .globalImplicit) (hg : GlobIs C x (.type "range")) (hk' : env.kindOf y = some .globalImplicit)
    (hg' : GlobIs C y (.type "list")) (ha : Evs C A env P args as) (hr : RangeArgs as a b)
    (h1 : -1000000 < a) (h2 : a < 1000000) (h3 : -1000000 < b) (h4 : b < 1000000) (hd : (x == ("__debug__" : Str)) = false := by decide) (hd' : (y == ("__debug__" : Str)) = false := by decide) :
    EvN C A env P (.Call (.Name y p') [.Call (.Name x p) args [] pos] [] pos') (iL (rangeI a b)) := fun s z ep => by
  refine wpAny_Call_NameR (eval_global ok ep hk' hg' ?_ hd')
  refine CallW.type (C := C) "list" A pos' [] _ _ s rfl ?_
  refine Calls.spliced_cons (wpAny_mono (eval_range ok hk hg ha hr hd ep) (fun v s₁ h => Calls.spliced_nil ?_) fun _ _ x => x)
  obtain ⟨z₁, r, t, u, w, rfl, hR, g₁, hzr, hnr⟩ := h
  refine ⟨(ep.grow g₁).hbk, ?_⟩
  refine call_list_range (n := (b - a).toNat) hA hR (small1 (by omega) (by omega) (by omega) (by omega)) (rangeSize1 a b) (by omega) fun h' tk acc c' hk hS hacc => ?_
  have hn : s.heap.get? s₁.heap.objs.size = none := by
    cases q : s.heap.get? s₁.heap.objs.size with
    | none => rfl
    | some o => have := g₁.keeps.old _ _ q; rw [get_size_none] at this; cases this
  refine ⟨z₁, s₁.heap.objs.size, acc.toList, c', rfl, g₁.trans (Grow.same g₁.zin (Kp.heap _ _ _ hk)), by show h'.get? _ = _; rw [hS], ?_, fresh_none g₁.zin (get_size_none _), hn⟩
  obtain ⟨hsz, hit⟩ := hacc
  have key : ∀ (m : Nat) (vs : List Value) (f : Nat → Int), vs.length = m → (∀ (i : Nat) (hi : i < vs.length), ∃ t, vs[i] = .int (f i) t) → RepL z₁ ((List.range m).map fun i => .int (f i)) vs := by
    intro m
    induction m with
    | zero => intro vs f hl _; rw [List.eq_nil_of_length_eq_zero hl]; exact repL_nil
    | succ m ih =>
      intro vs f hl hv
      cases vs with
      | nil => cases hl
      | cons v vs =>
        rw [List.range_succ_eq_map, List.map_cons, List.map_map]
        obtain ⟨t, ht⟩ := hv 0 (by simp)
        simp only [List.getElem_cons_zero] at ht
        subst ht
        refine repL_cons (rep_int _ _) ?_
        exact ih vs (fun i => f (i + 1)) (by simpa using hl) fun i hi => by
          obtain ⟨t, ht⟩ := hv (i + 1) (by simpa using hi)
          exact ⟨t, by simpa using ht⟩
  have := key (b - a).toNat acc.toList (fun i => a + i) (by simpa using hsz) fun i hi => by
    have hi' : i < acc.size := by simpa using hi
    obtain ⟨t, ht⟩ := hit i acc[i] (Array.getElem?_eq_getElem hi')
    exact ⟨t, by simpa using ht⟩
  simpa [iL, rangeI, Function.comp_def] using this
theorem Ev_dictGet {k1 k2 v1 v2 x d : Expr} {dpos apos pos : Pos} {a1 a2 b1 b2 ax ad : List Nat} (ok : C.Ok) (h1 : Ev C A env P k1 (.str a1)) (h2 : Ev C A env P k2 (.str a2)) (h3 : Ev C A env P v1 (.str b1)) (h4 : Ev C A env P v2 (.str b2))
    (hx : Ev C A env P x (.str ax)) (hd : Ev C A env P d (.str ad)) (hne : a1 ≠ a2) (hnx : noStar x = true := by rfl) (hnd : noStar d = true := by rfl) (hline : (apos.endLine == pos.line) = true := by rfl) :
    Ev C A env P (.Call (.Attribute (.Dict [some k1, some k2] [v1, v2] dpos) "get" apos) [x, d] [] pos) (.str (if ax = a1 then b1 else if ax = a2 then b2 else ad)) := fun s z ep => by
  refine wpAny_Call_method rfl (by rw [starEach_cons hnx, starEach_cons hnd]; rfl) hline PySem.F.plainAttrs_dict PySem.F.slot_dict_get PySem.F.type_dict_get ?_
  have hsz : 3 < s.heap.objs.size := (ok.g.keeps ep.hbk).lt
  have hms : (s.heap.objs.size == sysModules) = false := by
    show (s.heap.objs.size == 1) = false
    simp; omega
  refine wpAny_Dict_pairs (knd := strKind C.prog C.w) (pairs := [(eval k1 env, do let x ← eval v1 env; standAt dpos; pure x), (eval k2 env, do let x ← eval v2 env; standAt dpos; pure x)]) rfl (by simp) (by simp) ?_
  have gp := Grow.same (md := C.md) ep.zin (Kp.push s { cls := .type "dict", data := .dict #[] } s.toks)
  have ep0 := ep.grow gp
  refine evalPairs_cons (wpAny_mono (h1 _ _ ep0) (fun u1 s1 q1 => ?_) fun _ _ x => x)
  obtain ⟨z1, g1, r1⟩ := q1
  have ep1 := ep0.grow g1
  refine wpAny_bind (wpAny_mono (h3 _ _ ep1) (fun w1 s2 q2 => ?_) fun _ _ x => x)
  obtain ⟨z2, g2, r2⟩ := q2
  have ep2 := ep1.grow g2
  refine wpAny_bind (wpAny_standAt (wpAny_pure ?_))
  refine evalPairs_cons (wpAny_mono (h2 _ _ ep2) (fun u2 s3 q3 => ?_) fun _ _ x => x)
  obtain ⟨z3, g3, r3⟩ := q3
  have ep3 := ep2.grow g3
  refine wpAny_bind (wpAny_mono (h4 _ _ ep3) (fun w2 s4 q4 => ?_) fun _ _ x => x)
  obtain ⟨z4, g4, r4⟩ := q4
  have ep4 := ep3.grow g4
  refine wpAny_bind (wpAny_standAt (wpAny_pure (evalPairs_nil ?_)))
  simp only [Rep] at r1 r2 r3 r4
  obtain ⟨t1, rfl⟩ := r1
  obtain ⟨t2, rfl⟩ := r2
  obtain ⟨t3, rfl⟩ := r3
  obtain ⟨t4, rfl⟩ := r4
  have G := g1.trans (g2.trans (g3.trans g4))
  have hkne : (⟨a1.toArray⟩ : Str) ≠ ⟨a2.toArray⟩ := fun e => hne (by simpa using e)
  refine ⟨[(⟨a1.toArray⟩, .str ⟨b1.toArray⟩ t2), (⟨a2.toArray⟩, .str ⟨b2.toArray⟩ t4)], ⟨strKind_is _ _ _ _, rfl, strKind_is _ _ _ _, rfl, trivial⟩, (Heap.DictOf.new s.heap).keep G.keeps.old, fun h' hd' hs' => ?_⟩
  rw [merged_nil_of_nodup _ (by simp [hkne])] at hd'
  have hold : ∀ b o, s.heap.get? b = some o → h'.get? b = some o := fun b o e => (hs'.2 b (Nat.ne_of_lt (Heap.lt_size e))).trans (G.keeps.old b o (Heap.get?_push_of_some _ e))
  have zk : ∀ a o, z4 a = some o → h'.get? a = some o := fun a o e => (hs'.2 a fun q => by
    subst q
    rcases (gp.trans G).new _ _ e with q | q
    · rw [fresh_none ep.zin (get_size_none _)] at q; cases q
    · have hz4 : z4 s.heap.objs.size = none := by
        cases q2 : z4 s.heap.objs.size with
        | none => rfl
        | some p =>
          rcases G.new _ _ q2 with q3 | q3
          · rw [fresh_none ep.zin (get_size_none _)] at q3; cases q3
          · have := Heap.get?_push_size s.heap (o := { cls := .type "dict", data := .dict #[] }) rfl
            rw [this] at q3; cases q3
      rw [hz4] at e; cases e).trans (G.zin a o e)
  obtain ⟨hh, tk, gs, es, hkk, hg1, hg2⟩ := (gp.trans G).keeps
  have g5 : Grow C.md z s z4 { s4 with heap := h', toks := s4.toks + 2 } := ⟨⟨h', s4.toks + 2, s4.gens, by rw [es], hold, fun e => (gp.trans G).keeps.gens e, fun e => (gp.trans G).keeps.bare e⟩, (gp.trans G).sub, zk, (gp.trans G).new⟩
  refine ⟨hd'.typeIs (s := { s4 with heap := h', toks := s4.toks + 2 }), (fun b e => by
    cases e
    obtain ⟨o, es, ep', ho, hex, _⟩ := hd'
    exact ⟨o, ho, hex.2.1⟩), ?_⟩
  have ep5 := ep.grow g5
  have hargs : Evs C A env P [x, d] [.str ax, .str ad] := .cons hx (.cons hd .nil hnd) hnx
  refine CallW.builtin (C := C) "dict.get" A pos _ _ _ _ (hargs.plain pos) (wpAny_mono (evs_spliced hargs pos ep5) (fun vs s6 q6 => ?_) fun _ _ x => x)
  obtain ⟨z6, g6, rl⟩ := q6
  obtain ⟨ux, ud, rfl, rx, rd⟩ := repL_two rl
  have rx' := rx
  simp only [Rep] at rx'
  obtain ⟨tx, rfl⟩ := rx'
  refine ⟨(ep5.grow g6).hbk, ?_⟩
  have hd6 := hd'.keep g6.keeps.old
  refine call_meetsIn PySem.F.slot_dict_get hd6.typeIs PySem.F.entry_dict_get (PySem.F.args_dict_get_3 _ _ _) (meets_dict_get_default (strKind C.prog C.w) s.heap.objs.size (strKind_is _ _ _ tx) hms ud) ⟨_, hd6.mapOf, ?_⟩
  have g7 := (g5.trans g6).trans (Grow.same (md := C.md) g6.zin (Kp.toks s6 (s6.toks + 1)))
  refine ⟨z6, g7, ?_⟩
  unfold valueAt
  by_cases e1 : ax = a1
  · subst e1; simp; exact rep_str _ _
  · have n1 : ¬ ((⟨a1.toArray⟩ : Str) = ⟨ax.toArray⟩) := fun e => e1 (by simpa using e.symm)
    by_cases e2 : ax = a2
    · subst e2; simp [n1, e1]; exact rep_str _ _
    · have n2 : ¬ ((⟨a2.toArray⟩ : Str) = ⟨ax.toArray⟩) := fun e => e2 (by simpa using e.symm)
      simp [n1, n2, e1, e2]; exact rd
end
end Mine
namespace Mine
theorem getL_at : ∀ {es : List DictEntry} {ns : List Str} {i : Nat} {x : Str} {v : Value}, KeysAre es ns → ns.Nodup → ns[i]? = some x → (es.map (·.val))[i]? = some v → getL x es = some (some v)
  | _, _, _, _, _, .nil, _, h, _ => by simp at h
  | _, _, i, x, v, .cons (e := e) (es := es) (x := y) (xs := ys) (t := t) hk r, hn, h, hv => by
    simp only [List.nodup_cons] at hn
    unfold getL
    cases i with
    | zero =>
      simp at h hv
      subst h hv
      have : e.key.isStr y = true := by rw [hk]; simp [Value.isStr]
      simp only [List.find?_cons, this]
    | succ j =>
      have hy : y ≠ x := fun q => hn.1 (by subst q; exact List.mem_of_getElem? (by simpa using h))
      have : e.key.isStr x = false := by rw [hk]; simp [Value.isStr, hy]
      have ih := getL_at r hn.2 (by simpa using h) (by simpa using hv)
      unfold getL at ih
      simp only [List.find?_cons, this]
      cases q : List.find? (fun x_1 => x_1.key.isStr x) es with
      | some e' => rw [q] at ih; exact ih
      | none =>
        rw [q] at ih
        simp only at ih
        split at ih <;> cases ih
theorem getL_none : ∀ {es : List DictEntry} {ns : List Str} {x : Str}, KeysAre es ns → x ∉ ns → getL x es = some none
  | _, _, x, .nil, _ => rfl
  | _, _, x, .cons (e := e) (es := es) (x := y) (xs := ys) (t := t) hk r, hn => by
    simp only [List.mem_cons, not_or] at hn
    have h1 : e.key.isStr x = false := by rw [hk]; simp [Value.isStr, Ne.symm hn.1]
    have h2 : e.refKey = false := by unfold DictEntry.refKey; rw [hk]
    have ih := getL_none r hn.2
    unfold getL at ih ⊢
    simp only [List.find?_cons, h1, List.any_cons, h2, Bool.false_or]
    exact ih
theorem putL_new (name : Str) (hsh : Int) (t : Tok) (v : Value) : ∀ {es : List DictEntry} {ns : List Str}, KeysAre es ns → name ∉ ns → putL name hsh (.str name t) v es = es ++ [⟨hsh, .str name t, v⟩]
  | _, _, .nil, _ => rfl
  | _, _, .cons (e := e) (es := es) (x := y) (xs := ys) (t := u) hk r, hn => by
    simp only [List.mem_cons, not_or] at hn
    have h1 : e.key.isStr name = false := by rw [hk]; simp [Value.isStr, Ne.symm hn.1]
    simp only [putL, h1, Bool.false_eq_true, if_false, List.cons_append]
    rw [putL_new name hsh t v r hn.2]
theorem KeysAre.snoc : ∀ {es : List DictEntry} {ns : List Str} {e : DictEntry} {x : Str} {t : Tok}, KeysAre es ns → e.key = .str x t → KeysAre (es ++ [e]) (ns ++ [x])
  | _, _, _, _, _, .nil, h => .cons h .nil
  | _, _, _, _, _, .cons hk r, h => .cons hk (r.snoc h)
theorem KeysAre.length : ∀ {es : List DictEntry} {ns : List Str}, KeysAre es ns → es.length = ns.length
  | _, _, .nil => rfl
  | _, _, .cons _ r => by simp [r.length]
structure ClsK (C : Cst) (K : Frag) (Ca : Addr) : Prop where
  kin : K.In C.hb
  makes : makesIn K Ca = true
  keep : keepIn K (.ref Ca) = true
  get : plainGet K Ca "" = true
  hasD : hasDictIn K Ca = true
  setA : findIn K (.ref Ca) "__setattr__" = some (some (.builtin "object.__setattr__"))
  over : plainOver K Ca = true
section
variable {C : Cst} {A : Around} {env : Env} {X : Zm} {P : PEnv} {W : OEnv} {K : Frag} {Ca : Addr}
theorem handed_rep {z : Zm} {p : PV} {v : Value} (h : ∀ T, p ≠ .ty T) (r : Rep z p v) : handedIn v = true := by
  cases p with
  | none => simp only [Rep] at r; subst r; rfl
  | bool b => simp only [Rep] at r; subst r; rfl
  | int i => simp only [Rep] at r; obtain ⟨t, rfl⟩ := r; rfl
  | str s => simp only [Rep] at r; obtain ⟨t, rfl⟩ := r; rfl
  | list xs => simp only [Rep] at r; obtain ⟨a, vs, n, rfl, _⟩ := r; rfl
  | tuple xs => simp only [Rep] at r; obtain ⟨a, vs, n, rfl, _⟩ := r; rfl
  | inst _ _ _ => simp only [Rep] at r; obtain ⟨a, d, es, n, vs, rfl, _⟩ := r; rfl
  | addr a => simp only [Rep] at r; subst r; rfl
  | ty T => exact absurd rfl (h T)
theorem instAt_of {s : Shared} {x d : Addr} {es : List DictEntry} {n : Nat} (hx : s.heap.get? x = some (instObj Ca d)) (hd : s.heap.get? d = some (dictOf es n)) : InstAt s.heap x (instObj Ca d) Ca (some (dictOf es n)) :=
  ⟨hx, rfl, rfl, hd⟩
theorem getAttr_inst (k : ClsK C K Ca) {s : Shared} {x d : Addr} {es : List DictEntry} {n i : Nat} {ns : List Str} {name : Str} {v : Value} {Q : Value → Shared → Prop} (hb : ∀ a o, C.hb.get? a = some o → s.heap.get? a = some o)
    (hx : s.heap.get? x = some (instObj Ca d)) (hd : s.heap.get? d = some (dictOf es n)) (hk : KeysAre es ns) (hn : ns.Nodup) (hi : ns[i]? = some name) (hv : (es.map (·.val))[i]? = some v) (hh : handedIn v = true)
    (ha : findIn K (.ref Ca) name = some none) (h : Q v { s with toks := s.toks + 1 }) : wpAny C.M A (getAttr (.ref x) name true) Q noE s :=
  get_value (k.kin.keeps hb) (instAt_of hx hd) (plainGet_of k.get).1 (findObj_own k.hasD ha rfl (by rw [lookIn_dict]; exact getL_at hk hn hi hv)) hh h
theorem Ev_attr {o attr : Str} {op pos : Pos} {ns : List Str} {xs : List PV} {i : Nat} {pv : PV} (k : ClsK C K Ca) (he : Ev C A env P (.Name o op) (.inst Ca ns xs)) (hn : ns.Nodup) (hi : ns[i]? = some attr) (hp : xs[i]? = some pv) (ht : ∀ T, pv ≠ .ty T)
    (ha : findIn K (.ref Ca) attr = some none) : Ev C A env P (.Attribute (.Name o op) attr pos) pv := fun s z ep => by
  refine Attribute_name (wpAny_mono (he s z ep) (fun v s₁ h₁ => ?_) fun _ _ x => x)
  obtain ⟨z₁, g₁, r₁⟩ := h₁
  simp only [Rep] at r₁
  obtain ⟨a, d, es, n, vs, rfl, hx, hd, hk, hvs, rl⟩ := r₁
  obtain ⟨u, hu, ru⟩ := rl.get hp
  have ep₁ := ep.grow g₁
  exact getAttr_inst k ep₁.hbk (g₁.zin _ _ hx) (g₁.zin _ _ hd) hk hn hi (by rw [hvs]; exact hu) (handed_rep ht ru) ha (Post.via g₁ (post_toks g₁.zin ru))
theorem Ev_clsS {o attr : Str} {op pos : Pos} {l : List Nat} {x : Str} {t : Tok} {mc : Value} (ok : C.Ok) (k : ClsK C K Ca) (hk : env.kindOf o = some .globalImplicit) (hg : GlobIs C o (.ref Ca)) (hr : readsIn K Ca mc = true)
    (e : findCls K (.ref Ca) mc attr = some (.val (.str x t))) (hl : x.cps.toList = l) (hd : (o == ("__debug__" : Str)) = false := by decide) : Ev C A env P (.Attribute (.Name o op) attr pos) (.str l) := fun s z ep => by
  refine Attribute_name (eval_global ok ep hk hg ?_ hd)
  exact cls_value (k.kin.keeps ep.hbk) hr e rfl (post_toks ep.zin (rep_strS _ _ hl))
theorem CallW.cls (k : ClsK C K Ca) : CallW C (.ref Ca) := fun A pos first trees Q s hp h => by
  refine callWith_of (P := fun h => K.In h) (by rw [hp]; rfl) (keeps_K k.keep) (evalArgs_any hp (wpAny_mono h (fun vs s₁ q => ⟨k.kin.keeps q.1, q.2⟩) fun _ _ x => x))
theorem Ev_meth {o : Expr} {name : Str} {apos pos : Pos} {args : List Expr} {ns : List Str} {xs as : List PV} {r : PV} {f : Addr} {n : Nat} (k : ClsK C K Ca) (hr : Room A n) (he : Ev C A env P o (.inst Ca ns xs)) (hnn : name ∉ ns) (ha : Evs C A env P args as)
    (hf : findIn K (.ref Ca) name = some (some (.ref f))) (ht : typeIn K (.ref f) = some (.type "function")) (hw : CallW C (.ref f)) (ho : FunOk C n f (.inst Ca ns xs :: as) r)
    (hbase : attributeBase o name env (eval o env) = eval o env := by rfl) (hline : (apos.endLine == pos.line) = true := by rfl) (hlen : args.length < 30 := by decide) :
    Ev C A env P (.Call (.Attribute o name apos) args [] pos) r := fun s z ep => by
  rw [arm_eval_Call, hbase]
  refine wpAny_bind (wpAny_mono (he s z ep) (fun v s₁ h₁ => ?_) fun _ _ x => x)
  obtain ⟨z₁, g₁, r₁⟩ := h₁
  have r₁' := r₁
  simp only [Rep] at r₁'
  obtain ⟨x, d, es, m, vs, rfl, hx, hd, hk, hvs, rl⟩ := r₁'
  have ep₁ := ep.grow g₁
  have hform : methodCallForm (args.length + ([] : List Keyword).length) (backTo pos (starEach args env)) (backToKw pos (keywordEach [] env)) = true := by
    unfold methodCallForm
    rw [Bool.and_eq_true, Bool.and_eq_true]
    refine ⟨⟨?_, rfl⟩, decide_eq_true (by simpa [backToKw, keywordEach] using hlen)⟩
    have := ha.plain pos
    rw [List.any_eq_false] at this
    rw [List.all_eq_true]
    intro y hy
    have := this y hy
    simpa using this
  have hpos : methodCallPos true o env apos pos = pure pos := by unfold methodCallPos; simp [hline]
  refine wpAny_bind (wpAny_standAt ?_)
  unfold methodCall
  rw [hform]
  refine wpAny_bind (wpAny_holding ?_)
  show wpAny C.M A (getMethod (.ref x) name (do return (← importBound o env).getD true)) _ _ s₁
  have sh : shadowIn (some (dictOf es m)) name = some false := by
    show (lookIn name (dictOf es m)).map _ = _
    rw [lookIn_dict, getL_none hk hnn]; rfl
  refine method_fn (k.kin.keeps ep₁.hbk) (instAt_of (g₁.zin _ _ hx) (g₁.zin _ _ hd)) (plainGet_of k.get).1 (plainGet_of k.get).2 hf ht sh ?_
  refine wpAny_bind (wpAny_of_eq hpos ?_)
  refine hw A pos [.ref x] _ _ s₁ (ha.plain pos) (wpAny_mono (evs_spliced ha pos ep₁) (fun us s₂ h₂ => ?_) fun _ _ x => x)
  obtain ⟨z₂, g₂, rl₂⟩ := h₂
  have ep₂ := ep₁.grow g₂
  exact ⟨ep₂.hbk, wp_via (g₁.trans g₂) (ho A hr s₂ z₂ _ ep₂.hz g₂.zin (repL_cons (r₁.mono g₂.sub) rl₂))⟩
theorem setAttr_new (k : ClsK C K Ca) {s : Shared} {x d : Addr} {es : List DictEntry} {n : Nat} {ns : List Str} {name : Str} {v : Value} {Q : Unit → Shared → Prop} (hb : ∀ a o, C.hb.get? a = some o → s.heap.get? a = some o)
    (hx : s.heap.get? x = some (instObj Ca d)) (hd : s.heap.get? d = some (dictOf es n)) (hk : KeysAre es ns) (hn : name ∉ ns) (ht : takerIn K Ca name = some none) (hsz : ns.length ≤ 100)
    (h : ∀ h' hsh tk, h'.get? d = some (dictOf (es ++ [⟨hsh, .str name tk, v⟩]) (n + 1)) → Heap.SameBut d s.heap h' → Q () { s with heap := h', toks := s.toks + 2 }) : wpAny C.M A (setAttr (.ref x) name v) Q noE s := by
  obtain ⟨hh, gg, dd, tt, oo⟩ := s
  have X0 : K.In hh := k.kin.keeps hb
  have I : InstAt hh x (instObj Ca d) Ca (some (dictOf es n)) := instAt_of hx hd
  refine set_plain X0 I k.setA ?_
  refine osa_open (s := ⟨hh, gg, dd, tt + 1, oo⟩) X0 I k.over ht fun b => ?_
  obtain ⟨cd, hc, hd'⟩ := any_some k.hasD
  refine wpAny_bind (wpAny_pure (wpAny_bind (wpAny_bind (wpAny_loadPart hx (wpAny_bind ((looks_clsIn X0 hc).here ?_))))))
  rw [hd']
  refine wpAny_pure (a := some d) (wpAny_bind (wpAny_pure (wpAny_bind ?_)))
  unfold nsSet
  refine wpAny_bind (wpAny_bind (wpAny_askSetting (wpAny_pure (wpAny_bind (wpAny_mkText (wpAny_bind (wpAny_loadPart hd ?_)))))))
  have hany : es.any (·.key.isStr name) = false := by
    have := getL_none hk hn
    unfold getL at this
    cases q : es.find? (·.key.isStr name) with
    | some e => rw [q] at this; cases this
    | none => rw [List.find?_eq_none] at q; rw [List.any_eq_false]; exact q
  have href : es.any (·.refKey) = false := by
    have := getL_none hk hn
    unfold getL at this
    cases q : es.any (·.refKey) with
    | false => rfl
    | true =>
      cases q2 : es.find? (·.key.isStr name) with
      | some e => rw [q2] at this; cases this
      | none => rw [q2] at this; simp [q] at this
  have c : (!es.toArray.any (·.key.isStr name) && es.toArray.any (·.refKey)) = false := by rw [List.any_toArray, List.any_toArray, href, Bool.and_false]
  dsimp only
  rw [aRefKeyMayBeTheName_at, c]
  refine wpAny_updatePart hd ?_
  have e1 : Obj.putName name (PyData.keyHash C.w.params name) (.str name (tt + 1)) v (dictOf es n) = dictOf (es ++ [⟨PyData.keyHash C.w.params name, .str name (tt + 1), v⟩]) (n + 1) := by
    rw [putName_dict, putL_new _ _ _ _ hk hn]
    unfold putN
    rw [hany]; rfl
  have D' : (hh.update d (Obj.putName name (PyData.keyHash C.w.params name) (.str name (tt + 1)) v)).get? d = some (dictOf (es ++ [⟨PyData.keyHash C.w.params name, .str name (tt + 1), v⟩]) (n + 1)) := by
    rw [Heap.get?_update_self _ hd (by rw [e1]; rfl), e1]
  refine wpAny_bind (wpAny_lookBehind D' (pastItsLine_dict (by have := hk.length; rw [List.size_toArray, sizeLine_eq]; simp; omega)) ?_)
  exact wpAny_pure (h _ _ _ D' (Heap.SameBut.update ..))
end
end Mine
namespace Mine
section
variable {C : Cst} {A : Around} {env : Env} {X : Zm} {P : PEnv} {W : OEnv}
theorem Ex1_assign2 {x y : Str} {px py pos : Pos} {value : Expr} {a : PV} (hx : Can env x) (hy : Can env y) (hv : EvF C A env X P W value a)
    (hsw : swappedStores [.Name x px, .Name y py] value env = pure none := by rfl) :
    Ex1 C A env X P W (.Assign [.Name x px, .Name y py] value pos) (.next (upd (upd P x a) y a) (del (del W x) y)) := fun s₀ z₀ g₀ z s f => by
  refine wpAny_Assign_two (wpAny_mono (hv s₀ z₀ g₀ z s f) (fun v s₁ h₁ => ?_) fun _ _ x => x) rfl hsw
  obtain ⟨z₁, m, f₁, r, _⟩ := h₁
  refine wpAny_mono (AsgT_name hx rfl X s₀ z₀ g₀ z₁ s₁ v f₁ r) (fun _ s₂ h₂ => ?_) fun _ _ x => x
  obtain ⟨z₂, m₂, f₂⟩ := h₂
  refine wpAny_mono (AsgT_name hy rfl X s₀ z₀ g₀ z₂ s₂ v f₂ (r.mono m₂.sub)) (fun _ s₃ h₃ => ?_) fun _ _ x => x
  obtain ⟨z₃, m₃, f₃⟩ := h₃
  exact ⟨rfl, z₃, m.trans (m₂.trans m₃), f₃⟩
theorem PSub_cons {α : Type} {P₁ P₂ : List (Str × α)} {n : Str} {v : α} (h : P₁.lookup n = some v) (r : PSub P₂ P₁) : PSub ((n, v) :: P₂) P₁ := fun x u e => by
  by_cases q : x = n
  · subst q
    simp [List.lookup] at e
    subst e
    exact h
  · have : (x == n) = false := beq_eq_false_iff_ne.mpr q
    simp only [List.lookup, this] at e
    exact r x u e
def upZ : Int → Nat → List PV
  | _, 0 => []
  | a, n + 1 => .int a :: upZ (a + 1) n
theorem upZ_range : ∀ (n : Nat) (a : Int), (List.range n).map (fun (i : Nat) => PV.int (a + i)) = upZ a n
  | 0, _ => rfl
  | n + 1, a => by
    rw [List.range_succ_eq_map, List.map_cons, List.map_map, upZ, ← upZ_range n (a + 1)]
    congr 1
    · simp
    · apply List.map_congr_left
      intro i _
      simp only [Function.comp_apply]
      congr 1
      push_cast
      omega
theorem iL_rangeI (a b : Int) : iL (rangeI a b) = upZ a (b - a).toNat := by
  rw [← upZ_range]
  simp [iL, rangeI, Function.comp_def]
theorem call_range3 {m : Nat} (hm : m < 100000) {s : Shared} {z : Zm} {vs : List Value} (rl : RepL z [.int 2, .int (2 * (m + 1)), .int 2] vs) :
    wpAny C.M A (call (.type "range") vs) (fun v s' => ∃ t u w, v = .ref s.heap.objs.size ∧ IsRange s'.heap s.heap.objs.size 2 (2 * (m + 1)) 2 t u w ∧ Kp C.md s s' ∧ s'.heap.objs.size = s.heap.objs.size + 1) noE s := by
  simp only [RepL] at rl
  obtain ⟨v1, r1, rfl, q1, v2, r2, rfl, q2, v3, r3, rfl, q3, rfl⟩ := rl
  simp only [Rep] at q1 q2 q3
  obtain ⟨t1, rfl⟩ := q1
  obtain ⟨t2, rfl⟩ := q2
  obtain ⟨t3, rfl⟩ := q3
  exact call_range_3 (by decide) ⟨_, _, _, rfl, Heap.get?_push_size _ rfl, Kp.push _ _ _, Heap.size_push ..⟩ (.inl (PyProof.noPylong_small (by omega)))
theorem EvN_listRange2 {x y : Str} {p p' pos pos' : Pos} {args : List Expr} {m : Nat} (ok : C.Ok) (hA : A.handled = none) (hk : env.kindOf x = some .globalImplicit) (hg : GlobIs C x (.type "range")) (hk' : env.kindOf y = some .globalImplicit)
    (hg' : GlobIs C y (.type "list")) (ha : Evs C A env P args [.int 2, .int (2 * (m + 1)), .int 2]) (hm : m < 100000)
    (hd : (x == ("__debug__" : Str)) = false := by decide) (hd' : (y == ("__debug__" : Str)) = false := by decide) :
    EvN C A env P (.Call (.Name y p') [.Call (.Name x p) args [] pos] [] pos') (iL ((List.range m).map fun (i : Nat) => (2 : Int) + i * 2)) := fun s z ep => by
  have er : wpAny C.M A (eval (.Call (.Name x p) args [] pos) env) (fun v s' => ∃ z' r t u w, v = .ref r ∧ IsRange s'.heap r 2 (2 * (m + 1)) 2 t u w ∧ Grow C.md z s z' s' ∧ z' r = none ∧ s.heap.get? r = none) noE s := by
    refine wpAny_Call_NameR (eval_global ok ep hk hg ?_ hd)
    refine CallW.type (C := C) "range" A pos [] _ _ s (ha.plain pos) (wpAny_mono (evs_spliced ha pos ep) (fun vs s₁ h₁ => ?_) fun _ _ x => x)
    obtain ⟨z₁, g₁, rl⟩ := h₁
    have ep₁ := ep.grow g₁
    refine ⟨ep₁.hbk, wpAny_mono (call_range3 hm rl) (fun v s₂ h₂ => ?_) fun _ _ x => x⟩
    obtain ⟨t, u, w, rfl, hR, k, _⟩ := h₂
    refine ⟨z₁, _, t, u, w, rfl, hR, g₁.trans (Grow.same g₁.zin k), fresh_none g₁.zin (get_size_none _), ?_⟩
    cases q : s.heap.get? s₁.heap.objs.size with
    | none => rfl
    | some o => have := g₁.keeps.old _ _ q; rw [get_size_none] at this; cases this
  refine wpAny_Call_NameR (eval_global ok ep hk' hg' ?_ hd')
  refine CallW.type (C := C) "list" A pos' [] _ _ s rfl ?_
  refine Calls.spliced_cons (wpAny_mono er (fun v s₁ h => Calls.spliced_nil ?_) fun _ _ x => x)
  obtain ⟨z₁, r, t, u, w, rfl, hR, g₁, hzr, hnr⟩ := h
  refine ⟨(ep.grow g₁).hbk, ?_⟩
  have hsz : Builtin.Range.rangeSize 2 (2 * ((m : Int) + 1)) 2 = (m : Nat) := by
    unfold Builtin.Range.rangeSize
    rw [if_pos (by decide)]
    split <;> omega
  have hsm : Builtin.Range.small 2 (2 * ((m : Int) + 1)) 2 = true := by
    unfold Builtin.Range.small
    rw [hsz]
    have key : ∀ b k : Int, 0 ≤ b → b < 1000000 → 0 ≤ k → k < 1000000 → (Builtin.Range.rangeFitsLong b = true ∧ Builtin.Range.rangeFitsLong k = true) := fun b k h1 h2 h3 h4 => by
      unfold Builtin.Range.rangeFitsLong
      simp only [Bool.and_eq_true, decide_eq_true_eq]
      omega
    rw [if_pos (by decide), (key 2 2 (by omega) (by omega) (by omega) (by omega)).1, (key (2 * (m + 1)) 2 (by omega) (by omega) (by omega) (by omega)).1, (key m 2 (by omega) (by omega) (by omega) (by omega)).1,
      (key (2 * (m + 1) + (2 - 1)) 2 (by omega) (by omega) (by omega) (by omega)).1]
    simp
  refine call_list_range (n := m) hA hR hsm hsz (by omega) fun h' tk acc c' hk hS hacc => ?_
  have hn : s.heap.get? s₁.heap.objs.size = none := by
    cases q : s.heap.get? s₁.heap.objs.size with
    | none => rfl
    | some o => have := g₁.keeps.old _ _ q; rw [get_size_none] at this; cases this
  refine ⟨z₁, s₁.heap.objs.size, acc.toList, c', rfl, g₁.trans (Grow.same g₁.zin (Kp.heap _ _ _ hk)), by show h'.get? _ = _; rw [hS], ?_, fresh_none g₁.zin (get_size_none _), hn⟩
  obtain ⟨hsz, hit⟩ := hacc
  have key : ∀ (m : Nat) (vs : List Value) (f : Nat → Int), vs.length = m → (∀ (i : Nat) (hi : i < vs.length), ∃ t, vs[i] = .int (f i) t) → RepL z₁ ((List.range m).map fun i => .int (f i)) vs := by
    intro m
    induction m with
    | zero => intro vs f hl _; rw [List.eq_nil_of_length_eq_zero hl]; exact repL_nil
    | succ m ih =>
      intro vs f hl hv
      cases vs with
      | nil => cases hl
      | cons v vs =>
        rw [List.range_succ_eq_map, List.map_cons, List.map_map]
        obtain ⟨t, ht⟩ := hv 0 (by simp)
        simp only [List.getElem_cons_zero] at ht
        subst ht
        refine repL_cons (rep_int _ _) ?_
        exact ih vs (fun i => f (i + 1)) (by simpa using hl) fun i hi => by
          obtain ⟨t, ht⟩ := hv (i + 1) (by simpa using hi)
          exact ⟨t, by simpa using ht⟩
  have := key m acc.toList (fun i => 2 + i * 2) (by simpa using hsz) fun i hi => by
    have hi' : i < acc.size := by simpa using hi
    obtain ⟨t, ht⟩ := hit i acc[i] (Array.getElem?_eq_getElem hi')
    exact ⟨t, by simpa using ht⟩
  simpa [iL, Function.comp_def] using this
structure Bi (C : Cst) : Prop where
  len : GlobIs C "len" (.builtin "len")
  min : GlobIs C "min" (.builtin "min")
  max : GlobIs C "max" (.builtin "max")
  sum : GlobIs C "sum" (.builtin "sum")
  isinst : GlobIs C "isinstance" (.builtin "isinstance")
  range : GlobIs C "range" (.type "range")
  list : GlobIs C "list" (.type "list")
  tuple : GlobIs C "tuple" (.type "tuple")
  bool : GlobIs C "bool" (.type "bool")
  enum : GlobIs C "enumerate" (.type "enumerate")
end
end Mine
namespace Mine
abbrev pw : Program := PySem.Challenge.pw_sc0088_01
def stAt (i : Nat) : Stmt := (pw.main.body[i]?).getD (.Pass default)
def stBody : Stmt → List Stmt
  | .FunctionDef _ _ body .. => body
  | .ClassDef _ _ _ body .. => body
  | _ => []
def stArgs : Stmt → Arguments
  | .FunctionDef _ args .. => args
  | _ => default
def stScope : Stmt → Scope
  | .FunctionDef _ _ _ _ _ _ scope .. => scope
  | _ => default
abbrev iIter : Nat := 2
abbrev iStrip : Nat := 3
abbrev iCheck : Nat := 4
abbrev iWs : Nat := 6
abbrev iSub : Nat := 11
abbrev iLev : Nat := 12
end Mine
namespace Mine
local macro_rules | `(tactic| walk_at "op") => `(tactic| first
  | exact op_add | exact op_sub | exact op_iadd | exact op_isub | exact op_eq | exact op_ne | exact op_lt | exact op_le | exact op_gt | exact op_ge | exact op_eqS | exact op_neS)
local macro_rules | `(tactic| walk_at "ev") => `(tactic| first
  | exact Ev_name rfl
  | exact Ev_int
  | exact Ev_str rfl
  | exact Ev_none
  | exact Ev_bool
  | (refine' Ev_bin ?l ?r ?o; (case l => walk_at "ev"); (case r => walk_at "ev"); (case o => walk_at "op"))
  | (refine' Ev_cmp ?l ?r ?o; (case l => walk_at "ev"); (case r => walk_at "ev"); (case o => walk_at "op"))
  | exact Ev_globInt (by assumption) (EnvOf.k (by assumption) rfl) (by assumption))
local macro_rules | `(tactic| walk_at "ts") => `(tactic| first
  | (refine' Tst_cmp ?l ?r ?o; (case l => walk_at "ev"); (case r => walk_at "ev"); (case o => walk_at "op")))
abbrev okc (c : Nat) : Prop := c = 97 ∨ c = 98 ∨ c = 99 ∨ c = 40 ∨ c = 41
theorem lower_okc {c : Nat} (h : okc c) : (Txt.lower ⟨[c].toArray⟩).cps.toList = [c] := by
  rcases h with rfl | rfl | rfl | rfl | rfl <;> decide +kernel
def subC (a b : Nat) : Int := if a = b then 0 else 2
theorem sub_fun {C : Cst} {a b : Nat} {t1 t2 : Tok} (ok : C.Ok) (D : DefG C "_substitution_cost" (stArgs (stAt iSub)) (stBody (stAt iSub)) (stScope (stAt iSub)))
    (g1 : GlobIs C "_CASE_COST" (.int 1 t1)) (g2 : GlobIs C "_MOVE_COST" (.int 2 t2)) (ha : okc a) (hb : okc b) : Fun C "_substitution_cost" 1 [.str [a], .str [b]] (.int (subC a b)) := by
  refine fun_of (names := ["ch_a", "ch_b"]) (o := .ret (.int (subC a b))) ok D ?_ rfl (by decide) ?_ ?_ ?_ (.inl ⟨_, rfl⟩)
  · intro name qual pm code doc vs hv
    match vs, hv with
    | [u, v], _ => rfl
  · intro x hx
    simp only [List.mem_cons, List.not_mem_nil, or_false] at hx
    rcases hx with rfl | rfl <;> exact .inl rfl
  · intro x hx
    simp only [List.mem_cons, List.not_mem_nil, or_false] at hx
    rcases hx with rfl | rfl <;> decide
  · intro A env hr hE
    by_cases hab : a = b
    · refine Ex_ret (Ex1_if (b := true) (.of ?_) (fun _ => ?_) (fun h => by cases h))
      · have : decide ([a] = [b]) = true := by simp [hab]
        rw [← this]
        refine Tst_cmp (a := .str [a]) (b := .str [b]) ?l ?r ?o
        case l => exact Ev_name rfl
        case r => exact Ev_name rfl
        case o => exact op_eqS
      · rw [show subC a b = 0 by simp [subC, hab]]
        exact Ex_ret (Ex1_return (.of Ev_int))
    · refine Ex_cons (Ex1_if (b := false) (.of ?_) (fun h => by cases h) (fun _ => Ex_nil)) ?_
      · have : decide ([a] = [b]) = false := by simp [hab]
        rw [← this]
        walk_at "ts"
      refine Ex_cons (Ex1_if (b := false) (.of ?_) (fun h => by cases h) (fun _ => Ex_nil)) ?_
      · have : decide ([a] = [b]) = false := by simp [hab]
        rw [← this]
        refine Tst_cmp (Ev_methS (by walk_at "ev") .nil PySem.F.slot_str_lower PySem.F.type_str_lower (opC_lower (lower_okc ha) (by simp))) (Ev_methS (by walk_at "ev") .nil PySem.F.slot_str_lower PySem.F.type_str_lower (opC_lower (lower_okc hb) (by simp))) op_eqS
      · rw [show subC a b = 2 by simp [subC, hab]]
        exact Ex_ret (Ex1_return (.of (by walk_at "ev")))
end Mine
namespace Mine
theorem slice_drop {α : Type} (l : List α) (k : Nat) : pySlice l (some (k : Int)) none = l.drop k := by
  have e : cutLo (some (k : Int)) l.length = min k l.length := by
    simp only [cutLo, Option.elim, clipAt]
    rw [if_neg (by omega)]
    omega
  simp only [pySlice, e, cutHi, Option.elim]
  rw [List.take_of_length_le (by simp)]
  rcases Nat.le_total k l.length with h | h
  · rw [Nat.min_eq_left h]
  · rw [Nat.min_eq_right h, List.drop_length, List.drop_eq_nil_of_le h]
theorem slice_all {α : Type} (l : List α) : pySlice l none none = l := by
  simp [pySlice, cutLo, cutHi]
theorem slice_back {α : Type} (l : List α) (j : Nat) (hj : 0 < j) : pySlice l none (some (-(j : Int))) = l.take (l.length - j) := by
  have e : cutHi (some (-(j : Int))) l.length = l.length - j := by
    simp only [cutHi, Option.elim, clipAt]
    rw [if_pos (by omega)]
    omega
  simp only [pySlice, e, cutLo, Option.elim, List.drop_zero, Nat.sub_zero]
def cpl : List Nat → List Nat → Nat
  | a :: r, b :: q => if a = b then cpl r q + 1 else 0
  | _, _ => 0
def cutBack (l : List Nat) (j : Nat) : List Nat := if j = 0 then l else l.take (l.length - j)
theorem cutBack_eq (l : List Nat) (j : Nat) : cutBack l j = l.take (l.length - j) := by
  unfold cutBack; split
  · subst_vars; simp
  · rfl
section
variable {C : Cst} {A : Around} {env : Env} {X : Zm} {P : PEnv} {W : OEnv}
theorem Ev_cutBack {v x : Str} {p1 p2 p3 p4 p5 : Pos} {k : Nat} {l : List Nat} {j : Nat} (hv : P.lookup v = some (.str l)) (hx : P.lookup x = some (.int (-(j : Int)))) (hs : l.length ≤ 10000000) :
    Ev C A env P (.Subscript (.Name v p1) (.Slice none (some (.BoolOp .Or [.Name x p2, .Constant .none k p3] p4)) none p5) pos) (.str (cutBack l j)) := by
  unfold cutBack
  by_cases h : j = 0
  · subst h
    rw [if_pos rfl, ← slice_all l]
    rw [slice_all l]
    have : Ev C A env P (.Subscript (.Name v p1) (.Slice none (some (.BoolOp .Or [.Name x p2, .Constant .none k p3] p4)) none p5) pos) (.str (pySlice l none none)) :=
      Ev_sliceS (Ev_name hv) .nil (.no (Ev_orR (Ev_name hx) (Tru_int (a := -((0 : Nat) : Int))) Ev_none)) hs
    rwa [slice_all] at this
  · rw [if_neg h, ← slice_back l j (by omega)]
    refine Ev_sliceS (Ev_name hv) .nil (.int (Ev_orL (Ev_name hx) ?_)) hs
    have := Tru_int (C := C) (A := A) (a := -(j : Int))
    rwa [show (-(j : Int) != 0) = true by simp; omega] at this
theorem Ev_dropS {v x : Str} {p1 p2 p5 pos : Pos} {l : List Nat} {k : Nat} (hv : P.lookup v = some (.str l)) (hx : P.lookup x = some (.int (k : Int))) (hs : l.length ≤ 10000000) :
    Ev C A env P (.Subscript (.Name v p1) (.Slice (some (.Name x p2)) none none p5) pos) (.str (l.drop k)) := by
  have : Ev C A env P (.Subscript (.Name v p1) (.Slice (some (.Name x p2)) none none p5) pos) (.str (pySlice l (some (k : Int)) none)) :=
    Ev_sliceS (Ev_name hv) (.int (Ev_name hx)) .nil hs
  rwa [slice_drop] at this
end
def alikeAt (a b : List Nat) (k : Nat) : Bool :=
  match a.drop k, b.drop k with
  | x :: _, y :: _ => decide (x = y)
  | _, _ => false
theorem alike_cpl (a b : List Nat) (k : Nat) : alikeAt a b k = decide (0 < cpl (a.drop k) (b.drop k)) := by
  unfold alikeAt
  cases a.drop k with
  | nil => rfl
  | cons x r =>
    cases b.drop k with
    | nil => rfl
    | cons y q => by_cases h : x = y <;> simp [cpl, h]
theorem cpl_next {a b : List Nat} {k : Nat} (h : alikeAt a b k = true) : cpl (a.drop k) (b.drop k) = cpl (a.drop (k + 1)) (b.drop (k + 1)) + 1 := by
  unfold alikeAt at h
  cases ha : a.drop k with
  | nil => rw [ha] at h; cases h
  | cons x r =>
    cases hq : b.drop k with
    | nil => rw [ha, hq] at h; cases h
    | cons y q =>
      rw [ha, hq] at h
      have := of_decide_eq_true h
      subst this
      have er : a.drop (k + 1) = r := by rw [← List.drop_drop, ha]; rfl
      have eq : b.drop (k + 1) = q := by rw [← List.drop_drop, hq]; rfl
      rw [er, eq]; simp [cpl]
theorem wh_cpl {C : Cst} {A : Around} {env : Env} {X : Zm} {W : OEnv} {test : Expr} {body : List Stmt} (a b : List Nat) (sh : Nat → PEnv)
    (ht : ∀ k, TsF C A env X (sh k) W test (alikeAt a b k)) (hb : ∀ k, alikeAt a b k = true → Ex C A env X (sh k) W body (.next (sh (k + 1)) W)) :
    ∀ (n k : Nat), cpl (a.drop k) (b.drop k) = n → Wh C A env X test body n (sh k) W (.next (sh (k + n)) W) := by
  intro n
  induction n with
  | zero =>
    intro k e
    refine .done ?_
    have := ht k
    rwa [alike_cpl a b k, e] at this
  | succ n ih =>
    intro k e
    have hk : alikeAt a b k = true := by rw [alike_cpl, e]; simp
    have := ih (k + 1) (by have := cpl_next hk; omega)
    rw [show k + (n + 1) = k + 1 + n by omega]
    exact .step (hk ▸ ht k) (hb k hk) this
theorem seqIndex_nat (k n : Nat) (h : k < n) : seqIndex? (k : Int) n = some k := by
  unfold seqIndex?
  simp; omega
theorem seqIndex_neg (k n : Nat) (h : k < n) : seqIndex? (-(k : Int) - 1) n = some (n - 1 - k) := by
  unfold seqIndex?
  simp; omega
theorem alike_drop {a b : List Nat} {k : Nat} (h : alikeAt a b k = true) : ∃ x, a[k]? = some x ∧ b[k]? = some x := by
  unfold alikeAt at h
  cases ha : a.drop k with
  | nil => rw [ha] at h; cases h
  | cons x r =>
    cases hq : b.drop k with
    | nil => rw [ha, hq] at h; cases h
    | cons y q =>
      rw [ha, hq] at h
      have := of_decide_eq_true h
      subst this
      refine ⟨x, ?_, ?_⟩
      · have := congrArg (·[0]?) ha; simpa using this
      · have := congrArg (·[0]?) hq; simpa using this
end Mine
namespace Mine
def forBody : Stmt → List Stmt
  | .For _ _ body .. => body
  | _ => []
def forTgt : Stmt → Expr
  | .For tgt .. => tgt
  | _ => default
def nthS (l : List Stmt) (i : Nat) : Stmt := (l[i]?).getD (.Pass default)
theorem Tst_eq {C : Cst} {A : Around} {env : Env} {P : PEnv} {e : Expr} {b b' : Bool} (h : b = b') (t : Tst C A env P e b) : Tst C A env P e b' := h ▸ t
theorem Ev_eq {C : Cst} {A : Around} {env : Env} {P : PEnv} {e : Expr} {b b' : PV} (h : b = b') (t : Ev C A env P e b) : Ev C A env P e b' := h ▸ t
def lvIn (bc : Nat) : List Nat → List Int → Int → Int → Int → List Int × Int × Int × Int
  | c :: as, o :: old, d, res, mn =>
    let r := min (min res o + 2) (d + subC bc c)
    let t := lvIn bc as old o r (if r < mn then r else mn)
    (r :: t.1, t.2)
  | _, _, d, res, mn => ([], d, res, mn)
def lvOut (mc : Int) (a : List Nat) : List Nat → Nat → List Int → Int → Int
  | [], _, _, res => res
  | bc :: bs, i, row, _ =>
    let t := lvIn bc a row (i * 2) (i * 2) 9223372036854775807
    if t.2.2.2 > mc then mc + 1 else lvOut mc a bs (i + 1) t.1 t.2.2.1
def lvRun (a b : List Nat) (mc : Int) : Int :=
  if ((b.length : Int) - a.length) * 2 > mc then mc + 1 else lvOut mc a b 0 ((List.range a.length).map fun (i : Nat) => (2 : Int) + i * 2) 0
def lvTail (a b : List Nat) (mc : Int) : Int :=
  if a = [] ∨ b = [] then 2 * ((a.length : Int) + b.length) else if b.length < a.length then lvRun b a mc else lvRun a b mc
def lvPost (a b : List Nat) (mc : Int) : Int :=
  let j := cpl a.reverse b.reverse
  lvTail (a.take (a.length - j)) (b.take (b.length - j)) mc
def levD (a b : List Nat) (mc : Int) : Int :=
  if a = b then 0 else lvPost (a.drop (cpl a b)) (b.drop (cpl a b)) mc
abbrev levB : List Stmt := stBody (stAt iLev)
abbrev levFor : Stmt := nthS levB 15
abbrev levFor2 : Stmt := nthS (forBody levFor) 3
abbrev Pin (a b : List Nat) (mc bi : Int) (bc : Nat) (d res mn : Int) : PEnv :=
  [("a", .str a), ("b", .str b), ("max_cost", .int mc), ("bindex", .int bi), ("bchar", .str [bc]), ("distance", .int d), ("result", .int res), ("minimum", .int mn)]
structure LevG (C : Cst) : Prop where
  ok : C.Ok
  bi : Bi C
  move : ∃ t, GlobIs C "_MOVE_COST" (.int 2 t)
  case_ : ∃ t, GlobIs C "_CASE_COST" (.int 1 t)
  big : ∃ t, GlobIs C "_MAX_STRING_SIZE" (.int 40 t)
  sub : DefG C "_substitution_cost" (stArgs (stAt iSub)) (stBody (stAt iSub)) (stScope (stAt iSub))
  lev : DefG C "_levenshtein_distance" (stArgs (stAt iLev)) (stBody (stAt iLev)) (stScope (stAt iLev))
section
variable {C : Cst} {A : Around} {env : Env} {X : Zm}
theorem bind_at {α : Type} {l : List α} {k : Nat} {c : α} (h : l[k]? = some c) : (seqIndex? (k : Int) l.length).bind (l[·]?) = some c := by
  have : k < l.length := by
    rcases Nat.lt_or_ge k l.length with q | q
    · exact q
    · rw [List.getElem?_eq_none q] at h; cases h
  rw [seqIndex_nat k l.length this]
  exact h
theorem lt_of_at {α : Type} {l : List α} {k : Nat} {c : α} (h : l[k]? = some c) : k < l.length := by
  rcases Nat.lt_or_ge k l.length with q | q
  · exact q
  · rw [List.getElem?_eq_none q] at h; cases h
theorem iL_set (l : List Int) (k : Nat) (x : Int) : (iL l).set k (.int x) = iL (l.set k x) := by
  simp [iL, List.map_set]
theorem turn_in (G : LevG C) (hr : Room A 1) (hE : EnvOf (stScope (stAt iLev)) env) {a b : List Nat} {mc bi : Int} {bc c k : Nat} {d res mn o : Int} {rows : List Int}
    (hb : okc bc) (hc : okc c) (hk : a[k]? = some c) (ho : rows[k]? = some o) (hl : rows.length ≤ 100) :
    Turn C A env X (forTgt levFor2) (forBody levFor2) (.int k) (Pin a b mc bi bc d res mn) [("row", iL rows)]
      (.next (Pin a b mc bi bc o (min (min res o + 2) (d + subC bc c)) (if min (min res o + 2) (d + subC bc c) < mn then min (min res o + 2) (d + subC bc c) else mn))
        [("row", iL (rows.set k (min (min res o + 2) (d + subC bc c))))]) := by
  obtain ⟨t2, hm⟩ := G.move
  obtain ⟨t1, hcs⟩ := G.case_
  have kl := lt_of_at ho
  refine ⟨_, _, AsgT_name (hE.loc rfl), fun X' hX => ?_⟩
  refine Ex_cons (Ex1_assign (hE.loc rfl) (.of (Ev_bin (Ev_name rfl) (Ev_fun G.ok hr hE rfl (.cons (Ev_name rfl) (.cons (Ev_sub (Ev_name rfl) (Ev_name rfl) (op_itemS (bind_at hk) rfl (by omega))) .nil rfl) rfl)
    (sub_fun G.ok G.sub hcs hm hb hc)) op_add))) ?_
  refine Ex_cons (Ex1_assign (hE.loc rfl) (.thaw (x := "row") rfl (Ev_sub (Ev_name rfl) (Ev_name rfl) (op_itemL (c := .int o) (bind_at (by simp [iL, ho])) rfl (by omega))) (.int _))) ?_
  refine Ex_cons (Ex1_assign (hE.loc rfl) (.of (Ev_bin (Ev_call G.ok (hE.k rfl) G.bi.min (CallW.builtin _) (.cons (Ev_name rfl) (.cons (Ev_name rfl) .nil rfl) rfl) (opC_min2 hr.1)) (Ev_globInt G.ok (hE.k rfl) hm) op_add))) ?_
  refine Ex_cons (Ex1_assign (hE.loc rfl) (.of (Ev_call G.ok (hE.k rfl) G.bi.min (CallW.builtin _) (.cons (Ev_name rfl) (.cons (Ev_name rfl) .nil rfl) rfl) (opC_min2 hr.1)))) ?_
  refine Ex_cons (Ex1_setitem (k := (k : Int)) rfl (by decide) (.of (Ev_name rfl)) (Ev_name rfl) (by omega) (by simp [iL]; omega) (by omega)) ?_
  by_cases h : min (min res o + 2) (d + subC bc c) < mn
  · rw [if_pos h]
    refine Ex_cons (Ex1_if (b := true) (.of (Tst_eq (by simpa using h) (Tst_cmp (Ev_name rfl) (Ev_name rfl) op_lt))) (fun _ => Ex_cons (Ex1_assign (hE.loc rfl) (.of (Ev_name rfl))) Ex_nil) (fun h => by cases h)) ?_
    refine Ex_conseq Ex_nil ?_ ?_
    · exact PSub_cons rfl (PSub_cons rfl (PSub_cons rfl (PSub_cons rfl (PSub_cons rfl (PSub_cons rfl (PSub_cons rfl (PSub_cons rfl (PSub.nil _))))))))
    · rw [← iL_set]
      exact PSub_cons rfl (PSub.nil _)
  · rw [if_neg h]
    refine Ex_cons (Ex1_if (b := false) (.of (Tst_eq (by simpa using h) (Tst_cmp (Ev_name rfl) (Ev_name rfl) op_lt))) (fun h => by cases h) (fun _ => Ex_nil)) ?_
    refine Ex_conseq Ex_nil ?_ ?_
    · exact PSub_cons rfl (PSub_cons rfl (PSub_cons rfl (PSub_cons rfl (PSub_cons rfl (PSub_cons rfl (PSub_cons rfl (PSub_cons rfl (PSub.nil _))))))))
    · rw [← iL_set]
      exact PSub_cons rfl (PSub.nil _)
end
end Mine
namespace Mine
section
variable {C : Cst} {A : Around} {env : Env} {X : Zm}
theorem ItE_up {P : PEnv} {x : Str} {p pos : Pos} {args : List Expr} {as : List PV} {a b : Int} {n : Nat} (ok : C.Ok) (hA : A.handled = none) (hk : env.kindOf x = some .globalImplicit) (hg : GlobIs C x (.type "range")) (ha : Evs C A env P args as) (hr : RangeArgs as a b)
    (hn : (b - a).toNat = n) (h1 : -1000000 < a) (h2 : a < 1000000) (h3 : -1000000 < b) (h4 : b < 1000000) (hd : (x == ("__debug__" : Str)) = false := by decide) :
    ItE C A env P (.Call (.Name x p) args [] pos) false (upZ a n) := by
  have := ItE_range (p := p) (pos := pos) ok hA hk hg ha hr (by omega) (by omega) (by omega) (by omega) hd
  rw [iL_rangeI, hn] at this
  exact this
theorem lvIn_length (bc : Nat) : ∀ (as : List Nat) (old : List Int) (d res mn : Int), old.length = as.length → (lvIn bc as old d res mn).1.length = as.length
  | [], _, _, _, _, _ => rfl
  | c :: as, [], _, _, _, h => by cases h
  | c :: as, o :: old, d, res, mn, h => by
    simp only [lvIn, List.length_cons]
    rw [lvIn_length bc as old _ _ _ (by simpa using h)]
theorem lp_in (G : LevG C) (hr : Room A 1) (hE : EnvOf (stScope (stAt iLev)) env) {a b : List Nat} {mc bi : Int} {bc : Nat} (hb : okc bc) (ha : ∀ c ∈ a, okc c) (hla : a.length ≤ 100) :
    ∀ (as apre : List Nat) (k : Nat) (pre old : List Int) (d res mn : Int), a = apre ++ as → apre.length = k → pre.length = k → old.length = as.length →
      Lp (Turn C A env X (forTgt levFor2) (forBody levFor2)) (upZ k as.length) (Pin a b mc bi bc d res mn) [("row", iL (pre ++ old))]
        (.next (Pin a b mc bi bc (lvIn bc as old d res mn).2.1 (lvIn bc as old d res mn).2.2.1 (lvIn bc as old d res mn).2.2.2) [("row", iL (pre ++ (lvIn bc as old d res mn).1))])
  | [], apre, k, pre, [], d, res, mn, e, h1, h2, h3 => by simp only [lvIn, upZ, List.length_nil]; exact .nil
  | [], apre, k, pre, _ :: _, d, res, mn, e, h1, h2, h3 => by cases h3
  | c :: as, apre, k, pre, [], d, res, mn, e, h1, h2, h3 => by cases h3
  | c :: as, apre, k, pre, o :: old, d, res, mn, e, h1, h2, h3 => by
    have hk : a[k]? = some c := by rw [e, ← h1]; simp
    have ho : (pre ++ o :: old)[k]? = some o := by rw [← h2]; simp
    have hl : (pre ++ o :: old).length ≤ 100 := by
      have := congrArg List.length e
      simp only [List.length_append, List.length_cons] at this h3 ⊢
      omega
    refine .step (turn_in G hr hE hb (ha c (by rw [e]; simp)) hk ho hl) ?_
    have e2 : (pre ++ o :: old).set k (min (min res o + 2) (d + subC bc c)) = (pre ++ [min (min res o + 2) (d + subC bc c)]) ++ old := by
      rw [← h2, List.set_append_right _ _ (Nat.le_refl _)]; simp
    rw [e2]
    have := lp_in G hr hE (b := b) (mc := mc) (bi := bi) hb ha hla as (apre ++ [c]) (k + 1) (pre ++ [min (min res o + 2) (d + subC bc c)]) old o (min (min res o + 2) (d + subC bc c))
      (if min (min res o + 2) (d + subC bc c) < mn then min (min res o + 2) (d + subC bc c) else mn) (by rw [e]; simp) (by simp [h1]) (by simp [h2]) (by simpa using h3)
    simp only [lvIn, List.length_cons, upZ] at this ⊢
    have e3 : ∀ l : List Int, pre ++ min (min res o + 2) (d + subC bc c) :: l = pre ++ [min (min res o + 2) (d + subC bc c)] ++ l := fun l => by simp
    rw [e3 (lvIn _ _ _ _ _ _).1]
    exact this
abbrev Pout (a b : List Nat) (mc res : Int) : PEnv := [("a", .str a), ("b", .str b), ("max_cost", .int mc), ("result", .int res)]
theorem turn_out (G : LevG C) (hr : Room A 1) (hE : EnvOf (stScope (stAt iLev)) env) {a b : List Nat} {mc res : Int} {bc k : Nat} {row : List Int} (hb : okc bc) (ha : ∀ c ∈ a, okc c) (hla : a.length ≤ 100) (hrow : row.length = a.length)
    (hk : b[k]? = some bc) (hk' : k < 1000) :
    Turn C A env X (forTgt levFor) (forBody levFor) (.int k) (Pout a b mc res) [("row", iL row)]
      (if (lvIn bc a row (k * 2) (k * 2) 9223372036854775807).2.2.2 > mc then .ret (.int (mc + 1)) else
        .next (Pout a b mc (lvIn bc a row (k * 2) (k * 2) 9223372036854775807).2.2.1) [("row", iL (lvIn bc a row (k * 2) (k * 2) 9223372036854775807).1)]) := by
  obtain ⟨t2, hm⟩ := G.move
  refine ⟨_, _, AsgT_name (hE.loc rfl), fun X' hX => ?_⟩
  have fin : ∀ {o : Out}, Ex C A env X' (Pin a b mc k bc (k * 2) (k * 2) 9223372036854775807) [("row", iL row)] ((forBody levFor).drop 3) o → Ex C A env X' (upd (Pout a b mc res) "bindex" (.int k)) (del [("row", iL row)] "bindex") (forBody levFor) o := by
    intro o h
    refine Ex_cons (Ex1_assign (hE.loc rfl) (.of (Ev_sub (Ev_name rfl) (Ev_name rfl) (op_itemS (bind_at hk) rfl (by omega))))) ?_
    refine Ex_cons (Ex1_assign2 (hE.loc rfl) (hE.loc rfl) (.of (Ev_bin (Ev_name rfl) (Ev_globInt G.ok (hE.k rfl) hm) (op_mul (mulOk_left (by omega) (by omega)))))) ?_
    refine Ex_cons (Ex1_assign (hE.loc rfl) (.of Ev_int)) ?_
    refine Ex_weak h ?_ ?_
    · exact PSub_cons rfl (PSub_cons rfl (PSub_cons rfl (PSub_cons rfl (PSub_cons rfl (PSub_cons rfl (PSub_cons rfl (PSub_cons rfl (PSub.nil _))))))))
    · exact PSub_cons rfl (PSub.nil _)
  refine fin ?_
  refine Ex_cons (P' := Pin a b mc k bc (lvIn bc a row (k * 2) (k * 2) 9223372036854775807).2.1 (lvIn bc a row (k * 2) (k * 2) 9223372036854775807).2.2.1 (lvIn bc a row (k * 2) (k * 2) 9223372036854775807).2.2.2)
    (W' := [("row", iL (lvIn bc a row (k * 2) (k * 2) 9223372036854775807).1)]) (Ex1_for (C := C) (mb := C.md) (gen := false) (fun h => h) (fun h => by cases h) (.of (ItE_up (a := 0) (n := a.length) G.ok hr.1 (hE.k rfl) G.bi.range (.cons (Ev_call G.ok (hE.k rfl) G.bi.len (CallW.builtin _) (.cons (Ev_name rfl) .nil rfl) (opC_len_str (by omega))) .nil rfl) (.inl ⟨rfl, rfl⟩) (by omega) (by omega) (by omega) (by omega) (by omega))) ?_) ?_
  · have := lp_in (X := X') G hr hE (b := b) (mc := mc) (bi := k) hb ha hla a [] 0 [] row (k * 2) (k * 2) 9223372036854775807 rfl rfl rfl hrow
    exact this
  by_cases h : (lvIn bc a row (k * 2) (k * 2) 9223372036854775807).2.2.2 > mc
  · rw [if_pos h]
    exact Ex_ret (Ex1_if (b := true) (.of (Tst_eq (by simpa using h) (Tst_cmp (Ev_name rfl) (Ev_name rfl) op_gt))) (fun _ => Ex_ret (Ex1_return (.of (Ev_bin (Ev_name rfl) Ev_int op_add)))) (fun h => by cases h))
  · rw [if_neg h]
    refine Ex_cons (Ex1_if (b := false) (.of (Tst_eq (by simpa using h) (Tst_cmp (Ev_name rfl) (Ev_name rfl) op_gt))) (fun h => by cases h) (fun _ => Ex_nil)) ?_
    exact Ex_conseq Ex_nil (PSub_cons rfl (PSub_cons rfl (PSub_cons rfl (PSub_cons rfl (PSub.nil _))))) (PSub_cons rfl (PSub.nil _))
end
end Mine
namespace Mine
section
variable {C : Cst} {A : Around} {env : Env} {X : Zm}
theorem lp_out (G : LevG C) (hr : Room A 1) (hE : EnvOf (stScope (stAt iLev)) env) {a b : List Nat} {mc : Int} (ha : ∀ c ∈ a, okc c) (hb : ∀ c ∈ b, okc c) (hla : a.length ≤ 100) (hlb : b.length ≤ 100) :
    ∀ (bs bpre : List Nat) (k : Nat) (row : List Int) (res : Int), b = bpre ++ bs → bpre.length = k → row.length = a.length →
      ∃ o, Lp (Turn C A env X (forTgt levFor) (forBody levFor)) (upZ k bs.length) (Pout a b mc res) [("row", iL row)] o ∧
        (o = .ret (.int (lvOut mc a bs k row res)) ∨ ∃ P' W', o = .next P' W' ∧ P'.lookup ("result" : Str) = some (PV.int (lvOut mc a bs k row res)))
  | [], bpre, k, row, res, e, h1, h2 => ⟨_, .nil, .inr ⟨_, _, rfl, rfl⟩⟩
  | bc :: bs, bpre, k, row, res, e, h1, h2 => by
    have hk : b[k]? = some bc := by rw [e, ← h1]; simp
    have hk' := lt_of_at hk
    have t := turn_out (X := X) G hr hE (mc := mc) (res := res) (row := row) (hb bc (by rw [e]; simp)) ha hla h2 hk (by omega)
    simp only [List.length_cons, upZ, lvOut]
    by_cases h : (lvIn bc a row (k * 2) (k * 2) 9223372036854775807).2.2.2 > mc
    · rw [if_pos h] at t
      rw [if_pos h]
      exact ⟨_, .ret t, .inl rfl⟩
    · rw [if_neg h] at t
      rw [if_neg h]
      obtain ⟨o, hl, ho⟩ := lp_out G hr hE ha hb hla hlb bs (bpre ++ [bc]) (k + 1) (lvIn bc a row (k * 2) (k * 2) 9223372036854775807).1 (lvIn bc a row (k * 2) (k * 2) 9223372036854775807).2.2.1 (by rw [e]; simp) (by simp [h1])
        (lvIn_length bc a row _ _ _ h2)
      exact ⟨o, .step t hl, ho⟩
abbrev P3 (a b : List Nat) (mc : Int) : PEnv := [("a", .str a), ("b", .str b), ("max_cost", .int mc)]
theorem lev_run (G : LevG C) (hr : Room A 1) (hE : EnvOf (stScope (stAt iLev)) env) {a b : List Nat} {mc : Int} (ha : ∀ c ∈ a, okc c) (hb : ∀ c ∈ b, okc c) (hla : a.length ≤ 40) (hlb : b.length ≤ 40) :
    Ex C A env X (P3 a b mc) [] (levB.drop 12) (.ret (.int (lvRun a b mc))) := by
  obtain ⟨t2, hm⟩ := G.move
  have hlen : ∀ {P : PEnv} {x : Str} {p1 p2 pos : Pos} {l : List Nat}, P.lookup x = some (.str l) → l.length ≤ 40 → Ev C A env P (.Call (.Name "len" p1) [.Name x p2] [] pos) (.int l.length) := fun h hl =>
    Ev_call G.ok (hE.k rfl) G.bi.len (CallW.builtin _) (.cons (Ev_name h) .nil rfl) (opC_len_str (by omega))
  unfold lvRun
  by_cases h : ((b.length : Int) - a.length) * 2 > mc
  · rw [if_pos h]
    exact Ex_ret (Ex1_if (b := true) (.of (Tst_eq (by simpa using h) (Tst_cmp (Ev_bin (Ev_bin (hlen rfl hlb) (hlen rfl hla) op_sub) (Ev_globInt G.ok (hE.k rfl) hm) (op_mul (mulOk_left (by omega) (by omega)))) (Ev_name rfl) op_gt)))
      (fun _ => Ex_ret (Ex1_return (.of (Ev_bin (Ev_name rfl) Ev_int op_add)))) (fun h => by cases h))
  · rw [if_neg h]
    refine Ex_cons (Ex1_if (b := false) (.of (Tst_eq (by simpa using h) (Tst_cmp (Ev_bin (Ev_bin (hlen rfl hlb) (hlen rfl hla) op_sub) (Ev_globInt G.ok (hE.k rfl) hm) (op_mul (mulOk_left (by omega) (by omega)))) (Ev_name rfl) op_gt))) (fun h => by cases h) (fun _ => Ex_nil)) ?_
    refine Ex_cons (Ex1_assignN (hE.loc rfl) (.of (EvN_listRange2 (m := a.length) G.ok hr.1 (hE.k rfl) G.bi.range (hE.k rfl) G.bi.list
      (.cons (Ev_globInt G.ok (hE.k rfl) hm) (.cons (Ev_bin (Ev_globInt G.ok (hE.k rfl) hm) (Ev_bin (hlen rfl hla) Ev_int op_add) (op_mul (mulOk_left (by omega) (by omega)))) (.cons (Ev_globInt G.ok (hE.k rfl) hm) .nil rfl) rfl) rfl) (by omega)))) ?_
    refine Ex_cons (Ex1_assign (hE.loc rfl) (.of Ev_int)) ?_
    refine Ex_weak (P' := Pout a b mc 0) (W' := [("row", iL ((List.range a.length).map fun (i : Nat) => (2 : Int) + i * 2))]) ?_ (PSub_cons rfl (PSub_cons rfl (PSub_cons rfl (PSub_cons rfl (PSub.nil _))))) (PSub_cons rfl (PSub.nil _))
    obtain ⟨o, hl, ho⟩ := lp_out (X := X) (A := A) G hr hE (mc := mc) ha hb (by omega) (by omega) b [] 0 ((List.range a.length).map fun (i : Nat) => (2 : Int) + i * 2) 0 rfl rfl (by simp)
    have hi : Ex1 C A env X (Pout a b mc 0) [("row", iL ((List.range a.length).map fun (i : Nat) => (2 : Int) + i * 2))] levFor o :=
      Ex1_for (C := C) (mb := C.md) (gen := false) (items := upZ 0 b.length) (fun h => h) (fun h => by cases h)
        (.of (ItE_up (a := 0) (n := b.length) G.ok hr.1 (hE.k rfl) G.bi.range (.cons (hlen rfl hlb) .nil rfl) (.inl ⟨rfl, rfl⟩) (by omega) (by omega) (by omega) (by omega) (by omega))) hl
    rcases ho with rfl | ⟨P', W', rfl, hl'⟩
    · exact Ex_ret hi
    · exact Ex_cons hi (Ex_ret (Ex1_return (.of (Ev_name hl'))))
end
end Mine
namespace Mine
section
variable {C : Cst} {A : Around} {env : Env} {X : Zm}
theorem Tst_nonempty {P : PEnv} {e : Expr} {l : List Nat} {b : Bool} (he : Ev C A env P e (.str l)) (hl : l.length < 2 ^ 62) (hb : (!l.isEmpty) = b) 
    (hd : isTrue e env (eval e env) = (do let v ← eval e env; standAt e.pos; holding [v] (truthy v)) := by rfl) : Tst C A env P e b := hb ▸ Tst_val he (Tru_str hl) hd
theorem lev_tail (G : LevG C) (hr : Room A 1) (hE : EnvOf (stScope (stAt iLev)) env) {a b : List Nat} {mc : Int} (ha : ∀ c ∈ a, okc c) (hb : ∀ c ∈ b, okc c) (hla : a.length ≤ 40) (hlb : b.length ≤ 40) :
    Ex C A env X (P3 a b mc) [] (levB.drop 9) (.ret (.int (lvTail a b mc))) := by
  obtain ⟨t2, hm⟩ := G.move
  obtain ⟨t3, hg⟩ := G.big
  have hlen : ∀ {P : PEnv} {x : Str} {p1 p2 pos : Pos} {l : List Nat}, P.lookup x = some (.str l) → l.length ≤ 40 → Ev C A env P (.Call (.Name "len" p1) [.Name x p2] [] pos) (.int l.length) := fun h hl =>
    Ev_call G.ok (hE.k rfl) G.bi.len (CallW.builtin _) (.cons (Ev_name h) .nil rfl) (opC_len_str (by omega))
  unfold lvTail
  by_cases h : a = [] ∨ b = []
  · rw [if_pos h]
    refine Ex_ret (Ex1_if (b := true) (.of (Tst_bool ?_)) (fun _ => Ex_ret (Ex1_return (.of (Ev_bin (Ev_globInt G.ok (hE.k rfl) hm) (Ev_bin (hlen rfl hla) (hlen rfl hlb) op_add) (op_mul (mulOk_left (by omega) (by omega))))))) (fun h => by cases h))
    by_cases h1 : a = []
    · exact All_or_true (Tst_eq (b := !false) rfl (Tst_not (Tst_nonempty (Ev_name rfl) (by omega) (by simp [h1]))))
    · have h2 : b = [] := by rcases h with h | h; exact (h1 h).elim; exact h
      refine All_or_false (Tst_eq (b := !true) rfl (Tst_not (Tst_nonempty (Ev_name rfl) (by omega) (by simp [h1])))) ?_
      exact All_or_true (Tst_eq (b := !false) rfl (Tst_not (Tst_nonempty (Ev_name rfl) (by omega) (by simp [h2]))))
  · rw [if_neg h]
    have h1 : a ≠ [] := fun q => h (.inl q)
    have h2 : b ≠ [] := fun q => h (.inr q)
    refine Ex_cons (Ex1_if (b := false) (.of (Tst_bool (All_or_false (Tst_eq (b := !true) rfl (Tst_not (Tst_nonempty (Ev_name rfl) (by omega) (by simp [h1])))) (All_or_false (Tst_eq (b := !true) rfl (Tst_not (Tst_nonempty (Ev_name rfl) (by omega) (by simp [h2])))) All_nil))))
      (fun h => by cases h) (fun _ => Ex_nil)) ?_
    refine Ex_cons (Ex1_if (b := false) (.of (Tst_bool (All_or_false (Tst_eq (by simp; omega) (Tst_cmp (hlen rfl hla) (Ev_globInt G.ok (hE.k rfl) hg) op_gt)) (All_or_false (Tst_eq (by simp; omega) (Tst_cmp (hlen rfl hlb) (Ev_globInt G.ok (hE.k rfl) hg) op_gt)) All_nil))))
      (fun h => by cases h) (fun _ => Ex_nil)) ?_
    by_cases h3 : b.length < a.length
    · rw [if_pos h3]
      refine Ex_cons (Ex1_if (b := true) (.of (Tst_eq (by simpa using h3) (Tst_cmp (hlen rfl hlb) (hlen rfl hla) op_lt))) (fun _ => Ex_cons (Ex1_swap (x := "a") (y := "b") hr.1 (hE.loc rfl) (hE.loc rfl) (.of (Ev_tuple (.cons (Ev_name rfl) (.cons (Ev_name rfl) .nil rfl) rfl) (by simp)))
        ?_) Ex_nil) (fun h => by cases h)) ?_
      · unfold swappedStores
        simp only [hE.bk, hE.k (x := "a") (k := .local) rfl, hE.k (x := "b") (k := .local) rfl, List.filterMap]
        rfl
      · exact Ex_weak (lev_run G hr hE hb ha hlb hla) (PSub_cons rfl (PSub_cons rfl (PSub_cons rfl (PSub.nil _)))) (PSub.nil _)
    · rw [if_neg h3]
      refine Ex_cons (Ex1_if (b := false) (.of (Tst_eq (by simpa using h3) (Tst_cmp (hlen rfl hlb) (hlen rfl hla) op_lt))) (fun h => by cases h) (fun _ => Ex_nil)) ?_
      exact lev_run G hr hE ha hb hla hlb
end
end Mine
namespace Mine
theorem alike3 (a b : List Nat) (k : Nat) : (a.drop k = [] ∧ alikeAt a b k = false) ∨ (a.drop k ≠ [] ∧ b.drop k = [] ∧ alikeAt a b k = false) ∨
    ∃ x y, a[k]? = some x ∧ b[k]? = some y ∧ a.drop k ≠ [] ∧ b.drop k ≠ [] ∧ alikeAt a b k = decide (x = y) := by
  unfold alikeAt
  cases ha : a.drop k with
  | nil => exact .inl ⟨rfl, rfl⟩
  | cons x r =>
    cases hq : b.drop k with
    | nil => exact .inr (.inl ⟨by simp, rfl, rfl⟩)
    | cons y q =>
      refine .inr (.inr ⟨x, y, ?_, ?_, by simp, by simp, rfl⟩)
      · have := congrArg (·[0]?) ha; simpa using this
      · have := congrArg (·[0]?) hq; simpa using this
theorem at_back {l : List Nat} {j : Nat} {c : Nat} (h : l.reverse[j]? = some c) : (seqIndex? (-(j : Int) - 1) l.length).bind (l[·]?) = some c ∧ j < l.length := by
  have hj : j < l.length := by have := lt_of_at h; simpa using this
  rw [seqIndex_neg j _ hj]
  rw [List.getElem?_reverse hj] at h
  exact ⟨h, hj⟩
theorem back_nil (l : List Nat) (j : Nat) : l.reverse.drop j = [] ↔ cutBack l j = [] := by
  rw [cutBack_eq, List.drop_reverse, List.reverse_eq_nil_iff]
section
variable {C : Cst} {A : Around} {env : Env} {X : Zm}
abbrev Pp (a b : List Nat) (mc : Int) (j : Nat) : PEnv := [("a", .str a), ("b", .str b), ("max_cost", .int mc), ("post", .int (-(j : Int)))]
theorem All_one {P : PEnv} {e : Expr} {c : Bool} (h : Tst C A env P e c) : All C A env P .And [e] c := by
  cases c
  · exact All_and_false h
  · exact All_and_true h All_nil
theorem lev_post (G : LevG C) (hr : Room A 1) (hE : EnvOf (stScope (stAt iLev)) env) {a b : List Nat} {mc : Int} (ha : ∀ c ∈ a, okc c) (hb : ∀ c ∈ b, okc c) (hla : a.length ≤ 40) (hlb : b.length ≤ 40) :
    Ex C A env X (P3 a b mc) [] (levB.drop 5) (.ret (.int (lvPost a b mc))) := by
  refine Ex_cons (Ex1_assign (hE.loc rfl) (.of Ev_int)) ?_
  refine Ex_cons (P' := Pp a b mc (0 + cpl a.reverse b.reverse)) (W' := [])
    (Ex1_while (n := cpl a.reverse b.reverse) (wh_cpl (sh := fun j => Pp a b mc j) a.reverse b.reverse (fun j => ?_) (fun j hj => ?_) _ 0 (by simp))) ?_
  · refine .of (Tst_bool ?_)
    rcases alike3 a.reverse b.reverse j with ⟨h, e⟩ | ⟨h, h', e⟩ | ⟨x, y, hx, hy, h, h', e⟩
    · rw [e]
      have hc := (back_nil a j).mp h
      exact All_and_false (Tst_nonempty (Ev_cutBack rfl rfl (by omega)) (by rw [hc]; simp) (by rw [hc]; rfl))
    · rw [e]
      have hc : cutBack a j ≠ [] := fun q => h ((back_nil a j).mpr q)
      have hc' := (back_nil b j).mp h'
      refine All_and_true (Tst_nonempty (Ev_cutBack rfl rfl (by omega)) (by rw [cutBack_eq]; simp; omega) (by simp [hc])) ?_
      exact All_and_false (Tst_nonempty (Ev_cutBack rfl rfl (by omega)) (by rw [hc']; simp) (by rw [hc']; rfl))
    · rw [e]
      have hc : cutBack a j ≠ [] := fun q => h ((back_nil a j).mpr q)
      have hc' : cutBack b j ≠ [] := fun q => h' ((back_nil b j).mpr q)
      obtain ⟨ix, jx⟩ := at_back hx
      obtain ⟨iy, jy⟩ := at_back hy
      refine All_and_true (Tst_nonempty (Ev_cutBack rfl rfl (by omega)) (by rw [cutBack_eq]; simp; omega) (by simp [hc])) ?_
      refine All_and_true (Tst_nonempty (Ev_cutBack rfl rfl (by omega)) (by rw [cutBack_eq]; simp; omega) (by simp [hc'])) ?_
      exact All_one (Tst_eq (by simp) (Tst_cmp (Ev_sub (Ev_name rfl) (Ev_bin (Ev_name rfl) Ev_int op_sub) (op_itemS ix rfl (by omega))) (Ev_sub (Ev_name rfl) (Ev_bin (Ev_name rfl) Ev_int op_sub) (op_itemS iy rfl (by omega))) op_eqS))
  · refine Ex_cons (Ex1_aug (hE.loc rfl) rfl Ev_int op_isub) (Ex_conseq Ex_nil ?_ (PSub.nil _))
    exact PSub_cons rfl (PSub_cons rfl (PSub_cons rfl (PSub_cons (congrArg some (congrArg PV.int (by omega))) (PSub.nil _))))
  · refine Ex_cons (Ex1_assign (hE.loc rfl) (.of (Ev_cutBack rfl rfl (by omega)))) ?_
    refine Ex_cons (Ex1_assign (hE.loc rfl) (.of (Ev_cutBack rfl rfl (by omega)))) ?_
    have := lev_tail (X := X) (A := A) (env := env) G hr hE (mc := mc) (a := a.take (a.length - cpl a.reverse b.reverse)) (b := b.take (b.length - cpl a.reverse b.reverse)) (fun c h => ha c (List.mem_of_mem_take h)) (fun c h => hb c (List.mem_of_mem_take h))
      (by simp; omega) (by simp; omega)
    unfold lvPost
    refine Ex_weak this ?_ (PSub.nil _)
    refine PSub_cons ?_ (PSub_cons ?_ (PSub_cons rfl (PSub.nil _)))
    · rw [← cutBack_eq]; simp only [Nat.zero_add]; rfl
    · rw [← cutBack_eq]; simp only [Nat.zero_add]; rfl
abbrev Pq (a b : List Nat) (mc : Int) (j : Nat) : PEnv := [("a", .str a), ("b", .str b), ("max_cost", .int mc), ("pre", .int (j : Int))]
theorem lev_fun (G : LevG C) {a b : List Nat} {mc : Int} (ha : ∀ c ∈ a, okc c) (hb : ∀ c ∈ b, okc c) (hla : a.length ≤ 40) (hlb : b.length ≤ 40) :
    Fun C "_levenshtein_distance" 2 [.str a, .str b, .int mc] (.int (levD a b mc)) := by
  refine fun_of (names := ["a", "b", "max_cost"]) (o := .ret (.int (levD a b mc))) G.ok G.lev ?_ rfl (by decide) ?_ ?_ ?_ (.inl ⟨_, rfl⟩)
  · intro name qual pm code doc vs hv
    match vs, hv with
    | [u, v, w], _ => rfl
  · intro x hx
    simp only [List.mem_cons, List.not_mem_nil, or_false] at hx
    rcases hx with rfl | rfl | rfl <;> exact .inl rfl
  · intro x hx
    simp only [List.mem_cons, List.not_mem_nil, or_false] at hx
    rcases hx with rfl | rfl | rfl <;> decide
  · intro A env hr hE
    unfold levD
    by_cases hab : a = b
    · rw [if_pos hab]
      exact Ex_ret (Ex1_if (b := true) (.of (Tst_eq (by simp [hab]) (Tst_cmp (Ev_name rfl) (Ev_name rfl) op_eqS))) (fun _ => Ex_ret (Ex1_return (.of Ev_int))) (fun h => by cases h))
    · rw [if_neg hab]
      refine Ex_cons (Ex1_if (b := false) (.of (Tst_eq (by simp [hab]) (Tst_cmp (Ev_name rfl) (Ev_name rfl) op_eqS))) (fun h => by cases h) (fun _ => Ex_nil)) ?_
      refine Ex_cons (Ex1_assign (hE.loc rfl) (.of Ev_int)) ?_
      refine Ex_cons (P' := Pq a b mc (0 + cpl a b)) (W' := []) (Ex1_while (n := cpl a b) (wh_cpl (sh := Pq a b mc) a b (fun j => ?_) (fun j hj => ?_) _ 0 (by simp))) ?_
      · refine .of (Tst_bool ?_)
        rcases alike3 a b j with ⟨h, e⟩ | ⟨h, h', e⟩ | ⟨x, y, hx, hy, h, h', e⟩
        · rw [e]
          exact All_and_false (Tst_nonempty (Ev_dropS rfl rfl (by omega)) (by rw [h]; simp) (by rw [h]; rfl))
        · rw [e]
          refine All_and_true (Tst_nonempty (Ev_dropS rfl rfl (by omega)) (by simp; omega) (by simpa using h)) ?_
          exact All_and_false (Tst_nonempty (Ev_dropS rfl rfl (by omega)) (by rw [h']; simp) (by rw [h']; rfl))
        · rw [e]
          refine All_and_true (Tst_nonempty (Ev_dropS rfl rfl (by omega)) (by simp; omega) (by simpa using h)) ?_
          refine All_and_true (Tst_nonempty (Ev_dropS rfl rfl (by omega)) (by simp; omega) (by simpa using h')) ?_
          exact All_one (Tst_eq (by simp) (Tst_cmp (Ev_sub (Ev_name rfl) (Ev_name rfl) (op_itemS (bind_at hx) rfl (by have := lt_of_at hx; omega)))
              (Ev_sub (Ev_name rfl) (Ev_name rfl) (op_itemS (bind_at hy) rfl (by have := lt_of_at hy; omega))) op_eqS))
      · refine Ex_cons (Ex1_aug (hE.loc rfl) rfl Ev_int op_iadd) (Ex_conseq Ex_nil ?_ (PSub.nil _))
        exact PSub_cons rfl (PSub_cons rfl (PSub_cons rfl (PSub_cons rfl (PSub.nil _))))
      · refine Ex_cons (Ex1_assign (hE.loc rfl) (.of (Ev_dropS rfl rfl (by omega)))) ?_
        refine Ex_cons (Ex1_assign (hE.loc rfl) (.of (Ev_dropS rfl rfl (by omega)))) ?_
        have := lev_post (X := NoX) (A := A) (env := env) G hr hE (mc := mc) (a := a.drop (0 + cpl a b)) (b := b.drop (0 + cpl a b)) (fun c h => ha c (List.mem_of_mem_drop h)) (fun c h => hb c (List.mem_of_mem_drop h))
          (by simp; omega) (by simp; omega)
        simp only [Nat.zero_add] at this ⊢
        exact Ex_weak this (PSub_cons rfl (PSub_cons rfl (PSub_cons rfl (PSub.nil _)))) (PSub.nil _)
end
end Mine
namespace Mine
section
variable {prog : Program} {w : World} {A : Around} {E : Value → Shared → Prop} {s : Shared}
theorem mine_pyNext_genQ {a : Addr} {g n : Nat} {gs : GenState} {P : Nat → Shared → Shared → Prop} {Y : Protocol} {Q : Option Value → Shared → Prop} (hh : A.handled = none)
    (hl : s.heap.NoLimit) (hroom : A.depth < recursionLimit)
    (hg : s.heap.IsGen a g) (hgs : s.gens[g]? = some gs)
    (hgo : gs.Goes (model prog w) A.in1 (fun n s₀ r s₁ => r = .ok (.ret .none) ∧ P n s₀ s₁) Y n (.send .none) (s.setGen g .running))
    (hY : ∀ v s₁ gs', gs'.bare = true → Y (n - 1) (s.setGen g .running) v s₁ (fun r' s'' => match n with
        | 0 => False
        | m + 1 => gs'.Goes (model prog w) A.in1 (fun n s₀ r s₁ => r = .ok (.ret .none) ∧ P n s₀ s₁) Y m r' s'') → Q (some v) (s₁.setGen g gs'))
    (hP : ∀ s₁, P n (s.setGen g .running) s₁ → ∀ h', (∀ b o, s₁.heap.get? b = some o → h'.get? b = some o) → Q none { s₁.setGen g .finished with heap := h' }) :
    wpAny (model prog w) A (pyNext (.ref a)) Q E s := by
  unfold pyNext
  refine wpAny_bind (wpAny_attempt (wpAny_callSpecial?_slot (name := Str.ofString "__next__") hg.typeIs slot_gen_next
    (wpAny_call_entry slot_gen_next hg.typeIs entry_gen_next ?_ (args_gen_next _))))
  show wpAny _ A.in1 (Builtin.Generator.genWake (.ref a) (.send .none)) _ _ s
  unfold Builtin.Generator.genWake
  refine wpAny_bind (wpAny_holding (wpAny_genNumber hg (wpAny_bind (wpAny_genState hgs ?_))))
  cases gs with
  | running => exact hgo.elim
  | finished => exact hgo.elim
  | _ =>
    refine wpAny_bind (wpAny_roomToWake hl hroom ?_)
    show wpAny _ A.in1 (.resume g (.send .none) [] _) _ _ s
    refine wpAny_resumeQ hgs hgo (fun x s₁ hx => ?_) (fun v s₁ gs' hb hv => ?_)
    · obtain ⟨rfl, hp⟩ := hx
      show wpAny _ _ (newExc (.type "StopIteration") [] >>= _) _ _ _
      refine wpAny_bind ?_
      simp only [newExc, newTuple]
      refine wpAny_bind (wpAny_newObj_type ?_ (by size_fits))
      refine wpAny_bind (m := firstArgMember _ _) (wpAny_of_eq (a := Value.none) (by first | rfl | (simp only [firstArgMember]; rfl)) ?_)
      refine wpAny_newObj_type ?_ (by size_fits)
      simp only [raiseNew]
      refine wpAny_bind (wpAny_bind (wpAny_handled ?_))
      rw [show A.in1.handled = none from hh]
      refine wpAny_throw ?_
      refine wpAny_bind (wpAny_isInstance (T := "StopIteration") (b := true) ⟨_, Heap.get?_push_size _ rfl, rfl⟩ isSubtype_stop ?_)
      exact wpAny_pure (hP s₁ hp _ fun b o hb => Heap.get?_push_of_some _ (Heap.get?_push_of_some _ hb))
    · exact wpAny_pure ⟨v, rfl, wpAny_pure (hY v s₁ gs' hb hv)⟩
end
end Mine
namespace Mine
theorem over_handled {A : Around} {c : Code} (h : A.handled = none) : (A.over c []).handled = none := h
theorem over_handled1 {A : Around} {c c' : Code} {k g l p} (h : A.handled = none) : (A.over c [.ret k none g l c' p []]).handled = none := h
structure GK (C : Cst) (env : Env) (sc : Scope) : Prop where
  eo : EnvOf sc env
  fn : env.scope.kind = .function
  gl : env.globals = mainGlobals
  bu : env.builtins = builtinsNs
  cells : env.cells = []
  hbL : C.hb.get? env.locals = none
  nco : env.scope.isCoroutine = false
structure GI (C : Cst) (env : Env) (P : PEnv) (h : Heap) : Prop where
  hb : ∀ a o, C.hb.get? a = some o → h.get? a = some o
  ns : ∃ m, h.Ns env.locals m
  var : ∀ x pv, P.lookup x = some pv → Mine.Flat pv ∧ ∃ v, LookV env h x v ∧ Rep NoX pv v
def hbZ (C : Cst) : Zm := fun a => C.hb.get? a
abbrev gF (env : Env) (A : Around) (s : Shared) : Fc := ⟨env, A, { s with heap := {} }, NoX, noRo⟩
theorem empty_get (a : Addr) : ({} : Heap).get? a = none := by
  have := get_size_none ({} : Heap)
  cases q : ({} : Heap).get? a with
  | none => rfl
  | some o => have := Heap.lt_size q; exact absurd this (Nat.not_lt_zero _)
section
variable {C : Cst} {A : Around} {env : Env} {sc : Scope} {P : PEnv}
theorem GI.fs {X : Zm} {s : Shared} (G : GK C env sc) (gi : GI C env P s.heap) (hX : X env.locals = none) (hXin : ∀ a o, X a = some o → s.heap.get? a = some o) :
    FS (C.mode true) (gF env A s) s.gens X (hbZ C) s P [] where
  ep := ⟨G.fn, G.gl, G.bu, fun a o e => e, fun a o e => gi.hb a o e, fun x pv hx => by
    obtain ⟨hf, v, l, r⟩ := gi.var x pv hx
    exact ⟨v, l, hf.rep r⟩, fun x c hc => by rw [G.cells] at hc; cases hc⟩
  z0 := fun a o e => by cases e
  znew := fun a o e => .inr (empty_get a)
  keep := fun b o e => by rw [empty_get] at e; cases e
  os := rfl
  drawn := rfl
  gens := fun _ => rfl
  bare := fun h => h
  loc := gi.ns
  locN := empty_get _
  locZ := G.hbL
  locX := hX
  cell := fun x c hc => by rw [show (gF env A s).env.cells = env.cells from rfl, G.cells] at hc; cases hc
  cellD := fun x y c _ hc _ => by rw [show (gF env A s).env.cells = env.cells from rfl, G.cells] at hc; cases hc
  own := fun x xs hx => by cases hx
  ownD := fun x y a hx => by cases hx
  xin := hXin
theorem GI.of {X z : Zm} {s s' : Shared} (f : FS (C.mode true) (gF env A s) s.gens X z s' P []) (hf : ∀ x pv, P.lookup x = some pv → Mine.Flat pv) : GI C env P s'.heap where
  hb := f.ep.hbk
  ns := f.loc
  var := fun x pv hx => by
    obtain ⟨v, l, r⟩ := f.ep.var x pv hx
    exact ⟨hf x pv hx, v, l, (hf x pv hx).rep r⟩
theorem GI.keeps {h h' : Heap} (G : GK C env sc) (gi : GI C env P h) (hL : ∀ o, h.get? env.locals = some o → h'.get? env.locals = some o) (hb : ∀ a o, C.hb.get? a = some o → h'.get? a = some o) : GI C env P h' where
  hb := hb
  ns := by
    obtain ⟨m, o, es, p, ho, r⟩ := gi.ns
    exact ⟨m, o, es, p, hL o ho, r⟩
  var := fun x pv hx => by
    obtain ⟨hf, v, l, r⟩ := gi.var x pv hx
    exact ⟨hf, v, l.keeps' hL (fun c o hc => by rw [G.cells] at hc; cases hc), r⟩
end
structure SW (Wr : Addr → Prop) (s s' : Shared) : Prop where
  same : ∃ h' tk, s' = { s with heap := h', toks := tk }
  old : ∀ b o, ¬ Wr b → s.heap.get? b = some o → s'.heap.get? b = some o
theorem SW.refl (Wr : Addr → Prop) (s : Shared) : SW Wr s s := ⟨⟨_, _, rfl⟩, fun _ _ _ e => e⟩
theorem SW.trans {Wr : Addr → Prop} {s s' s'' : Shared} (a : SW Wr s s') (b : SW Wr s' s'') : SW Wr s s'' where
  same := by
    obtain ⟨h, t, rfl⟩ := a.same
    obtain ⟨h', t', rfl⟩ := b.same
    exact ⟨_, _, rfl⟩
  old := fun c o hc e => b.old c o hc (a.old c o hc e)
theorem SW.gens {Wr : Addr → Prop} {s s' : Shared} (a : SW Wr s s') : s'.gens = s.gens := by obtain ⟨h, t, rfl⟩ := a.same; rfl
def escY : List Nat → Nat → Int → Bool → List (Int × List Nat)
  | [], _, p, true => [(p, [92])]
  | [], _, _, false => []
  | c :: r, i, _, true => ((i : Int), [92, c]) :: escY r (i + 1) i false
  | c :: r, i, _, false => if c = 92 then escY r (i + 1) i true else ((i : Int), [c]) :: escY r (i + 1) i false
def escV (x : Int × List Nat) : PV := .tuple [.int x.1, .str x.2]
end Mine
namespace Mine
theorem SW.mono {Wr Wr' : Addr → Prop} {s s' : Shared} (h : ∀ a, Wr a → Wr' a) (x : SW Wr s s') : SW Wr' s s' := ⟨x.same, fun b o hb e => x.old b o (fun q => hb (h b q)) e⟩
theorem SW.ofKp {Wr : Addr → Prop} {s s' : Shared} (k : Kp true s s') : SW Wr s s' := by
  refine ⟨?_, fun b o _ e => k.old b o e⟩
  have := k.gens rfl
  obtain ⟨h, t, g, rfl, _⟩ := k
  simp only at this
  subst this
  exact ⟨_, _, rfl⟩
section
variable {C : Cst} {A : Around} {env : Env} {sc : Scope} {P : PEnv}
abbrev snapL (env : Env) (s : Shared) : Zm := fun a => if a = env.locals then none else s.heap.get? a
theorem GI.fsL {s : Shared} (G : GK C env sc) (gi : GI C env P s.heap) : FS (C.mode true) (gF env A s) s.gens (snapL env s) (hbZ C) s P [] :=
  gi.fs G (by simp [snapL]) fun a o e => by
    unfold snapL at e
    by_cases h : a = env.locals
    · rw [if_pos h] at e; cases e
    · rw [if_neg h] at e; exact e
theorem FS.swL {s s' : Shared} {z : Zm} {P' : PEnv} {W' : OEnv} (f : FS (C.mode true) (gF env A s) s.gens (snapL env s) z s' P' W') : SW (· = env.locals) s s' where
  same := by
    have h1 := f.os
    have h2 := f.drawn
    have h3 := f.gens rfl
    obtain ⟨a1, a2, a3, a4, a5⟩ := s'
    simp only at h1 h2 h3
    subst h1 h2 h3
    exact ⟨_, _, rfl⟩
  old := fun b o hb e => f.xin b o (by simp [snapL, hb, e])
theorem gi_stmt {s : Shared} {st : Stmt} {P' : PEnv} (G : GK C env sc) (gi : GI C env P s.heap) (h : ∀ X, Ex1 (C.mode true) A env X P [] st (.next P' [])) (hf : ∀ x pv, P'.lookup x = some pv → Mine.Flat pv) :
    wpAny C.M A (exec st env) (fun fl s' => fl = .next ∧ GI C env P' s'.heap ∧ SW (· = env.locals) s s') noE s := by
  refine wpAny_mono (h (snapL env s) _ _ _ _ s (gi.fsL (A := A) G)) (fun fl s' hh => ?_) fun _ _ x => x
  obtain ⟨rfl, z', _, f⟩ := hh
  exact ⟨rfl, .of (A := A) f hf, f.swL⟩
theorem gi_ep (A : Around) {s : Shared} (G : GK C env sc) (gi : GI C env P s.heap) : EP C.hb env (hbZ C) s P := (gi.fsL (A := A) G).ep
theorem GI.kp {s s' : Shared} (G : GK C env sc) (gi : GI C env P s.heap) (k : Kp true s s') : GI C env P s'.heap :=
  gi.keeps G (fun o e => k.old _ o e) fun a o e => k.old a o (gi.hb a o e)
theorem gi_test {s : Shared} {e : Expr} {b : Bool} (G : GK C env sc) (gi : GI C env P s.heap) (h : Tst (C.mode true) A env P e b) :
    wpAny C.M A (isTrue e env (eval e env)) (fun r s' => r = b ∧ GI C env P s'.heap ∧ SW (· = env.locals) s s') noE s := by
  refine wpAny_mono (h s (hbZ C) (gi_ep (C := C) A G gi)) (fun r s' hh => ?_) fun _ _ x => x
  obtain ⟨rfl, k⟩ := hh
  exact ⟨rfl, gi.kp G k, .ofKp k⟩
abbrev W3 (L e it : Addr) : Addr → Prop := fun a => a = L ∨ a = e ∨ a = it
def YV (C : Cst) (Wr : Addr → Prop) (s₀ s₁ : Shared) (x : Int × List Nat) (v : Value) : Prop :=
  ∃ a vs k, v = .ref a ∧ s₁.heap.get? a = some (tupO vs k) ∧ RepL NoX [.int x.1, .str x.2] vs ∧ (C.hb.get? a = some (tupO vs k) ∨ s₀.heap.get? a = none) ∧ ¬ Wr a
def gY (C : Cst) (Wr : Addr → Prop) (all : List (Int × List Nat)) : Protocol := fun n s₀ v s₁ kap =>
  ∃ x, all[all.length - 1 - n]? = some x ∧ n < all.length ∧ YV C Wr s₀ s₁ x v ∧ SW Wr s₀ s₁ ∧ (∀ a, Wr a → (s₁.heap.get? a).isSome = true) ∧
    ∀ s'', (∀ b o, Wr b → s₁.heap.get? b = some o → s''.heap.get? b = some o) → (∀ a o, C.hb.get? a = some o → s''.heap.get? a = some o) → kap (.send .none) s''
def gP (Wr : Addr → Prop) : Nat → Shared → Shared → Prop := fun n s₀ s₁ => n = 0 ∧ SW Wr s₀ s₁
def gR (Wr : Addr → Prop) : GenEnd := fun n s₀ r s₁ => r = .ok (.ret .none) ∧ gP Wr n s₀ s₁
theorem gi_yield {Wr : Addr → Prop} {all done rest : List (Int × List Nat)} {x : Int × List Nat} {s₀ s : Shared} {e : Expr} {ypos pos : Pos} {c : Code} {fs : List Frame} {K : Flow → Sem Fin} {H : Value → Sem Fin} {gd lv}
    (G : GK C env sc) (gi : GI C env P s.heap) (sw : SW Wr s₀ s) (hlive : ∀ a, Wr a → (s.heap.get? a).isSome = true) (hWb : ∀ a, Wr a → C.hb.get? a = none)
    (hall : all = done ++ x :: rest) (hfs : splitAtGen fs = none) (hgd : gd false = false) (hfg : fs.any Frame.guarded = false) (he : Ev (C.mode true) (A.over c fs) env P e (escV x))
    (hk : ∀ s₁ s'' : Shared, (∀ b o, s.heap.get? b = some o → s₁.heap.get? b = some o) → (∀ b o, Wr b → s₁.heap.get? b = some o → s''.heap.get? b = some o) → (∀ a o, C.hb.get? a = some o → s''.heap.get? a = some o) →
      Seg C.M A (gR Wr) (gY C Wr all) rest.length s'' c (K .next) fs s'')
    (hi : interactive env = false := by rfl) :
    Seg C.M A (gR Wr) (gY C Wr all) (rest.length + 1) s₀ c ((exec (.Expr (.Yield (some e) ypos) pos) env).wrap K H gd lv) fs s := by
  refine seg_Expr_Yield hfs hgd hfg (wpAny_mono (he s (hbZ C) (gi_ep (C := C) A G gi)) (fun v s' hh kap hkap => ?_) fun _ _ x => x.elim) G.nco hi
  obtain ⟨z', g, r⟩ := hh
  simp only [escV, Rep] at r
  obtain ⟨a, vs, k, rfl, ha, rl⟩ := r
  have hlv : ∀ b, Wr b → (s'.heap.get? b).isSome = true := fun b hb => by
    obtain ⟨o, ho⟩ := Option.isSome_iff_exists.mp (hlive b hb)
    rw [g.keeps.old b o ho]; rfl
  refine ⟨x, ?_, ?_, ⟨a, vs, k, rfl, g.zin a _ ha, ?_, ?_, ?_⟩, sw.trans (.ofKp g.keeps), hlv, fun s'' h1 h2 => ?_⟩
  · rw [hall]; simp
  · rw [hall]; simp; omega
  · exact RepL.flat (fun y hy => by
      simp only [List.mem_cons, List.not_mem_nil, or_false] at hy
      rcases hy with rfl | rfl
      · exact .int _
      · exact .str _) rl
  · rcases g.new a _ ha with q | q
    · exact .inl q
    · refine .inr ?_
      cases q' : s₀.heap.get? a with
      | none => rfl
      | some o =>
        by_cases hw : Wr a
        · have := hlive a hw; rw [q] at this; cases this
        · rw [sw.old a o hw q'] at q; cases q
  · intro hw
    rcases g.new a _ ha with q | q
    · rw [show hbZ C a = C.hb.get? a from rfl, hWb a hw] at q; cases q
    · have := hlive a hw; rw [q] at this; cases this
  · exact hkap .none s'' (hk s' s'' g.keeps.old h1 h2)
end
end Mine
namespace Mine
open PySem.Builtin PySem.Builtin.Str
section
variable {prog : Program} {w : World} {A : Around} {E : Value → Shared → Prop} {s : Shared}
theorem mine_nextOf_ascii_end {it : Addr} {x : Str} {t : Tok} {i : Nat} {Q : Value → Shared → Prop} (hh : A.handled = none)
    (hit : s.heap.IsStrIter it "str_ascii_iterator" x t i) (hx : x.cps[i]? = none)
    (hE : ∀ h' e, Heap.ExtBut it s.heap h' → (∃ o, h'.get? e = some o ∧ o.cls = .type "StopIteration") → (∃ o, h'.get? it = some o) → E (.ref e) { s with heap := h' }) :
    wpAny (model prog w) A (Builtin.SmallTypes.nextOf (.ref it)) Q E s := by
  obtain ⟨o, ho, hc, hd⟩ := id hit
  unfold Builtin.SmallTypes.nextOf
  refine wpAny_bind (wpAny_callSpecial?_slot (name := Str.ofString "__next__") hit.typeIs F.slot_str_ascii_iterator_next
    (wpAny_call_entry F.slot_str_ascii_iterator_next hit.typeIs F.entry_str_ascii_iterator_next ?_ (F.args_str_ascii_iterator_next_1 _)))
  show wpAny _ _ (field (.ref it) 0 >>= _) _ _ s
  refine wpAny_bind (wpAny_field ho hd (x := .str x t) rfl ?_)
  show wpAny _ _ (field (.ref it) 1 >>= _) _ _ s
  refine wpAny_bind (wpAny_field ho hd (x := .int i 0) rfl ?_)
  simp only [Int.toNat_natCast, hx]
  refine wpAny_bind (wpAny_rule (wpAny_bind (wpAny_setField ho hd (by simp) (wpAny_bind (wpAny_letGo ?_)))))
  show wpAny _ _ (newExc (.type "StopIteration") [] >>= _) _ _ _
  refine wpAny_bind ?_
  simp only [newExc, newTuple]
  refine wpAny_bind (wpAny_newObj_type ?_ (by size_fits))
  refine wpAny_bind (m := firstArgMember _ _) (wpAny_of_eq (a := Value.none) (by first | rfl | (simp only [firstArgMember]; rfl)) ?_)
  refine wpAny_newObj_type ?_ (by size_fits)
  simp only [raiseNew]
  refine wpAny_bind (wpAny_handled ?_)
  first | rw [show A.in1.handled = none from hh] | rw [hh]
  refine wpAny_bind (wpAny_pure (wpAny_throw ?_))
  exact hE _ _ (((Heap.SameBut.update ..).extBut.push _).push _) ⟨_, Heap.get?_push_size _ rfl, rfl⟩
    ⟨_, Heap.get?_push_of_some _ (Heap.get?_push_of_some _ (Heap.get?_update_self _ ho (Obj.isFreed_of_fields (Obj.data_mapFields hd _))))⟩
theorem mine_nextOf_wide_end {it : Addr} {x : Str} {t : Tok} {i : Nat} {Q : Value → Shared → Prop} (hh : A.handled = none)
    (hit : s.heap.IsStrIter it "str_iterator" x t i) (hx : x.cps[i]? = none)
    (hE : ∀ h' e, Heap.ExtBut it s.heap h' → (∃ o, h'.get? e = some o ∧ o.cls = .type "StopIteration") → (∃ o, h'.get? it = some o) → E (.ref e) { s with heap := h' }) :
    wpAny (model prog w) A (Builtin.SmallTypes.nextOf (.ref it)) Q E s := by
  obtain ⟨o, ho, hc, hd⟩ := id hit
  unfold Builtin.SmallTypes.nextOf
  refine wpAny_bind (wpAny_callSpecial?_slot (name := Str.ofString "__next__") hit.typeIs F.slot_str_iterator_next
    (wpAny_call_entry F.slot_str_iterator_next hit.typeIs F.entry_str_iterator_next ?_ (F.args_str_iterator_next_1 _)))
  show wpAny _ _ (field (.ref it) 0 >>= _) _ _ s
  refine wpAny_bind (wpAny_field ho hd (x := .str x t) rfl ?_)
  show wpAny _ _ (field (.ref it) 1 >>= _) _ _ s
  refine wpAny_bind (wpAny_field ho hd (x := .int i 0) rfl ?_)
  simp only [Int.toNat_natCast, hx]
  refine wpAny_bind (wpAny_rule (wpAny_bind (wpAny_setField ho hd (by simp) (wpAny_bind (wpAny_letGo ?_)))))
  show wpAny _ _ (newExc (.type "StopIteration") [] >>= _) _ _ _
  refine wpAny_bind ?_
  simp only [newExc, newTuple]
  refine wpAny_bind (wpAny_newObj_type ?_ (by size_fits))
  refine wpAny_bind (m := firstArgMember _ _) (wpAny_of_eq (a := Value.none) (by first | rfl | (simp only [firstArgMember]; rfl)) ?_)
  refine wpAny_newObj_type ?_ (by size_fits)
  simp only [raiseNew]
  refine wpAny_bind (wpAny_handled ?_)
  first | rw [show A.in1.handled = none from hh] | rw [hh]
  refine wpAny_bind (wpAny_pure (wpAny_throw ?_))
  exact hE _ _ (((Heap.SameBut.update ..).extBut.push _).push _) ⟨_, Heap.get?_push_size _ rfl, rfl⟩
    ⟨_, Heap.get?_push_of_some _ (Heap.get?_push_of_some _ (Heap.get?_update_self _ ho (Obj.isFreed_of_fields (Obj.data_mapFields hd _))))⟩
theorem mine_nextOf_end {it : Addr} {x : Str} {t : Tok} {i : Nat} {Q : Value → Shared → Prop} (hh : A.handled = none)
    (hit : s.heap.IsStrIter it (strIterType x) x t i) (hx : x.cps[i]? = none)
    (hE : ∀ h' e, Heap.ExtBut it s.heap h' → (∃ o, h'.get? e = some o ∧ o.cls = .type "StopIteration") → (∃ o, h'.get? it = some o) → E (.ref e) { s with heap := h' }) :
    wpAny (model prog w) A (Builtin.SmallTypes.nextOf (.ref it)) Q E s := by
  unfold strIterType at hit
  by_cases ha : x.cps.all (· < 128)
  · rw [if_pos ha] at hit
    exact mine_nextOf_ascii_end hh hit hx hE
  · rw [if_neg ha] at hit
    exact mine_nextOf_wide_end hh hit hx hE
theorem mine_enum_end {e it : Addr} {x : Str} {t : Tok} {n : Nat} {i : Int} {old : Value} {Q : Option Value → Shared → Prop} (hh : A.handled = none)
    (he : IsEnum s.heap e it i old) (hit : s.heap.IsStrIter it (strIterType x) x t n) (hn : x.cps[n]? = none)
    (hQ : ∀ h', Heap.ExtBut it s.heap h' → (∃ o, h'.get? it = some o) → Q none { s with heap := h' }) : wpAny (model prog w) A (pyNext (.ref e)) Q E s := by
  have hT : s.TypeIs (.ref e) "enumerate" := ⟨_, he, rfl⟩
  unfold pyNext
  refine wpAny_bind (wpAny_attempt (wpAny_callSpecial?_slot (name := Str.ofString "__next__") hT F.slot_enumerate_next
    (wpAny_call_entry F.slot_enumerate_next hT F.entry_enumerate_next ?_ (F.args_enumerate_next_1 _))))
  show wpAny _ A.in1 (field (.ref e) 2 >>= _) _ _ _
  refine wpAny_bind (wpAny_field he rfl (x := .ref it) rfl ?_)
  refine wpAny_bind (mine_nextOf_end hh hit hn fun h' x he' hx' hl => ?_)
  obtain ⟨o, ho, hc⟩ := hx'
  refine wpAny_bind (wpAny_isInstance (T := "StopIteration") (b := true) ⟨o, ho, hc⟩ isSubtype_stop ?_)
  exact wpAny_pure (hQ _ he' hl)
end
end Mine
namespace Mine
def ESt (l : List Nat) (t : Tok) (e it : Addr) (i : Nat) (h : Heap) : Prop := (∃ old, IsEnum h e it i old) ∧ h.IsStrIter it (strIterType ⟨l.toArray⟩) ⟨l.toArray⟩ t i
theorem enumStr {prog : Program} {w : World} {A : Around} {l : List Nat} {t : Tok} {e it : Addr} (hA : A.handled = none) (hne : e ≠ it) :
    ∃ Mid, WalksT prog w A e [e, it] [e, it] l.length (fun i vals => ∃ t x, (∃ c u, l[i]? = some c ∧ x = .str ⟨#[c]⟩ u) ∧ vals = #[.int i t, x]) (ESt l t e it) Mid := by
  unfold ESt
  by_cases h : (⟨l.toArray⟩ : Str).cps.all (· < 128)
  · have hs : strIterType ⟨l.toArray⟩ = "str_ascii_iterator" := by unfold strIterType; rw [if_pos h]
    rw [hs]
    have := WalksT.enumerateD (Draws.strAscii (prog := prog) (w := w) (A := A.in1) hA it ⟨l.toArray⟩ t) e hne (by simpa using hne) (by simp)
    refine ⟨fun i T h => (∃ x, IsEnumOut h e it ((i : Int) + 1) x T) ∧ h.IsStrIter it "str_ascii_iterator" ⟨l.toArray⟩ t (i + 1) ∧ T ≠ e ∧ T ≠ it, ?_⟩
    simpa using this
  · have hs : strIterType ⟨l.toArray⟩ = "str_iterator" := by unfold strIterType; rw [if_neg h]
    rw [hs]
    have := WalksT.enumerateD (Draws.strWide (prog := prog) (w := w) (A := A.in1) hA it ⟨l.toArray⟩ t) e hne (by simpa using hne) (by simp)
    refine ⟨fun i T h => (∃ x, IsEnumOut h e it ((i : Int) + 1) x T) ∧ h.IsStrIter it "str_iterator" ⟨l.toArray⟩ t (i + 1) ∧ T ≠ e ∧ T ≠ it, ?_⟩
    simpa using this
def FlatP (P : PEnv) : Prop := ∀ x pv, P.lookup x = some pv → Mine.Flat pv
theorem FlatP.nil : FlatP [] := fun _ _ h => by cases h
theorem FlatP.cons {x : Str} {v : PV} {P : PEnv} (h : Mine.Flat v) (r : FlatP P) : FlatP ((x, v) :: P) := fun y pv e => by
  by_cases q : y = x
  · subst q; simp [List.lookup] at e; subst e; exact h
  · have : (y == x) = false := beq_eq_false_iff_ne.mpr q
    simp only [List.lookup, this] at e
    exact r y pv e
theorem FlatP.upd {x : Str} {v : PV} {P : PEnv} (r : FlatP P) (h : Mine.Flat v) : FlatP (upd P x v) := fun y pv e => by
  rw [lookup_upd] at e
  by_cases q : y = x
  · rw [if_pos q] at e; cases e; exact h
  · rw [if_neg q] at e; exact r y pv e
section
variable {C : Cst} {A : Around} {env : Env} {sc : Scope} {P : PEnv}
theorem GI.flat {h : Heap} (gi : GI C env P h) : FlatP P := fun x pv e => (gi.var x pv e).1
theorem GI.weak {h : Heap} {P' : PEnv} (gi : GI C env P h) (hp : PSub P' P) : GI C env P' h := ⟨gi.hb, gi.ns, fun x pv e => gi.var x pv (hp x pv e)⟩
theorem gi_pair {s : Shared} {x y : Str} {px py pos : Pos} {k : Nat} {T : Addr} {a b : PV} {u v : Value} (hA : A.handled = none) (G : GK C env sc) (gi : GI C env P s.heap) (hT : s.heap.IsTuple T #[u, v]) (ra : Rep NoX a u) (rb : Rep NoX b v)
    (fa : Mine.Flat a) (fb : Mine.Flat b) (hx : Can env x) (hy : Can env y) :
    wpAny C.M A (assign (.Tuple [.Name x px, .Name y py] k pos) env (.ref T)) (fun _ s' => GI C env (upd (upd P x a) y b) s'.heap ∧ SW (· = env.locals) s s') noE s := by
  obtain ⟨d, hx⟩ := hx
  obtain ⟨d', hy⟩ := hy
  refine assign_Tuple_tuple hA (items := #[u, v]) hT rfl rfl fun h' hk => ?_
  have f := gi.fsL (A := A) G
  have f₁ := f.grow (C := C.mode true) (Grow.same f.ep.zin (Kp.heap s h' s.toks (extBut_keeps hk)))
  show wpAny C.M A (do holding [v] (assign (.Name x px) env u); holding [] (assign (.Name y py) env v); pure ()) _ _ _
  refine wpAny_bind (wpAny_holding (wpAny_assign_Name (wpAny_mono (f₁.store hx rfl (fa.rep ra)) (fun _ s₂ f₂ => ?_) fun _ _ x => x)))
  refine wpAny_bind (wpAny_holding (wpAny_assign_Name (wpAny_mono (f₂.store hy rfl (fb.rep rb)) (fun _ s₃ f₃ => wpAny_pure ?_) fun _ _ x => x)))
  exact ⟨.of (A := A) f₃ ((gi.flat.upd fa).upd fb), f₃.swL⟩
abbrev itB : List Stmt := stBody (stAt iIter)
abbrev itFor : Stmt := nthS itB 2
abbrev Pg (l : List Nat) (p : Int) (esc : Bool) : PEnv := [("addr", .str l), ("pos", .int p), ("escape", .bool esc)]
abbrev Pc (l : List Nat) (p : Int) (esc : Bool) (c : Nat) : PEnv := [("addr", .str l), ("pos", .int p), ("escape", .bool esc), ("ch", .str [c])]
theorem flatPg {l : List Nat} {p : Int} {esc : Bool} : FlatP (Pg l p esc) := .cons (.str _) (.cons (.int _) (.cons (.bool _) .nil))
theorem flatPc {l : List Nat} {p : Int} {esc : Bool} {c : Nat} : FlatP (Pc l p esc c) := .cons (.str _) (.cons (.int _) (.cons (.bool _) (.cons (.str _) .nil)))
theorem w3_of {L e it b : Addr} (h : b ∈ [e, it]) : W3 L e it b := by
  simp only [List.mem_cons, List.not_mem_nil, or_false] at h
  exact .inr h
theorem gi_live {l : List Nat} {t : Tok} {e it : Addr} {i : Nat} {h : Heap} (gi : GI C env P h) (st : ESt l t e it i h) : ∀ a, W3 env.locals e it a → (h.get? a).isSome = true := by
  rintro a (rfl | rfl | rfl)
  · obtain ⟨m, o, _, _, ho, _⟩ := gi.ns; rw [ho]; rfl
  · obtain ⟨⟨old, ho⟩, _⟩ := st; rw [ho]; rfl
  · obtain ⟨_, o, ho, _⟩ := st; rw [ho]; rfl
theorem gen_loop {l : List Nat} {t : Tok} {e it : Addr} {all : List (Int × List Nat)} {K : Flow → Sem Fin} {H : Value → Sem Fin} {c : Code} {p' : Pos} (hA : A.handled = none) (G : GK C env (stScope (stAt iIter)))
    (hne : e ≠ it) (hLe : env.locals ≠ e) (hLi : env.locals ≠ it) (hbe : C.hb.get? e = none) (hbi : C.hb.get? it = none) (hi : interactive env = false)
    (hK : ∀ (p : Int) (esc : Bool) (i : Nat) (done : List (Int × List Nat)) (s₀ s : Shared), all = done ++ escY [] i p esc → GI C env (Pg l p esc) s.heap → SW (W3 env.locals e it) s₀ s → (∀ a, W3 env.locals e it a → (s.heap.get? a).isSome = true) →
      Seg C.M A (gR (W3 env.locals e it)) (gY C (W3 env.locals e it) all) (escY [] i p esc).length s₀ c (K .next) [] s) :
    ∀ (r pre : List Nat) (p : Int) (esc : Bool) (done : List (Int × List Nat)) (s₀ s : Shared), l = pre ++ r → all = done ++ escY r pre.length p esc → GI C env (Pg l p esc) s.heap → ESt l t e it pre.length s.heap →
      SW (W3 env.locals e it) s₀ s →
      Seg C.M A (gR (W3 env.locals e it)) (gY C (W3 env.locals e it) all) (escY r pre.length p esc).length s₀ (.forLoop (forTgt itFor) (.ref e) (forBody itFor) [] env) (C.M.den (.forLoop (forTgt itFor) (.ref e) (forBody itFor) [] env))
        [.ret (backK env K H id id) none false [] c p' []] s := by
  intro r
  induction r with
  | nil =>
    intro pre p esc done s₀ s hl hall gi st sw
    obtain ⟨Mid, W⟩ := enumStr (prog := C.prog) (w := C.w) (A := A.over (.forLoop (forTgt itFor) (.ref e) (forBody itFor) [] env) [.ret (backK env K H id id) none false [] c p' []]) (l := l) (t := t) (over_handled1 hA) hne
    have hlen : pre.length = l.length := by rw [hl]; simp
    have st' : ESt l t e it l.length s.heap := hlen ▸ st
    obtain ⟨⟨old, hen⟩, hit⟩ := st'
    refine seg_forLoop (mine_enum_end (over_handled1 hA) hen hit (by simp) fun h' hx hl => ?_)
    have hk : ∀ b o, b ∉ [e, it] → s.heap.get? b = some o → h'.get? b = some o := fun b o hb q => hx b o (fun h => hb (by simp [h])) q
    have sw' : SW (W3 env.locals e it) s { s with heap := h' } := ⟨⟨_, _, rfl⟩, fun b o hb q => hk b o (fun hm => hb (w3_of hm)) q⟩
    have gi' : GI C env (Pg l p esc) h' := gi.keeps G (fun o q => hk _ o (by simp [hLe, hLi]) q) fun a o q => hk a o (by
      simp only [List.mem_cons, List.not_mem_nil, or_false]
      rintro (h | h)
      · rw [h, hbe] at q; cases q
      · rw [h, hbi] at q; cases q) (gi.hb a o q)
    refine seg_loopEnd (tgt := forTgt itFor) (it := .ref e) (body := forBody itFor) (hK p esc pre.length done s₀ _ hall gi' (sw.trans sw') fun a ha => ?_)
    rcases ha with rfl | rfl | rfl
    · obtain ⟨m, o, _, _, ho, _⟩ := gi'.ns
      show (h'.get? _).isSome = true
      rw [ho]; rfl
    · show (h'.get? _).isSome = true
      rw [hx _ _ hne hen]; rfl
    · obtain ⟨o, ho⟩ := hl
      show (h'.get? _).isSome = true
      rw [ho]; rfl
  | cons ch r ih =>
    intro pre p esc done s₀ s hl hall gi st sw
    obtain ⟨Mid, W⟩ := enumStr (prog := C.prog) (w := C.w) (A := A.over (.forLoop (forTgt itFor) (.ref e) (forBody itFor) [] env) [.ret (backK env K H id id) none false [] c p' []]) (l := l) (t := t) (over_handled1 hA) hne
    have hlen : pre.length < l.length := by rw [hl]; simp
    have hch : l[pre.length]? = some ch := by rw [hl]; simp
    refine seg_forLoop (W.item pre.length s _ _ hlen st fun T vals h' tk hv hT hTt hMid hk => ?_)
    obtain ⟨t', x, ⟨c', u, hc', rfl⟩, rfl⟩ := hv
    rw [hch] at hc'
    cases hc'
    have sw1 : SW (W3 env.locals e it) s { s with heap := h', toks := tk } := ⟨⟨_, _, rfl⟩, fun b o hb q => hk b o (fun hm => hb (w3_of hm)) q⟩
    have gi1 : GI C env (Pg l p esc) h' := gi.keeps G (fun o q => hk _ o (by simp [hLe, hLi]) q) fun a o q => hk a o (by
      simp only [List.mem_cons, List.not_mem_nil, or_false]
      rintro (h | h)
      · rw [h, hbe] at q; cases q
      · rw [h, hbi] at q; cases q) (gi.hb a o q)
    have hTn : T ∉ [e, it] := W.apart _ _ _ hMid
    refine W.go _ _ _ pre.length T _ _ _ hMid fun h2 st2 hk2 => ?_
    have sw2 : SW (W3 env.locals e it) { s with heap := h', toks := tk } { s with heap := h2, toks := tk } := ⟨⟨_, _, rfl⟩, fun b o hb q => hk2 b o (fun hm => hb (w3_of hm)) q⟩
    have gi2 : GI C env (Pg l p esc) h2 := gi1.keeps G (fun o q => hk2 _ o (by simp [hLe, hLi]) q) fun a o q => hk2 a o (by
      simp only [List.mem_cons, List.not_mem_nil, or_false]
      rintro (h | h)
      · rw [h, hbe] at q; cases q
      · rw [h, hbi] at q; cases q) (gi1.hb a o q)
    have hT2 : h2.IsTuple T #[.int (pre.length : Nat) t', .str ⟨#[ch]⟩ u] := by
      obtain ⟨o, ho, r⟩ := hTt
      exact ⟨o, hk2 T o hTn ho, r⟩
    refine wpAny_mono (gi_pair (s := { s with heap := h2, toks := tk }) (P := Pg l p esc) (a := .int (pre.length : Nat)) (b := .str [ch]) (over_handled1 hA) G gi2 hT2 (rep_int _ _) (rep_str [ch] u) (.int _) (.str _) (G.eo.loc rfl) (G.eo.loc rfl)) (fun _ s3 h3 => ?_) fun _ _ x => x
    obtain ⟨gi3, sw3⟩ := h3
    have gi3 := gi3.weak (P' := Pc l pre.length esc ch) (PSub_cons rfl (PSub_cons rfl (PSub_cons rfl (PSub_cons rfl (PSub.nil _)))))
    have hl1 : (pre ++ [ch]).length = pre.length + 1 := by simp
    have IH := ih (pre ++ [ch])
    simp only [hl1] at IH
    have hWb : ∀ a, W3 env.locals e it a → C.hb.get? a = none := by
      rintro a (rfl | rfl | rfl)
      · exact G.hbL
      · exact hbe
      · exact hbi
    have mono : ∀ a, a = env.locals → W3 env.locals e it a := fun a h => .inl h
    have estL : ∀ {i : Nat} {s s' : Shared}, ESt l t e it i s.heap → SW (· = env.locals) s s' → ESt l t e it i s'.heap := fun st sw => by
      obtain ⟨⟨old, a⟩, o, ho, r⟩ := st
      exact ⟨⟨old, sw.old _ _ (fun h => hLe h.symm) a⟩, o, sw.old _ _ (fun h => hLi h.symm) ho, r⟩
    have estW : ∀ {i : Nat} {h h' : Heap}, ESt l t e it i h → (∀ b o, W3 env.locals e it b → h.get? b = some o → h'.get? b = some o) → ESt l t e it i h' := fun st k => by
      obtain ⟨⟨old, a⟩, o, ho, r⟩ := st
      exact ⟨⟨old, k _ _ (.inr (.inl rfl)) a⟩, o, k _ _ (.inr (.inr rfl)) ho, r⟩
    have st3 : ESt l t e it (pre.length + 1) s3.heap := estL (s := { s with heap := h2, toks := tk }) st2 sw3
    have swT : SW (W3 env.locals e it) s₀ s3 := sw.trans (sw1.trans (sw2.trans (sw3.mono mono)))
    have hl2 : l = pre ++ [ch] ++ r := by rw [hl]; simp
    refine seg_execs_cons ?_
    cases esc with
    | true =>
      refine seg_if (gi_test G gi3 (Tst_val (Ev_name rfl) Tru_bool)) (fun _ s4 h4 => ?_) (fun h => by cases h)
      obtain ⟨gi4, sw4⟩ := h4
      have st4 := estL st3 sw4
      refine seg_execs_cons ?_
      refine gi_yield (x := ((pre.length : Int), [92, ch])) (rest := escY r (pre.length + 1) pre.length false) G gi4 (swT.trans (sw4.mono mono)) (gi_live gi4 st4) hWb hall rfl rfl rfl
        (Ev_tuple (.cons (Ev_name rfl) (.cons (Ev_bin (Ev_str rfl) (Ev_name rfl) (op_addS (a := [92]) (b := [ch]) (by simp))) .nil rfl) rfl) (by simp)) (fun s5 s'' h5 h6 h7 => ?_) hi
      have gi5 : GI C env (Pc l pre.length true ch) s''.heap := (gi4.keeps (h' := s5.heap) G (fun o q => h5 _ o q) fun a o q => h5 a o (gi4.hb a o q)).keeps G (fun o q => h6 _ o (.inl rfl) q) h7
      have st5 : ESt l t e it (pre.length + 1) s''.heap := estW (estW st4 fun b o _ q => h5 b o q) h6
      refine seg_execs_cons (seg_exec (gi_stmt (P' := Pc l pre.length false ch) G gi5 (fun X => Ex1_assign (G.eo.loc rfl) (.of Ev_bool)) flatPc) (fun s6 h6' => ?_))
      obtain ⟨gi6, sw6⟩ := h6'
      refine seg_again rfl (IH pre.length false (done ++ [((pre.length : Int), [92, ch])]) s'' s6 hl2 (by rw [hall]; simp [escY]) (gi6.weak ?_) (estL st5 sw6) (sw6.mono mono))
      exact PSub_cons rfl (PSub_cons rfl (PSub_cons rfl (PSub.nil _)))
    | false =>
      refine seg_if (gi_test G gi3 (Tst_val (Ev_name rfl) Tru_bool)) (fun h => by cases h) (fun _ s4 h4 => ?_)
      obtain ⟨gi4, sw4⟩ := h4
      have st4 := estL st3 sw4
      refine seg_execs_cons ?_
      by_cases hc : ch = 92
      · have he : escY (ch :: r) pre.length p false = escY r (pre.length + 1) pre.length true := by simp [escY, hc]
        rw [he] at hall ⊢
        refine seg_if (b := true) (gi_test G gi4 (Tst_eq (by simp [hc]) (Tst_cmp (Ev_name rfl) (Ev_str (l := [92]) rfl) (op_eqS (a := [ch]) (b := [92]))))) (fun _ s5 h5 => ?_) (fun h => by cases h)
        obtain ⟨gi5, sw5⟩ := h5
        refine seg_execs_cons (seg_exec (gi_stmt (P' := Pc l pre.length true ch) G gi5 (fun X => Ex1_assign (G.eo.loc rfl) (.of Ev_bool)) flatPc) (fun s6 h6' => ?_))
        obtain ⟨gi6, sw6⟩ := h6'
        refine seg_again rfl (IH pre.length true done s₀ s6 hl2 hall (gi6.weak ?_) (estL (estL st4 sw5) sw6) (swT.trans ((sw4.mono mono).trans ((sw5.mono mono).trans (sw6.mono mono)))))
        exact PSub_cons rfl (PSub_cons rfl (PSub_cons rfl (PSub.nil _)))
      · have he : escY (ch :: r) pre.length p false = ((pre.length : Int), [ch]) :: escY r (pre.length + 1) pre.length false := by simp [escY, hc]
        rw [he] at hall ⊢
        refine seg_if (b := false) (gi_test G gi4 (Tst_eq (by simp [hc]) (Tst_cmp (Ev_name rfl) (Ev_str (l := [92]) rfl) (op_eqS (a := [ch]) (b := [92]))))) (fun h => by cases h) (fun _ s5 h5 => ?_)
        obtain ⟨gi5, sw5⟩ := h5
        have st5 := estL st4 sw5
        refine seg_execs_cons ?_
        refine gi_yield (x := ((pre.length : Int), [ch])) (rest := escY r (pre.length + 1) pre.length false) G gi5 (swT.trans ((sw4.mono mono).trans (sw5.mono mono))) (gi_live gi5 st5) hWb hall rfl rfl rfl
          (Ev_tuple (.cons (Ev_name rfl) (.cons (Ev_name rfl) .nil rfl) rfl) (by simp)) (fun s6 s'' h5 h6 h7 => ?_) hi
        have gi6 : GI C env (Pc l pre.length false ch) s''.heap := (gi5.keeps (h' := s6.heap) G (fun o q => h5 _ o q) fun a o q => h5 a o (gi5.hb a o q)).keeps G (fun o q => h6 _ o (.inl rfl) q) h7
        have st6 : ESt l t e it (pre.length + 1) s''.heap := estW (estW st5 fun b o _ q => h5 b o q) h6
        refine seg_again rfl (IH pre.length false (done ++ [((pre.length : Int), [ch])]) s'' s'' hl2 (by rw [hall]; simp) (gi6.weak ?_) st6 (.refl _ _))
        exact PSub_cons rfl (PSub_cons rfl (PSub_cons rfl (PSub.nil _)))
end
end Mine
namespace Mine
section
variable {C : Cst} {A : Around} {env : Env} {sc : Scope} {P : PEnv}
theorem gi_const {s : Shared} {x : Str} {px pos : Pos} {value : Expr} {pv : PV} (G : GK C env sc) (gi : GI C env P s.heap) (hx : Can env x) (hf : Mine.Flat pv)
    (hv : ∀ s', wpAny C.M A (eval value env) (fun v s'' => Rep NoX pv v ∧ ∃ n, s'' = { s' with toks := n }) noE s') (hs : swapsWith value (some (.Name x px)) pos.line env = pure false := by rfl) :
    wpAny C.M A (exec (.Assign [.Name x px] value pos) env) (fun fl s' => fl = .next ∧ GI C env (upd P x pv) s'.heap ∧ SW (· = env.locals) s s' ∧ s'.heap.objs.size = s.heap.objs.size) noE s := by
  obtain ⟨d, hx⟩ := hx
  refine wpAny_Assign_Name (wpAny_mono (hv s) (fun v s₁ h₁ => ?_) fun _ _ x => x) hs
  obtain ⟨r, n, rfl⟩ := h₁
  have gi' : GI C env P ({ s with toks := n } : Shared).heap := gi
  have hd : d = env.locals := by
    rcases hx.2 with ⟨_, h⟩ | ⟨_, h⟩
    · exact h
    · rw [G.cells] at h; cases h
  subst hd
  refine store_raw (gi'.fsL (A := A) G) hx rfl fun h' k hs l1 l2 l3 hl hcs => ?_
  have up : ∀ b o, b ≠ env.locals → s.heap.get? b = some o → h'.get? b = some o := fun b o hb e => (hs.2 b hb).trans e
  refine ⟨rfl, ⟨fun a o e => up a o (fun q => by rw [q, G.hbL] at e; cases e) (gi.hb a o e), hl, fun y p hp => ?_⟩, ⟨⟨_, _, rfl⟩, up⟩, hs.1⟩
  rw [lookup_upd] at hp
  by_cases hy : y = x
  · rw [if_pos hy] at hp; cases hp; subst hy; exact ⟨hf, v, l1, r⟩
  · rw [if_neg hy] at hp
    obtain ⟨hf', u, lu, ru⟩ := gi.var y p hp
    exact ⟨hf', u, l2 y u hy lu, ru⟩
theorem gen_tail {L e it : Addr} {l : List Nat} {all : List (Int × List Nat)} {c : Code} {Kf : Flow → Sem Fin} {Hf : Value → Sem Fin} (G : GK C env (stScope (stAt iIter))) (hL : L = env.locals)
    (hbe : C.hb.get? e = none) (hbi : C.hb.get? it = none) (hi : interactive env = false) (hKf : Kf .next = .pure (.done (.ret .none)))
    (p : Int) (esc : Bool) (i : Nat) (done : List (Int × List Nat)) (s₀ s : Shared) (hall : all = done ++ escY [] i p esc) (gi : GI C env (Pg l p esc) s.heap) (sw : SW (W3 L e it) s₀ s) (hlive : ∀ a, W3 L e it a → (s.heap.get? a).isSome = true) :
    Seg C.M A (gR (W3 L e it)) (gY C (W3 L e it) all) (escY [] i p esc).length s₀ c ((execs (itB.drop 3) env).wrap Kf Hf id id) [] s := by
  subst hL
  have hWb : ∀ a, W3 env.locals e it a → C.hb.get? a = none := by
    rintro a (rfl | rfl | rfl)
    · exact G.hbL
    · exact hbe
    · exact hbi
  have mono : ∀ a, a = env.locals → W3 env.locals e it a := fun a h => .inl h
  have fin : ∀ s₀ s, SW (W3 env.locals e it) s₀ s → Seg C.M A (gR (W3 env.locals e it)) (gY C (W3 env.locals e it) all) 0 s₀ c (.pure (.done (.ret .none))) [] s := fun s₀ s sw =>
    seg_end (.ok (.ret .none)) ⟨rfl, rfl, sw⟩
  refine seg_execs_cons ?_
  cases esc with
  | true =>
    refine seg_if (gi_test G gi (Tst_val (Ev_name rfl) Tru_bool)) (fun _ s4 h4 => ?_) (fun h => by cases h)
    obtain ⟨gi4, sw4⟩ := h4
    refine seg_execs_cons ?_
    have hl4 : ∀ a, W3 env.locals e it a → (s4.heap.get? a).isSome = true := fun a ha => by
      by_cases h : a = env.locals
      · obtain ⟨m, o, _, _, ho, _⟩ := gi4.ns; rw [h, ho]; rfl
      · obtain ⟨o, ho⟩ := Option.isSome_iff_exists.mp (hlive a ha)
        rw [sw4.old a o h ho]; rfl
    refine gi_yield (x := (p, [92])) (rest := []) G gi4 (sw.trans (sw4.mono mono)) hl4 hWb hall rfl rfl rfl
      (Ev_tuple (.cons (Ev_name rfl) (.cons (Ev_str (l := [92]) rfl) .nil rfl) rfl) (by simp)) (fun s5 s'' h5 h6 h7 => ?_) hi
    show Seg _ _ _ _ _ _ _ (Kf .next) _ _
    rw [hKf]
    exact fin _ _ (.refl _ _)
  | false =>
    refine seg_if (gi_test G gi (Tst_val (Ev_name rfl) Tru_bool)) (fun h => by cases h) (fun _ s4 h4 => ?_)
    obtain ⟨gi4, sw4⟩ := h4
    show Seg _ _ _ _ _ _ _ (Kf .next) _ _
    rw [hKf]
    exact fin _ _ (sw.trans (sw4.mono mono))
theorem gen_start {l : List Nat} (ok : C.Ok) (B : Bi C) (hA : A.handled = none) (G : GK C env (stScope (stAt iIter))) (hi : interactive env = false) {s : Shared} (gi : GI C env [("addr", .str l)] s.heap) :
    Seg C.M A (gR (W3 env.locals (s.heap.objs.size + 1) s.heap.objs.size)) (gY C (W3 env.locals (s.heap.objs.size + 1) s.heap.objs.size) (escY l 0 0 false)) (escY l 0 0 false).length s (.func itB env) (C.M.den (.func itB env)) [] s := by
  have mono : ∀ a, a = env.locals → W3 env.locals (s.heap.objs.size + 1) s.heap.objs.size a := fun a h => .inl h
  have hn : ∀ k : Nat, C.hb.get? (s.heap.objs.size + k) = none := fun k => by
    cases q : C.hb.get? (s.heap.objs.size + k) with
    | none => rfl
    | some o => exact absurd (Heap.lt_size (gi.hb _ o q)) (Nat.not_lt.mpr (Nat.le_add_right _ _))
  have hLs : env.locals < s.heap.objs.size := by obtain ⟨m, o, _, _, ho, _⟩ := gi.ns; exact Heap.lt_size ho
  refine seg_func ?_
  refine seg_execs_cons (seg_exec (gi_const (pv := .int 0) G gi (G.eo.loc rfl) (.int _) (fun s' => wpAny_Constant_int ⟨rep_int _ _, _, rfl⟩)) (fun s1 h1 => ?_))
  obtain ⟨gi1, sw1, z1⟩ := h1
  refine seg_execs_cons (seg_exec (gi_const (pv := .bool false) G gi1 (G.eo.loc rfl) (.bool _) (fun s' => by rw [eval_Constant]; exact wpAny_pure ⟨rep_bool _, _, rfl⟩)) (fun s2 h2 => ?_))
  obtain ⟨gi2, sw2, z2⟩ := h2
  have gi2 := gi2.weak (P' := Pg l 0 false) (PSub_cons rfl (PSub_cons rfl (PSub_cons rfl (PSub.nil _))))
  have hz : s2.heap.objs.size = s.heap.objs.size := z2.trans z1
  refine seg_execs_cons (seg_For ?_)
  show wpAny C.M _ (eval _ env) _ noE s2
  refine wpAny_Call_NameR (eval_global (C := C) ok (gi_ep (C := C) A G gi2) (G.eo.k rfl) B.enum ?_)
  refine CallW.type (C := C) "enumerate" _ _ [] _ _ s2 rfl ?_
  refine Calls.spliced_cons (wpAny_Name (load_name (gi_ep (C := C) A G gi2) (x := "addr") rfl fun v rv => ?_) (by decide))
  refine Calls.spliced_nil ⟨gi2.hb, ?_⟩
  simp only [Rep] at rv
  obtain ⟨t, rfl⟩ := rv
  refine call_enumerate_str fun h' he hit hsz hk => ?_
  refine wpAny_pyIter_enum he fun p' => ?_
  have gi3 : GI C env (Pg l 0 false) h' := gi2.keeps G (fun o q => hk _ o q) fun a o q => hk a o (gi2.hb a o q)
  have sw3 : SW (W3 env.locals (s.heap.objs.size + 1) s.heap.objs.size) s { s2 with heap := h' } := (sw1.mono mono).trans ((sw2.mono mono).trans ⟨⟨_, _, rfl⟩, fun b o _ q => hk b o q⟩)
  rw [hz] at he hit ⊢
  exact gen_loop (l := l) (t := t) (e := s.heap.objs.size + 1) (it := s.heap.objs.size) (all := escY l 0 0 false) hA G (by simp) (Nat.ne_of_lt (Nat.lt_succ_of_lt hLs)) (Nat.ne_of_lt hLs) (hn 1) (hn 0) hi
    (fun p esc i done s₀ s hall gi sw hlive => gen_tail G rfl (hn 1) (hn 0) hi rfl p esc i done s₀ s hall gi sw hlive) l [] 0 false [] s _ rfl rfl gi3 ⟨⟨_, he⟩, hit⟩ sw3
end
end Mine
namespace Mine
theorem setGen_bare {s : Shared} {g : Nat} {x : GenState} (h : AllBare s.gens) (hx : x.bare = true) : AllBare (s.setGen g x).gens := by
  intro y hy
  have hy : y ∈ s.gens.setIfInBounds g x := hy
  obtain ⟨i, hi, rfl⟩ := Array.mem_iff_getElem.mp hy
  have hi' : i < s.gens.size := by simpa using hi
  rw [Array.getElem_setIfInBounds hi']
  split
  · exact hx
  · exact h _ (Array.getElem_mem _)
section
variable {C : Cst} {A : Around} {env : Env} {z : Zm} {s : Shared}
abbrev GW (a : Addr) (Wr : Addr → Prop) : Addr → Prop := fun b => b = a ∨ Wr b
def GReady (C : Cst) (A : Around) (Wr : Addr → Prop) (all : List (Int × List Nat)) (g n : Nat) (s : Shared) : Prop :=
  n ≤ all.length ∧ ∃ gs, s.gens[g]? = some gs ∧ gs.Goes C.M A.in1 (gR Wr) (gY C Wr all) n (.send .none) (s.setGen g .running)
def gStart (C : Cst) (A : Around) (env : Env) (a : Addr) (g : Nat) (l : List Nat) (xs : List PV) (Wr : Addr → Prop) (s : Shared) : Prop :=
  (Wr = GW a (· = env.locals)) ∧ s.gens[g]? = some (.fresh (.func itB env)) ∧ GI C env [("addr", .str l)] s.heap ∧ xs = (escY l 0 0 false).map escV
def gGoing (C : Cst) (A : Around) (env : Env) (a : Addr) (g : Nat) (all : List (Int × List Nat)) (xs : List PV) (Wr : Addr → Prop) (s : Shared) : Prop :=
  ∃ (e it : Addr) (n : Nat), (Wr = GW a (W3 env.locals e it)) ∧ xs = (all.drop (all.length - n)).map escV ∧
    ∃ gs, s.gens[g]? = some gs ∧ n ≤ all.length ∧ ¬ W3 env.locals e it a ∧ ∀ s'' : Shared, (∀ b o, W3 env.locals e it b → s.heap.get? b = some o → s''.heap.get? b = some o) → (∀ a o, C.hb.get? a = some o → s''.heap.get? a = some o) →
      gs.Goes C.M A.in1 (gR (W3 env.locals e it)) (gY C (W3 env.locals e it) all) n (.send .none) s''
def gSt (C : Cst) (A : Around) (env : Env) (a : Addr) (g : Nat) (l : List Nat) (xs : List PV) (Wr : Addr → Prop) (z : Zm) (s : Shared) : Prop :=
  s.heap.IsGen a g ∧ (∀ b, Wr b → (s.heap.get? b).isSome = true) ∧ (∀ b, Wr b → C.hb.get? b = none) ∧ a ≠ env.locals ∧ (gStart C A env a g l xs Wr s ∨ gGoing C A env a g (escY l 0 0 false) xs Wr s)
section
variable {Wr W₀ : Addr → Prop} {a e it : Addr} {g n : Nat} {l : List Nat} {xs : List PV}
theorem gen_turn {x : PV} (ok : C.Ok) (hmd : C.md = false) (hA : A.handled = none) (hroom : A.depth < recursionLimit)
    (hbz : HbZ C z) (hz : ZIn z s) (hWz : ∀ b, W₀ b → z b = none) (hg : s.heap.IsGen a g) (hal : a ≠ env.locals)
    (hW : Wr = W3 env.locals e it) (hae : ¬ Wr a) (h0 : ∀ b, W₀ b → GW a Wr b) (h1 : ∀ b, GW a Wr b → W₀ b ∨ s.heap.get? b = none) (h1b : ∀ b, W₀ b → C.hb.get? b = none)
    (h1' : ∀ b, W₀ b → (s.heap.get? b).isSome = true)
    (hr : GReady C A Wr (escY l 0 0 false) g n s) (hx : x :: xs = ((escY l 0 0 false).drop ((escY l 0 0 false).length - n)).map escV) :
    wpAny C.M A (pyNext (.ref a)) (fun r s' => ∃ v z' Wr', r = some v ∧ WG C.md W₀ z s z' s' ∧
      (∀ a, W₀ a → Wr' a) ∧ (∀ a, Wr' a → W₀ a ∨ s.heap.get? a = none) ∧ (∀ a, Wr' a → z' a = none) ∧ Rep z' x v ∧ gSt C A env a g l xs Wr' z' s') noE s := by
  obtain ⟨hn, gs, hgs, hgo⟩ := hr
  have hb : ∀ a o, C.hb.get? a = some o → s.heap.get? a = some o := fun a o e => hz a o (hbz a o e)
  have hbW : ∀ b, GW a Wr b → C.hb.get? b = none := fun b h => by
    rcases h1 b h with h | h
    · exact h1b b h
    · cases q : C.hb.get? b with
      | none => rfl
      | some o => rw [hb b o q] at h; cases h
  have hzW : ∀ b, GW a Wr b → z b = none := fun b h => by
    rcases h1 b h with h | h
    · exact hWz b h
    · exact fresh_none hz h
  refine mine_pyNext_genQ hA (ok.nolimit.keeps hb) hroom hg hgs hgo (fun v s₁ gs' hbare hY => ?_) (fun s₁ hP h' hk => ?_)
  · obtain ⟨x', hx', hlt, ⟨b, vs, k, rfl, hbo, rl, hfr, hbn⟩, sw, hlive, hres⟩ := hY
    match n, hn, hx, hgo, hx', hlt, hres with
    | 0, hn, hx, _, _, _, _ => simp at hx
    | m + 1, hn, hx, _, hx', hlt, hres =>
    simp only [Nat.add_sub_cancel] at hx' hlt hres
    have hdrop : (escY l 0 0 false).drop ((escY l 0 0 false).length - (m + 1)) = x' :: (escY l 0 0 false).drop ((escY l 0 0 false).length - m) := by
      have hlt' : (escY l 0 0 false).length - (m + 1) < (escY l 0 0 false).length := by omega
      have e1 : (escY l 0 0 false).length - 1 - m = (escY l 0 0 false).length - (m + 1) := by omega
      rw [e1, List.getElem?_eq_getElem hlt'] at hx'
      rw [List.drop_eq_getElem_cons hlt', Option.some.inj hx']
      congr 2
      omega
    rw [hdrop, List.map_cons] at hx
    cases hx
    have hfr : C.hb.get? b = some (tupO vs k) ∨ s.heap.get? b = none := hfr
    have hba : b ≠ a := by
      intro hba
      rcases hfr with q | q
      · rw [hba, hbW a (.inl rfl)] at q; cases q
      · obtain ⟨o, _, _, ho, _⟩ := hg
        rw [hba, ho] at q; cases q
    have old : ∀ c o, ¬ Wr c → s.heap.get? c = some o → s₁.heap.get? c = some o := sw.old
    have hbs : ∀ c o, z c = some o → s₁.heap.get? c = some o := fun c o q => old c o (fun h => by rw [hzW c (.inr h)] at q; cases q) (hz c o q)
    have hrun : s₁.gens[g]? = some .running := by rw [sw.gens]; exact setGen_self hgs
    have hlv : ∀ c, GW a Wr c → (s₁.heap.get? c).isSome = true := fun c hc => by
      rcases hc with rfl | hc
      · obtain ⟨o, _, _, ho, _⟩ := hg
        rw [old c o hae ho]; rfl
      · exact hlive c hc
    obtain ⟨h1s, tk, es⟩ := sw.same
    have mk : ∀ z', ZLe z z' → (∀ c o, z' c = some o → s₁.heap.get? c = some o) → (∀ c o, z' c = some o → z c = some o ∨ s.heap.get? c = none) → (∀ c, GW a Wr c → z' c = none) → Rep z' (escV x') (.ref b) →
        ∃ v z' Wr', some (Value.ref b) = some v ∧ WG C.md W₀ z s z' (s₁.setGen g gs') ∧ (∀ a, W₀ a → Wr' a) ∧ (∀ a, Wr' a → W₀ a ∨ s.heap.get? a = none) ∧ (∀ a, Wr' a → z' a = none) ∧ Rep z' (escV x') v ∧
          gSt C A env a g l (((escY l 0 0 false).drop ((escY l 0 0 false).length - m)).map escV) Wr' z' (s₁.setGen g gs') := by
      intro z' hle hin hnew hnone rep
      refine ⟨_, z', GW a Wr, rfl, ⟨?_, ?_, hle, hin, hnew, fun h => (by rw [hmd] at h; cases h), fun h => ?_⟩, h0, h1, hnone, rep, ?_⟩
      · rw [es]; exact ⟨_, _, _, rfl⟩
      · intro c o hc q
        exact old c o (fun h => by
          rcases h1 c (.inr h) with h | h
          · exact hc h
          · rw [h] at q; cases q) q
      · refine setGen_bare ?_ hbare
        rw [sw.gens]
        exact setGen_bare h rfl
      · refine ⟨?_, hlv, hbW, hal, .inr ⟨e, it, m, by rw [hW], rfl, gs', setGen_self hrun, by omega, by rw [← hW]; exact hae, fun s'' h2 h3 => ?_⟩⟩
        · obtain ⟨o, nm, qn, ho, r⟩ := hg
          exact ⟨o, nm, qn, old a o hae ho, r⟩
        · rw [← hW] at h2 ⊢
          exact hres s'' h2 h3
    rcases hfr with q | q
    · refine mk z (ZLe.refl z) hbs (fun c o q => .inl q) hzW ?_
      exact rep_tuple (hbz _ _ q) (RepL.flat (fun y hy => by
        simp only [List.mem_cons, List.not_mem_nil, or_false] at hy
        rcases hy with rfl | rfl
        · exact .int _
        · exact .str _) rl)
    · have hzb : z b = none := fresh_none hz q
      refine mk (ZAdd z b (tupO vs k)) (ZAdd.le hzb) (fun c o qc => ?_) (fun c o qc => ?_) (fun c hc => ?_) ?_
      · unfold ZAdd at qc
        by_cases h : c = b
        · rw [if_pos h] at qc; cases qc; rw [h]; exact hbo
        · rw [if_neg h] at qc; exact hbs c o qc
      · unfold ZAdd at qc
        by_cases h : c = b
        · rw [h]; exact .inr q
        · rw [if_neg h] at qc; exact .inl qc
      · unfold ZAdd
        rw [if_neg]
        · exact hzW c hc
        · rintro rfl
          rcases hc with h | h
          · exact hba h
          · exact hbn h
      · exact rep_tuple (ZAdd.self _ _ _) (RepL.flat (fun y hy => by
          simp only [List.mem_cons, List.not_mem_nil, or_false] at hy
          rcases hy with rfl | rfl
          · exact .int _
          · exact .str _) rl)
  · have h0 : n = 0 := hP.1
    subst h0
    simp at hx
theorem gen_end (ok : C.Ok) (hmd : C.md = false) (hA : A.handled = none) (hroom : A.depth < recursionLimit)
    (hbz : HbZ C z) (hz : ZIn z s) (hWz : ∀ b, W₀ b → z b = none) (hg : s.heap.IsGen a g)
    (h1 : ∀ b, GW a Wr b → W₀ b ∨ s.heap.get? b = none)
    (hr : GReady C A Wr (escY l 0 0 false) g n s) (hx : [] = ((escY l 0 0 false).drop ((escY l 0 0 false).length - n)).map escV) :
    wpAny C.M A (pyNext (.ref a)) (fun r s' => r = none ∧ WG C.md W₀ z s z s') noE s := by
  obtain ⟨hn, gs, hgs, hgo⟩ := hr
  have hb : ∀ a o, C.hb.get? a = some o → s.heap.get? a = some o := fun a o e => hz a o (hbz a o e)
  have hzW : ∀ b, GW a Wr b → z b = none := fun b h => by
    rcases h1 b h with h | h
    · exact hWz b h
    · exact fresh_none hz h
  have hn0 : n = 0 := by
    have := congrArg List.length hx
    simp at this
    omega
  subst hn0
  refine mine_pyNext_genQ hA (ok.nolimit.keeps hb) hroom hg hgs hgo (fun v s₁ gs' hbare hY => ?_) (fun s₁ hP h' hk => ?_)
  · obtain ⟨x', hx', hlt, _, sw, hlive, hres⟩ := hY
    exact (hres s₁ (fun _ _ _ q => q) fun c o q => sw.old c o (fun h => by have := hbz c o q; rw [hzW c (.inr h)] at this; cases this) (hb c o q)).elim
  · obtain ⟨_, sw⟩ := hP
    obtain ⟨h1s, tk, es⟩ := sw.same
    have old : ∀ c o, ¬ Wr c → s.heap.get? c = some o → s₁.heap.get? c = some o := sw.old
    refine ⟨rfl, ⟨by rw [es]; exact ⟨_, _, _, rfl⟩, fun c o hc q => hk c o (old c o (fun h => ?_) q), ZLe.refl z, fun c o q => hk c o (old c o (fun h => ?_) (hz c o q)), fun c o q => .inl q, fun h => (by rw [hmd] at h; cases h), fun h => ?_⟩⟩
    · rcases h1 c (.inr h) with h | h
      · exact hc h
      · rw [h] at q; cases q
    · rw [hzW c (.inr h)] at q; cases q
    · refine setGen_bare (s := s₁) ?_ rfl
      rw [sw.gens]
      exact setGen_bare h rfl
end
end
end Mine
namespace Mine
section
variable {C : Cst} {A : Around} {env : Env} {z : Zm} {s : Shared} {P : PEnv}
theorem gSt.ready {a : Addr} {g : Nat} {l : List Nat} {xs : List PV} {W₀ : Addr → Prop} (ok : C.Ok) (B : Bi C) (hA : A.handled = none) (G : GK C env (stScope (stAt iIter))) (hi : interactive env = false)
    (hbz : HbZ C z) (hz : ZIn z s) (st : gSt C A env a g l xs W₀ z s) :
    ∃ (e it : Addr) (n : Nat), ¬ W3 env.locals e it a ∧ (∀ b, W₀ b → GW a (W3 env.locals e it) b) ∧ (∀ b, GW a (W3 env.locals e it) b → W₀ b ∨ s.heap.get? b = none) ∧
      GReady C A (W3 env.locals e it) (escY l 0 0 false) g n s ∧ xs = ((escY l 0 0 false).drop ((escY l 0 0 false).length - n)).map escV := by
  obtain ⟨hg, hlive, hb0, hal, h | h⟩ := st
  · obtain ⟨rfl, hgs, gi, rfl⟩ := h
    obtain ⟨o, _, _, ho, _⟩ := hg
    have hlt := Heap.lt_size ho
    have nn : ∀ k : Nat, s.heap.get? (s.heap.objs.size + k) = none := fun k => by
      cases q : s.heap.get? (s.heap.objs.size + k) with
      | none => rfl
      | some o => exact absurd (Heap.lt_size q) (Nat.not_lt.mpr (Nat.le_add_right _ _))
    refine ⟨s.heap.objs.size + 1, s.heap.objs.size, (escY l 0 0 false).length, ?_, ?_, ?_, ⟨Nat.le_refl _, _, hgs, rfl, ?_⟩, by simp⟩
    · rintro (h | h | h)
      · exact hal h
      · exact absurd hlt (by rw [h]; exact Nat.not_lt.mpr (Nat.le_succ _))
      · exact absurd hlt (by rw [h]; exact Nat.lt_irrefl _)
    · rintro b (h | h)
      · exact .inl h
      · exact .inr (.inl h)
    · rintro b (h | h | h | h)
      · exact .inl (.inl h)
      · exact .inl (.inr h)
      · rw [h]; exact .inr (nn 1)
      · rw [h]; exact .inr (nn 0)
    · exact gen_start (A := A.in1) (s := s.setGen g .running) ok B hA G hi gi
  · obtain ⟨e, it, n, rfl, rfl, gs, hgs, hn, hna, hgo⟩ := h
    exact ⟨e, it, n, hna, fun b h => h, fun b h => .inl h, ⟨hn, gs, hgs, hgo (s.setGen g .running) (fun _ _ _ q => q) fun c o q => hz c o (hbz c o q)⟩, rfl⟩
theorem itr_gen {a : Addr} {g : Nat} {l : List Nat} (ok : C.Ok) (B : Bi C) (hmd : C.md = false) (hA : A.handled = none) (hroom : A.depth < recursionLimit) (G : GK C env (stScope (stAt iIter))) (hi : interactive env = false) :
    Itr C A (.ref a) true (gSt C A env a g l) where
  frame := fun xs Wr z s z' s' st hle hz' hb' hk hgens => by
    obtain ⟨hg, hlive, hb0, hal, h⟩ := st
    have hgen : s'.gens = s.gens := hgens rfl
    have hWa : Wr a := by
      rcases h with h | ⟨e, it, n, h, _⟩
      · rw [h.1]; exact .inl rfl
      · rw [h]; exact .inl rfl
    refine ⟨?_, fun b hb => ?_, hb0, hal, ?_⟩
    · obtain ⟨o, nm, qn, ho, r⟩ := hg
      exact ⟨o, nm, qn, hk a o hWa ho, r⟩
    · obtain ⟨o, ho⟩ := Option.isSome_iff_exists.mp (hlive b hb)
      rw [hk b o hb ho]; rfl
    · rcases h with ⟨h1, h2, h3, h4⟩ | ⟨e, it, n, h1, h2, gs, h3, h4, h5, h6⟩
      · refine .inl ⟨h1, by rw [hgen]; exact h2, h3.keeps G (fun o q => hk _ o (by rw [h1]; exact .inr rfl) q) (fun c o q => hz' c o (hb' c o q)), h4⟩
      · refine .inr ⟨e, it, n, h1, h2, gs, by rw [hgen]; exact h3, h4, h5, fun s'' q1 q2 => h6 s'' (fun b o hb q => q1 b o hb (hk b o (by rw [h1]; exact .inr hb) q)) q2⟩
  live := fun xs Wr z s st => st.2.1
  item := fun x xs Wr z s hbz hz hWz st => by
    obtain ⟨e, it, n, hae, h0, h1, hr, hx⟩ := st.ready ok B hA G hi hbz hz
    have hWa : Wr a := by
      rcases h1 a (.inl rfl) with q | q
      · exact q
      · obtain ⟨⟨o, _, _, ho, _⟩, _⟩ := st
        rw [ho] at q; cases q
    exact gen_turn ok hmd hA hroom hbz hz hWz st.1 st.2.2.2.1 rfl hae h0 h1 st.2.2.1 st.2.1 hr hx
  done := fun Wr z s hbz hz hWz st => by
    obtain ⟨e, it, n, hae, h0, h1, hr, hx⟩ := st.ready ok B hA G hi hbz hz
    exact gen_end ok hmd hA hroom hbz hz hWz st.1 h1 hr hx
  self := fun xs Wr z s st => wpAny_pyIter_gen st.1 ⟨rfl, rfl⟩
  let_ := fun xs Wr z s tgt v st => by
    obtain ⟨⟨o, nm, qn, ho, hc, r⟩, _⟩ := st
    exact let_plain ho hc (by decide)
theorem ItE_iter {sc : Scope} {p pos : Pos} {arg : Expr} {l : List Nat} (ok : C.Ok) (B : Bi C) (hmd : C.md = false) (hr : Room A 1) (hE : EnvOf sc env) (hk : sc.names.lookup ("_iter_escaped_chars" : Str) = some NameKind.globalImplicit)
    (D : DefG C "_iter_escaped_chars" (stArgs (stAt iIter)) itB (stScope (stAt iIter))) (ha : Ev C A env P arg (.str l)) (hns : noStar arg = true := by rfl) :
    ItE C A env P (.Call (.Name "_iter_escaped_chars" p) [arg] [] pos) true ((escY l 0 0 false).map escV) := fun s z ep => by
  obtain ⟨f, hgf, hD⟩ := D
  obtain ⟨o', name, qual, pm, c, doc, ho, hdat, hcd⟩ := hD.at_
  refine wpAny_Call_NameR (eval_global ok ep (hE.k hk) hgf ?_)
  have hev : Evs C A env P [arg] [.str l] := .cons ha .nil hns
  refine CallW.func ho hdat A pos [] _ _ s (hev.plain pos) (wpAny_mono (evs_spliced hev pos ep) (fun vs s₁ h₁ => ?_) fun _ _ x => x)
  obtain ⟨z₁, g₁, rl⟩ := h₁
  obtain ⟨v, rfl, rv⟩ := repL_one rl
  simp only [Rep] at rv
  obtain ⟨t, rfl⟩ := rv
  have ep₁ := ep.grow g₁
  refine ⟨ep₁.hbk, ?_⟩
  have old := ep₁.hbk
  refine wpAny_call (codeAny_call_generator (fd := methDef name qual (stArgs (stAt iIter)) itB (stScope (stAt iIter)) pm (.ref c) doc) hr.depth (old _ _ ho) hdat rfl rfl rfl (hcd.keeps old) ?_)
  have hbind : bindArgs (methDef name qual (stArgs (stAt iIter)) itB (stScope (stAt iIter)) pm (.ref c) doc) ⟨[] ++ [.str ⟨l.toArray⟩ t], []⟩ = pure [(("addr" : Str), Value.str ⟨l.toArray⟩ t)] := rfl
  rw [hbind]
  refine wpAny_pure (wpAny_newFunctionEnv_cells rfl (fun x hx => ?_) fun genv he s₂ IC => ?_)
  · simp only [List.mem_cons, List.not_mem_nil, or_false] at hx
    subst hx
    exact .inl rfl
  · obtain ⟨⟨⟨h₁, tk, rfl⟩, ns, keep, fresh⟩, cell, apart, above⟩ := IC
    have hEs : genv.scope = stScope (stAt iIter) := by rw [he]; rfl
    have hcells : genv.cells = [] := by rw [he]; rfl
    have hL : s₁.heap.get? genv.locals = none := by
      cases q : s₁.heap.get? genv.locals with
      | none => rfl
      | some o => exact absurd (Heap.lt_size q) (Nat.not_lt.mpr fresh)
    have back : ∀ b, s₁.heap.get? b = none → s.heap.get? b = none := fun b h => by
      cases q : s.heap.get? b with
      | none => rfl
      | some o => rw [g₁.keeps.old b o q] at h; cases h
    have ha1 : s₁.heap.get? h₁.objs.size = none := by
      cases q : s₁.heap.get? h₁.objs.size with
      | none => rfl
      | some o => have := keep _ _ q; rw [show ({ s₁ with heap := h₁, toks := tk } : Shared).heap = h₁ from rfl, get_size_none] at this; cases this
    have hLlt : genv.locals < h₁.objs.size := by obtain ⟨o, _, _, ho, _⟩ := ns; exact Heap.lt_size ho
    have G : GK C genv (stScope (stAt iIter)) :=
      { eo := ⟨by rw [hEs], by rw [hEs]; rfl, fun x hx => (by
          have : ((stScope (stAt iIter)).names.lookup x) ≠ some .cell := by
            intro h
            have hm := mem_of_lookup h
            have hall : (stScope (stAt iIter)).names.all (fun p => !(p.2 == NameKind.cell)) = true := by with_unfolding_all rfl
            have := List.all_eq_true.mp hall _ hm
            exact absurd this (by simp)
          exact absurd hx this), by unfold Env.blockKind; rw [hEs]; rfl⟩
        fn := by rw [hEs]; rfl
        gl := by rw [he]; rfl
        bu := by rw [he]; rfl
        cells := hcells
        hbL := by
          cases q : C.hb.get? genv.locals with
          | none => rfl
          | some o => rw [ep₁.hbk _ _ q] at hL; cases hL
        nco := by rw [hEs]; rfl }
    refine ⟨ok.nolimit.keeps fun b o q => keep b o (old b o q), ?_⟩
    refine wpAny_pyIter_gen (g := s₁.gens.size) ⟨_, _, _, Heap.get?_push_size _ rfl, rfl, rfl, rfl⟩ ?_
    have hhb : ∀ b, s₁.heap.get? b = none → C.hb.get? b = none := fun b h => by
      cases q : C.hb.get? b with
      | none => rfl
      | some o => rw [ep₁.hbk _ _ q] at h; cases h
    have up : ∀ b o, h₁.get? b = some o → (h₁.push { cls := .type "generator", data := .fields #[.int s₁.gens.size 0, .str name tk, .str qual (tk + 1)] }).get? b = some o := fun b o q => Heap.get?_push_of_some _ q
    refine ⟨z₁, GW h₁.objs.size (· = genv.locals), gSt C A genv h₁.objs.size s₁.gens.size l, g₁.trans (Grow.same g₁.zin ⟨_, _, _, rfl, fun b o q => up b o (keep b o q), fun h => (by rw [hmd] at h; cases h), fun h => h.push rfl⟩), ?_,
      itr_gen ok B hmd hr.1 hr.depth G (by rw [he]; rfl), ?_⟩
    · rintro b (rfl | rfl)
      · exact ⟨fresh_none g₁.zin ha1, back _ ha1⟩
      · exact ⟨fresh_none g₁.zin hL, back _ hL⟩
    · refine ⟨⟨_, _, _, Heap.get?_push_size _ rfl, rfl, rfl, rfl⟩, ?_, ?_, (Nat.ne_of_gt hLlt), .inl ⟨rfl, ?_, ⟨fun b o q => up b o (keep b o (old b o q)), ⟨_, ns.keeps up⟩, fun x pv hx => ?_⟩, rfl⟩⟩
      · rintro b (rfl | rfl)
        · show (Heap.get? (h₁.push _) _).isSome = true
          rw [Heap.get?_push_size _ rfl]; rfl
        · obtain ⟨o, _, _, ho, _⟩ := ns
          exact Option.isSome_iff_exists.mpr ⟨_, up _ _ ho⟩
      · rintro b (rfl | rfl)
        · exact hhb _ ha1
        · exact hhb _ hL
      · simp
      · by_cases e : x = ("addr" : Str)
        · subst e
          simp [List.lookup] at hx
          subst hx
          refine ⟨.str _, .str ⟨l.toArray⟩ t, ⟨by decide, .inl ⟨G.eo.k rfl, _, ns.keeps up, ?_⟩⟩, rep_str _ _⟩
          have := (bind_get genv.kindOf [(("addr" : Str), Value.str ⟨l.toArray⟩ t)] (fun _ => none) (fun _ => none) "addr" _ (by simp) rfl).1 (G.eo.k rfl)
          exact this
        · have : (x == ("addr" : Str)) = false := beq_eq_false_iff_ne.mpr e
          simp [List.lookup, this] at hx
end
end Mine
namespace Mine
theorem Lp_foldl {B : PV → PEnv → OEnv → Out → Prop} {σ τ : Type} (V : τ → PV) (sp : σ → PEnv) (sw : σ → OEnv) (f : σ → τ → σ) (N : Nat) (Inv : Nat → σ → Prop)
    (hB : ∀ k s x, k < N → Inv k s → B (V x) (sp s) (sw s) (.next (sp (f s x)) (sw (f s x)))) (hI : ∀ k s x, k < N → Inv k s → Inv (k + 1) (f s x)) :
    ∀ (xs : List τ) (k : Nat) (s : σ), k + xs.length ≤ N → Inv k s → Lp B (xs.map V) (sp s) (sw s) (.next (sp (xs.foldl f s)) (sw (xs.foldl f s))) ∧ Inv (k + xs.length) (xs.foldl f s)
  | [], k, s, _, h => ⟨.nil, h⟩
  | x :: xs, k, s, hk, h => by
    simp only [List.length_cons] at hk
    obtain ⟨l, i⟩ := Lp_foldl V sp sw f N Inv hB hI xs (k + 1) (f s x) (by omega) (hI k s x (by omega) h)
    refine ⟨.step (hB k s x (by omega) h) l, ?_⟩
    rw [List.length_cons, show k + (xs.length + 1) = k + 1 + xs.length by omega]
    exact i
theorem escY_length : ∀ (l : List Nat) (i : Nat) (p : Int) (b : Bool), (escY l i p b).length ≤ l.length + 1
  | [], _, _, true => by simp [escY]
  | [], _, _, false => by simp [escY]
  | c :: r, i, p, true => by simp only [escY, List.length_cons]; have := escY_length r (i + 1) i false; omega
  | c :: r, i, p, false => by
    simp only [escY]
    split
    · have := escY_length r (i + 1) i true; simp only [List.length_cons]; omega
    · simp only [List.length_cons]; have := escY_length r (i + 1) i false; omega
structure StS where
  st : Int
  op : Option Int
  rs : List (List Nat)
def stp (l : List Nat) (s : StS) (x : Int × List Nat) : StS :=
  if x.2 = [34] then match s.op with
    | none => ⟨s.st, some x.1, s.rs⟩
    | some o => ⟨x.1 + 1, none, if s.st = o then s.rs else s.rs ++ [pySlice l (some s.st) (some o)]⟩
  else s
def stripY (l : List Nat) : List Nat :=
  if 34 ∈ l then
    let s := (escY l 0 0 false).foldl (stp l) ⟨0, none, []⟩
    joinL [] (if s.st < l.length then s.rs ++ [pySlice l (some s.st) none] else s.rs)
  else l
def opPV : Option Int → PV
  | none => .none
  | some o => .int o
abbrev Ps (l : List Nat) (s : StS) : PEnv := [("addr", .str l), ("start", .int s.st), ("open_pos", opPV s.op)]
abbrev Ws (s : StS) : OEnv := [("result", s.rs.map .str)]
abbrev stripB : List Stmt := stBody (stAt iStrip)
abbrev stripFor : Stmt := nthS stripB 4
structure ChkG (C : Cst) : Prop where
  ok : C.Ok
  bi : Bi C
  md : C.md = false
  iter : DefG C "_iter_escaped_chars" (stArgs (stAt iIter)) itB (stScope (stAt iIter))
  strip : DefG C "_strip_quoted_realnames" (stArgs (stAt iStrip)) (stBody (stAt iStrip)) (stScope (stAt iStrip))
  chk : DefG C "_check_parenthesis" (stArgs (stAt iCheck)) (stBody (stAt iCheck)) (stScope (stAt iCheck))
section
variable {C : Cst} {A : Around} {env : Env} {X : Zm}
def sInv (l : List Nat) (k : Nat) (s : StS) : Prop := s.rs.length ≤ k ∧ ∀ r ∈ s.rs, r.length ≤ l.length
theorem turn_strip (hr : Room A 1) (hE : EnvOf (stScope (stAt iStrip)) env) {l : List Nat} (hl : l.length ≤ 500) {k : Nat} {s : StS} {x : Int × List Nat} (hk : k < 600) (hi : sInv l k s) :
    Turn C A env X (forTgt stripFor) (forBody stripFor) (escV x) (Ps l s) (Ws s) (.next (Ps l (stp l s x)) (Ws (stp l s x))) := by
  obtain ⟨pos, ch⟩ := x
  obtain ⟨st, op, rs⟩ := s
  have hlen : rs.length ≤ k := hi.1
  refine ⟨_, _, AsgT_pair hr.1 (hE.loc rfl) (hE.loc rfl), fun X' hX => ?_⟩
  by_cases h : ch = [34]
  · refine Ex_cons (Ex1_if (b := true) (.of (Tst_eq (by simp [h]) (Tst_cmp (Ev_name rfl) (Ev_str (l := [34]) rfl) (op_eqS (a := ch) (b := [34]))))) (fun _ => ?_) (fun h => by cases h)) Ex_nil
    cases op with
    | none =>
      have e : stp l ⟨st, none, rs⟩ (pos, ch) = ⟨st, some pos, rs⟩ := by simp [stp, h]
      rw [e]
      refine Ex_cons (Ex1_if (b := true) (.of (Tst_cmp (Ev_name rfl) Ev_none op_is_none_none)) (fun _ => Ex_cons (Ex1_assign (hE.loc rfl) (.of (Ev_name rfl))) Ex_nil) (fun h => by cases h)) ?_
      exact Ex_conseq Ex_nil (PSub_cons rfl (PSub_cons rfl (PSub_cons rfl (PSub.nil _)))) (PSub_cons rfl (PSub.nil _))
    | some o =>
      refine Ex_cons (Ex1_if (b := false) (.of (Tst_cmp (Ev_name rfl) Ev_none op_is_int_none)) (fun h => by cases h) (fun _ => ?_)) Ex_nil
      by_cases h' : st = o
      · have e : stp l ⟨st, some o, rs⟩ (pos, ch) = ⟨pos + 1, none, rs⟩ := by simp [stp, h, h']
        rw [e]
        refine Ex_cons (Ex1_if (b := false) (.of (Tst_eq (by simp [h']) (Tst_cmp (Ev_name rfl) (Ev_name rfl) (op_ne (a := st) (b := o))))) (fun h => by cases h) (fun _ => Ex_nil)) ?_
        refine Ex_cons (Ex1_assign (hE.loc rfl) (.of (Ev_bin (Ev_name rfl) Ev_int op_add))) ?_
        refine Ex_cons (Ex1_assign (hE.loc rfl) (.of Ev_none)) ?_
        exact Ex_conseq Ex_nil (PSub_cons rfl (PSub_cons rfl (PSub_cons rfl (PSub.nil _)))) (PSub_cons rfl (PSub.nil _))
      · have e : stp l ⟨st, some o, rs⟩ (pos, ch) = ⟨pos + 1, none, rs ++ [pySlice l (some st) (some o)]⟩ := by simp [stp, h, h']
        rw [e]
        refine Ex_cons (Ex1_if (b := true) (.of (Tst_eq (by simp [h']) (Tst_cmp (Ev_name rfl) (Ev_name rfl) (op_ne (a := st) (b := o))))) (fun _ => Ex_cons (Ex1_append (a := .str (pySlice l (some st) (some o))) rfl (.of (Ev_sliceS (Ev_name rfl) (.int (Ev_name rfl)) (.int (Ev_name rfl)) (by omega))) (by simp; omega) (hm := hE.kind)) Ex_nil)
          (fun h => by cases h)) ?_
        refine Ex_cons (Ex1_assign (hE.loc rfl) (.of (Ev_bin (Ev_name rfl) Ev_int op_add))) ?_
        refine Ex_cons (Ex1_assign (hE.loc rfl) (.of Ev_none)) ?_
        exact Ex_conseq Ex_nil (PSub_cons rfl (PSub_cons rfl (PSub_cons rfl (PSub.nil _)))) (PSub_cons (congrArg some (by simp)) (PSub.nil _))
  · have e : stp l ⟨st, op, rs⟩ (pos, ch) = ⟨st, op, rs⟩ := by simp [stp, h]
    rw [e]
    refine Ex_cons (Ex1_if (b := false) (.of (Tst_eq (by simp [h]) (Tst_cmp (Ev_name rfl) (Ev_str (l := [34]) rfl) (op_eqS (a := ch) (b := [34]))))) (fun h => by cases h) (fun _ => Ex_nil)) ?_
    exact Ex_conseq Ex_nil (PSub_cons rfl (PSub_cons rfl (PSub_cons rfl (PSub.nil _)))) (PSub_cons rfl (PSub.nil _))
theorem sInv_step {l : List Nat} {k : Nat} {s : StS} {x : Int × List Nat} (hi : sInv l k s) : sInv l (k + 1) (stp l s x) := by
  obtain ⟨pos, ch⟩ := x
  obtain ⟨st, op, rs⟩ := s
  obtain ⟨h1, h2⟩ := hi
  simp only at h1 h2
  unfold stp
  split
  · cases op with
    | none => exact ⟨Nat.le_succ_of_le h1, h2⟩
    | some o =>
      simp only
      split
      · exact ⟨Nat.le_succ_of_le h1, h2⟩
      · refine ⟨by simp; omega, fun r hr => ?_⟩
        rcases List.mem_append.mp hr with h | h
        · exact h2 r h
        · rw [List.mem_singleton.mp h]; exact pySlice_length_le _ _ _
  · exact ⟨Nat.le_succ_of_le h1, h2⟩
theorem sum_le_mul {m : Nat} : ∀ (xs : List (List Nat)), (∀ r ∈ xs, r.length ≤ m) → (xs.map List.length).sum ≤ xs.length * m
  | [], _ => by simp
  | x :: xs, h => by
    have := sum_le_mul xs fun r hr => h r (List.mem_cons_of_mem _ hr)
    have := h x List.mem_cons_self
    simp only [List.map_cons, List.sum_cons, List.length_cons, Nat.succ_mul]
    omega
set_option maxHeartbeats 4000000 in
theorem strip_fun (G : ChkG C) {l : List Nat} (hl : l.length ≤ 500) : Fun C "_strip_quoted_realnames" 2 [.str l] (.str (stripY l)) := by
  refine fun_of (names := ["addr"]) (o := .ret (.str (stripY l))) G.ok G.strip ?_ rfl (by decide) ?_ ?_ ?_ (.inl ⟨_, rfl⟩)
  · intro name qual pm code doc vs hv
    match vs, hv with
    | [u], _ => rfl
  · intro x hx
    simp only [List.mem_cons, List.not_mem_nil, or_false] at hx
    rcases hx with rfl
    exact .inl rfl
  · intro x hx
    simp only [List.mem_cons, List.not_mem_nil, or_false] at hx
    rcases hx with rfl
    decide
  · intro A env hr hE
    unfold stripY
    by_cases h : 34 ∈ l
    · rw [if_pos h]
      refine Ex_cons (Ex1_if (b := false) (.of (Tst_eq (by simp [h]) (Tst_cmp (Ev_str (l := [34]) rfl) (Ev_name rfl) (op_notInS (c := 34) (l := l))))) (fun h => by cases h) (fun _ => Ex_nil)) ?_
      refine Ex_cons (Ex1_assign (hE.loc rfl) (.of Ev_int)) ?_
      refine Ex_cons (Ex1_assign (hE.loc rfl) (.of Ev_none)) ?_
      refine Ex_cons (Ex1_assignN (hE.loc rfl) (.of (EvN_list .nil (by simp)))) ?_
      refine Ex_weak (P' := Ps l ⟨0, none, []⟩) (W' := Ws ⟨0, none, []⟩) ?_ (PSub_cons rfl (PSub_cons rfl (PSub_cons rfl (PSub.nil _)))) (PSub_cons rfl (PSub.nil _))
      have hle := escY_length l 0 0 false
      obtain ⟨lp, hinv⟩ := Lp_foldl (B := Turn (C.mode true) A env NoX (forTgt stripFor) (forBody stripFor)) escV (Ps l) Ws (stp l) 550 (sInv l) (fun k s x hk hi => turn_strip hr hE hl (by omega) hi) (fun k s x hk hi => sInv_step hi)
        (escY l 0 0 false) 0 ⟨0, none, []⟩ (by omega) ⟨by simp, by simp⟩
      refine Ex_cons (Ex1_for (gen := true) (mb := true) (fun _ => rfl) (fun _ => rfl) (.of (ItE_iter G.ok G.bi G.md hr hE rfl G.iter (Ev_name rfl))) lp) ?_
      generalize (escY l 0 0 false).foldl (stp l) ⟨0, none, []⟩ = s at hinv ⊢
      have hlen : ∀ {P : PEnv} {x : Str} {p1 p2 pos : Pos}, P.lookup x = some (.str l) → Ev C A env P (.Call (.Name "len" p1) [.Name x p2] [] pos) (.int l.length) := fun h =>
        Ev_call G.ok (hE.k rfl) G.bi.len (CallW.builtin _) (.cons (Ev_name h) .nil rfl) (opC_len_str (by omega))
      have hfin : ∀ (rs : List (List Nat)), rs.length ≤ 600 → (∀ r ∈ rs, r.length ≤ l.length) → Ex C A env NoX (Ps l s) [("result", rs.map .str)] (stripB.drop 6) (.ret (.str (joinL [] rs))) := fun rs h1 h2 => by
        refine Ex_freeze (x := "result") rfl ?_
        refine Ex_ret (Ex1_return (.of (Ev_methS (l := []) (Ev_str (l := []) rfl) (.cons (Ev_name rfl) .nil rfl) PySem.F.slot_str_join PySem.F.type_str_join (opC_join ?_))))
        have := sum_le_mul rs h2
        have h3 : rs.length * l.length ≤ 600 * 500 := Nat.mul_le_mul h1 hl
        simp
        omega
      have hs1 := hinv.1
      have hs2 := hinv.2
      by_cases h2 : s.st < l.length
      · simp only [if_pos h2]
        refine Ex_cons (Ex1_if (b := true) (.of (Tst_eq (by simpa using h2) (Tst_cmp (Ev_name rfl) (hlen rfl) (op_lt (a := s.st) (b := l.length))))) (fun _ => Ex_cons (Ex1_append (a := .str (pySlice l (some s.st) none)) rfl (.of (Ev_sliceS (Ev_name rfl) (.int (Ev_name rfl)) .nil (by omega)))
          (by simp; omega) (hm := hE.kind)) Ex_nil) (fun h => by cases h)) ?_
        refine Ex_weak (hfin (s.rs ++ [pySlice l (some s.st) none]) (by simp; omega) (fun r hr => ?_)) (PSub.refl _) (PSub_cons (congrArg some (by simp)) (PSub.nil _))
        rcases List.mem_append.mp hr with h | h
        · exact hs2 r h
        · rw [List.mem_singleton.mp h]; exact pySlice_length_le _ _ _
      · simp only [if_neg h2]
        refine Ex_cons (Ex1_if (b := false) (.of (Tst_eq (by simpa using h2) (Tst_cmp (Ev_name rfl) (hlen rfl) (op_lt (a := s.st) (b := l.length))))) (fun h => by cases h) (fun _ => Ex_nil)) ?_
        exact hfin s.rs (by omega) hs2
    · rw [if_neg h]
      exact Ex_ret (Ex1_if (b := true) (.of (Tst_eq (by simp [h]) (Tst_cmp (Ev_str (l := [34]) rfl) (Ev_name rfl) (op_notInS (c := 34) (l := l))))) (fun _ => Ex_ret (Ex1_return (.of (Ev_name rfl)))) (fun h => by cases h))
end
end Mine
namespace Mine
def chk : Int → List (Int × List Nat) → Bool
  | o, [] => decide (o = 0)
  | o, (_, ch) :: r => if ch = [40] then chk (o + 1) r else if ch = [41] then (if o - 1 < 0 then false else chk (o - 1) r) else chk o r
def checkY (l : List Nat) : Bool := chk 0 (escY (stripY l) 0 0 false)
theorem joinL_nil_length (m : Nat) : ∀ xs : List (List Nat), (joinL [] xs).length = (xs.map List.length).sum
  | [] => rfl
  | [x] => by simp [joinL]
  | x :: y :: r => by
    have := joinL_nil_length m (y :: r)
    simp only [joinL, List.append_nil, List.length_append, this, List.map_cons, List.sum_cons]
abbrev chkB : List Stmt := stBody (stAt iCheck)
abbrev chkFor : Stmt := nthS chkB 2
abbrev Pk (l : List Nat) (o : Int) : PEnv := [("addr", .str l), ("opens", .int o)]
section
variable {C : Cst} {A : Around} {env : Env} {X : Zm}
theorem turn_chk (hr : Room A 1) (hE : EnvOf (stScope (stAt iCheck)) env) {l : List Nat} {o pos : Int} {ch : List Nat} :
    Turn C A env X (forTgt chkFor) (forBody chkFor) (escV (pos, ch)) (Pk l o) []
      (if ch = [40] then .next (Pk l (o + 1)) [] else if ch = [41] then (if o - 1 < 0 then .ret (.bool false) else .next (Pk l (o - 1)) []) else .next (Pk l o) []) := by
  refine ⟨_, _, AsgT_pair hr.1 (hE.loc rfl) (hE.loc rfl), fun X' hX => ?_⟩
  by_cases h : ch = [40]
  · rw [if_pos h]
    refine Ex_cons (Ex1_if (b := true) (.of (Tst_eq (by simp [h]) (Tst_cmp (Ev_name rfl) (Ev_str (l := [40]) rfl) (op_eqS (a := ch) (b := [40]))))) (fun _ => Ex_cons (Ex1_aug (hE.loc rfl) rfl Ev_int op_iadd) Ex_nil) (fun h => by cases h)) ?_
    exact Ex_conseq Ex_nil (PSub_cons rfl (PSub_cons rfl (PSub.nil _))) (PSub.nil _)
  · rw [if_neg h]
    by_cases h2 : ch = [41]
    · rw [if_pos h2]
      by_cases h3 : o - 1 < 0
      · rw [if_pos h3]
        refine Ex_ret (Ex1_if (b := false) (.of (Tst_eq (by simp [h]) (Tst_cmp (Ev_name rfl) (Ev_str (l := [40]) rfl) (op_eqS (a := ch) (b := [40]))))) (fun h => by cases h) (fun _ => ?_))
        refine Ex_ret (Ex1_if (b := true) (.of (Tst_eq (by simp [h2]) (Tst_cmp (Ev_name rfl) (Ev_str (l := [41]) rfl) (op_eqS (a := ch) (b := [41]))))) (fun _ => Ex_cons (Ex1_aug (hE.loc rfl) rfl Ev_int op_isub) ?_) (fun h => by cases h))
        exact Ex_ret (Ex1_if (b := true) (.of (Tst_eq (by simp; omega) (Tst_cmp (Ev_name rfl) Ev_int (op_lt (a := o - 1) (b := 0))))) (fun _ => Ex_ret (Ex1_return (.of Ev_bool))) (fun h => by cases h))
      · rw [if_neg h3]
        refine Ex_cons (P' := upd (upd (upd (Pk l o) "pos" (.int pos)) "ch" (.str ch)) "opens" (.int (o - 1))) (W' := []) (Ex1_if (b := false) (.of (Tst_eq (by simp [h]) (Tst_cmp (Ev_name rfl) (Ev_str (l := [40]) rfl) (op_eqS (a := ch) (b := [40]))))) (fun h => by cases h) (fun _ => ?_)) ?_
        · refine Ex_cons (Ex1_if (b := true) (.of (Tst_eq (by simp [h2]) (Tst_cmp (Ev_name rfl) (Ev_str (l := [41]) rfl) (op_eqS (a := ch) (b := [41]))))) (fun _ => Ex_cons (Ex1_aug (hE.loc rfl) rfl Ev_int op_isub) ?_) (fun h => by cases h)) Ex_nil
          exact Ex_cons (Ex1_if (b := false) (.of (Tst_eq (by simp; omega) (Tst_cmp (Ev_name rfl) Ev_int (op_lt (a := o - 1) (b := 0))))) (fun h => by cases h) (fun _ => Ex_nil)) Ex_nil
        · exact Ex_conseq Ex_nil (PSub_cons rfl (PSub_cons rfl (PSub.nil _))) (PSub.nil _)
    · rw [if_neg h2]
      refine Ex_cons (Ex1_if (b := false) (.of (Tst_eq (by simp [h]) (Tst_cmp (Ev_name rfl) (Ev_str (l := [40]) rfl) (op_eqS (a := ch) (b := [40]))))) (fun h => by cases h)
        (fun _ => Ex_cons (Ex1_if (b := false) (.of (Tst_eq (by simp [h2]) (Tst_cmp (Ev_name rfl) (Ev_str (l := [41]) rfl) (op_eqS (a := ch) (b := [41]))))) (fun h => by cases h) (fun _ => Ex_nil)) Ex_nil)) ?_
      exact Ex_conseq Ex_nil (PSub_cons rfl (PSub_cons rfl (PSub.nil _))) (PSub.nil _)
theorem lp_chk (hr : Room A 1) (hE : EnvOf (stScope (stAt iCheck)) env) {l : List Nat} : ∀ (xs : List (Int × List Nat)) (o : Int),
    ∃ out, Lp (Turn C A env X (forTgt chkFor) (forBody chkFor)) (xs.map escV) (Pk l o) [] out ∧ ((out = .ret (.bool false) ∧ chk o xs = false) ∨ ∃ o', out = .next (Pk l o') [] ∧ chk o xs = decide (o' = 0))
  | [], o => ⟨_, .nil, .inr ⟨o, rfl, rfl⟩⟩
  | (pos, ch) :: xs, o => by
    have t := turn_chk (X := X) (C := C) hr hE (l := l) (o := o) (pos := pos) (ch := ch)
    simp only [chk, List.map_cons]
    by_cases h : ch = [40]
    · rw [if_pos h] at t ⊢
      obtain ⟨out, a, b⟩ := lp_chk hr hE (l := l) xs (o + 1)
      exact ⟨out, .step t a, b⟩
    · rw [if_neg h] at t ⊢
      by_cases h2 : ch = [41]
      · rw [if_pos h2] at t ⊢
        by_cases h3 : o - 1 < 0
        · rw [if_pos h3] at t ⊢
          exact ⟨_, .ret t, .inl ⟨rfl, rfl⟩⟩
        · rw [if_neg h3] at t ⊢
          obtain ⟨out, a, b⟩ := lp_chk hr hE (l := l) xs (o - 1)
          exact ⟨out, .step t a, b⟩
      · rw [if_neg h2] at t ⊢
        obtain ⟨out, a, b⟩ := lp_chk hr hE (l := l) xs o
        exact ⟨out, .step t a, b⟩
theorem chk_fun (G : ChkG C) {l : List Nat} (hl : l.length ≤ 500) : Fun C "_check_parenthesis" 3 [.str l] (.bool (checkY l)) := by
  refine fun_of (names := ["addr"]) (o := .ret (.bool (checkY l))) G.ok G.chk ?_ rfl (by decide) ?_ ?_ ?_ (.inl ⟨_, rfl⟩)
  · intro name qual pm code doc vs hv
    match vs, hv with
    | [u], _ => rfl
  · intro x hx
    simp only [List.mem_cons, List.not_mem_nil, or_false] at hx
    rcases hx with rfl
    exact .inl rfl
  · intro x hx
    simp only [List.mem_cons, List.not_mem_nil, or_false] at hx
    rcases hx with rfl
    decide
  · intro A env hr hE
    refine Ex_cons (Ex1_assign (hE.loc rfl) (.of (Ev_fun G.ok hr hE rfl (.cons (Ev_name rfl) .nil rfl) (strip_fun G hl)))) ?_
    refine Ex_cons (Ex1_assign (hE.loc rfl) (.of Ev_int)) ?_
    refine Ex_weak (P' := Pk (stripY l) 0) (W' := []) ?_ (PSub_cons rfl (PSub_cons rfl (PSub.nil _))) (PSub.nil _)
    obtain ⟨out, lp, ho⟩ := lp_chk (C := C.mode true) (A := A) (env := env) (X := NoX) (hr.less (by omega)) hE (l := stripY l) (escY (stripY l) 0 0 false) 0
    have hfor : Ex1 C A env NoX (Pk (stripY l) 0) [] chkFor out :=
      Ex1_for (gen := true) (mb := true) (fun _ => rfl) (fun _ => rfl) (.of (ItE_iter G.ok G.bi G.md (hr.less (by omega)) hE rfl G.iter (Ev_name rfl))) lp
    unfold checkY
    rcases ho with ⟨rfl, e⟩ | ⟨o', rfl, e⟩
    · rw [e]; exact Ex_ret hfor
    · rw [e]
      exact Ex_cons hfor (Ex_ret (Ex1_return (.of (Ev_cmp (Ev_name rfl) Ev_int (op_eq (a := o') (b := 0))))))
end
end Mine
namespace Mine
abbrev X2 (Ca x dx : Addr) (es : List DictEntry) (n : Nat) : Zm := fun a => if a = x then some (instObj Ca dx) else if a = dx then some (dictOf es n) else none
theorem X2.self {Ca x dx : Addr} {es : List DictEntry} {n : Nat} : X2 Ca x dx es n x = some (instObj Ca dx) := by simp [X2]
theorem X2.dict {Ca x dx : Addr} {es : List DictEntry} {n : Nat} (h : x ≠ dx) : X2 Ca x dx es n dx = some (dictOf es n) := by simp [X2, Ne.symm h]
theorem X2.other {Ca x dx : Addr} {es es' : List DictEntry} {n n' : Nat} (a : Addr) (h : a ≠ dx) : X2 Ca x dx es' n' a = X2 Ca x dx es n a := by simp [X2, h]
theorem Mv.none {X z z' : Zm} {a : Addr} {o : Obj} (m : Mv X z z') (h : z a = none) (hx : X a = some o) : z' a = none := by
  cases q : z' a with
  | none => rfl
  | some p =>
    rcases m.new a p q with h' | h'
    · rw [h] at h'; cases h'
    · rw [hx] at h'; cases h'
section
variable {C : Cst} {A : Around} {env : Env} {X : Zm} {P : PEnv} {W : OEnv} {K : Frag} {Ca : Addr}
theorem FS.reX {F : Fc} {g₀ : Array GenState} {X' z : Zm} {s : Shared} {h' : Heap} {k : Nat} {d : Addr} {o : Obj} (hro : F.ro = noRo) (f : FS C F g₀ X z s P W) (hs : Heap.SameBut d s.heap h') (hzd : z d = none) (h0 : F.s₀.heap.get? d = none)
    (hX : X d = some o) (hX' : ∀ a, a ≠ d → X' a = X a) (hd' : ∀ o, X' d = some o → h'.get? d = some o) : FS C F g₀ X' z { s with heap := h', toks := k } P W := by
  have up : ∀ b o, b ≠ d → s.heap.get? b = some o → h'.get? b = some o := fun b o hb e => (hs.2 b hb).trans e
  have nL : F.env.locals ≠ d := fun q => by have := f.locX; rw [q, hX] at this; cases this
  have nC : ∀ x c, F.env.cells.lookup x = some c → c ≠ d := fun x c hc q => by
    have := ((f.cell x c hc).2 (by rw [hro])).2.2; rw [q, hX] at this; cases this
  have fw : ∀ x v, LookV F.env s.heap x v → LookV F.env h' x v := fun x v l => l.keeps' (fun o e => up _ o nL e) fun c o hc e => up _ o (nC _ _ hc) e
  have bk : ∀ x v, LookV F.env h' x v → LookV F.env s.heap x v := fun x v l => l.keeps' (fun o e => (hs.2 _ nL).symm.trans e) fun c o hc e => (hs.2 _ (nC _ _ hc)).symm.trans e
  have zne : ∀ a o, z a = some o → a ≠ d := fun a o e q => by rw [q, hzd] at e; cases e
  have ice : ∀ c v, c ≠ d → s.heap.IsCell c v → h'.IsCell c v := fun c v hc h => by
    obtain ⟨o, ho, hd⟩ := h
    exact ⟨o, up _ _ hc ho, hd⟩
  exact
    { ep := ⟨f.ep.fn, f.ep.gl, f.ep.bu, f.ep.hz, fun a o e => up a o (zne a o e) (f.ep.zin a o e), fun x pv hx => let ⟨v, l, r⟩ := f.ep.var x pv hx; ⟨v, fw x v l, r⟩, fun x c hc => let ⟨v, hv⟩ := f.ep.cel x c hc; ⟨v, ice c v (nC x c hc) hv⟩⟩
      z0 := f.z0, znew := f.znew
      keep := fun b o e => up b o (fun q => by rw [q, h0] at e; cases e) (f.keep b o e)
      os := f.os, drawn := f.drawn, gens := f.gens, bare := f.bare
      loc := let ⟨m, o, es, p, ho, r⟩ := f.loc; ⟨m, o, es, p, up _ _ nL ho, r⟩
      locN := f.locN, locZ := f.locZ, locX := by rw [hX' _ nL]; exact f.locX
      cell := fun x c hc => ⟨let ⟨v, hv⟩ := (f.cell x c hc).1; ⟨v, ice c v (nC x c hc) hv⟩, fun hr => let ⟨h1, h2, h3⟩ := (f.cell x c hc).2 hr; ⟨h1, h2, by rw [hX' _ (nC x c hc)]; exact h3⟩⟩
      cellD := f.cellD
      own := fun x xs hx => by
        obtain ⟨a, vs, n, l, ha, rl, h1, h2, h3⟩ := f.own x xs hx
        have had : a ≠ d := fun q => by rw [q, hX] at h3; cases h3
        exact ⟨a, vs, n, fw x _ l, up a _ had ha, rl, h1, h2, by rw [hX' _ had]; exact h3⟩
      ownD := fun x y a hx hy lx ly => f.ownD x y a hx hy (bk x _ lx) (bk y _ ly)
      xin := fun a o e => by
        by_cases h : a = d
        · subst h; exact hd' o e
        · rw [hX' a h] at e; exact up a o h (f.xin a o e) }
theorem load_addr {o : Str} {x : Addr} {op : Pos} {g₀ : Array GenState} {z : Zm} {s : Shared} {F : Fc} (f : FS C F g₀ X z s P W) (hx : P.lookup o = some (.addr x)) (hd : (o == ("__debug__" : Str)) = false) {A : Around} {Q : Value → Shared → Prop} (h : Q (.ref x) s) :
    wpAny C.M A (eval (.Name o op) F.env) Q noE s := by
  refine wpAny_Name (load_name f.ep hx fun v rv => ?_) hd
  simp only [Rep] at rv
  subst rv
  exact h
theorem fs_setattr {o attr : Str} {op pos' pos : Pos} {value : Expr} {pv : PV} {x dx : Addr} {es : List DictEntry} {ns : List Str} {n : Nat} (k : ClsK C K Ca) (hx : P.lookup o = some (.addr x)) (hv : EvF C A env (X2 Ca x dx es n) P W value pv)
    (hk : KeysAre es ns) (hn : attr ∉ ns) (ht : takerIn K Ca attr = some none) (hsz : ns.length ≤ 100) (hne : x ≠ dx) {s₀ : Shared} {z₀ z : Zm} {g₀ : Array GenState} {s : Shared} (f : FS C ⟨env, A, s₀, z₀, noRo⟩ g₀ (X2 Ca x dx es n) z s P W)
    (hz : z dx = none) (h0 : s₀.heap.get? dx = none) (hd : (o == ("__debug__" : Str)) = false := by decide) (hs : swapsWith value (some (.Attribute (.Name o op) attr pos')) pos.line env = pure false := by rfl) :
    wpAny C.M A (exec (.Assign [.Attribute (.Name o op) attr pos'] value pos) env) (fun fl s' => fl = .next ∧ ∃ z' e, KeysAre (es ++ [e]) (ns ++ [attr]) ∧ Mv (X2 Ca x dx es n) z z' ∧
      FS C ⟨env, A, s₀, z₀, noRo⟩ g₀ (X2 Ca x dx (es ++ [e]) (n + 1)) z' s' P W ∧ Rep z' pv e.val) noE s := by
  refine plainObj_wpAny_Assign_Attribute (wpAny_mono (hv s₀ z₀ g₀ z s f) (fun v s₁ h₁ => ?_) fun _ _ x => x) hs
  obtain ⟨z₁, m, f₁, r, _⟩ := h₁
  refine load_addr f₁ hx hd ?_
  refine setAttr_new k f₁.ep.hbk (f₁.xin _ _ X2.self) (f₁.xin _ _ (X2.dict hne)) hk hn ht hsz fun h' hsh tk hd' hs' => ?_
  refine ⟨rfl, z₁, ⟨hsh, .str attr tk, v⟩, hk.snoc rfl, m, ?_, r⟩
  refine FS.reX rfl f₁ hs' (m.none hz (X2.dict hne)) h0 (X2.dict hne) (fun a ha => X2.other a ha) fun o e => ?_
  rw [X2.dict hne] at e
  cases e
  exact hd'
theorem EvF_attr {o attr : Str} {op pos : Pos} {pv : PV} {x dx : Addr} {es : List DictEntry} {ns : List Str} {n i : Nat} {e : DictEntry} (k : ClsK C K Ca) (hx : P.lookup o = some (.addr x)) (hk : KeysAre es ns) (hnd : ns.Nodup) (hi : ns[i]? = some attr)
    (he : es[i]? = some e) (hr : Rep NoX pv e.val) (hf : Mine.Flat pv) (ha : findIn K (.ref Ca) attr = some none) (hne : x ≠ dx) (hd : (o == ("__debug__" : Str)) = false := by decide) :
    EvF C A env (X2 Ca x dx es n) P W (.Attribute (.Name o op) attr pos) pv := fun s₀ z₀ g₀ z s f => by
  refine Attribute_name (load_addr f hx hd ?_)
  have hh : handedIn e.val = true := handed_rep (fun T => by cases hf <;> simp) hr
  refine getAttr_inst k f.ep.hbk (f.xin _ _ X2.self) (f.xin _ _ (X2.dict hne)) hk hnd hi (by simp [he]) hh ha ?_
  exact ⟨z, Mv.refl _ z, f.grow (Grow.same f.ep.zin (Kp.toks s _)), hf.rep hr, Kp.toks s _⟩
theorem ItF_str {e : Expr} {l : List Nat} (hA : A.handled = none) (h : EvF C A env X P W e (.str l)) : ItF C A env X P W e false (signs l) := fun s₀ z₀ g₀ z s f => by
  refine wpAny_mono (h s₀ z₀ g₀ z s f) (fun v s₁ h₁ => ?_) fun _ _ x => x
  obtain ⟨z₁, m, f₁, r, _⟩ := h₁
  simp only [Rep] at r
  obtain ⟨t, rfl⟩ := r
  refine wpAny_mono (itr_str hA (Grow.refl f₁.ep.zin)) (fun it s₂ h₂ => ?_) fun _ _ x => x
  obtain ⟨z₂, Wr, St, g, hW, I, st⟩ := h₂
  have f₂ := f₁.grow g
  exact ⟨z₂, Wr, St, m.trans (g.mv f₁.xin), f₂, f₁.wrOk f₂ g.keeps.old hW, I, st⟩
theorem room_under {vs : List Value} {n : Nat} (h : Room A (n + 1)) : Room (A.under (.builtin "type.__call__" ⟨.ref Ca :: vs, []⟩)) n := by
  obtain ⟨h1, h2, h3⟩ := h
  have hf : (Code.builtin "type.__call__" ⟨.ref Ca :: vs, []⟩).frames = 0 := by
    unfold Code.frames
    split <;> first | rfl | simp_all [Code.isFrame]
  have hk : (Code.builtin "type.__call__" ⟨.ref Ca :: vs, []⟩).isCaller = false := by
    unfold Code.isCaller
    split <;> first | rfl | simp_all
  have hg : (Code.builtin "type.__call__" ⟨.ref Ca :: vs, []⟩).isGuard = false := by
    show guardIds.contains "type.__call__" = false
    decide +kernel
  have hc : (Code.builtin "type.__call__" ⟨.ref Ca :: vs, []⟩).isCreation = true := rfl
  have e1 : (Code.builtin "type.__call__" ⟨.ref Ca :: vs, []⟩).weight = 1 := by simp [Code.weight, hf, hk, hg, hc]
  have e2 : (Code.builtin "type.__call__" ⟨.ref Ca :: vs, []⟩).cUnits = 1 := by simp [Code.cUnits, hf]
  refine ⟨h1, ?_, ?_⟩
  · show A.depth + (Code.builtin "type.__call__" ⟨.ref Ca :: vs, []⟩).weight + n ≤ _
    omega
  · show A.units + (Code.builtin "type.__call__" ⟨.ref Ca :: vs, []⟩).cUnits + 10 * n + 100 ≤ _
    omega
theorem cls_make {n : Nat} {f : Addr} {params : Arguments} {body : List Stmt} {scope : Scope} {names : List Str} {as pvs : List PV} {ns : List Str} (ok : C.Ok) (k : ClsK C K Ca) (D : DefAt C f params body scope)
    (hfi : findIn K (.ref Ca) "__init__" = some (some (.ref f))) (hft : typeIn K (.ref f) = some (.type "function"))
    (hp : ∀ (name qual : Str) (pm code doc : Value) (vs : List Value), vs.length = (("self" : Str) :: names).length → bindArgs (methDef name qual params body scope pm code doc) ⟨vs, []⟩ = pure ((("self" : Str) :: names).zip vs))
    (hlen : names.length = as.length) (hnd : (("self" : Str) :: names).Nodup) (hkind : ∀ x ∈ (("self" : Str) :: names), scope.names.lookup x = some .local ∨ scope.names.lookup x = some .cell) (hdbg : ∀ x ∈ (("self" : Str) :: names), (x == ("__debug__" : Str)) = false)
    (hb : ∀ A env, Room A n → EnvOf scope env → ∀ x dx s₀ z₀ g₀ z s, x ≠ dx → FS C ⟨env, A, s₀, z₀, noRo⟩ g₀ (X2 Ca x dx [] 0) z s (((("self" : Str)) :: names).zip (.addr x :: as)) [] → z dx = none → z x = none → s₀.heap.get? dx = none → s₀.heap.get? x = none →
      wpAny C.M A (execs body env) (fun fl s' => fl = .next ∧ ∃ z' es n' P' W', FS C ⟨env, A, s₀, z₀, noRo⟩ g₀ (X2 Ca x dx es n') z' s' P' W' ∧ z' dx = none ∧ z' x = none ∧ KeysAre es ns ∧ RepL z' pvs (es.map (·.val))) noE s)
    (hco : scope.isCoroutine = false := by rfl) (hgen : scope.isGenerator = false := by rfl) (hk : scope.kind = .function := by rfl) : FunOk C (n + 2) Ca as (.inst Ca ns pvs) := fun A hr s z vs hbz hz rl => by
  have hbs : ∀ a o, C.hb.get? a = some o → s.heap.get? a = some o := fun a o e => hz a o (hbz a o e)
  obtain ⟨hh, gg, dd, tt, oo⟩ := s
  have X0 : K.In hh := k.kin.keeps hbs
  refine wpAny_call (make_core (makes_of X0 k.makes) (looks_findIn X0 hfi) (fun self => bind_fn X0 self hft) (.inl rfl) ?_)
  have hsz : ((hh.push emptyDict).push (instObj Ca hh.objs.size)).get? (hh.objs.size + 1) = some (instObj Ca hh.objs.size) := by heap_get
  have hsd : ((hh.push emptyDict).push (instObj Ca hh.objs.size)).get? hh.objs.size = some (dictOf [] 0) := by heap_get
  have up : ∀ b o, hh.get? b = some o → ((hh.push emptyDict).push (instObj Ca hh.objs.size)).get? b = some o := fun b o e => Heap.get?_push_of_some _ (Heap.get?_push_of_some _ e)
  have n0 : hh.get? hh.objs.size = none := get_size_none hh
  have n1 : hh.get? (hh.objs.size + 1) = none := by
    cases q : hh.get? (hh.objs.size + 1) with
    | none => rfl
    | some o => exact absurd (Heap.lt_size q) (Nat.not_lt.mpr (Nat.le_succ _))
  have hz' : ZIn z (⟨(hh.push emptyDict).push (instObj Ca hh.objs.size), gg, dd, tt, oo⟩ : Shared) := fun a o e => up a o (hz a o e)
  have hne : hh.objs.size + 1 ≠ hh.objs.size := Nat.succ_ne_self _
  refine def_entry (X := X2 Ca (hh.objs.size + 1) hh.objs.size [] 0) (sB := ⟨hh, gg, dd, tt, oo⟩) (z := z) (as := .addr (hh.objs.size + 1) :: as) ok D hp (by simp [hlen]) hnd hkind hdbg (room_under hr) hbz hz' hz
    (repL_cons (rep_addr _) (rl.mono (ZLe.refl z))) up rfl rfl rfl (fun a o e => ?_) (fun env hr' hEo s₁ f0 => ?_) hco hgen hk
  · by_cases h1 : a = hh.objs.size + 1
    · subst h1; simp [X2] at e; subst e; exact hsz
    · by_cases h2 : a = hh.objs.size
      · subst h2; simp [X2] at e; subst e; exact hsd
      · simp [X2, h1, h2] at e
  · refine wpAny_mono (hb _ env hr' hEo (hh.objs.size + 1) hh.objs.size _ _ _ _ s₁ hne f0 (fresh_none hz n0) (fresh_none hz n1) n0 n1) (fun fl s' q => ?_) fun _ _ x => x
    obtain ⟨rfl, z', es, n', P', W', f, zd, zx, hke, rl'⟩ := q
    refine ⟨rfl, ?_⟩
    have g : Grow C.md z ⟨hh, gg, dd, tt, oo⟩ z' s' := f.growth (fun _ => rfl)
    have hx := f.xin _ _ X2.self
    have hd := f.xin _ _ (X2.dict hne)
    have zd' : ZAdd z' (hh.objs.size + 1) (instObj Ca hh.objs.size) hh.objs.size = none := by unfold ZAdd; rw [if_neg (Ne.symm hne)]; exact zd
    have g2 := (g.freeze n1 zx hx).freeze n0 zd' hd
    have le : ZLe z' (ZAdd (ZAdd z' (hh.objs.size + 1) (instObj Ca hh.objs.size)) hh.objs.size (dictOf es n')) := (ZAdd.le zx).trans (ZAdd.le zd')
    refine ⟨_, g2, ?_⟩
    simp only [Rep]
    exact ⟨hh.objs.size + 1, hh.objs.size, es, n', _, rfl, ZAdd.le zd' _ _ (ZAdd.self _ _ _), ZAdd.self _ _ _, hke, rfl, rl'.mono le⟩
end
end Mine
namespace Mine
section
variable {C : Cst} {A : Around} {env : Env} {X : Zm} {P : PEnv} {W : OEnv}
theorem Ex_conseqB {ss : List Stmt} {P₁ P₂ : PEnv} {W₁ W₂ : OEnv} (h : Ex C A env X P W ss (.brk P₁ W₁)) (hp : PSub P₂ P₁) (hw : PSub W₂ W₁) : Ex C A env X P W ss (.brk P₂ W₂) := fun s₀ z₀ g₀ z s f => by
  refine wpAny_mono (h s₀ z₀ g₀ z s f) (fun fl s' q => ?_) fun _ _ x => x
  obtain ⟨rfl, z', m, f'⟩ := q
  exact ⟨rfl, z', m, f'.weak hp hw⟩
end
def stBody' : Stmt → List Stmt
  | .If _ body _ _ => body
  | _ => []
def stElse : Stmt → List Stmt
  | .If _ _ orelse _ => orelse
  | _ => []
structure WsS where
  count : List Int
  b : Nat
  n : Nat
  nt : Nat
def bump (c : List Int) (b : Nat) : List Int :=
  let c' := if b ≥ c.length then c ++ List.replicate (b - c.length + 1) 0 else c
  c'.set b ((c'[b]?).getD 0 + 1)
def wsRun : List Nat → WsS → WsS
  | [], s => s
  | c :: r, s => if c = 32 then wsRun r ⟨s.count, s.b + 1, s.n + 1, s.nt⟩ else if c = 9 then wsRun r ⟨bump s.count s.b, 0, s.n + 1, s.nt + 1⟩ else s
abbrev wsB : List Stmt := stBody (stAt iWs)
abbrev wsInit : Stmt := nthS wsB 1
abbrev wsFor : Stmt := nthS (stBody wsInit) 4
abbrev Pw (x : Addr) (s : WsS) : PEnv := [("self", .addr x), ("S", .str [32]), ("T", .str [9]), ("b", .int s.b), ("n", .int s.n), ("nt", .int s.nt)]
abbrev Ww (s : WsS) : OEnv := [("count", iL s.count)]
theorem iL_flat {ns : List Int} : ∀ y ∈ iL ns, Mine.Flat y := by
  intro y hy
  obtain ⟨i, _, rfl⟩ := List.mem_map.mp hy
  exact .int _
theorem iL_append (a b : List Int) : iL (a ++ b) = iL a ++ iL b := by simp [iL]
theorem iL_length (a : List Int) : (iL a).length = a.length := by simp [iL]
section
variable {C : Cst} {A : Around} {env : Env} {X : Zm}
theorem turn_ws (ok : C.Ok) (B : Bi C) (hr : Room A 0) (hE : EnvOf (stScope wsInit) env) {x : Addr} {s : WsS} {c : Nat} (hb : s.b ≤ 600) (hc : s.count.length ≤ 600) :
    Turn C A env X (forTgt wsFor) (forBody wsFor) (.str [c]) (Pw x s) (Ww s)
      (if c = 32 then .next (Pw x ⟨s.count, s.b + 1, s.n + 1, s.nt⟩) (Ww s) else if c = 9 then .next (Pw x ⟨bump s.count s.b, 0, s.n + 1, s.nt + 1⟩) (Ww ⟨bump s.count s.b, 0, s.n + 1, s.nt + 1⟩) else .brk (Pw x s) (Ww s)) := by
  refine ⟨_, _, AsgT_name (hE.loc rfl), fun X' hX => ?_⟩
  have sub6 : ∀ {P₁ : PEnv} {s' : WsS}, P₁.lookup ("self" : Str) = some (.addr x) → P₁.lookup ("S" : Str) = some (.str [32]) → P₁.lookup ("T" : Str) = some (.str [9]) → P₁.lookup ("b" : Str) = some (.int s'.b) →
      P₁.lookup ("n" : Str) = some (.int s'.n) → P₁.lookup ("nt" : Str) = some (.int s'.nt) → PSub (Pw x s') P₁ := fun h1 h2 h3 h4 h5 h6 =>
    PSub_cons h1 (PSub_cons h2 (PSub_cons h3 (PSub_cons h4 (PSub_cons h5 (PSub_cons h6 (PSub.nil _))))))
  by_cases h : c = 32
  · rw [if_pos h]
    refine Ex_cons (Ex1_if (b := true) (.of (Tst_eq (by simp [h]) (Tst_cmp (Ev_name rfl) (Ev_name rfl) (op_eqS (a := [c]) (b := [32])))))
      (fun _ => Ex_cons (Ex1_assign (hE.loc rfl) (.of (Ev_bin (Ev_name rfl) Ev_int op_add))) (Ex_cons (Ex1_assign (hE.loc rfl) (.of (Ev_bin (Ev_name rfl) Ev_int op_add))) Ex_nil)) (fun h => by cases h)) ?_
    exact Ex_conseq Ex_nil (sub6 rfl rfl rfl rfl rfl rfl) (PSub_cons rfl (PSub.nil _))
  · rw [if_neg h]
    by_cases h2 : c = 9
    · rw [if_pos h2]
      refine Ex_cons (P' := Pw x ⟨bump s.count s.b, 0, s.n + 1, s.nt + 1⟩) (W' := Ww ⟨bump s.count s.b, 0, s.n + 1, s.nt + 1⟩) (Ex1_if (b := false) (.of (Tst_eq (by simp [h]) (Tst_cmp (Ev_name rfl) (Ev_name rfl) (op_eqS (a := [c]) (b := [32])))))
        (fun h => by cases h) (fun _ => ?_)) Ex_nil
      refine Ex_cons (Ex1_if (b := true) (.of (Tst_eq (by simp [h2]) (Tst_cmp (Ev_name rfl) (Ev_name rfl) (op_eqS (a := [c]) (b := [9]))))) (fun _ => ?_) (fun h => by cases h)) Ex_nil
      refine Ex_cons (Ex1_assign (hE.loc rfl) (.of (Ev_bin (Ev_name rfl) Ev_int op_add))) ?_
      refine Ex_cons (Ex1_assign (hE.loc rfl) (.of (Ev_bin (Ev_name rfl) Ev_int op_add))) ?_
      have hset : ∀ (c' : List Int), s.b < c'.length → c'.length ≤ 2000 → Ex C A env X' (Pw x ⟨c', s.b, s.n + 1, s.nt + 1⟩) (Ww ⟨c', s.b, s.n + 1, s.nt + 1⟩) ((stBody' (nthS (stElse (nthS (forBody wsFor) 0)) 0)).drop 3)
          (.next (Pw x ⟨c'.set s.b ((c'[s.b]?).getD 0 + 1), 0, s.n + 1, s.nt + 1⟩) (Ww ⟨c'.set s.b ((c'[s.b]?).getD 0 + 1), 0, s.n + 1, s.nt + 1⟩)) := fun c' hlt hle => by
        have hv : c'[s.b]? = some ((c'[s.b]?).getD 0) := by rw [List.getElem?_eq_getElem hlt]; rfl
        generalize (c'[s.b]?).getD 0 = v at hv ⊢
        refine Ex_cons (Ex1_setitem (k := (s.b : Int)) rfl (by decide) (.thaw (x := "count") rfl (Ev_bin (Ev_sub (Ev_name rfl) (Ev_name rfl) (op_itemL (k := (s.b : Int)) (c := .int v) (bind_at (by simp [iL, hv])) rfl (by omega))) Ev_int op_add) (.int _))
          (Ev_name rfl) (by omega) (by simp [iL]; omega) (by omega)) ?_
        refine Ex_cons (Ex1_assign (hE.loc rfl) (.of Ev_int)) ?_
        refine Ex_conseq Ex_nil (sub6 rfl rfl rfl rfl rfl rfl) ?_
        rw [Ww, ← iL_set]
        exact PSub_cons rfl (PSub.nil _)
      refine Ex_weak (P' := Pw x ⟨s.count, s.b, s.n + 1, s.nt + 1⟩) (W' := Ww s) ?_ (sub6 rfl rfl rfl rfl rfl rfl) (PSub_cons rfl (PSub.nil _))
      have hlen : ∀ {P : PEnv} {x : Str} {p1 p2 pos : Pos}, P.lookup x = some (.list (iL s.count)) → Ev C A env P (.Call (.Name "len" p1) [.Name x p2] [] pos) (.int s.count.length) := fun h =>
        Ev_eq (by rw [iL_length]) (Ev_call ok (hE.k rfl) B.len (CallW.builtin _) (.cons (Ev_name h) .nil rfl) (opC_len_list (xs := iL s.count) (by rw [iL_length]; omega)))
      unfold bump
      by_cases hge : s.b ≥ s.count.length
      · simp only [if_pos hge]
        refine Ex_cons (Ex1_if (b := true) (.thaw (x := "count") rfl (Tst_eq (by simpa using hge) (Tst_cmp (Ev_name rfl) (hlen rfl) (op_ge (a := s.b) (b := s.count.length)))))
          (fun _ => Ex_cons (Ex1_assignN (hE.loc rfl) (.thaw (x := "count") rfl (EvN_bin (Ev_name rfl) (Ev_bin (Ev_list (.cons Ev_int .nil rfl) (by simp)) (Ev_bin (Ev_bin (Ev_name rfl) (hlen rfl) op_sub) Ev_int op_add) (opN_rep (i := 0) (k := (s.b : Int) - s.count.length + 1) (by omega) (by omega)).op)
            (opN_addL (by rw [iL_length]; simp; omega))) ?_)) Ex_nil) (fun h => by cases h)) ?_
        · intro y hy
          rcases List.mem_append.mp hy with h | h
          · exact iL_flat y h
          · rw [(List.mem_replicate.mp h).2]; exact .int _
        · have e : iL s.count ++ List.replicate ((s.b : Int) - s.count.length + 1).toNat (.int 0) = iL (s.count ++ List.replicate (s.b - s.count.length + 1) 0) := by
            rw [iL_append]
            congr 1
            simp only [iL, List.map_replicate]
            congr 1
            omega
          rw [e]
          exact Ex_weak (hset (s.count ++ List.replicate (s.b - s.count.length + 1) 0) (by simp; omega) (by simp; omega)) (sub6 rfl rfl rfl rfl rfl rfl) (PSub_cons rfl (PSub.nil _))
      · simp only [if_neg hge]
        refine Ex_cons (Ex1_if (b := false) (.thaw (x := "count") rfl (Tst_eq (by simpa using hge) (Tst_cmp (Ev_name rfl) (hlen rfl) (op_ge (a := s.b) (b := s.count.length))))) (fun h => by cases h) (fun _ => Ex_nil)) ?_
        exact Ex_weak (hset s.count (by omega) (by omega)) (sub6 rfl rfl rfl rfl rfl rfl) (PSub_cons rfl (PSub.nil _))
    · rw [if_neg h2]
      refine Ex_conseqB (Ex_brk (Ex1_if (b := false) (.of (Tst_eq (by simp [h]) (Tst_cmp (Ev_name rfl) (Ev_name rfl) (op_eqS (a := [c]) (b := [32]))))) (fun h => by cases h)
        (fun _ => Ex_brk (Ex1_if (b := false) (.of (Tst_eq (by simp [h2]) (Tst_cmp (Ev_name rfl) (Ev_name rfl) (op_eqS (a := [c]) (b := [9]))))) (fun h => by cases h) (fun _ => Ex_brk Ex1_break))))) ?_ ?_
      · exact sub6 rfl rfl rfl rfl rfl rfl
      · exact PSub_cons rfl (PSub.nil _)
end
end Mine
namespace Mine
abbrev wsNs : List Str := ["raw", "n", "nt", "norm", "is_simple"]
def ws0 : WsS := ⟨[], 0, 0, 0⟩
def wsVals (l : List Nat) : List PV :=
  [.str l, .int (wsRun l ws0).n, .int (wsRun l ws0).nt, .tuple [.tuple (iL (wsRun l ws0).count), .int (wsRun l ws0).b], .bool (decide (((wsRun l ws0).count.length : Int) ≤ 1))]
abbrev wsPV (Ca : Addr) (l : List Nat) : PV := .inst Ca wsNs (wsVals l)
abbrev wsLvl : Stmt := nthS wsB 3
structure WsG (C : Cst) (K : Frag) (Ca : Addr) : Prop where
  ok : C.Ok
  bi : Bi C
  k : ClsK C K Ca
  glob : GlobIs C "Whitespace" (.ref Ca)
  mc : ∃ mc, readsIn K Ca mc = true ∧ (∃ x t, findCls K (.ref Ca) mc "S" = some (.val (.str x t)) ∧ x.cps.toList = [32]) ∧ (∃ x t, findCls K (.ref Ca) mc "T" = some (.val (.str x t)) ∧ x.cps.toList = [9])
  init : ∃ f, findIn K (.ref Ca) "__init__" = some (some (.ref f)) ∧ typeIn K (.ref f) = some (.type "function") ∧ DefAt C f (stArgs wsInit) (stBody wsInit) (stScope wsInit)
  lvl : ∃ f, findIn K (.ref Ca) "indent_level" = some (some (.ref f)) ∧ typeIn K (.ref f) = some (.type "function") ∧ DefAt C f (stArgs wsLvl) (stBody wsLvl) (stScope wsLvl)
  tk : ∀ a ∈ wsNs, takerIn K Ca a = some none
  at_ : ∀ a ∈ wsNs, findIn K (.ref Ca) a = some none
theorem bump_length (c : List Int) (b : Nat) : (bump c b).length = max c.length (b + 1) := by
  unfold bump
  simp only [List.length_set]
  split
  · simp; omega
  · omega
section
variable {C : Cst} {A : Around} {env : Env} {X : Zm} {P : PEnv} {W : OEnv} {K : Frag} {Ca : Addr}
theorem lp_ws (ok : C.Ok) (B : Bi C) (hr : Room A 0) (hE : EnvOf (stScope wsInit) env) {x : Addr} : ∀ (r : List Nat) (s : WsS), s.b + r.length ≤ 550 → s.count.length ≤ 560 →
    Lp (Turn C A env X (forTgt wsFor) (forBody wsFor)) (signs r) (Pw x s) (Ww s) (.next (Pw x (wsRun r s)) (Ww (wsRun r s))) ∧ (wsRun r s).count.length ≤ 560
  | [], s, h1, h2 => ⟨.nil, h2⟩
  | c :: r, s, h1, h2 => by
    simp only [List.length_cons] at h1
    have t := turn_ws (X := X) ok B hr hE (x := x) (s := s) (c := c) (by omega) (by omega)
    simp only [signs, List.map_cons, wsRun]
    by_cases h : c = 32
    · rw [if_pos h] at t
      simp only [if_pos h]
      obtain ⟨lp, hl⟩ := lp_ws ok B hr hE (x := x) r ⟨s.count, s.b + 1, s.n + 1, s.nt⟩ (by show s.b + 1 + r.length ≤ 550; omega) h2
      exact ⟨.step t lp, hl⟩
    · rw [if_neg h] at t
      simp only [if_neg h]
      by_cases h' : c = 9
      · rw [if_pos h'] at t
        simp only [if_pos h']
        obtain ⟨lp, hl⟩ := lp_ws ok B hr hE (x := x) r ⟨bump s.count s.b, 0, s.n + 1, s.nt + 1⟩ (by show 0 + r.length ≤ 550; omega) (by show (bump s.count s.b).length ≤ 560; rw [bump_length]; omega)
        exact ⟨.step t lp, hl⟩
      · rw [if_neg h'] at t
        simp only [if_neg h']
        exact ⟨.brk t, h2⟩
theorem step1 {st : Stmt} {ss : List Stmt} {P' : PEnv} {W' : OEnv} {s₀ : Shared} {z₀ z : Zm} {g₀ : Array GenState} {s : Shared} {R : Flow → Shared → Prop} (h : Ex1 C A env X P W st (.next P' W')) (f : FS C ⟨env, A, s₀, z₀, noRo⟩ g₀ X z s P W)
    (k : ∀ z' s', Mv X z z' → FS C ⟨env, A, s₀, z₀, noRo⟩ g₀ X z' s' P' W' → wpAny C.M A (execs ss env) R noE s') : wpAny C.M A (execs (st :: ss) env) R noE s := by
  rw [execs_cons]
  refine wpAny_bind (wpAny_mono (h s₀ z₀ g₀ z s f) (fun fl s' q => ?_) fun _ _ x => x)
  obtain ⟨rfl, z', m, f'⟩ := q
  exact k z' s' m f'
theorem stepW {st : Stmt} {ss : List Stmt} {s : Shared} {Q : Shared → Prop} {R : Flow → Shared → Prop} (h : wpAny C.M A (exec st env) (fun fl s' => fl = .next ∧ Q s') noE s)
    (k : ∀ s', Q s' → wpAny C.M A (execs ss env) R noE s') : wpAny C.M A (execs (st :: ss) env) R noE s := by
  rw [execs_cons]
  refine wpAny_bind (wpAny_mono h (fun fl s' q => ?_) fun _ _ x => x)
  obtain ⟨rfl, q⟩ := q
  exact k s' q
theorem ws_new (G : WsG C K Ca) {l : List Nat} (hl : l.length ≤ 500) : FunOk C 3 Ca [.str l] (wsPV Ca l) := by
  obtain ⟨f, hfi, hft, hD⟩ := G.init
  obtain ⟨mc, hrd, ⟨xS, tS, eS, lS⟩, ⟨xT, tT, eT, lT⟩⟩ := G.mc
  refine cls_make (n := 1) (names := ["ws"]) G.ok G.k hD hfi hft ?_ rfl (by decide) ?_ ?_ ?_
  · intro name qual pm code doc vs hv
    match vs, hv with
    | [u, v], _ => rfl
  · intro x hx
    simp only [List.mem_cons, List.not_mem_nil, or_false] at hx
    rcases hx with rfl | rfl <;> exact .inl rfl
  · intro x hx
    simp only [List.mem_cons, List.not_mem_nil, or_false] at hx
    rcases hx with rfl | rfl <;> decide
  intro A env hr hE x dx s₀ z₀ g₀ z s hne f zd zx h0d h0x
  have xd : ∀ {z z' : Zm} {es : List DictEntry} {n : Nat}, Mv (X2 Ca x dx es n) z z' → z dx = none → z' dx = none := fun m h => m.none h (X2.dict hne)
  have xx : ∀ {z z' : Zm} {es : List DictEntry} {n : Nat}, Mv (X2 Ca x dx es n) z z' → z x = none → z' x = none := fun m h => m.none h X2.self
  refine stepW (fs_setattr G.k (o := "self") rfl (.of (Ev_name (pv := .str l) rfl)) .nil (by simp) (G.tk _ (by simp)) (by simp) hne f zd h0d) fun s1 h1 => ?_
  obtain ⟨z1, e1, k1, m1, f1, r1⟩ := h1
  have zd1 := xd m1 zd
  have zx1 := xx m1 zx
  refine step1 (Ex1_swap (x := "S") (y := "T") hr.1 (hE.loc rfl) (hE.loc rfl) (.of (Ev_tuple (.cons (Ev_clsS G.ok G.k (hE.k rfl) G.glob hrd eS lS) (.cons (Ev_clsS G.ok G.k (hE.k rfl) G.glob hrd eT lT) .nil rfl) rfl) (by simp))) ?_) f1 fun z2 s2 m2 f2 => ?_
  · unfold swappedStores
    simp only [hE.bk, hE.k (x := "S") (k := .local) rfl, hE.k (x := "T") (k := .local) rfl, List.filterMap]
    rfl
  have zd2 := xd m2 zd1
  have zx2 := xx m2 zx1
  refine step1 (Ex1_assignN (hE.loc rfl) (.of (EvN_list .nil (by simp)))) f2 fun z3 s3 m3 f3 => ?_
  refine step1 (Ex1_assign3 (hE.loc rfl) (hE.loc rfl) (hE.loc rfl) (.of Ev_int)) f3 fun z4 s4 m4 f4 => ?_
  have zd4 := xd m4 (xd m3 zd2)
  have zx4 := xx m4 (xx m3 zx2)
  have f4 := f4.weak (P' := Pw x ws0) (W' := Ww ws0) (PSub_cons rfl (PSub_cons rfl (PSub_cons rfl (PSub_cons rfl (PSub_cons rfl (PSub_cons rfl (PSub.nil _))))))) (PSub_cons rfl (PSub.nil _))
  obtain ⟨lp, hcl⟩ := lp_ws (X := X2 Ca x dx [e1] 1) (A := A) (env := env) G.ok G.bi (hr.less (by omega)) hE (x := x) l ws0 (by show 0 + l.length ≤ 550; omega) (by show 0 ≤ 560; omega)
  refine step1 (Ex1_for (C := C) (gen := false) (mb := C.md) (fun h => h) (fun h => by cases h) (ItF_str hr.1 (EvF_attr G.k (o := "self") rfl k1 (by decide) (i := 0) rfl rfl ((Flat.str l).rep r1) (.str l) (G.at_ _ (by simp)) hne)) lp) f4 fun z5 s5 m5 f5 => ?_
  have zd5 := xd m5 zd4
  have zx5 := xx m5 zx4
  obtain ⟨z6, m6, f6⟩ := f5.freeze (x := "count") rfl
  have zd6 := xd m6 zd5
  have zx6 := xx m6 zx5
  have hs : wsVals l = [.str l, .int (wsRun l ws0).n, .int (wsRun l ws0).nt, .tuple [.tuple (iL (wsRun l ws0).count), .int (wsRun l ws0).b], .bool (decide (((wsRun l ws0).count.length : Int) ≤ 1))] := rfl
  generalize wsRun l ws0 = w at hcl f6 hs
  refine stepW (fs_setattr G.k (o := "self") rfl (.of (Ev_name (pv := .int w.n) rfl)) k1 (by decide) (G.tk _ (by simp)) (by simp) hne f6 zd6 h0d) fun s7 h7 => ?_
  obtain ⟨z7, e7, k7, m7, f7, r7⟩ := h7
  have zd7 := xd m7 zd6
  have zx7 := xx m7 zx6
  refine stepW (fs_setattr G.k (o := "self") rfl (.of (Ev_name (pv := .int w.nt) rfl)) k7 (by decide) (G.tk _ (by simp)) (by simp) hne f7 zd7 h0d) fun s8 h8 => ?_
  obtain ⟨z8, e8, k8, m8, f8, r8⟩ := h8
  have zd8 := xd m8 zd7
  have zx8 := xx m8 zx7
  refine stepW (fs_setattr G.k (o := "self") (pv := .tuple [.tuple (iL w.count), .int w.b]) rfl (.of (Ev_tuple (.cons (Ev_call G.ok (hE.k rfl) G.bi.tuple (CallW.type _) (.cons (Ev_name rfl) .nil rfl) (opC_tuple (xs := iL w.count) (by rw [iL_length]; omega))) (.cons (Ev_name rfl) .nil rfl) rfl) (by simp))) k8 (by decide) (G.tk _ (by simp)) (by simp) hne f8 zd8 h0d) fun s9 h9 => ?_
  obtain ⟨z9, e9, k9, m9, f9, r9⟩ := h9
  have zd9 := xd m9 zd8
  have zx9 := xx m9 zx8
  refine stepW (fs_setattr G.k (o := "self") (pv := .bool (decide ((w.count.length : Int) ≤ 1))) rfl (.of (Ev_cmp (Ev_eq (b' := .int w.count.length) (by rw [iL_length]) (Ev_call G.ok (hE.k rfl) G.bi.len (CallW.builtin _) (.cons (Ev_name rfl) .nil rfl) (opC_len_list (xs := iL w.count) (by rw [iL_length]; omega))))
    Ev_int op_le)) k9 (by decide) (G.tk _ (by simp)) (by simp) hne f9 zd9 h0d) fun s10 h10 => ?_
  obtain ⟨z10, e10, k10, m10, f10, r10⟩ := h10
  refine wpAny_pure ⟨rfl, z10, _, _, _, _, f10, xd m10 zd9, xx m10 zx9, k10, ?_⟩
  rw [hs]
  have l10 := m10.sub
  have l9 := m9.sub.trans l10
  have l8 := m8.sub.trans l9
  have l7 := m7.sub.trans l8
  have l1 := m2.sub.trans (m3.sub.trans (m4.sub.trans (m5.sub.trans (m6.sub.trans l7))))
  exact repL_cons (r1.mono l1) (repL_cons (r7.mono l8) (repL_cons (r8.mono l9) (repL_cons (r9.mono l10) (repL_cons r10 repL_nil))))
end
end Mine
namespace Mine
def lvIl (t : Int) : Int → List Int → Int → Int
  | _, [], il => il
  | i, c :: r, il => lvIl t (i + 1) r (il + i.fdiv t * c)
def wsLevel (l : List Nat) (t : Nat) : Int :=
  let s := wsRun l ws0
  s.b + t * (lvIl t t (s.count.drop t) 0 + s.nt)
abbrev lvlB : List Stmt := stBody wsLvl
abbrev lvlFor : Stmt := nthS lvlB 2
abbrev Pv (Ca : Addr) (l : List Nat) (t : Nat) (count : List Int) (b il : Int) : PEnv := [("self", wsPV Ca l), ("tabsize", .int t), ("count", .tuple (iL count)), ("trailing", .int b), ("il", .int il)]
section
variable {C : Cst} {A : Around} {env : Env} {X : Zm} {P : PEnv} {W : OEnv} {K : Frag} {Ca : Addr}
theorem fdiv_small {i t : Int} (h0 : 0 ≤ i) (h1 : i < 2000) (ht : 0 < t) : 0 ≤ i.fdiv t ∧ i.fdiv t < 2000 := by
  rw [Int.fdiv_eq_ediv_of_nonneg _ (by omega)]
  exact ⟨Int.ediv_nonneg h0 (by omega), Int.lt_of_le_of_lt (Int.ediv_le_self _ h0) h1⟩
theorem turn_lvl (hE : EnvOf (stScope wsLvl) env) {l : List Nat} {t k : Nat} {count : List Int} {b il c : Int} (ht : 0 < t) (ht' : t < 1000) (hk : count[k]? = some c) (hk' : k < 1000) :
    Turn C A env X (forTgt lvlFor) (forBody lvlFor) (.int k) (Pv Ca l t count b il) [] (.next (Pv Ca l t count b (il + (k : Int).fdiv t * c)) []) := by
  refine ⟨_, _, AsgT_name (hE.loc rfl), fun X' hX => ?_⟩
  obtain ⟨q1, q2⟩ := fdiv_small (i := k) (t := t) (by omega) (by omega) (by omega)
  refine Ex_cons (Ex1_assign (hE.loc rfl) (.of (Ev_bin (Ev_name rfl) (Ev_bin (Ev_bin (Ev_name rfl) (Ev_name rfl) (op_fdiv (a := k) (b := t) (by omega) (by omega))) (Ev_sub (Ev_name rfl) (Ev_name rfl) (op_itemT (k := k) (c := .int c) (bind_at (by simp [iL, hk])) rfl (by omega)))
    (op_mul (mulOk_left (by omega) (by omega)))) op_add))) ?_
  exact Ex_conseq Ex_nil (PSub_cons rfl (PSub_cons rfl (PSub_cons rfl (PSub_cons rfl (PSub_cons rfl (PSub.nil _)))))) (PSub.nil _)
theorem lp_lvl (hE : EnvOf (stScope wsLvl) env) {l : List Nat} {t : Nat} {count : List Int} {b : Int} (ht : 0 < t) (ht' : t < 1000) (hc : count.length < 1000) : ∀ (r pre : List Int) (k : Nat) (il : Int), count = pre ++ r → pre.length = k →
    Lp (Turn C A env X (forTgt lvlFor) (forBody lvlFor)) (upZ k r.length) (Pv Ca l t count b il) [] (.next (Pv Ca l t count b (lvIl t k r il)) [])
  | [], pre, k, il, e, hk => .nil
  | c :: r, pre, k, il, e, hk => by
    have h : count[k]? = some c := by rw [e, ← hk]; simp
    have := lp_lvl hE (l := l) (b := b) ht ht' hc r (pre ++ [c]) (k + 1) (il + (k : Int).fdiv t * c) (by rw [e]; simp) (by simp [hk])
    exact .step (turn_lvl hE ht ht' h (by have := lt_of_at h; omega)) this
theorem lvl_fun (G : WsG C K Ca) {l : List Nat} {t : Nat} (hl : l.length ≤ 500) (ht : 0 < t) (ht' : t < 1000) (hcl : (wsRun l ws0).count.length ≤ 560) :
    ∃ f, findIn K (.ref Ca) "indent_level" = some (some (.ref f)) ∧ typeIn K (.ref f) = some (.type "function") ∧ CallW C (.ref f) ∧ FunOk C 2 f [wsPV Ca l, .int t] (.int (wsLevel l t)) := by
  obtain ⟨f, hfi, hft, hD⟩ := G.lvl
  refine ⟨f, hfi, hft, ?_, ?_⟩
  · obtain ⟨o', nm, q, pm, c, doc, ho, hd, hcd⟩ := hD.at_
    exact CallW.func ho hd
  refine funOk_of (n := 1) (names := ["self", "tabsize"]) (o := .ret (.int (wsLevel l t))) G.ok hD ?_ rfl (by decide) ?_ ?_ ?_ (.inl ⟨_, rfl⟩)
  · intro name qual pm code doc vs hv
    match vs, hv with
    | [u, v], _ => rfl
  · intro x hx
    simp only [List.mem_cons, List.not_mem_nil, or_false] at hx
    rcases hx with rfl | rfl <;> exact .inl rfl
  · intro x hx
    simp only [List.mem_cons, List.not_mem_nil, or_false] at hx
    rcases hx with rfl | rfl <;> decide
  intro A env hr hE
  have hw : wsLevel l t = (wsRun l ws0).b + t * (lvIl t t ((wsRun l ws0).count.drop t) 0 + (wsRun l ws0).nt) := rfl
  have hv : wsVals l = [.str l, .int (wsRun l ws0).n, .int (wsRun l ws0).nt, .tuple [.tuple (iL (wsRun l ws0).count), .int (wsRun l ws0).b], .bool (decide (((wsRun l ws0).count.length : Int) ≤ 1))] := rfl
  rw [hw]
  generalize wsRun l ws0 = w at hv hcl
  refine Ex_cons (Ex1_assignT (a := .tuple [.tuple (iL w.count), .int w.b]) (.of (Ev_attr G.k (i := 3) (Ev_name rfl) (by decide) rfl (by rw [hv]; rfl) (by simp) (G.at_ _ (by simp)))) (AsgT_pair hr.1 (hE.loc rfl) (hE.loc rfl))) ?_
  refine Ex_cons (Ex1_assign (hE.loc rfl) (.of Ev_int)) ?_
  refine Ex_weak (P' := Pv Ca l t w.count w.b 0) (W' := []) ?_ (PSub_cons rfl (PSub_cons rfl (PSub_cons rfl (PSub_cons rfl (PSub_cons rfl (PSub.nil _)))))) (PSub.nil _)
  have hfin : ∀ il : Int, Ex C A env NoX (Pv Ca l t w.count w.b il) [] (lvlB.drop 3) (.ret (.int (w.b + t * (il + w.nt)))) := fun il =>
    Ex_ret (Ex1_return (.of (Ev_bin (Ev_name rfl) (Ev_bin (Ev_name rfl) (Ev_bin (Ev_name rfl) (Ev_attr G.k (i := 2) (pv := .int w.nt) (Ev_name (pv := wsPV Ca l) rfl) (by decide) rfl (by rw [hv]; rfl) (by simp) (G.at_ _ (by simp))) op_add) (op_mul (mulOk_left (by omega) (by omega)))) op_add)))
  have lp : Lp (Turn C A env NoX (forTgt lvlFor) (forBody lvlFor)) (upZ t (w.count.drop t).length) (Pv Ca l t w.count w.b 0) [] (.next (Pv Ca l t w.count w.b (lvIl t t (w.count.drop t) 0)) []) := by
    rcases Nat.lt_or_ge w.count.length t with h | h
    · have : w.count.drop t = [] := List.drop_eq_nil_of_le (by omega)
      rw [this]
      exact .nil
    · exact lp_lvl (count := w.count) hE ht ht' (by omega) (w.count.drop t) (w.count.take t) t 0 (by simp) (by simp; omega)
  refine Ex_cons (Ex1_for (C := C) (gen := false) (mb := C.md) (fun h => h) (fun h => by cases h) (.of (ItE_up (a := t) (b := w.count.length) G.ok hr.1 (hE.k rfl) G.bi.range
    (.cons (Ev_name rfl) (.cons (Ev_eq (b' := .int w.count.length) (by rw [iL_length]) (Ev_call G.ok (hE.k rfl) G.bi.len (CallW.builtin _) (.cons (Ev_name rfl) .nil rfl) (opC_len_tuple (xs := iL w.count) (by rw [iL_length]; omega)))) .nil rfl) rfl)
    (.inr rfl) (by simp) (by omega) (by omega) (by omega) (by omega))) lp) (hfin _)
end
end Mine
namespace Mine
abbrev wsLrs : Stmt := nthS wsB 2
abbrev wsEq : Stmt := nthS wsB 4
abbrev wsNwe : Stmt := nthS wsB 5
abbrev nweFor : Stmt := nthS (stBody wsNwe) 2
def lrsY (l : List Nat) : Int := max (((wsRun l ws0).count.length : Int) - 1) (wsRun l ws0).b
def eqY (l m : List Nat) : Bool := decide ((wsRun l ws0).count = (wsRun m ws0).count) && decide (((wsRun l ws0).b : Int) = (wsRun m ws0).b)
def nweStep (l m : List Nat) (rs : List (List Int)) (k : Nat) : List (List Int) := if wsLevel l k = wsLevel m k then rs else rs ++ [[(k : Int), wsLevel l k, wsLevel m k]]
def nweIter {σ : Type} (f : σ → Nat → σ) : Nat → Nat → σ → σ
  | _, 0, s => s
  | k, n + 1, s => nweIter f (k + 1) n (f s k)
def nweY (l m : List Nat) : List (List Int) := nweIter (nweStep l m) 1 (max (lrsY l) (lrsY m) + 1).toNat []
structure Ws1G (C : Cst) (K : Frag) (Ca : Addr) : Prop where
  ws : WsG C K Ca
  lrs : ∃ f, findIn K (.ref Ca) "longest_run_of_spaces" = some (some (.ref f)) ∧ typeIn K (.ref f) = some (.type "function") ∧ DefAt C f (stArgs wsLrs) (stBody wsLrs) (stScope wsLrs)
  eq : ∃ f, findIn K (.ref Ca) "equal" = some (some (.ref f)) ∧ typeIn K (.ref f) = some (.type "function") ∧ DefAt C f (stArgs wsEq) (stBody wsEq) (stScope wsEq)
  nwe : ∃ f, findIn K (.ref Ca) "not_equal_witness" = some (some (.ref f)) ∧ typeIn K (.ref f) = some (.type "function") ∧ DefAt C f (stArgs wsNwe) (stBody wsNwe) (stScope wsNwe)
section
variable {C : Cst} {A : Around} {env : Env} {X : Zm} {P : PEnv} {W : OEnv} {K : Frag} {Ca : Addr}
theorem lrs_fun (G : Ws1G C K Ca) {l : List Nat} (hcl : (wsRun l ws0).count.length ≤ 560) :
    ∃ f, findIn K (.ref Ca) "longest_run_of_spaces" = some (some (.ref f)) ∧ typeIn K (.ref f) = some (.type "function") ∧ CallW C (.ref f) ∧ FunOk C 1 f [wsPV Ca l] (.int (lrsY l)) := by
  obtain ⟨f, hfi, hft, hD⟩ := G.lrs
  refine ⟨f, hfi, hft, ?_, ?_⟩
  · obtain ⟨o', nm, q, pm, c, doc, ho, hd, hcd⟩ := hD.at_
    exact CallW.func ho hd
  refine funOk_of (n := 0) (names := ["self"]) (o := .ret (.int (lrsY l))) G.ws.ok hD ?_ rfl (by decide) ?_ ?_ ?_ (.inl ⟨_, rfl⟩)
  · intro name qual pm code doc vs hv
    match vs, hv with
    | [u], _ => rfl
  · intro x hx
    simp only [List.mem_cons, List.not_mem_nil, or_false] at hx
    rcases hx with rfl
    exact .inl rfl
  · intro x hx
    simp only [List.mem_cons, List.not_mem_nil, or_false] at hx
    rcases hx with rfl
    decide
  intro A env hr hE
  have hv : wsVals l = [.str l, .int (wsRun l ws0).n, .int (wsRun l ws0).nt, .tuple [.tuple (iL (wsRun l ws0).count), .int (wsRun l ws0).b], .bool (decide (((wsRun l ws0).count.length : Int) ≤ 1))] := rfl
  unfold lrsY
  generalize wsRun l ws0 = w at hv hcl
  refine Ex_cons (Ex1_assignT (a := .tuple [.tuple (iL w.count), .int w.b]) (.of (Ev_attr G.ws.k (i := 3) (Ev_name rfl) (by decide) rfl (by rw [hv]; rfl) (by simp) (G.ws.at_ _ (by simp)))) (AsgT_pair hr.1 (hE.loc rfl) (hE.loc rfl))) ?_
  exact Ex_ret (Ex1_return (.of (Ev_call G.ws.ok (hE.k rfl) G.ws.bi.max (CallW.builtin _) (.cons (Ev_bin (Ev_eq (b' := .int w.count.length) (by rw [iL_length]) (Ev_call G.ws.ok (hE.k rfl) G.ws.bi.len (CallW.builtin _) (.cons (Ev_name rfl) .nil rfl) (opC_len_tuple (xs := iL w.count) (by rw [iL_length]; omega)))) Ev_int op_sub)
    (.cons (Ev_name rfl) .nil rfl) rfl) (opC_max2 hr.1))))
theorem eq_fun (G : Ws1G C K Ca) {l m : List Nat} :
    ∃ f, findIn K (.ref Ca) "equal" = some (some (.ref f)) ∧ typeIn K (.ref f) = some (.type "function") ∧ CallW C (.ref f) ∧ FunOk C 2 f [wsPV Ca l, wsPV Ca m] (.bool (eqY l m)) := by
  obtain ⟨f, hfi, hft, hD⟩ := G.eq
  refine ⟨f, hfi, hft, ?_, ?_⟩
  · obtain ⟨o', nm, q, pm, c, doc, ho, hd, hcd⟩ := hD.at_
    exact CallW.func ho hd
  refine funOk_of (n := 1) (names := ["self", "other"]) (o := .ret (.bool (eqY l m))) G.ws.ok hD ?_ rfl (by decide) ?_ ?_ ?_ (.inl ⟨_, rfl⟩)
  · intro name qual pm code doc vs hv
    match vs, hv with
    | [u, v], _ => rfl
  · intro x hx
    simp only [List.mem_cons, List.not_mem_nil, or_false] at hx
    rcases hx with rfl | rfl <;> exact .inl rfl
  · intro x hx
    simp only [List.mem_cons, List.not_mem_nil, or_false] at hx
    rcases hx with rfl | rfl <;> decide
  intro A env hr hE
  have hv : wsVals l = [.str l, .int (wsRun l ws0).n, .int (wsRun l ws0).nt, .tuple [.tuple (iL (wsRun l ws0).count), .int (wsRun l ws0).b], .bool (decide (((wsRun l ws0).count.length : Int) ≤ 1))] := rfl
  have hv' : wsVals m = [.str m, .int (wsRun m ws0).n, .int (wsRun m ws0).nt, .tuple [.tuple (iL (wsRun m ws0).count), .int (wsRun m ws0).b], .bool (decide (((wsRun m ws0).count.length : Int) ≤ 1))] := rfl
  unfold eqY
  generalize wsRun l ws0 = w at hv
  generalize wsRun m ws0 = w' at hv'
  exact Ex_ret (Ex1_return (.of (Ev_cmp (Ev_attr G.ws.k (i := 3) (Ev_name (pv := wsPV Ca l) rfl) (by decide) rfl (by rw [hv]; rfl) (by simp) (G.ws.at_ _ (by simp))) (Ev_attr G.ws.k (i := 3) (Ev_name (pv := wsPV Ca m) rfl) (by decide) rfl (by rw [hv']; rfl) (by simp) (G.ws.at_ _ (by simp))) (op_eqNorm hr))))
abbrev Pn (Ca : Addr) (l m : List Nat) (n : Int) : PEnv := [("self", wsPV Ca l), ("other", wsPV Ca m), ("n", .int n)]
abbrev Wn (rs : List (List Int)) : OEnv := [("a", rowsL rs)]
theorem rowsL_snoc (rs : List (List Int)) (r : List Int) : rowsL rs ++ [.tuple (iL r)] = rowsL (rs ++ [r]) := by simp [rowsL]
theorem turn_nwe (G : Ws1G C K Ca) (hr : Room A 2) (hE : EnvOf (stScope wsNwe) env) {l m : List Nat} {n : Int} {rs : List (List Int)} {k : Nat} (hl : l.length ≤ 500) (hm : m.length ≤ 500) (hk0 : 0 < k) (hk : k < 1000)
    (hcl : (wsRun l ws0).count.length ≤ 560) (hcm : (wsRun m ws0).count.length ≤ 560) (hrs : rs.length ≤ 10000) :
    Turn C A env X (forTgt nweFor) (forBody nweFor) (.int k) (Pn Ca l m n) (Wn rs) (.next (Pn Ca l m n) (Wn (nweStep l m rs k))) := by
  refine ⟨_, _, AsgT_name (hE.loc rfl), fun X' hX => ?_⟩
  obtain ⟨f, hfi, hft, hw, ho⟩ := lvl_fun G.ws (l := l) (t := k) hl hk0 hk hcl
  obtain ⟨f', hfi', hft', hw', ho'⟩ := lvl_fun G.ws (l := m) (t := k) hm hk0 hk hcm
  have ev1 : ∀ {P : PEnv} {o x : Str} {p1 p2 p3 p4 : Pos}, P.lookup o = some (wsPV Ca l) → P.lookup x = some (.int k) → (p2.endLine == p4.line) = true → Ev C A env P (.Call (.Attribute (.Name o p1) "indent_level" p2) [.Name x p3] [] p4) (.int (wsLevel l k)) :=
    fun h1 h2 h3 => Ev_meth G.ws.k hr (Ev_name h1) (by decide) (.cons (Ev_name h2) .nil rfl) hfi hft hw ho rfl h3 (by simp)
  have ev2 : ∀ {P : PEnv} {o x : Str} {p1 p2 p3 p4 : Pos}, P.lookup o = some (wsPV Ca m) → P.lookup x = some (.int k) → (p2.endLine == p4.line) = true → Ev C A env P (.Call (.Attribute (.Name o p1) "indent_level" p2) [.Name x p3] [] p4) (.int (wsLevel m k)) :=
    fun h1 h2 h3 => Ev_meth G.ws.k hr (Ev_name h1) (by decide) (.cons (Ev_name h2) .nil rfl) hfi' hft' hw' ho' rfl h3 (by simp)
  unfold nweStep
  by_cases h : wsLevel l k = wsLevel m k
  · rw [if_pos h]
    refine Ex_cons (Ex1_if (b := false) (.of (Tst_eq (by simp [h]) (Tst_cmp (ev1 rfl rfl rfl) (ev2 rfl rfl rfl) (op_ne (a := wsLevel l k) (b := wsLevel m k))))) (fun h => by cases h) (fun _ => Ex_nil)) ?_
    exact Ex_conseq Ex_nil (PSub_cons rfl (PSub_cons rfl (PSub_cons rfl (PSub.nil _)))) (PSub_cons rfl (PSub.nil _))
  · rw [if_neg h]
    refine Ex_cons (Ex1_if (b := true) (.of (Tst_eq (by simp [h]) (Tst_cmp (ev1 rfl rfl rfl) (ev2 rfl rfl rfl) (op_ne (a := wsLevel l k) (b := wsLevel m k)))))
      (fun _ => Ex_cons (Ex1_append (a := .tuple [.int k, .int (wsLevel l k), .int (wsLevel m k)]) rfl (.of (Ev_tuple (.cons (Ev_name rfl) (.cons (ev1 rfl rfl rfl) (.cons (ev2 rfl rfl rfl) .nil rfl) rfl) rfl) (by simp))) (by simp [rowsL]; omega) (hm := hE.kind)) Ex_nil) (fun h => by cases h)) ?_
    exact Ex_conseq Ex_nil (PSub_cons rfl (PSub_cons rfl (PSub_cons rfl (PSub.nil _)))) (PSub_cons (congrArg some (rowsL_snoc rs [(k : Int), wsLevel l k, wsLevel m k])) (PSub.nil _))
theorem Lp_upN {B : PV → PEnv → OEnv → Out → Prop} {σ : Type} (sp : σ → PEnv) (sw : σ → OEnv) (f : σ → Nat → σ) (N : Nat) (Inv : Nat → σ → Prop)
    (hB : ∀ (k : Nat) s, k < N → Inv k s → B (.int k) (sp s) (sw s) (.next (sp (f s k)) (sw (f s k))) ∧ Inv (k + 1) (f s k)) :
    ∀ (n k : Nat) (s : σ), k + n ≤ N → Inv k s → Lp B (upZ k n) (sp s) (sw s) (.next (sp (nweIter f k n s)) (sw (nweIter f k n s))) ∧ Inv (k + n) (nweIter f k n s)
  | 0, k, s, _, h => ⟨.nil, h⟩
  | n + 1, k, s, hk, h => by
    obtain ⟨b, i⟩ := hB k s (by omega) h
    obtain ⟨l, j⟩ := Lp_upN sp sw f N Inv hB n (k + 1) (f s k) (by omega) i
    refine ⟨.step b l, ?_⟩
    rw [show k + (n + 1) = k + 1 + n by omega]
    exact j
theorem nwe_fun (G : Ws1G C K Ca) {l m : List Nat} (hl : l.length ≤ 500) (hm : m.length ≤ 500) (hcl : (wsRun l ws0).count.length ≤ 560) (hcm : (wsRun m ws0).count.length ≤ 560) (hN : max (lrsY l) (lrsY m) + 1 < 900) (hN0 : -5 < max (lrsY l) (lrsY m) + 1) :
    ∃ f, findIn K (.ref Ca) "not_equal_witness" = some (some (.ref f)) ∧ typeIn K (.ref f) = some (.type "function") ∧ CallW C (.ref f) ∧ FunOk C 3 f [wsPV Ca l, wsPV Ca m] (.list (rowsL (nweY l m))) := by
  obtain ⟨f, hfi, hft, hD⟩ := G.nwe
  refine ⟨f, hfi, hft, ?_, ?_⟩
  · obtain ⟨o', nm, q, pm, c, doc, ho, hd, hcd⟩ := hD.at_
    exact CallW.func ho hd
  obtain ⟨g, gfi, gft, gw, go⟩ := lrs_fun G (l := l) hcl
  obtain ⟨g', gfi', gft', gw', go'⟩ := lrs_fun G (l := m) hcm
  refine funOk_of (n := 2) (names := ["self", "other"]) (o := .ret (.list (rowsL (nweY l m)))) G.ws.ok hD ?_ rfl (by decide) ?_ ?_ ?_ (.inl ⟨_, rfl⟩)
  · intro name qual pm code doc vs hv
    match vs, hv with
    | [u, v], _ => rfl
  · intro x hx
    simp only [List.mem_cons, List.not_mem_nil, or_false] at hx
    rcases hx with rfl | rfl <;> exact .inl rfl
  · intro x hx
    simp only [List.mem_cons, List.not_mem_nil, or_false] at hx
    rcases hx with rfl | rfl <;> decide
  intro A env hr hE
  refine Ex_cons (Ex1_assign (a := .int (max (lrsY l) (lrsY m) + 1)) (hE.loc rfl) (.of (Ev_bin (Ev_call G.ws.ok (hE.k rfl) G.ws.bi.max (CallW.builtin _) (.cons (Ev_meth G.ws.k (hr.less (by omega)) (Ev_name (pv := wsPV Ca l) rfl) (by decide) .nil gfi gft gw go) (.cons (Ev_meth G.ws.k (hr.less (by omega)) (Ev_name (pv := wsPV Ca m) rfl) (by decide) .nil gfi' gft' gw' go') .nil rfl) rfl) (opC_max2 hr.1)) Ev_int op_add))) ?_
  refine Ex_cons (Ex1_assignN (hE.loc rfl) (.of (EvN_list .nil (by simp)))) ?_
  unfold nweY
  generalize max (lrsY l) (lrsY m) + 1 = N at hN hN0 ⊢
  refine Ex_weak (P' := Pn Ca l m N) (W' := Wn []) ?_ (PSub_cons rfl (PSub_cons rfl (PSub_cons rfl (PSub.nil _)))) (PSub_cons rfl (PSub.nil _))
  obtain ⟨lp, _⟩ := Lp_upN (B := Turn C A env NoX (forTgt nweFor) (forBody nweFor)) (fun _ => Pn Ca l m N) Wn (nweStep l m) 950 (fun k rs => 1 ≤ k ∧ rs.length ≤ k)
    (fun k rs hk hi => ⟨turn_nwe G hr hE hl hm hi.1 (by omega) hcl hcm (by omega), by omega, by
      have := hi.2
      unfold nweStep
      split
      · omega
      · simp; omega⟩) N.toNat 1 [] (by omega) ⟨Nat.le_refl _, by simp⟩
  refine Ex_cons (Ex1_for (C := C) (gen := false) (mb := C.md) (fun h => h) (fun h => by cases h) (.of (ItE_up (a := 1) (b := N + 1) (n := N.toNat) G.ws.ok hr.1 (hE.k rfl) G.ws.bi.range (.cons Ev_int (.cons (Ev_bin (Ev_name rfl) Ev_int op_add) .nil rfl) rfl) (.inr rfl) (by omega) (by omega) (by omega) (by omega) (by omega))) lp) ?_
  refine Ex_freeze (x := "a") rfl ?_
  exact Ex_ret (Ex1_return (.of (Ev_name rfl)))
end
end Mine
namespace Mine
abbrev jCloses : Nat := 14
abbrev jRise : Nat := 15
abbrev jString : Nat := 16
abbrev jLead : Nat := 17
abbrev jColumn : Nat := 18
abbrev jWitness : Nat := 19
abbrev jLaw : Nat := 20
abbrev DefJ (C : Cst) (name : Str) (i : Nat) : Prop := DefG C name (stArgs (stAt i)) (stBody (stAt i)) (stScope (stAt i))
def closesJ (lo hi : Nat) : Int → List Nat → Bool
  | d, [] => decide (d = 0)
  | d, c :: r => if c = hi then closesJ lo hi (d + 1) r else if c = lo then (if d - 1 < 0 then false else closesJ lo hi (d - 1) r) else closesJ lo hi d r
abbrev cljFor : Stmt := nthS (stBody (stAt jCloses)) 1
section
variable {C : Cst} {A : Around} {env : Env} {X : Zm} {K : Frag} {Ca : Addr}
abbrev Pj (w : List Nat) (lo hi : Nat) (d : Int) : PEnv := [("word", .str w), ("low", .str [lo]), ("high", .str [hi]), ("depth", .int d)]
theorem turn_clj (hE : EnvOf (stScope (stAt jCloses)) env) {w : List Nat} {lo hi c : Nat} {d : Int} :
    Turn C A env X (forTgt cljFor) (forBody cljFor) (.str [c]) (Pj w lo hi d) []
      (if c = hi then .next (Pj w lo hi (d + 1)) [] else if c = lo then (if d - 1 < 0 then .ret (.bool false) else .next (Pj w lo hi (d - 1)) []) else .next (Pj w lo hi d) []) := by
  refine ⟨_, _, AsgT_name (hE.loc rfl), fun X' hX => ?_⟩
  have sub4 : ∀ {P₁ : PEnv} {d' : Int}, P₁.lookup ("word" : Str) = some (.str w) → P₁.lookup ("low" : Str) = some (.str [lo]) → P₁.lookup ("high" : Str) = some (.str [hi]) → P₁.lookup ("depth" : Str) = some (.int d') → PSub (Pj w lo hi d') P₁ :=
    fun h1 h2 h3 h4 => PSub_cons h1 (PSub_cons h2 (PSub_cons h3 (PSub_cons h4 (PSub.nil _))))
  by_cases h : c = hi
  · rw [if_pos h]
    refine Ex_cons (Ex1_if (b := true) (.of (Tst_eq (by simp [h]) (Tst_cmp (Ev_name rfl) (Ev_name rfl) (op_eqS (a := [c]) (b := [hi]))))) (fun _ => Ex_cons (Ex1_aug (hE.loc rfl) rfl Ev_int op_iadd) Ex_nil) (fun h => by cases h)) ?_
    exact Ex_conseq Ex_nil (sub4 rfl rfl rfl rfl) (PSub.nil _)
  · rw [if_neg h]
    by_cases h2 : c = lo
    · rw [if_pos h2]
      by_cases h3 : d - 1 < 0
      · rw [if_pos h3]
        refine Ex_ret (Ex1_if (b := false) (.of (Tst_eq (by simp [h]) (Tst_cmp (Ev_name rfl) (Ev_name rfl) (op_eqS (a := [c]) (b := [hi]))))) (fun h => by cases h) (fun _ => ?_))
        refine Ex_ret (Ex1_if (b := true) (.of (Tst_eq (by simp [h2]) (Tst_cmp (Ev_name rfl) (Ev_name rfl) (op_eqS (a := [c]) (b := [lo]))))) (fun _ => Ex_cons (Ex1_aug (hE.loc rfl) rfl Ev_int op_isub) ?_) (fun h => by cases h))
        exact Ex_ret (Ex1_if (b := true) (.of (Tst_eq (by simp; omega) (Tst_cmp (Ev_name rfl) Ev_int (op_lt (a := d - 1) (b := 0))))) (fun _ => Ex_ret (Ex1_return (.of Ev_bool))) (fun h => by cases h))
      · rw [if_neg h3]
        refine Ex_cons (P' := upd (upd (Pj w lo hi d) "letter" (.str [c])) "depth" (.int (d - 1))) (W' := []) (Ex1_if (b := false) (.of (Tst_eq (by simp [h]) (Tst_cmp (Ev_name rfl) (Ev_name rfl) (op_eqS (a := [c]) (b := [hi]))))) (fun h => by cases h) (fun _ => ?_)) ?_
        · refine Ex_cons (Ex1_if (b := true) (.of (Tst_eq (by simp [h2]) (Tst_cmp (Ev_name rfl) (Ev_name rfl) (op_eqS (a := [c]) (b := [lo]))))) (fun _ => Ex_cons (Ex1_aug (hE.loc rfl) rfl Ev_int op_isub) ?_) (fun h => by cases h)) Ex_nil
          exact Ex_cons (Ex1_if (b := false) (.of (Tst_eq (by simp; omega) (Tst_cmp (Ev_name rfl) Ev_int (op_lt (a := d - 1) (b := 0))))) (fun h => by cases h) (fun _ => Ex_nil)) Ex_nil
        · exact Ex_conseq Ex_nil (sub4 rfl rfl rfl rfl) (PSub.nil _)
    · rw [if_neg h2]
      refine Ex_cons (Ex1_if (b := false) (.of (Tst_eq (by simp [h]) (Tst_cmp (Ev_name rfl) (Ev_name rfl) (op_eqS (a := [c]) (b := [hi]))))) (fun h => by cases h)
        (fun _ => Ex_cons (Ex1_if (b := false) (.of (Tst_eq (by simp [h2]) (Tst_cmp (Ev_name rfl) (Ev_name rfl) (op_eqS (a := [c]) (b := [lo]))))) (fun h => by cases h) (fun _ => Ex_nil)) Ex_nil)) ?_
      exact Ex_conseq Ex_nil (sub4 rfl rfl rfl rfl) (PSub.nil _)
theorem lp_clj (hE : EnvOf (stScope (stAt jCloses)) env) {w : List Nat} {lo hi : Nat} : ∀ (r : List Nat) (d : Int),
    ∃ out, Lp (Turn C A env X (forTgt cljFor) (forBody cljFor)) (signs r) (Pj w lo hi d) [] out ∧ ((out = .ret (.bool false) ∧ closesJ lo hi d r = false) ∨ ∃ d', out = .next (Pj w lo hi d') [] ∧ closesJ lo hi d r = decide (d' = 0))
  | [], d => ⟨_, .nil, .inr ⟨d, rfl, rfl⟩⟩
  | c :: r, d => by
    have t := turn_clj (X := X) (C := C) (A := A) hE (w := w) (lo := lo) (hi := hi) (d := d) (c := c)
    simp only [closesJ, signs, List.map_cons]
    by_cases h : c = hi
    · rw [if_pos h] at t ⊢
      obtain ⟨out, a, b⟩ := lp_clj hE (w := w) r (d + 1)
      exact ⟨out, .step t a, b⟩
    · rw [if_neg h] at t ⊢
      by_cases h2 : c = lo
      · rw [if_pos h2] at t ⊢
        by_cases h3 : d - 1 < 0
        · rw [if_pos h3] at t ⊢
          exact ⟨_, .ret t, .inl ⟨rfl, rfl⟩⟩
        · rw [if_neg h3] at t ⊢
          obtain ⟨out, a, b⟩ := lp_clj hE (w := w) r (d - 1)
          exact ⟨out, .step t a, b⟩
      · rw [if_neg h2] at t ⊢
        obtain ⟨out, a, b⟩ := lp_clj hE (w := w) r d
        exact ⟨out, .step t a, b⟩
theorem closesJ_fun (ok : C.Ok) (D : DefJ C "_law_closes" jCloses) {w : List Nat} {lo hi : Nat} : Fun C "_law_closes" 1 [.str w, .str [lo], .str [hi]] (.bool (closesJ lo hi 0 w)) := by
  refine fun_of (names := ["word", "low", "high"]) (o := .ret (.bool (closesJ lo hi 0 w))) ok D ?_ rfl (by decide) ?_ ?_ ?_ (.inl ⟨_, rfl⟩)
  · intro name qual pm code doc vs hv
    match vs, hv with
    | [u, v, w], _ => rfl
  · intro x hx
    simp only [List.mem_cons, List.not_mem_nil, or_false] at hx
    rcases hx with rfl | rfl | rfl <;> exact .inl rfl
  · intro x hx
    simp only [List.mem_cons, List.not_mem_nil, or_false] at hx
    rcases hx with rfl | rfl | rfl <;> decide
  intro A env hr hE
  refine Ex_cons (Ex1_assign (hE.loc rfl) (.of Ev_int)) ?_
  refine Ex_weak (P' := Pj w lo hi 0) (W' := []) ?_ (PSub_cons rfl (PSub_cons rfl (PSub_cons rfl (PSub_cons rfl (PSub.nil _))))) (PSub.nil _)
  obtain ⟨out, lp, ho⟩ := lp_clj (C := C) (A := A) (env := env) (X := NoX) hE (w := w) (lo := lo) (hi := hi) w 0
  have hfor : Ex1 C A env NoX (Pj w lo hi 0) [] cljFor out := Ex1_for (C := C) (gen := false) (mb := C.md) (fun h => h) (fun h => by cases h) (.of (ItE_str hr.1 (Ev_name rfl))) lp
  rcases ho with ⟨rfl, e⟩ | ⟨d', rfl, e⟩
  · rw [e]; exact Ex_ret hfor
  · rw [e]
    exact Ex_cons hfor (Ex_ret (Ex1_return (.of (Ev_cmp (Ev_name rfl) Ev_int (op_eq (a := d') (b := 0))))))
end
end Mine
namespace Mine
def colStep (size : Nat) (col : Nat) (c : Nat) : Nat := if c = 32 then col + 1 else (col / size + 1) * size
def colY (lead : List Nat) (size : Nat) : Nat := lead.foldl (colStep size) 0
abbrev colFor : Stmt := nthS (stBody (stAt jColumn)) 1
section
variable {C : Cst} {A : Around} {env : Env} {X : Zm} {K : Frag} {Ca : Addr}
abbrev Pcol (lead : List Nat) (size col : Nat) : PEnv := [("lead", .str lead), ("size", .int size), ("column", .int col)]
theorem turn_col (hE : EnvOf (stScope (stAt jColumn)) env) {lead : List Nat} {size col c : Nat} (hs : 0 < size) (hs' : size ≤ 1000) (hc : col ≤ 1000000) :
    Turn C A env X (forTgt colFor) (forBody colFor) (.str [c]) (Pcol lead size col) [] (.next (Pcol lead size (colStep size col c)) []) := by
  refine ⟨_, _, AsgT_name (hE.loc rfl), fun X' hX => ?_⟩
  have hq : (col : Int).fdiv (size : Int) = ((col / size : Nat) : Int) := by rw [Int.fdiv_eq_ediv_of_nonneg _ (Int.natCast_nonneg _)]; rfl
  have hb : col / size ≤ col := Nat.div_le_self _ _
  refine Ex_cons (Ex1_assign (a := .int (colStep size col c)) (hE.loc rfl) (.of (Ev_ifexp (c := decide (c = 32)) (Tst_eq (by simp) (Tst_cmp (Ev_name rfl) (Ev_str (l := [32]) rfl) (op_eqS (a := [c]) (b := [32])))) (fun h => ?_) (fun h => ?_)))) ?_
  · have e : colStep size col c = col + 1 := by simp [colStep, of_decide_eq_true h]
    rw [e]
    exact Ev_bin (Ev_name rfl) Ev_int op_add
  · have e : colStep size col c = (col / size + 1) * size := by simp [colStep, of_decide_eq_false h]
    rw [e]
    refine Ev_eq (b := .int (((col : Int).fdiv size + 1) * size)) (by rw [hq]; push_cast; rfl) ?_
    exact Ev_bin (Ev_bin (Ev_bin (Ev_name rfl) (Ev_name rfl) (op_fdiv (a := col) (b := size) (by omega) (by omega))) Ev_int op_add) (Ev_name rfl) (op_mul (mulOk_left (by rw [hq]; exact Int.lt_of_lt_of_le (by decide) (Int.natCast_nonneg (col / size + 1))) (by rw [hq]; omega)))
  · exact Ex_conseq Ex_nil (PSub_cons rfl (PSub_cons rfl (PSub_cons rfl (PSub.nil _)))) (PSub.nil _)
theorem colStep_le {size col c k : Nat} (hs : 0 < size) (hs' : size ≤ 1000) (h : col ≤ k * 1000) : colStep size col c ≤ (k + 1) * 1000 := by
  unfold colStep
  split
  · omega
  · have := Nat.div_mul_le_self col size
    rw [Nat.add_mul]
    omega
theorem col_fun (ok : C.Ok) (D : DefJ C "_law_column" jColumn) {lead : List Nat} {size : Nat} (hl : lead.length ≤ 500) (hs : 0 < size) (hs' : size ≤ 1000) : Fun C "_law_column" 1 [.str lead, .int size] (.int (colY lead size)) := by
  refine fun_of (names := ["lead", "size"]) (o := .ret (.int (colY lead size))) ok D ?_ rfl (by decide) ?_ ?_ ?_ (.inl ⟨_, rfl⟩)
  · intro name qual pm code doc vs hv
    match vs, hv with
    | [u, v], _ => rfl
  · intro x hx
    simp only [List.mem_cons, List.not_mem_nil, or_false] at hx
    rcases hx with rfl | rfl <;> exact .inl rfl
  · intro x hx
    simp only [List.mem_cons, List.not_mem_nil, or_false] at hx
    rcases hx with rfl | rfl <;> decide
  intro A env hr hE
  refine Ex_cons (Ex1_assign (hE.loc rfl) (.of Ev_int)) ?_
  refine Ex_weak (P' := Pcol lead size 0) (W' := []) ?_ (PSub_cons rfl (PSub_cons rfl (PSub_cons rfl (PSub.nil _)))) (PSub.nil _)
  obtain ⟨lp, _⟩ := Lp_foldl (B := Turn C A env NoX (forTgt colFor) (forBody colFor)) (fun c => .str [c]) (Pcol lead size) (fun _ => []) (colStep size) 500 (fun k col => col ≤ k * 1000)
    (fun k s x hk hi => turn_col hE hs hs' (by omega)) (fun k s x hk hi => colStep_le hs hs' hi) lead 0 0 (by omega) (by omega)
  refine Ex_cons (Ex1_for (C := C) (gen := false) (mb := C.md) (fun h => h) (fun h => by cases h) (.of (ItE_str hr.1 (Ev_name rfl))) lp) ?_
  exact Ex_ret (Ex1_return (.of (Ev_name rfl)))
end
end Mine
namespace Mine
def iter {σ : Type} (f : σ → Nat → σ) : Nat → Nat → σ → σ
  | _, 0, s => s
  | k, n + 1, s => iter f (k + 1) n (f s k)
theorem Lp_up {B : PV → PEnv → OEnv → Out → Prop} {σ : Type} (sp : σ → PEnv) (sw : σ → OEnv) (f : σ → Nat → σ) (N : Nat) (Inv : Nat → σ → Prop)
    (hB : ∀ (k : Nat) s, k < N → Inv k s → B (.int k) (sp s) (sw s) (.next (sp (f s k)) (sw (f s k))) ∧ Inv (k + 1) (f s k)) :
    ∀ (n k : Nat) (s : σ), k + n ≤ N → Inv k s → Lp B (upZ k n) (sp s) (sw s) (.next (sp (iter f k n s)) (sw (iter f k n s))) ∧ Inv (k + n) (iter f k n s)
  | 0, k, s, _, h => ⟨.nil, h⟩
  | n + 1, k, s, hk, h => by
    obtain ⟨b, i⟩ := hB k s (by omega) h
    obtain ⟨l, j⟩ := Lp_up sp sw f N Inv hB n (k + 1) (f s k) (by omega) i
    refine ⟨.step b l, ?_⟩
    rw [show k + (n + 1) = k + 1 + n by omega]
    exact j
def Cap (scope : Scope) (enames : List (Str × NameKind)) (P P₀ : PEnv) : Prop := ∀ y pv, P₀.lookup y = some pv → P.lookup y = some pv ∧ (y, NameKind.free) ∈ scope.names ∧ (relN scope.names enames).lookup y = some .cell
theorem Cap.nil {scope : Scope} {enames : List (Str × NameKind)} {P : PEnv} : Cap scope enames P [] := fun _ _ h => by cases h
theorem Cap.cons {scope : Scope} {enames : List (Str × NameKind)} {P P₀ : PEnv} {y : Str} {pv : PV} (h1 : P.lookup y = some pv) (h2 : scope.names.lookup y = some .free) (h3 : enames.lookup y = some .cell) (r : Cap scope enames P P₀) : Cap scope enames P ((y, pv) :: P₀) := fun x u e => by
  by_cases q : x = y
  · subst q
    simp [List.lookup] at e
    subst e
    exact ⟨h1, mem_of_lookup h2, relN_free h2 h3⟩
  · have : (x == y) = false := beq_eq_false_iff_ne.mpr q
    simp only [List.lookup, this] at e
    exact r x u e
theorem compOk_of {scope : Scope} {enames : List (Str × NameKind)} {P P₀ : PEnv} (hk : scope.kind = .function) (hself : scope.names.all (fun p => decide (scope.names.lookup p.1 = some p.2)) = true)
    (hfree : scope.names.all (fun p => decide (p.2 = .free → enames.lookup p.1 = some .cell)) = true) (hcap : Cap scope enames P P₀) : CompOk scope enames P P₀ where
  kind := hk
  self := fun p hp => of_decide_eq_true (List.all_eq_true.mp hself p hp)
  free := fun p hp => of_decide_eq_true (List.all_eq_true.mp hfree p hp)
  cap := hcap
def okI (q : Int → Bool) : PV → Bool
  | .int k => q k
  | _ => false
theorem filter_okI (q : Int → Bool) : ∀ ns : List Int, (iL ns).filter (okI q) = iL (ns.filter q)
  | [] => rfl
  | n :: ns => by
    have ih := filter_okI q ns
    simp only [iL, List.map_cons, List.filter_cons, okI] at ih ⊢
    split <;> simp_all
theorem mem_upZ : ∀ {n : Nat} {a : Int} {x : PV}, x ∈ upZ a n → ∃ k : Int, x = .int k ∧ a ≤ k ∧ k < a + n
  | 0, _, _, h => by cases h
  | n + 1, a, x, h => by
    rcases List.mem_cons.mp h with rfl | h
    · exact ⟨a, rfl, by omega, by omega⟩
    · obtain ⟨k, e, h1, h2⟩ := mem_upZ h
      exact ⟨k, e, by omega, by omega⟩
theorem upZ_length : ∀ (n : Nat) (a : Int), (upZ a n).length = n
  | 0, _ => rfl
  | n + 1, a => by rw [upZ, List.length_cons, upZ_length n]
def upI : Int → Nat → List Int
  | _, 0 => []
  | a, n + 1 => a :: upI (a + 1) n
theorem upZ_iL : ∀ (n : Nat) (a : Int), upZ a n = iL (upI a n)
  | 0, _ => rfl
  | n + 1, a => by rw [upZ, upZ_iL n, upI]; rfl
theorem Lp_foldlM {B : PV → PEnv → OEnv → Out → Prop} {σ τ : Type} (V : τ → PV) (sp : σ → PEnv) (sw : σ → OEnv) (f : σ → τ → σ) :
    ∀ (xs : List τ) (s : σ), (∀ s x, x ∈ xs → B (V x) (sp s) (sw s) (.next (sp (f s x)) (sw (f s x)))) → Lp B (xs.map V) (sp s) (sw s) (.next (sp (xs.foldl f s)) (sw (xs.foldl f s)))
  | [], s, _ => .nil
  | x :: xs, s, h => .step (h s x List.mem_cons_self) (Lp_foldlM V sp sw f xs (f s x) fun s y hy => h s y (List.mem_cons_of_mem _ hy))
theorem joinL_len : ∀ xs : List (List Nat), (joinL [] xs).length = (xs.map List.length).sum
  | [] => rfl
  | [x] => by simp [joinL]
  | x :: y :: r => by
    have := joinL_len (y :: r)
    simp only [joinL, List.append_nil, List.length_append, this, List.map_cons, List.sum_cons]
theorem fdiv_cast (m k : Nat) : (m : Int).fdiv (k : Int) = ((m / k : Nat) : Int) := by
  rw [Int.fdiv_eq_ediv_of_nonneg _ (Int.natCast_nonneg _)]; rfl
theorem fmod_cast (m k : Nat) : (m : Int).fmod (k : Int) = ((m % k : Nat) : Int) := by
  rw [Int.fmod_eq_emod_of_nonneg _ (Int.natCast_nonneg _)]; rfl
theorem pySlice_map {α β : Type} (g : α → β) (l : List α) (lo hi : Option Int) : pySlice (l.map g) lo hi = (pySlice l lo hi).map g := by
  simp only [pySlice, List.length_map, List.map_drop, List.map_take]
theorem iL_slice (l : List Int) (lo hi : Option Int) : pySlice (iL l) lo hi = iL (pySlice l lo hi) := pySlice_map _ _ _ _
theorem fmod_nat (a : Int) (k : Nat) (hk : 0 < k) : ∃ m : Nat, a.fmod k = m ∧ m < k := by
  have h1 := Int.fmod_nonneg_of_pos a (b := k) (by omega)
  have h2 := Int.fmod_lt_of_pos a (b := k) (by omega)
  exact ⟨(a.fmod k).toNat, by omega, by omega⟩
end Mine
namespace Mine
structure RiS where
  a : Int
  b : Int
  c : Int
def riStep (s : RiS) (c : Nat) : RiS := if c = 97 then ⟨s.a + 1, s.b, s.c⟩ else if c = 98 then ⟨s.a, max s.a s.b + 1, s.c⟩ else ⟨s.a, s.b, maxL [s.a, s.b, s.c] + 1⟩
def riseY (w : List Nat) : Int := let s := w.foldl riStep ⟨0, 0, 0⟩; maxL [s.a, s.b, s.c]
abbrev risFor : Stmt := nthS (stBody (stAt jRise)) 1
section
variable {C : Cst} {A : Around} {env : Env} {X : Zm} {K : Frag} {Ca : Addr}
abbrev Pri (w : List Nat) (s : RiS) : PEnv := [("word", .str w), ("best", .list (iL [s.a, s.b, s.c]))]
theorem turn_ris (ok : C.Ok) (B : Bi C) (hA : A.handled = none) (hE : EnvOf (stScope (stAt jRise)) env) {w : List Nat} {s : RiS} {c : Nat} :
    Turn C A env X (forTgt risFor) (forBody risFor) (.str [c]) (Pri w s) [] (.next (Pri w (riStep s c)) []) := by
  refine ⟨_, _, AsgT_name (hE.loc rfl), fun X' hX => ?_⟩
  have i0 : ∀ {P : PEnv} {p1 p2 p3 : Pos} {kk : Nat}, P.lookup ("best" : Str) = some (.list (iL [s.a, s.b, s.c])) → Ev C A env P (.Subscript (.Name "best" p1) (.Constant (.int 0) kk p2) p3) (.int s.a) := fun h => Ev_sub (Ev_name h) Ev_int (op_itemL (k := 0) (c := .int s.a) rfl rfl (by decide))
  have i1 : ∀ {P : PEnv} {p1 p2 p3 : Pos} {kk : Nat}, P.lookup ("best" : Str) = some (.list (iL [s.a, s.b, s.c])) → Ev C A env P (.Subscript (.Name "best" p1) (.Constant (.int 1) kk p2) p3) (.int s.b) := fun h => Ev_sub (Ev_name h) Ev_int (op_itemL (k := 1) (c := .int s.b) rfl rfl (by decide))
  have i2 : ∀ {P : PEnv} {p1 p2 p3 : Pos} {kk : Nat}, P.lookup ("best" : Str) = some (.list (iL [s.a, s.b, s.c])) → Ev C A env P (.Subscript (.Name "best" p1) (.Constant (.int 2) kk p2) p3) (.int s.c) := fun h => Ev_sub (Ev_name h) Ev_int (op_itemL (k := 2) (c := .int s.c) rfl rfl (by decide))
  unfold riStep
  by_cases h : c = 97
  · rw [if_pos h]
    refine Ex_cons (Ex1_if (b := true) (.of (Tst_eq (by simp [h]) (Tst_cmp (Ev_name rfl) (Ev_str (l := [97]) rfl) (op_eqS (a := [c]) (b := [97])))))
      (fun _ => Ex_cons (Ex1_assign (a := .list (iL [s.a + 1, s.b, s.c])) (hE.loc rfl) (.of (Ev_list (.cons (Ev_bin (i0 rfl) Ev_int op_add) (.cons (i1 rfl) (.cons (i2 rfl) .nil rfl) rfl) rfl) (by simp [iL])))) Ex_nil) (fun h => by cases h)) ?_
    exact Ex_conseq Ex_nil (PSub_cons rfl (PSub_cons rfl (PSub.nil _))) (PSub.nil _)
  · rw [if_neg h]
    by_cases h2 : c = 98
    · rw [if_pos h2]
      refine Ex_cons (Ex1_if (b := false) (.of (Tst_eq (by simp [h]) (Tst_cmp (Ev_name rfl) (Ev_str (l := [97]) rfl) (op_eqS (a := [c]) (b := [97]))))) (fun h => by cases h)
        (fun _ => Ex_cons (Ex1_if (b := true) (.of (Tst_eq (by simp [h2]) (Tst_cmp (Ev_name rfl) (Ev_str (l := [98]) rfl) (op_eqS (a := [c]) (b := [98])))))
          (fun _ => Ex_cons (Ex1_assign (a := .list (iL [s.a, max s.a s.b + 1, s.c])) (hE.loc rfl) (.of (Ev_list (.cons (i0 rfl) (.cons (Ev_bin (Ev_call ok (hE.k rfl) B.max (CallW.builtin _) (.cons (i0 rfl) (.cons (i1 rfl) .nil rfl) rfl) (opC_max2 hA)) Ev_int op_add) (.cons (i2 rfl) .nil rfl) rfl) rfl) (by simp [iL])))) Ex_nil) (fun h => by cases h)) Ex_nil)) ?_
      exact Ex_conseq Ex_nil (PSub_cons rfl (PSub_cons rfl (PSub.nil _))) (PSub.nil _)
    · rw [if_neg h2]
      refine Ex_cons (Ex1_if (b := false) (.of (Tst_eq (by simp [h]) (Tst_cmp (Ev_name rfl) (Ev_str (l := [97]) rfl) (op_eqS (a := [c]) (b := [97]))))) (fun h => by cases h)
        (fun _ => Ex_cons (Ex1_if (b := false) (.of (Tst_eq (by simp [h2]) (Tst_cmp (Ev_name rfl) (Ev_str (l := [98]) rfl) (op_eqS (a := [c]) (b := [98]))))) (fun h => by cases h)
          (fun _ => Ex_cons (Ex1_assign (a := .list (iL [s.a, s.b, maxL [s.a, s.b, s.c] + 1])) (hE.loc rfl) (.of (Ev_list (.cons (i0 rfl) (.cons (i1 rfl) (.cons (Ev_bin (Ev_call ok (hE.k rfl) B.max (CallW.builtin _) (.cons (Ev_name rfl) .nil rfl) (opC_maxL (ns := [s.a, s.b, s.c]) hA (by simp))) Ev_int op_add) .nil rfl) rfl) rfl) (by simp [iL])))) Ex_nil)) Ex_nil)) ?_
      exact Ex_conseq Ex_nil (PSub_cons rfl (PSub_cons rfl (PSub.nil _))) (PSub.nil _)
theorem rise_fun (ok : C.Ok) (B : Bi C) (D : DefJ C "_law_rise" jRise) {w : List Nat} : Fun C "_law_rise" 1 [.str w] (.int (riseY w)) := by
  refine fun_of (names := ["word"]) (o := .ret (.int (riseY w))) ok D ?_ rfl (by decide) ?_ ?_ ?_ (.inl ⟨_, rfl⟩)
  · intro name qual pm code doc vs hv
    match vs, hv with
    | [u], _ => rfl
  · intro x hx
    simp only [List.mem_cons, List.not_mem_nil, or_false] at hx
    rcases hx with rfl
    exact .inl rfl
  · intro x hx
    simp only [List.mem_cons, List.not_mem_nil, or_false] at hx
    rcases hx with rfl
    decide
  intro A env hr hE
  refine Ex_cons (Ex1_assign (a := .list (iL [0, 0, 0])) (hE.loc rfl) (.of (Ev_list (.cons Ev_int (.cons Ev_int (.cons Ev_int .nil rfl) rfl) rfl) (by decide)))) ?_
  refine Ex_weak (P' := Pri w ⟨0, 0, 0⟩) (W' := []) ?_ (PSub_cons rfl (PSub_cons rfl (PSub.nil _))) (PSub.nil _)
  have lp := Lp_foldlM (B := Turn C A env NoX (forTgt risFor) (forBody risFor)) (fun c => .str [c]) (Pri w) (fun _ => []) riStep w ⟨0, 0, 0⟩ (fun s c _ => turn_ris ok B hr.1 hE)
  refine Ex_cons (Ex1_for (C := C) (gen := false) (mb := C.md) (fun h => h) (fun h => by cases h) (.of (ItE_str hr.1 (Ev_name rfl))) lp) ?_
  exact Ex_ret (Ex1_return (.of (Ev_call ok (hE.k rfl) B.max (CallW.builtin _) (.cons (Ev_name rfl) .nil rfl) (opC_maxL (ns := [(w.foldl riStep ⟨0, 0, 0⟩).a, (w.foldl riStep ⟨0, 0, 0⟩).b, (w.foldl riStep ⟨0, 0, 0⟩).c]) hr.1 (by simp)))))
def leadJ (lo hi : Nat) (w : List Nat) : List Nat :=
  List.replicate (idx lo w).length 32 ++ [9] ++ List.replicate (idx hi w).length 32 ++ [9] ++ List.replicate ((w.length : Int) - (idx lo w).length - (idx hi w).length).toNat 32
theorem idx_le (c : Nat) (w : List Nat) : (idx c w).length ≤ w.length := by
  have := List.length_filter_le (fun i => w[i]? == some c) (List.range w.length)
  rw [List.length_range] at this
  exact this
theorem lead_fun (ok : C.Ok) (B : Bi C) (D : DefJ C "_law_lead" jLead) {w : List Nat} {lo hi : Nat} (hw : w.length ≤ 1000) : Fun C "_law_lead" 1 [.str w, .str [lo], .str [hi]] (.str (leadJ lo hi w)) := by
  have h1 := idx_le lo w
  have h2 := idx_le hi w
  refine fun_of (names := ["word", "low", "high"]) (o := .ret (.str (leadJ lo hi w))) ok D ?_ rfl (by decide) ?_ ?_ ?_ (.inl ⟨_, rfl⟩)
  · intro name qual pm code doc vs hv
    match vs, hv with
    | [u, v, w], _ => rfl
  · intro x hx
    simp only [List.mem_cons, List.not_mem_nil, or_false] at hx
    rcases hx with rfl | rfl | rfl <;> exact .inl rfl
  · intro x hx
    simp only [List.mem_cons, List.not_mem_nil, or_false] at hx
    rcases hx with rfl | rfl | rfl <;> decide
  intro A env hr hE
  refine Ex_cons (Ex1_assign (hE.loc rfl) (.of (Ev_methS (l := w) (r := .int (idx lo w).length) (Ev_name rfl) (.cons (Ev_name rfl) .nil rfl) PySem.F.slot_str_count PySem.F.type_str_count opC_count))) ?_
  refine Ex_cons (Ex1_assign (hE.loc rfl) (.of (Ev_methS (l := w) (r := .int (idx hi w).length) (Ev_name rfl) (.cons (Ev_name rfl) .nil rfl) PySem.F.slot_str_count PySem.F.type_str_count opC_count))) ?_
  unfold leadJ
  generalize (idx lo w).length = x at h1 ⊢
  generalize (idx hi w).length = y at h2 ⊢
  have e1 : List.replicate x 32 = List.replicate ((x : Int)).toNat 32 := by simp
  have e2 : List.replicate y 32 = List.replicate ((y : Int)).toNat 32 := by simp
  rw [e1, e2]
  refine Ex_ret (Ex1_return (.of (Ev_bin (Ev_bin (Ev_bin (Ev_bin (Ev_bin (Ev_str (l := [32]) rfl) (Ev_name rfl) (op_mulS (c := 32) (n := (x : Int)) (by omega) (by omega))) (Ev_str (l := [9]) rfl) (op_addS (b := [9]) ?_))
    (Ev_bin (Ev_str (l := [32]) rfl) (Ev_name rfl) (op_mulS (c := 32) (n := (y : Int)) (by omega) (by omega))) (op_addS ?_)) (Ev_str (l := [9]) rfl) (op_addS (b := [9]) ?_))
    (Ev_bin (Ev_str (l := [32]) rfl) (Ev_bin (Ev_bin (Ev_call ok (hE.k rfl) B.len (CallW.builtin _) (.cons (Ev_name rfl) .nil rfl) (opC_len_str (l := w) (by omega))) (Ev_name rfl) op_sub) (Ev_name rfl) op_sub) (op_mulS (c := 32) (n := (w.length : Int) - x - y) (by omega) (by omega))) (op_addS ?_))))
  all_goals simp; try omega
end
end Mine
namespace Mine
def chJ (w : List Nat) (free top : List Int) (lo hi : Nat) (j : Int) : Nat := if j ∈ free then (if j ∈ top then hi else lo) else (w[j.toNat]?).getD 0
def wordJ (w : List Nat) (free top : List Int) (lo hi : Nat) : List Nat := (upI 0 w.length).map (chJ w free top lo hi)
def stringJ (w : List Nat) (free : List Int) (lo hi : Nat) (r : Nat) : List Nat := wordJ w free (pySlice free (some ((free.length : Int) - r)) none) lo hi
def stringsJ (w : List Nat) (free : List Int) (lo hi : Nat) : List (List Nat) := (List.range (free.length + 1)).map (stringJ w free lo hi)
theorem joinL_single : ∀ xs : List Nat, joinL [] (xs.map fun c => [c]) = xs
  | [] => rfl
  | [x] => rfl
  | x :: y :: r => by
    have := joinL_single (y :: r)
    simp only [List.map_cons, joinL, List.append_nil] at this ⊢
    rw [this]; rfl
def chF (w : List Nat) (free top : List Int) (lo hi : Nat) : PV → PV
  | .int j => .str [chJ w free top lo hi j]
  | _ => .none
theorem chF_eq (w : List Nat) (free top : List Int) (lo hi : Nat) (l : List Int) : ((iL l).filter fun _ => true).map (chF w free top lo hi) = ((l.map (chJ w free top lo hi)).map fun c => [c]).map PV.str := by
  rw [List.filter_eq_self.mpr (by simp)]
  simp [iL, chF, Function.comp_def]
theorem upI_length : ∀ (n : Nat) (a : Int), (upI a n).length = n
  | 0, _ => rfl
  | n + 1, a => by rw [upI, List.length_cons, upI_length n]
theorem get_nat {w : List Nat} {k : Int} (h0 : 0 ≤ k) (h1 : k < w.length) : (seqIndex? k w.length).bind (w[·]?) = some ((w[k.toNat]?).getD 0) := by
  obtain ⟨j, rfl⟩ := Int.eq_ofNat_of_zero_le h0
  have hj : j < w.length := by omega
  refine bind_at (k := j) ?_
  rw [show ((j : Int)).toNat = j by omega, List.getElem?_eq_getElem hj]
  rfl
abbrev strFor : Stmt := nthS (stBody (stAt jString)) 1
section
variable {C : Cst} {A : Around} {env : Env} {X : Zm} {K : Frag} {Ca : Addr}
abbrev Pst (w : List Nat) (free : List Int) (lo hi : Nat) : PEnv := [("word", .str w), ("free", .list (iL free)), ("low", .str [lo]), ("high", .str [hi])]
abbrev Wst (ws : List (List Nat)) : OEnv := [("words", ws.map PV.str)]
theorem turn_str (ok : C.Ok) (B : Bi C) (hr : Room A 1) (hE : EnvOf (stScope (stAt jString)) env) {w : List Nat} {free : List Int} {lo hi r : Nat} {ws : List (List Nat)} (hw : w.length ≤ 1000) (hf : free.length ≤ 1000) (hws : ws.length ≤ 10000) :
    Turn C A env X (forTgt strFor) (forBody strFor) (.int r) (Pst w free lo hi) (Wst ws) (.next (Pst w free lo hi) (Wst (ws ++ [stringJ w free lo hi r]))) := by
  refine ⟨_, _, AsgT_name (hE.loc rfl), fun X' hX => ?_⟩
  refine Ex_cons (Ex1_assign (a := .list (iL (pySlice free (some ((free.length : Int) - r)) none))) (hE.cel rfl) (.of (Ev_eq (b := .list (pySlice (iL free) (some ((free.length : Int) - r)) none)) (by rw [iL_slice]) (Ev_sliceL (Ev_name rfl) (.int (Ev_bin (Ev_eq (b' := .int free.length) (by rw [iL_length]) (Ev_call ok (hE.k rfl) B.len (CallW.builtin _) (.cons (Ev_name rfl) .nil rfl) (opC_len_list (xs := iL free) (by rw [iL_length]; omega)))) (Ev_name rfl) op_sub)) .nil (by rw [iL_length]; omega))))) ?_
  unfold stringJ
  generalize hts : pySlice free (some ((free.length : Int) - r)) none = top
  refine Ex_cons (Ex1_append (a := .str (wordJ w free top lo hi)) rfl (.of (Ev_eq (b := .str (joinL [] ((wordJ w free top lo hi).map fun c => [c]))) (by rw [joinL_single]) (Ev_methS (l := []) (r := .str (joinL [] ((wordJ w free top lo hi).map fun c => [c]))) (Ev_str (l := []) rfl) (.cons (Ev_eq (b' := .list (((wordJ w free top lo hi).map fun c => [c]).map PV.str)) (by rw [upZ_iL, chF_eq]; rfl)
    (Ev_comp (P₀ := [("word", .str w), ("free", .list (iL free)), ("low", .str [lo]), ("high", .str [hi]), ("top", .list (iL top))]) (items := upZ 0 w.length) (p := fun _ => true) (f := chF w free top lo hi) hE
      (ItE_up (a := 0) (b := (w.length : Int)) (n := w.length) ok hr.1 (hE.k rfl) B.range (.cons (Ev_call ok (hE.k rfl) B.len (CallW.builtin _) (.cons (Ev_name rfl) .nil rfl) (opC_len_str (l := w) (by omega))) .nil rfl) (.inl ⟨rfl, rfl⟩) (by omega) (by omega) (by omega) (by omega) (by omega))
      ⟨compOk_of rfl (by with_unfolding_all rfl) (by with_unfolding_all rfl) (.cons rfl rfl rfl (.cons rfl rfl rfl (.cons rfl rfl rfl (.cons rfl rfl rfl (.cons rfl rfl rfl .nil))))), rfl, .inl rfl, by decide, fun cenv hC x hx => TsAll_nil, fun cenv hC x hx _ => ?_, by rw [upZ_length]; omega⟩)) .nil rfl) PySem.F.slot_str_join PySem.F.type_str_join (opC_join ?_)))) (by simp; omega) (hm := hE.kind)) ?_
  · obtain ⟨j, rfl, h0, h1⟩ := mem_upZ hx
    simp only [chF, chJ]
    refine Ev_ifexp (c := !decide (j ∈ free)) (Tst_cmp (Ev_name rfl) (Ev_name rfl) op_notInI) (fun h => ?_) (fun h => ?_)
    · rw [if_neg (by simpa using h)]
      exact Ev_sub (Ev_name rfl) (Ev_name rfl) (op_itemS (l := w) (k := j) (get_nat h0 (by omega)) rfl (by omega))
    · rw [if_pos (by simpa using h)]
      refine Ev_ifexp (c := decide (j ∈ top)) (Tst_cmp (Ev_name rfl) (Ev_name rfl) op_inI) (fun h => ?_) (fun h => ?_)
      · rw [if_pos (by simpa using h)]
        exact Ev_name rfl
      · rw [if_neg (by simpa using h)]
        exact Ev_name rfl
  · have e1 : ∀ l : List Nat, ((l.map fun c => [c]).map List.length).sum = l.length := fun l => by
      induction l with
      | nil => rfl
      | cons x r ih => simp only [List.map_cons, List.sum_cons, List.length_cons, List.length_nil] at ih ⊢; omega
    rw [e1]
    simp [wordJ, upI_length]; omega
  · exact Ex_conseq Ex_nil (PSub_cons rfl (PSub_cons rfl (PSub_cons rfl (PSub_cons rfl (PSub.nil _))))) (PSub_cons (congrArg some (by simp)) (PSub.nil _))
theorem string_fun (ok : C.Ok) (B : Bi C) (D : DefJ C "_law_string" jString) {w : List Nat} {free : List Int} {lo hi : Nat} (hw : w.length ≤ 1000) (hf : free.length ≤ 1000) :
    Fun C "_law_string" 2 [.str w, .list (iL free), .str [lo], .str [hi]] (.list ((stringsJ w free lo hi).map PV.str)) := by
  refine fun_of (names := ["word", "free", "low", "high"]) (o := .ret (.list ((stringsJ w free lo hi).map PV.str))) ok D ?_ rfl (by decide) ?_ ?_ ?_ (.inl ⟨_, rfl⟩)
  · intro name qual pm code doc vs hv
    match vs, hv with
    | [u, v, w, x], _ => rfl
  · intro x hx
    simp only [List.mem_cons, List.not_mem_nil, or_false] at hx
    rcases hx with rfl | rfl | rfl | rfl <;> exact .inr rfl
  · intro x hx
    simp only [List.mem_cons, List.not_mem_nil, or_false] at hx
    rcases hx with rfl | rfl | rfl | rfl <;> decide
  intro A env hr hE
  refine Ex_cons (Ex1_assignN (hE.loc rfl) (.of (EvN_list .nil (by simp)))) ?_
  refine Ex_weak (P' := Pst w free lo hi) (W' := Wst []) ?_ (PSub_cons rfl (PSub_cons rfl (PSub_cons rfl (PSub_cons rfl (PSub.nil _))))) (PSub_cons rfl (PSub.nil _))
  obtain ⟨lp, hi⟩ := Lp_up (B := Turn C A env NoX (forTgt strFor) (forBody strFor)) (fun _ => Pst w free lo hi) Wst (fun ws r => ws ++ [stringJ w free lo hi r]) 2000 (fun k ws => ws = (List.range k).map (stringJ w free lo hi))
    (fun k ws hk hi => ⟨turn_str ok B hr hE hw hf (by rw [hi]; simp; omega), by rw [hi, List.range_succ, List.map_append]; rfl⟩) (free.length + 1) 0 [] (by omega) rfl
  refine Ex_cons (Ex1_for (C := C) (gen := false) (mb := C.md) (fun h => h) (fun h => by cases h) (.of (ItE_up (a := 0) (b := (free.length : Int) + 1) (n := free.length + 1) ok hr.1 (hE.k rfl) B.range
    (.cons (Ev_bin (Ev_eq (b' := .int free.length) (by rw [iL_length]) (Ev_call ok (hE.k rfl) B.len (CallW.builtin _) (.cons (Ev_name rfl) .nil rfl) (opC_len_list (xs := iL free) (by rw [iL_length]; omega)))) Ev_int op_add) .nil rfl) (.inl ⟨rfl, rfl⟩) (by omega) (by omega) (by omega) (by omega) (by omega))) lp) ?_
  rw [hi, Nat.zero_add]
  refine Ex_freeze (x := "words") rfl ?_
  exact Ex_ret (Ex1_return (.of (Ev_name rfl)))
end
end Mine
namespace Mine
def lenF : PV → PV
  | .str r => .int r.length
  | _ => .none
def lensJ (l m : List Nat) : List Int := (splitL 9 (l ++ [9] ++ m)).map fun r => (r.length : Int)
def wideJ (l m : List Nat) : Int := maxL (lensJ l m)
def witStep (l m : List Nat) (rs : List (List Int)) (k : Nat) : List (List Int) := if colY l k = colY m k then rs else rs ++ [[(k : Int), (colY l k : Nat), (colY m k : Nat)]]
def witJ (l m : List Nat) : List (List Int) := iter (witStep l m) 1 (wideJ l m + 1).toNat []
theorem lenF_eq (xs : List (List Nat)) : ((xs.map PV.str).filter fun _ => true).map lenF = iL (xs.map fun r => (r.length : Int)) := by
  rw [List.filter_eq_self.mpr (by simp)]
  simp [iL, lenF, Function.comp_def]
theorem splitL_ne (c : Nat) (l : List Nat) : splitL c l ≠ [] := by
  unfold splitL
  intro h
  have := congrArg List.length h
  simp at this
theorem splitL_len (c : Nat) (l : List Nat) : (splitL c l).length ≤ l.length + 1 := by
  have := idx_le c l
  unfold splitL
  simp; omega
theorem splitL_part {c : Nat} {l r : List Nat} (h : r ∈ splitL c l) : r.length ≤ l.length := by
  obtain ⟨p, _, rfl⟩ := List.mem_map.mp h
  simp; omega
theorem wide_le {l m : List Nat} : 0 ≤ wideJ l m ∧ wideJ l m ≤ l.length + m.length + 1 := by
  unfold wideJ lensJ
  cases hs : splitL 9 (l ++ [9] ++ m) with
  | nil => exact absurd hs (splitL_ne _ _)
  | cons a r =>
    have hb : ∀ x ∈ splitL 9 (l ++ [9] ++ m), (x.length : Int) ≤ l.length + m.length + 1 := fun x hx => by
      have := splitL_part hx
      simp at this
      omega
    rw [hs] at hb
    refine ⟨?_, ?_⟩
    · exact Int.le_trans (Int.natCast_nonneg a.length) (foldl_max_ge _ _ _ (.inl (Int.le_refl _)))
    · refine foldl_max_le _ _ _ (hb a List.mem_cons_self) fun x hx => ?_
      obtain ⟨y, hy, rfl⟩ := List.mem_map.mp hx
      exact hb y (List.mem_cons_of_mem _ hy)
abbrev witFor : Stmt := nthS (stBody (stAt jWitness)) 2
section
variable {C : Cst} {A : Around} {env : Env} {X : Zm} {K : Frag} {Ca : Addr}
abbrev Pwi (l m : List Nat) (N : Int) : PEnv := [("lead", .str l), ("other", .str m), ("wide", .int N)]
abbrev Wwi (rs : List (List Int)) : OEnv := [("rows", rowsL rs)]
theorem turn_wit (ok : C.Ok) (B : Bi C) (D : DefJ C "_law_column" jColumn) (hr : Room A 2) (hE : EnvOf (stScope (stAt jWitness)) env) {l m : List Nat} {N : Int} {rs : List (List Int)} {k : Nat} (hl : l.length ≤ 400) (hm : m.length ≤ 400) (hk0 : 0 < k) (hk : k < 1000) (hrs : rs.length ≤ 10000) :
    Turn C A env X (forTgt witFor) (forBody witFor) (.int k) (Pwi l m N) (Wwi rs) (.next (Pwi l m N) (Wwi (witStep l m rs k))) := by
  refine ⟨_, _, AsgT_name (hE.loc rfl), fun X' hX => ?_⟩
  refine Ex_cons (Ex1_assign (a := .tuple (iL [(k : Int), (colY l k : Nat), (colY m k : Nat)])) (hE.loc rfl) (.of (Ev_tuple (as := [.int k, .int (colY l k : Nat), .int (colY m k : Nat)]) (.cons (Ev_name rfl) (.cons (Ev_fun ok hr hE rfl (.cons (Ev_name rfl) (.cons (Ev_name rfl) .nil rfl) rfl) ((col_fun ok D (lead := l) (size := k) (by omega) hk0 (by omega)).more (by omega))) (.cons (Ev_fun ok hr hE rfl (.cons (Ev_name rfl) (.cons (Ev_name rfl) .nil rfl) rfl) ((col_fun ok D (lead := m) (size := k) (by omega) hk0 (by omega)).more (by omega))) .nil rfl) rfl) rfl) (by simp)))) ?_
  unfold witStep
  generalize colY l k = a
  generalize colY m k = b
  have t : ∀ {P : PEnv} {p1 p2 p3 p4 p5 p6 p7 : Pos} {k1 k2 : Nat}, P.lookup ("row" : Str) = some (.tuple (iL [(k : Int), (a : Nat), (b : Nat)])) →
      Tst C A env P (.Compare (.Subscript (.Name "row" p1) (.Constant (.int 1) k1 p2) p3) [.NotEq] [.Subscript (.Name "row" p4) (.Constant (.int 2) k2 p5) p6] p7) (!decide ((a : Int) = b)) := fun h =>
    Tst_cmp (Ev_sub (Ev_name h) Ev_int (op_itemT (k := 1) (c := .int a) rfl rfl (by decide))) (Ev_sub (Ev_name h) Ev_int (op_itemT (k := 2) (c := .int b) rfl rfl (by decide))) op_ne
  by_cases h : a = b
  · rw [if_pos h]
    refine Ex_cons (Ex1_if (b := false) (.of (Tst_eq (by simp [h]) (t rfl))) (fun h => by cases h) (fun _ => Ex_nil)) ?_
    exact Ex_conseq Ex_nil (PSub_cons rfl (PSub_cons rfl (PSub_cons rfl (PSub.nil _)))) (PSub_cons rfl (PSub.nil _))
  · rw [if_neg h]
    refine Ex_cons (Ex1_if (b := true) (.of (Tst_eq (by simp; omega) (t rfl)))
      (fun _ => Ex_cons (Ex1_append (a := .tuple (iL [(k : Int), (a : Nat), (b : Nat)])) rfl (.of (Ev_name rfl)) (by simp [rowsL]; omega) (hm := hE.kind)) Ex_nil) (fun h => by cases h)) ?_
    exact Ex_conseq Ex_nil (PSub_cons rfl (PSub_cons rfl (PSub_cons rfl (PSub.nil _)))) (PSub_cons (congrArg some (rowsL_snoc rs _)) (PSub.nil _))
theorem wit_fun (ok : C.Ok) (B : Bi C) (D : DefJ C "_law_column" jColumn) (D' : DefJ C "_law_witness" jWitness) {l m : List Nat} (hl : l.length ≤ 400) (hm : m.length ≤ 400) :
    Fun C "_law_witness" 3 [.str l, .str m] (.list (rowsL (witJ l m))) := by
  obtain ⟨w0, w1⟩ := wide_le (l := l) (m := m)
  have hsl := splitL_len 9 (l ++ [9] ++ m)
  simp only [List.length_append, List.length_cons, List.length_nil] at hsl
  refine fun_of (names := ["lead", "other"]) (o := .ret (.list (rowsL (witJ l m)))) ok D' ?_ rfl (by decide) ?_ ?_ ?_ (.inl ⟨_, rfl⟩)
  · intro name qual pm code doc vs hv
    match vs, hv with
    | [u, v], _ => rfl
  · intro x hx
    simp only [List.mem_cons, List.not_mem_nil, or_false] at hx
    rcases hx with rfl | rfl <;> exact .inl rfl
  · intro x hx
    simp only [List.mem_cons, List.not_mem_nil, or_false] at hx
    rcases hx with rfl | rfl <;> decide
  intro A env hr hE
  refine Ex_cons (Ex1_assign (a := .int (wideJ l m)) (hE.loc rfl) (.of (Ev_call ok (hE.k rfl) B.max (CallW.builtin _) (.cons (Ev_eq (b := .list (((((splitL 9 (l ++ [9] ++ m)).map PV.str)).filter fun _ => true).map lenF)) (by rw [lenF_eq]; rfl) (Ev_comp (P₀ := []) (items := (splitL 9 (l ++ [9] ++ m)).map PV.str) (p := fun _ => true) (f := lenF) hE
    (ItE_list hr.1 (Ev_methS (l := l ++ [9] ++ m) (r := .list ((splitL 9 (l ++ [9] ++ m)).map PV.str)) (Ev_bin (Ev_bin (Ev_name rfl) (Ev_str (l := [9]) rfl) (op_addS (b := [9]) (by simp; omega))) (Ev_name rfl) (op_addS (by simp; omega))) (.cons (Ev_str (l := [9]) rfl) .nil rfl) PySem.F.slot_str_split PySem.F.type_str_split (opC_split (by decide) (by simp; omega))))
    ⟨compOk_of rfl (by with_unfolding_all rfl) (by with_unfolding_all rfl) .nil, rfl, .inl rfl, by decide, fun cenv hC x hx => TsAll_nil, fun cenv hC x hx _ => ?_, by rw [List.length_map]; omega⟩)) .nil rfl) (opC_maxL (ns := lensJ l m) hr.1 ?_)))) ?_
  · obtain ⟨r, hr', rfl⟩ := List.mem_map.mp hx
    have := splitL_part hr'
    simp only [List.length_append, List.length_cons, List.length_nil] at this
    exact Ev_call ok (hC.k rfl) B.len (CallW.builtin _) (.cons (Ev_name rfl) .nil rfl) (opC_len_str (l := r) (by omega))
  · unfold lensJ
    simp [splitL_ne]
  refine Ex_cons (Ex1_assignN (hE.loc rfl) (.of (EvN_list .nil (by simp)))) ?_
  unfold witJ
  generalize wideJ l m = N at w0 w1 ⊢
  refine Ex_weak (P' := Pwi l m N) (W' := Wwi []) ?_ (PSub_cons rfl (PSub_cons rfl (PSub_cons rfl (PSub.nil _)))) (PSub_cons rfl (PSub.nil _))
  obtain ⟨lp, _⟩ := Lp_up (B := Turn C A env NoX (forTgt witFor) (forBody witFor)) (fun _ => Pwi l m N) Wwi (witStep l m) 950 (fun k rs => 1 ≤ k ∧ rs.length ≤ k)
    (fun k rs hk hi => ⟨turn_wit ok B D (hr.less (by omega)) hE hl hm hi.1 (by omega) (by omega), by omega, by
      have := hi.2
      unfold witStep
      split
      · omega
      · simp; omega⟩) (N + 1).toNat 1 [] (by omega) ⟨Nat.le_refl _, by simp⟩
  refine Ex_cons (Ex1_for (C := C) (gen := false) (mb := C.md) (fun h => h) (fun h => by cases h) (.of (ItE_up (a := 1) (b := N + 2) (n := (N + 1).toNat) ok hr.1 (hE.k rfl) B.range (.cons Ev_int (.cons (Ev_bin (Ev_name rfl) Ev_int op_add) .nil rfl) rfl) (.inr rfl) (by omega) (by omega) (by omega) (by omega) (by omega))) lp) ?_
  refine Ex_freeze (x := "rows") rfl ?_
  exact Ex_ret (Ex1_return (.of (Ev_name rfl)))
end
end Mine
namespace Mine
abbrev lawJ : List Stmt := stBody (stAt jLaw)
structure LawJ (C : Cst) (K : Frag) (Ca : Addr) : Prop where
  lev : LevG C
  chk : ChkG C
  ws : Ws1G C K Ca
  closes : DefJ C "_law_closes" jCloses
  rise : DefJ C "_law_rise" jRise
  string : DefJ C "_law_string" jString
  lead : DefJ C "_law_lead" jLead
  column : DefJ C "_law_column" jColumn
  witness : DefJ C "_law_witness" jWitness
abbrev for1 : Stmt := nthS lawJ 6
abbrev for1b : Stmt := nthS (forBody for1) 0
def heldStep (w : List Nat) (lo hi s : Nat) (held : List Int) (e : Nat) : List Int := if closesJ lo hi 0 (pySlice w (some (s : Int)) (some (e : Int))) then held ++ rangeI s e else held
def heldIn (w : List Nat) (lo hi : Nat) (held : List Int) (s : Nat) : List Int := iter (heldStep w lo hi s) (s + 1) (w.length - s) held
def heldJ (w : List Nat) (lo hi : Nat) : List Int := iter (heldIn w lo hi) 0 w.length []
theorem rangeI_len (a b : Int) : (rangeI a b).length = (b - a).toNat := by simp [rangeI]
section
variable {C : Cst} {A : Around} {env : Env} {X : Zm} {K : Frag} {Ca : Addr}
abbrev P1 (w : List Nat) (lo hi : Nat) (pcs : List (List Nat)) (held : List Int) : PEnv := [("word", .str w), ("low", .str [lo]), ("high", .str [hi]), ("pieces", .list (pcs.map .str)), ("held", .list (iL held))]
theorem P1_sub {P₁ : PEnv} {w : List Nat} {lo hi : Nat} {pcs : List (List Nat)} {held : List Int} (h1 : P₁.lookup ("word" : Str) = some (.str w)) (h2 : P₁.lookup ("low" : Str) = some (.str [lo])) (h3 : P₁.lookup ("high" : Str) = some (.str [hi]))
    (h4 : P₁.lookup ("pieces" : Str) = some (.list (pcs.map .str))) (h5 : P₁.lookup ("held" : Str) = some (.list (iL held))) : PSub (P1 w lo hi pcs held) P₁ :=
  PSub_cons h1 (PSub_cons h2 (PSub_cons h3 (PSub_cons h4 (PSub_cons h5 (PSub.nil _)))))
theorem turn_e (G : LawJ C K Ca) (hr : Room A 4) (hE : EnvOf (stScope (stAt jLaw)) env) {w : List Nat} {lo hi : Nat} {pcs : List (List Nat)} {held : List Int} {s e : Nat} (hw : w.length ≤ 100) (hp : pcs.length ≤ 100) (hh : held.length ≤ 10000) (hs : s ≤ 100) (he : e ≤ 100)
    (hjl : (joinL [] (pySlice pcs (some (s : Int)) (some (e : Int)))).length ≤ 500) (hjl2 : ((pySlice pcs (some (s : Int)) (some (e : Int))).map List.length).sum ≤ 500)
    (hch : checkY (joinL [] (pySlice pcs (some (s : Int)) (some (e : Int)))) = closesJ lo hi 0 (pySlice w (some (s : Int)) (some (e : Int)))) :
    Turn C A env X (forTgt for1b) (forBody for1b) (.int e) (("start", .int s) :: P1 w lo hi pcs held) [] (.next (("start", .int s) :: P1 w lo hi pcs (heldStep w lo hi s held e)) []) := by
  refine ⟨_, _, AsgT_name (hE.loc rfl), fun X' hX => ?_⟩
  have hc := chk_fun G.chk hjl
  rw [hch] at hc
  have lw := pySlice_length_le w (some (s : Int)) (some (e : Int))
  have lp := pySlice_length_le pcs (some (s : Int)) (some (e : Int))
  refine Ex_cons (Ex1_assign (a := .bool (closesJ lo hi 0 (pySlice w (some (s : Int)) (some (e : Int))))) (hE.loc rfl) (.of (Ev_fun G.lev.ok (hr.less (by omega)) hE rfl (.cons (Ev_methS (l := []) (r := .str (joinL [] (pySlice pcs (some (s : Int)) (some (e : Int))))) (Ev_str (l := []) rfl)
    (.cons (Ev_eq (b := .list (pySlice (pcs.map PV.str) (some (s : Int)) (some (e : Int)))) (b' := .list ((pySlice pcs (some (s : Int)) (some (e : Int))).map PV.str)) (by rw [pySlice_map]) (Ev_sliceL (Ev_name rfl) (.int (Ev_name rfl)) (.int (Ev_name rfl)) (by rw [List.length_map]; omega))) .nil rfl)
    PySem.F.slot_str_join PySem.F.type_str_join (opC_join (by simp only [List.length_nil, Nat.mul_zero]; omega))) .nil rfl) hc))) ?_
  refine Ex_cons (Ex1_if (b := false) (.of (Tst_eq (by simp) (Tst_cmp (Ev_name rfl) (Ev_fun G.lev.ok (hr.less (by omega)) hE rfl (.cons (Ev_sliceS (Ev_name rfl) (.int (Ev_name rfl)) (.int (Ev_name rfl)) (by omega)) (.cons (Ev_name rfl) (.cons (Ev_name rfl) .nil rfl) rfl) rfl) (closesJ_fun G.lev.ok G.closes (w := pySlice w (some (s : Int)) (some (e : Int))) (lo := lo) (hi := hi)))
    (op_isNot_bool (a := closesJ lo hi 0 (pySlice w (some (s : Int)) (some (e : Int)))) (b := closesJ lo hi 0 (pySlice w (some (s : Int)) (some (e : Int)))))))) (fun h => by cases h) (fun _ => Ex_nil)) ?_
  unfold heldStep
  cases closesJ lo hi 0 (pySlice w (some (s : Int)) (some (e : Int))) with
  | false =>
    refine Ex_cons (Ex1_if (b := false) (.of (Tst_val (Ev_name rfl) Tru_bool)) (fun h => by cases h) (fun _ => Ex_nil)) ?_
    exact Ex_conseq Ex_nil (PSub_cons rfl (P1_sub rfl rfl rfl rfl rfl)) (PSub.nil _)
  | true =>
    refine Ex_cons (Ex1_if (b := true) (.of (Tst_val (Ev_name rfl) Tru_bool)) (fun _ => Ex_cons (Ex1_assign (a := .list (iL (held ++ rangeI s e))) (hE.cel rfl) (.of (Ev_eq (b := .list (iL held ++ iL (rangeI s e))) (by rw [iL_append]) (Ev_bin (Ev_name rfl)
      (.ofN (EvN_listRange (a := s) (b := e) G.lev.ok hr.1 (hE.k rfl) G.lev.bi.range (hE.k rfl) G.lev.bi.list (.cons (Ev_name rfl) (.cons (Ev_name rfl) .nil rfl) rfl) (.inr rfl) (by omega) (by omega) (by omega) (by omega))) (op_addL (by rw [iL_length, iL_length, rangeI_len]; omega)))))) Ex_nil) (fun h => by cases h)) ?_
    exact Ex_conseq Ex_nil (PSub_cons rfl (P1_sub rfl rfl rfl rfl rfl)) (PSub.nil _)
theorem heldStep_len (w : List Nat) (lo hi s : Nat) (held : List Int) (e : Nat) (he : e ≤ 100) : (heldStep w lo hi s held e).length ≤ held.length + 100 := by
  unfold heldStep
  split
  · rw [List.length_append, rangeI_len]; omega
  · omega
structure ChkJ (w : List Nat) (lo hi : Nat) (pcs : List (List Nat)) : Prop where
  wl : w.length ≤ 5
  pl : pcs.length ≤ 5
  jl : ∀ s e, s < e → e ≤ w.length → (joinL [] (pySlice pcs (some ((s : Nat) : Int)) (some ((e : Nat) : Int)))).length ≤ 500 ∧ ((pySlice pcs (some (s : Int)) (some (e : Int))).map List.length).sum ≤ 500 ∧
    checkY (joinL [] (pySlice pcs (some (s : Int)) (some (e : Int)))) = closesJ lo hi 0 (pySlice w (some (s : Int)) (some (e : Int)))
theorem turn_s (G : LawJ C K Ca) (hr : Room A 4) (hE : EnvOf (stScope (stAt jLaw)) env) {w : List Nat} {lo hi : Nat} {pcs : List (List Nat)} {held : List Int} {s : Nat} (Q : ChkJ w lo hi pcs) (hs : s < w.length) (hh : held.length ≤ 600 * s) :
    Turn C A env X (forTgt for1) (forBody for1) (.int s) (P1 w lo hi pcs held) [] (.next (P1 w lo hi pcs (heldIn w lo hi held s)) []) ∧ (heldIn w lo hi held s).length ≤ 600 * (s + 1) := by
  have hwl := Q.wl
  have hpl := Q.pl
  have lpx : ∀ X', _ := fun X' => Lp_up (B := Turn C A env X' (forTgt for1b) (forBody for1b)) (fun h => ("start", .int s) :: P1 w lo hi pcs h) (fun _ => []) (heldStep w lo hi s) (w.length + 1) (fun k h => h.length + 600 * s ≤ 600 * s + 600 * s + 100 * (k - (s + 1)) ∧ s + 1 ≤ k)
    (fun k h hk hin => by
      obtain ⟨a, b, c⟩ := Q.jl s k (by omega) (by omega)
      have := heldStep_len w lo hi s h k (by omega)
      exact ⟨turn_e G hr hE (by omega) (by omega) (by omega) (by omega) (by omega) a b c, by omega, by omega⟩) (w.length - s) (s + 1) held (by omega) ⟨by omega, Nat.le_refl _⟩
  refine ⟨⟨_, _, AsgT_name (hE.loc rfl), fun X' hX => ?_⟩, ?_⟩
  · refine Ex_weak (P' := ("start", .int s) :: P1 w lo hi pcs held) (W' := []) ?_ (PSub_cons rfl (P1_sub rfl rfl rfl rfl rfl)) (PSub.nil _)
    refine Ex_cons (Ex1_for (C := C) (gen := false) (mb := C.md) (fun h => h) (fun h => by cases h) (.of (ItE_up (a := (s : Int) + 1) (b := (w.length : Int) + 1) (n := w.length - s) G.lev.ok hr.1 (hE.k rfl) G.lev.bi.range
      (.cons (Ev_bin (Ev_name rfl) Ev_int op_add) (.cons (Ev_bin (Ev_call G.lev.ok (hE.k rfl) G.lev.bi.len (CallW.builtin _) (.cons (Ev_name rfl) .nil rfl) (opC_len_str (l := w) (by omega))) Ev_int op_add) .nil rfl) rfl) (.inr rfl) (by omega) (by omega) (by omega) (by omega) (by omega))) (lpx X').1) ?_
    exact Ex_conseq Ex_nil (P1_sub rfl rfl rfl rfl rfl) (PSub.nil _)
  · have := (lpx X).2
    unfold heldIn
    omega
theorem law_for1 (G : LawJ C K Ca) (hr : Room A 4) (hE : EnvOf (stScope (stAt jLaw)) env) {w : List Nat} {lo hi : Nat} {pcs : List (List Nat)} (Q : ChkJ w lo hi pcs) :
    Ex1 C A env X (P1 w lo hi pcs []) [] for1 (.next (P1 w lo hi pcs (heldJ w lo hi)) []) := by
  have hwl := Q.wl
  obtain ⟨lp, _⟩ := Lp_up (B := Turn C A env X (forTgt for1) (forBody for1)) (P1 w lo hi pcs) (fun _ => []) (heldIn w lo hi) w.length (fun k h => h.length ≤ 600 * k)
    (fun k h hk hi => turn_s G hr hE Q hk hi) w.length 0 [] (by omega) (by simp)
  exact Ex1_for (C := C) (gen := false) (mb := C.md) (fun h => h) (fun h => by cases h) (.of (ItE_up (a := 0) (b := (w.length : Int)) (n := w.length) G.lev.ok hr.1 (hE.k rfl) G.lev.bi.range
      (.cons (Ev_call G.lev.ok (hE.k rfl) G.lev.bi.len (CallW.builtin _) (.cons (Ev_name rfl) .nil rfl) (opC_len_str (l := w) (by omega))) .nil rfl) (.inl ⟨rfl, rfl⟩) (by omega) (by omega) (by omega) (by omega) (by omega))) lp
end
end Mine
namespace Mine
abbrev for2 : Stmt := nthS lawJ 14
abbrev for2b : Stmt := nthS (forBody for2) 0
def wayStep (k : Nat) (L : List Int) (m : Nat) : List Int := L ++ [2 * ((m : Int) - k)]
def wayIn (n : Nat) (L : List Int) (k : Nat) : List Int := iter (wayStep k) k (n - k) L
structure WordsJ (ws : List (List Nat)) : Prop where
  len : ws.length ≤ 6
  each : ∀ a ∈ ws, a.length ≤ 40 ∧ ∀ c ∈ a, okc c
  lev : ∀ (k m : Nat) (a b : List Nat), k ≤ m → ws[m]? = some a → ws[k]? = some b → levD a b (2 * ((m : Int) - k)) = 2 * ((m : Int) - k)
section
variable {C : Cst} {A : Around} {env : Env} {X : Zm} {K : Frag} {Ca : Addr}
abbrev P2 (w : List Nat) (lo hi : Nat) (free : List Int) (ws : List (List Nat)) : PEnv := [("word", .str w), ("low", .str [lo]), ("high", .str [hi]), ("free", .list (iL free)), ("words", .list (ws.map .str))]
abbrev W2 (L : List Int) : OEnv := [("ways", iL L), ("dues", iL L)]
theorem P2_sub {P₁ : PEnv} {w : List Nat} {lo hi : Nat} {free : List Int} {ws : List (List Nat)} (h1 : P₁.lookup ("word" : Str) = some (.str w)) (h2 : P₁.lookup ("low" : Str) = some (.str [lo])) (h3 : P₁.lookup ("high" : Str) = some (.str [hi]))
    (h4 : P₁.lookup ("free" : Str) = some (.list (iL free))) (h5 : P₁.lookup ("words" : Str) = some (.list (ws.map .str))) : PSub (P2 w lo hi free ws) P₁ :=
  PSub_cons h1 (PSub_cons h2 (PSub_cons h3 (PSub_cons h4 (PSub_cons h5 (PSub.nil _)))))
theorem turn_m (G : LawJ C K Ca) (hr : Room A 4) (hE : EnvOf (stScope (stAt jLaw)) env) {w : List Nat} {lo hi : Nat} {free : List Int} {ws : List (List Nat)} {L : List Int} {k m : Nat} (Q : WordsJ ws) (hk : k ≤ m) (hm : m < ws.length) (hL : L.length ≤ 1000) :
    Turn C A env X (forTgt for2b) (forBody for2b) (.int m) (("k", .int k) :: P2 w lo hi free ws) (W2 L) (.next (("k", .int k) :: P2 w lo hi free ws) (W2 (wayStep k L m))) := by
  refine ⟨_, _, AsgT_name (hE.loc rfl), fun X' hX => ?_⟩
  have hlen := Q.len
  obtain ⟨a, ha⟩ : ∃ a, ws[m]? = some a := ⟨_, List.getElem?_eq_getElem hm⟩
  obtain ⟨b, hb⟩ : ∃ b, ws[k]? = some b := ⟨_, List.getElem?_eq_getElem (by omega)⟩
  obtain ⟨a1, a2⟩ := Q.each a (List.mem_of_getElem? ha)
  obtain ⟨b1, b2⟩ := Q.each b (List.mem_of_getElem? hb)
  have hl := lev_fun G.lev (a := a) (b := b) (mc := 2 * ((m : Int) - k)) a2 b2 a1 b1
  rw [Q.lev k m a b hk ha hb] at hl
  refine Ex_cons (Ex1_append (ys := iL L) (a := .int (2 * ((m : Int) - k))) rfl (.of (Ev_fun G.lev.ok (hr.less (by omega)) hE rfl (.cons (Ev_sub (Ev_name rfl) (Ev_name rfl) (op_itemL (l := ws.map .str) (k := m) (c := .str a) (bind_at (by rw [List.getElem?_map, ha]; rfl)) rfl (by omega)))
    (.cons (Ev_sub (Ev_name rfl) (Ev_name rfl) (op_itemL (l := ws.map .str) (k := k) (c := .str b) (bind_at (by rw [List.getElem?_map, hb]; rfl)) rfl (by omega))) (.cons (Ev_bin Ev_int (Ev_bin (Ev_name rfl) (Ev_name rfl) op_sub) (op_mul (mulOk_left (by decide) (by decide)))) .nil rfl) rfl) rfl) hl)) (by rw [iL_length]; omega) (hm := hE.kind)) ?_
  refine Ex_cons (Ex1_append (ys := iL L) (a := .int (2 * ((m : Int) - k))) rfl (.of (Ev_bin Ev_int (Ev_bin (Ev_name rfl) (Ev_name rfl) op_sub) (op_mul (mulOk_left (by decide) (by decide))))) (by rw [iL_length]; omega) (hm := hE.kind)) ?_
  exact Ex_conseq Ex_nil (PSub_cons rfl (P2_sub rfl rfl rfl rfl rfl)) (PSub_cons (congrArg some (by rw [wayStep, iL_append]; rfl)) (PSub_cons (congrArg some (by rw [wayStep, iL_append]; rfl)) (PSub.nil _)))
theorem turn_k (G : LawJ C K Ca) (hr : Room A 4) (hE : EnvOf (stScope (stAt jLaw)) env) {w : List Nat} {lo hi : Nat} {free : List Int} {ws : List (List Nat)} {L : List Int} {k : Nat} (Q : WordsJ ws) (hk : k < ws.length) (hL : L.length ≤ 3 + 10 * k) :
    Turn C A env X (forTgt for2) (forBody for2) (.int k) (P2 w lo hi free ws) (W2 L) (.next (P2 w lo hi free ws) (W2 (wayIn ws.length L k))) ∧ (wayIn ws.length L k).length ≤ 3 + 10 * (k + 1) := by
  have hlen := Q.len
  have lpx : ∀ X', _ := fun X' => Lp_up (B := Turn C A env X' (forTgt for2b) (forBody for2b)) (fun _ => ("k", .int k) :: P2 w lo hi free ws) W2 (wayStep k) ws.length (fun m h => h.length = L.length + (m - k) ∧ k ≤ m)
    (fun m h hm hi => ⟨turn_m G hr hE Q hi.2 hm (by omega), by rw [wayStep, List.length_append, hi.1]; simp; omega, by omega⟩) (ws.length - k) k L (by omega) ⟨by omega, Nat.le_refl _⟩
  refine ⟨⟨_, _, AsgT_name (hE.loc rfl), fun X' hX => ?_⟩, ?_⟩
  · refine Ex_weak (P' := ("k", .int k) :: P2 w lo hi free ws) (W' := W2 L) ?_ (PSub_cons rfl (P2_sub rfl rfl rfl rfl rfl)) (PSub_cons rfl (PSub_cons rfl (PSub.nil _)))
    refine Ex_cons (Ex1_for (C := C) (gen := false) (mb := C.md) (fun h => h) (fun h => by cases h) (.of (ItE_up (a := (k : Int)) (b := (ws.length : Int)) (n := ws.length - k) G.lev.ok hr.1 (hE.k rfl) G.lev.bi.range
      (.cons (Ev_name rfl) (.cons (Ev_eq (b' := .int ws.length) (by rw [List.length_map]) (Ev_call G.lev.ok (hE.k rfl) G.lev.bi.len (CallW.builtin _) (.cons (Ev_name rfl) .nil rfl) (opC_len_list (xs := ws.map .str) (by rw [List.length_map]; omega)))) .nil rfl) rfl) (.inr rfl) (by omega) (by omega) (by omega) (by omega) (by omega))) (lpx X').1) ?_
    exact Ex_conseq Ex_nil (P2_sub rfl rfl rfl rfl rfl) (PSub_cons rfl (PSub_cons rfl (PSub.nil _)))
  · have := (lpx X).2.1
    unfold wayIn
    omega
theorem law_for2 (G : LawJ C K Ca) (hr : Room A 4) (hE : EnvOf (stScope (stAt jLaw)) env) {w : List Nat} {lo hi : Nat} {free : List Int} {ws : List (List Nat)} {L : List Int} (Q : WordsJ ws) (hL : L.length ≤ 3) :
    ∃ L' : List Int, L'.length ≤ 1000 ∧ Ex1 C A env X (P2 w lo hi free ws) (W2 L) for2 (.next (P2 w lo hi free ws) (W2 L')) := by
  have hlen := Q.len
  obtain ⟨lp, hl⟩ := Lp_up (B := Turn C A env X (forTgt for2) (forBody for2)) (fun _ => P2 w lo hi free ws) W2 (wayIn ws.length) ws.length (fun k h => h.length ≤ 3 + 10 * k)
    (fun k h hk hi => turn_k G hr hE Q hk hi) ws.length 0 L (by omega) (by omega)
  refine ⟨_, by omega, Ex1_for (C := C) (gen := false) (mb := C.md) (fun h => h) (fun h => by cases h) (.of (ItE_up (a := 0) (b := (ws.length : Int)) (n := ws.length) G.lev.ok hr.1 (hE.k rfl) G.lev.bi.range
      (.cons (Ev_eq (b' := .int ws.length) (by rw [List.length_map]) (Ev_call G.lev.ok (hE.k rfl) G.lev.bi.len (CallW.builtin _) (.cons (Ev_name rfl) .nil rfl) (opC_len_list (xs := ws.map .str) (by rw [List.length_map]; omega)))) .nil rfl) (.inl ⟨rfl, rfl⟩) (by omega) (by omega) (by omega) (by omega) (by omega))) lp⟩
end
end Mine
namespace Mine
abbrev for3 : Stmt := nthS lawJ 20
abbrev for3b : Stmt := nthS (forBody for3) 0
def prev (n k : Nat) : Nat := if k = 0 then n - 1 else k - 1
theorem last_at {α : Type} {l : List α} {c : α} (h : l[l.length - 1]? = some c) : (seqIndex? (-1) l.length).bind (l[·]?) = some c := by
  have hp : 0 < l.length := by
    cases l with
    | nil => cases h
    | cons => simp
  have := seqIndex_neg 0 l.length hp
  rw [show (-(((0 : Nat) : Int)) - 1 : Int) = -1 by omega] at this
  rw [this]
  exact h
theorem prev_at {α : Type} {l : List α} {k : Nat} {c : α} (h : l[prev l.length k]? = some c) : (seqIndex? ((k : Int) - 1) l.length).bind (l[·]?) = some c := by
  unfold prev at h
  by_cases hk : k = 0
  · subst hk
    rw [if_pos rfl] at h
    exact last_at h
  · rw [if_neg hk] at h
    rw [show (k : Int) - 1 = ((k - 1 : Nat) : Int) by omega]
    exact bind_at h
structure EndJ (w : List Nat) (ls : List (List Nat)) (st : List Int) : Prop where
  sl : st.length = ls.length
  ll : ls.length ≤ 10
  each : ∀ l ∈ ls, l.length ≤ 400 ∧ (l ++ w).length ≤ 500 ∧ (wsRun (l ++ w) ws0).count.length ≤ 560 ∧ 0 ≤ lrsY (l ++ w) ∧ lrsY (l ++ w) ≤ 800
  eq : ∀ (k m : Nat) (l l' : List Nat) (x y : Int), ls[k]? = some l → ls[m]? = some l' → st[k]? = some x → st[m]? = some y → eqY (l ++ w) (l' ++ w) = decide (x = y)
  wit : ∀ (k : Nat) (l l' : List Nat), ls[k]? = some l → ls[prev ls.length k]? = some l' → nweY (l ++ w) (l' ++ w) = witJ l l'
section
variable {C : Cst} {A : Around} {env : Env} {X : Zm} {K : Frag} {Ca : Addr}
abbrev insL (Ca : Addr) (w : List Nat) (ls : List (List Nat)) : List PV := ls.map fun l => wsPV Ca (l ++ w)
abbrev P9 (Ca : Addr) (w : List Nat) (ls : List (List Nat)) (st : List Int) : PEnv := [("indents", .list (insL Ca w ls)), ("leads", .list (ls.map .str)), ("stands", .list (iL st))]
theorem P9_sub {P₁ : PEnv} {w : List Nat} {ls : List (List Nat)} {st : List Int} (h1 : P₁.lookup ("indents" : Str) = some (.list (insL Ca w ls))) (h2 : P₁.lookup ("leads" : Str) = some (.list (ls.map .str))) (h3 : P₁.lookup ("stands" : Str) = some (.list (iL st))) :
    PSub (P9 Ca w ls st) P₁ := PSub_cons h1 (PSub_cons h2 (PSub_cons h3 (PSub.nil _)))
theorem ins_at {w : List Nat} {ls : List (List Nat)} {k : Nat} {l : List Nat} (h : ls[k]? = some l) : (insL Ca w ls)[k]? = some (wsPV Ca (l ++ w)) := by
  rw [List.getElem?_map, h]; rfl
theorem turn_b (G : LawJ C K Ca) (hr : Room A 4) (hE : EnvOf (stScope (stAt jLaw)) env) {w : List Nat} {ls : List (List Nat)} {st : List Int} {k m : Nat} (Q : EndJ w ls st) (hk : k < ls.length) (hm : m < ls.length) :
    Turn C A env X (forTgt for3b) (forBody for3b) (.int m) (("k", .int k) :: P9 Ca w ls st) [] (.next (("k", .int k) :: P9 Ca w ls st) []) := by
  refine ⟨_, _, AsgT_name (hE.loc rfl), fun X' hX => ?_⟩
  have hll := Q.ll
  have hsl := Q.sl
  obtain ⟨l, hl⟩ : ∃ l, ls[k]? = some l := ⟨_, List.getElem?_eq_getElem hk⟩
  obtain ⟨l', hl'⟩ : ∃ l, ls[m]? = some l := ⟨_, List.getElem?_eq_getElem hm⟩
  obtain ⟨x, hx⟩ : ∃ x, st[k]? = some x := ⟨_, List.getElem?_eq_getElem (by omega)⟩
  obtain ⟨y, hy⟩ : ∃ y, st[m]? = some y := ⟨_, List.getElem?_eq_getElem (by omega)⟩
  obtain ⟨f, hfi, hft, hw, ho⟩ := eq_fun G.ws (l := l ++ w) (m := l' ++ w)
  rw [Q.eq k m l l' x y hl hl' hx hy] at ho
  refine Ex_cons (Ex1_if (b := false) (.of (Tst_eq (b := !((decide (x = y)) == (decide (x = y)))) (by simp) (Tst_cmp (Ev_meth G.ws.ws.k (hr.less (by omega)) (Ev_sub (Ev_name rfl) (Ev_name rfl) (op_itemL (l := insL Ca w ls) (k := k) (bind_at (ins_at hl)) rfl (by omega))) (by decide)
    (.cons (Ev_sub (Ev_name rfl) (Ev_name rfl) (op_itemL (l := insL Ca w ls) (k := m) (bind_at (ins_at hl')) rfl (by omega))) .nil rfl) hfi hft hw ho)
    (Ev_cmp (Ev_sub (Ev_name rfl) (Ev_name rfl) (op_itemL (l := iL st) (k := k) (c := .int x) (bind_at (by rw [iL, List.getElem?_map, hx]; rfl)) rfl (by omega))) (Ev_sub (Ev_name rfl) (Ev_name rfl) (op_itemL (l := iL st) (k := m) (c := .int y) (bind_at (by rw [iL, List.getElem?_map, hy]; rfl)) rfl (by omega))) op_eq) op_isNot_bool)))
    (fun h => by cases h) (fun _ => Ex_nil)) ?_
  exact Ex_conseq Ex_nil (PSub_cons rfl (P9_sub rfl rfl rfl)) (PSub.nil _)
theorem turn_a (G : LawJ C K Ca) (hr : Room A 4) (hE : EnvOf (stScope (stAt jLaw)) env) {w : List Nat} {ls : List (List Nat)} {st : List Int} {k : Nat} (Q : EndJ w ls st) (hk : k < ls.length) :
    Turn C A env X (forTgt for3) (forBody for3) (.int k) (P9 Ca w ls st) [] (.next (P9 Ca w ls st) []) := by
  refine ⟨_, _, AsgT_name (hE.loc rfl), fun X' hX => ?_⟩
  have hll := Q.ll
  have hp : prev ls.length k < ls.length := by unfold prev; split <;> omega
  obtain ⟨l, hl⟩ : ∃ l, ls[k]? = some l := ⟨_, List.getElem?_eq_getElem hk⟩
  obtain ⟨l', hl'⟩ : ∃ l, ls[prev ls.length k]? = some l := ⟨_, List.getElem?_eq_getElem hp⟩
  obtain ⟨a1, a2, a3, a4, a5⟩ := Q.each l (List.mem_of_getElem? hl)
  obtain ⟨b1, b2, b3, b4, b5⟩ := Q.each l' (List.mem_of_getElem? hl')
  refine Ex_weak (P' := ("k", .int k) :: P9 Ca w ls st) (W' := []) ?_ (PSub_cons rfl (P9_sub rfl rfl rfl)) (PSub.nil _)
  have lp := (Lp_up (B := Turn C A env X' (forTgt for3b) (forBody for3b)) (fun _ : Unit => ("k", .int k) :: P9 Ca w ls st) (fun _ => []) (fun s _ => s) ls.length (fun _ _ => True)
    (fun m s hm _ => ⟨turn_b G hr hE Q hk hm, trivial⟩) ls.length 0 () (by omega) trivial).1
  refine Ex_cons (Ex1_for (C := C) (gen := false) (mb := C.md) (fun h => h) (fun h => by cases h) (.of (ItE_up (a := 0) (b := (ls.length : Int)) (n := ls.length) G.lev.ok hr.1 (hE.k rfl) G.lev.bi.range
      (.cons (Ev_eq (b' := .int ls.length) (by rw [List.length_map]) (Ev_call G.lev.ok (hE.k rfl) G.lev.bi.len (CallW.builtin _) (.cons (Ev_name rfl) .nil rfl) (opC_len_list (xs := ls.map .str) (by rw [List.length_map]; omega)))) .nil rfl) (.inl ⟨rfl, rfl⟩) (by omega) (by omega) (by omega) (by omega) (by omega))) lp) ?_
  obtain ⟨f, hfi, hft, hw, ho⟩ := nwe_fun G.ws (l := l ++ w) (m := l' ++ w) a2 b2 a3 b3 (by omega) (by omega)
  rw [Q.wit k l l' hl hl'] at ho
  refine Ex_cons (Ex1_if (b := false) (.of (Tst_eq (b := !decide (witJ l l' = witJ l l')) (by simp) (Tst_cmp (Ev_meth G.ws.ws.k (hr.less (by omega)) (Ev_sub (Ev_name rfl) (Ev_name rfl) (op_itemL (l := insL Ca w ls) (k := k) (bind_at (ins_at hl)) rfl (by omega))) (by decide)
    (.cons (Ev_sub (Ev_name rfl) (Ev_bin (Ev_name rfl) Ev_int op_sub) (op_itemL (l := insL Ca w ls) (k := (k : Int) - 1) (prev_at (by rw [List.length_map]; exact ins_at hl')) rfl (by omega))) .nil rfl) hfi hft hw ho)
    (Ev_fun G.lev.ok (hr.less (by omega)) hE rfl (.cons (Ev_sub (Ev_name rfl) (Ev_name rfl) (op_itemL (l := ls.map .str) (k := k) (c := .str l) (bind_at (by rw [List.getElem?_map, hl]; rfl)) rfl (by omega)))
      (.cons (Ev_sub (Ev_name rfl) (Ev_bin (Ev_name rfl) Ev_int op_sub) (op_itemL (l := ls.map .str) (k := (k : Int) - 1) (c := .str l') (prev_at (by rw [List.length_map, List.getElem?_map, hl']; rfl)) rfl (by omega))) .nil rfl) rfl)
      (wit_fun G.lev.ok G.lev.bi G.column G.witness (l := l) (m := l') a1 b1)) (op_neRows hr))))
    (fun h => by cases h) (fun _ => Ex_nil)) ?_
  exact Ex_conseq Ex_nil (P9_sub rfl rfl rfl) (PSub.nil _)
theorem law_end (G : LawJ C K Ca) (hr : Room A 4) (hE : EnvOf (stScope (stAt jLaw)) env) {w : List Nat} {ls : List (List Nat)} {st : List Int} (Q : EndJ w ls st) :
    Ex C A env X (P9 Ca w ls st) [] (lawJ.drop 20) (.ret (.bool true)) := by
  have hll := Q.ll
  have lp := (Lp_up (B := Turn C A env X (forTgt for3) (forBody for3)) (fun _ : Unit => P9 Ca w ls st) (fun _ => []) (fun s _ => s) ls.length (fun _ _ => True)
    (fun k s hk _ => ⟨turn_a G hr hE Q hk, trivial⟩) ls.length 0 () (by omega) trivial).1
  refine Ex_cons (Ex1_for (C := C) (gen := false) (mb := C.md) (fun h => h) (fun h => by cases h) (.of (ItE_up (a := 0) (b := (ls.length : Int)) (n := ls.length) G.lev.ok hr.1 (hE.k rfl) G.lev.bi.range
      (.cons (Ev_eq (b' := .int ls.length) (by rw [List.length_map]) (Ev_call G.lev.ok (hE.k rfl) G.lev.bi.len (CallW.builtin _) (.cons (Ev_name rfl) .nil rfl) (opC_len_list (xs := ls.map .str) (by rw [List.length_map]; omega)))) .nil rfl) (.inl ⟨rfl, rfl⟩) (by omega) (by omega) (by omega) (by omega) (by omega))) lp) ?_
  exact Ex_ret (Ex1_return (.of Ev_bool))
end
end Mine
namespace Mine
def cutJ (n : Nat) (ld : List Nat) : List (List Nat) := pySlice (splitL 9 ld) none (some 2) ++ [List.replicate (n + 1) 32]
def leadsJ (n : Nat) (l0 : List (List Nat)) (ld : List Nat) : List (List Nat) := l0 ++ [joinL [9] (cutJ n ld), 9 :: ld]
def standsJ (n f : Nat) : List Int := (upI 0 n).map (fun k => min k ((f : Int) - k)) ++ [-1, -2]
theorem leadJ_len (lo hi : Nat) (w : List Nat) : (leadJ lo hi w).length ≤ 3 * w.length + 2 := by
  have h1 := idx_le lo w
  have h2 := idx_le hi w
  unfold leadJ
  simp
  omega
theorem mem_pySlice {α : Type} {l : List α} {lo hi : Option Int} {x : α} (h : x ∈ pySlice l lo hi) : x ∈ l := List.mem_of_mem_drop (List.mem_of_mem_take h)
def leadF (lo hi : Nat) : PV → PV
  | .str a => .str (leadJ lo hi a)
  | _ => .none
theorem leadF_eq (lo hi : Nat) (ws : List (List Nat)) : ((ws.map PV.str).filter fun _ => true).map (leadF lo hi) = (ws.map (leadJ lo hi)).map PV.str := by
  rw [List.filter_eq_self.mpr (by simp)]
  simp [leadF, Function.comp_def]
def standF (f : Nat) : PV → PV
  | .int k => .int (min k ((f : Int) - k))
  | _ => .none
theorem standF_eq (f : Nat) (l : List Int) : ((iL l).filter fun _ => true).map (standF f) = iL (l.map fun k => min k ((f : Int) - k)) := by
  rw [List.filter_eq_self.mpr (by simp)]
  simp [iL, standF, Function.comp_def]
def insF (Ca : Addr) (w : List Nat) : PV → PV
  | .str l => wsPV Ca (l ++ w)
  | _ => .none
theorem insF_eq (Ca : Addr) (w : List Nat) (ls : List (List Nat)) : ((ls.map PV.str).filter fun _ => true).map (insF Ca w) = insL Ca w ls := by
  rw [List.filter_eq_self.mpr (by simp)]
  simp [insF, insL, Function.comp_def]
section
variable {C : Cst} {A : Around} {env : Env} {X : Zm} {K : Frag} {Ca : Addr}
abbrev P8 (w : List Nat) (free : List Int) (ws ls : List (List Nat)) : PEnv := [("word", .str w), ("free", .list (iL free)), ("words", .list (ws.map .str)), ("leads", .list (ls.map .str))]
theorem law_c2 (G : LawJ C K Ca) (hr : Room A 4) (hE : EnvOf (stScope (stAt jLaw)) env) {w : List Nat} {free : List Int} {ws l0 : List (List Nat)} {ld : List Nat} (hw : w.length ≤ 5) (hws : ws.length ≤ 6) (hl0 : l0.length ≤ 6) (hld : ld.length ≤ 122) (hlast : l0[l0.length - 1]? = some ld)
    (hfr : free.length ≤ 100) (Q : EndJ w (leadsJ w.length l0 ld) (standsJ ws.length free.length)) :
    Ex C A env X (P8 w free ws l0) [] (lawJ.drop 17) (.ret (.bool true)) := by
  have hll := Q.ll
  have hlst : (l0.map PV.str)[(l0.map PV.str).length - 1]? = some (.str ld) := by
    rw [List.length_map, List.getElem?_map, hlast]; rfl
  have hxs : ∀ r ∈ cutJ w.length ld, r.length ≤ 122 := fun r h => by
    rcases List.mem_append.mp h with h | h
    · have := splitL_part (mem_pySlice h)
      omega
    · rw [List.mem_singleton] at h
      subst h
      simp; omega
  have hsum := sum_le_mul _ hxs
  have hsp := splitL_len 9 ld
  have hsp2 := pySlice_length_le (splitL 9 ld) none (some 2)
  have hxl : (cutJ w.length ld).length ≤ 124 := by
    unfold cutJ
    rw [List.length_append]
    simp; omega
  refine Ex_cons (P' := P8 w free ws (leadsJ w.length l0 ld)) (W' := []) (Ex1_assign (a := .list ((leadsJ w.length l0 ld).map PV.str)) (hE.loc rfl) (.of (Ev_eq (b := .list (l0.map PV.str ++ [.str (joinL [9] (cutJ w.length ld)), .str (9 :: ld)])) (by rw [leadsJ, List.map_append]; rfl)
    (Ev_bin (Ev_name rfl) (Ev_list (.cons ?_ (.cons ?_ .nil rfl) rfl) ?_) (op_addL ?_))))) ?_
  · refine Ev_methS (l := [9]) (as := [.list ((cutJ w.length ld).map PV.str)]) (id := "str.join") ?_ ?_ ?_ ?_ ?_ ?_ ?_ ?_
    · exact Ev_str rfl
    · refine .cons ?_ .nil ?_
      · refine Ev_eq (b := .list (pySlice ((splitL 9 ld).map PV.str) none (some 2) ++ [.str (List.replicate (((w.length : Int) + 1)).toNat 32)])) ?_ ?_
        · rw [pySlice_map, cutJ, List.map_append, show (((w.length : Int) + 1)).toNat = w.length + 1 by omega]; rfl
        · refine Ev_bin (a := .list (pySlice ((splitL 9 ld).map PV.str) none (some 2))) (b := .list [.str (List.replicate (((w.length : Int) + 1)).toNat 32)]) ?_ ?_ ?_
          · refine Ev_sliceL (l := (splitL 9 ld).map PV.str) ?_ ?_ ?_ ?_
            · refine Ev_methS (l := ld) (as := [.str [9]]) (id := "str.split") ?_ ?_ ?_ ?_ ?_ ?_ ?_ ?_
              · exact Ev_sub (Ev_name rfl) (Ev_neg Ev_int) (op_itemL (l := l0.map PV.str) (k := -1) (c := .str ld) (last_at hlst) rfl (by decide))
              · exact .cons (Ev_str rfl) .nil rfl
              · exact PySem.F.slot_str_split
              · exact PySem.F.type_str_split
              · exact opC_split (by decide) (by omega)
              · rfl
              · rfl
              · decide
            · exact .nil
            · exact .int Ev_int
            · rw [List.length_map]; omega
          · exact Ev_list (.cons (Ev_bin (Ev_str (l := [32]) rfl) (Ev_bin (Ev_call G.lev.ok (hE.k rfl) G.lev.bi.len (CallW.builtin _) (.cons (Ev_name rfl) .nil rfl) (opC_len_str (l := w) (by omega))) Ev_int op_add) (op_mulS (c := 32) (n := (w.length : Int) + 1) (by omega) (by omega))) .nil rfl) (by simp)
          · exact op_addL (by rw [pySlice_map, List.length_map]; simp; omega)
      · rfl
    · exact PySem.F.slot_str_join
    · exact PySem.F.type_str_join
    · exact opC_join (sep := [9]) (by simp only [List.length_cons, List.length_nil]; omega)
    · rfl
    · rfl
    · decide
  · exact Ev_bin (Ev_str (l := [9]) rfl) (Ev_sub (Ev_name rfl) (Ev_neg Ev_int) (op_itemL (l := l0.map PV.str) (k := -1) (c := .str ld) (last_at hlst) rfl (by decide))) (op_addS (a := [9]) (by simp; omega))
  · simp
  · rw [List.length_map]; simp; omega
  refine Ex_cons (Ex1_assign (a := .list (iL (standsJ ws.length free.length))) (hE.loc rfl) (.of (Ev_eq (b := .list (((iL (upI 0 ws.length)).filter fun _ => true).map (standF free.length) ++ iL [-1, -2])) ?_ (Ev_bin ?_ ?_ (op_addL ?_))))) ?_
  · rw [standF_eq, standsJ, iL_append]
  · refine Ev_comp (P₀ := [("free", .list (iL free))]) (items := iL (upI 0 ws.length)) (p := fun _ => true) (f := standF free.length) hE ?_ ?_
    · rw [← upZ_iL]
      exact ItE_up (a := 0) (b := (ws.length : Int)) (n := ws.length) G.lev.ok hr.1 (hE.k rfl) G.lev.bi.range (.cons (Ev_eq (b' := .int ws.length) (by rw [List.length_map]) (Ev_call G.lev.ok (hE.k rfl) G.lev.bi.len (CallW.builtin _) (.cons (Ev_name rfl) .nil rfl) (opC_len_list (xs := ws.map .str) (by rw [List.length_map]; omega)))) .nil rfl) (.inl ⟨rfl, rfl⟩) (by omega) (by omega) (by omega) (by omega) (by omega)
    · refine ⟨compOk_of rfl (by with_unfolding_all rfl) (by with_unfolding_all rfl) (.cons rfl rfl rfl .nil), rfl, .inl rfl, by decide, fun cenv hC x hx => TsAll_nil, fun cenv hC x hx _ => ?_, by rw [iL_length, upI_length]; omega⟩
      obtain ⟨k, hk, rfl⟩ := List.mem_map.mp hx
      exact Ev_call G.lev.ok (hC.k rfl) G.lev.bi.min (CallW.builtin _) (.cons (Ev_name rfl) (.cons (Ev_bin (Ev_eq (b' := .int free.length) (by rw [iL_length]) (Ev_call G.lev.ok (hC.k rfl) G.lev.bi.len (CallW.builtin _) (.cons (Ev_name rfl) .nil rfl) (opC_len_list (xs := iL free) (by rw [iL_length]; omega)))) (Ev_name rfl) op_sub) .nil rfl) rfl) (opC_min2 hr.1)
  · exact Ev_list (as := [.int (-1), .int (-2)]) (.cons (Ev_neg Ev_int) (.cons (Ev_neg Ev_int) .nil rfl) rfl) (by simp)
  · rw [standF_eq, iL_length, List.length_map, upI_length]
    simp [iL]; omega
  refine Ex_cons (P' := upd (upd (P8 w free ws (leadsJ w.length l0 ld)) "stands" (.list (iL (standsJ ws.length free.length)))) "indents" (.list (insL Ca w (leadsJ w.length l0 ld)))) (W' := []) ?_ ?_
  · rw [← insF_eq]
    refine Ex1_assignComp (P₀ := [("word", .str w)]) (items := (leadsJ w.length l0 ld).map .str) (p := fun _ => true) (f := insF Ca w) hE (hE.loc rfl) ?_ ?_ ?_
    · exact ItE_list hr.1 (Ev_name rfl)
    · refine ⟨compOk_of rfl (by with_unfolding_all rfl) (by with_unfolding_all rfl) (.cons rfl rfl rfl .nil), rfl, .inl rfl, by decide, fun cenv hC x hx => TsAll_nil, fun cenv hC x hx _ => ?_, by rw [List.length_map]; omega⟩
      obtain ⟨l, hl, rfl⟩ := List.mem_map.mp hx
      obtain ⟨e1, e2, _⟩ := Q.each l hl
      rw [List.length_append] at e2
      exact Ev_call G.lev.ok (hC.k rfl) G.ws.ws.glob (CallW.cls G.ws.ws.k) (as := [.str (l ++ w)]) (.cons (Ev_bin (Ev_name rfl) (Ev_name rfl) (op_addS (by omega))) .nil rfl) (ws_new G.ws.ws (by rw [List.length_append]; omega) A (hr.less (by omega)))
    · unfold swapsWith
      simp only [hE.bk, hE.k (x := "indents") (k := .local) rfl]
      rfl
  exact Ex_weak (law_end G hr hE Q) (P9_sub rfl rfl rfl) (PSub.nil _)
end
end Mine
namespace Mine
def rulerJ (n : Nat) : List Nat := List.replicate n 97 ++ List.replicate n 98 ++ List.replicate n 99
def dueJ (w : List Nat) : Int := 2 * (((rulerJ w.length).length : Int) - riseY w)
def turnedJ (w : List Nat) : List Nat := pySlice w (some 1) none ++ pySlice w none (some 1)
structure GoodB (w : List Nat) (lo hi : Nat) (free : List Int) (first last : List Nat) : Prop where
  wl : w.length ≤ 5
  wc : ∀ c ∈ w, okc c
  rc : ∀ c ∈ rulerJ w.length, okc c
  tc : ∀ c ∈ turnedJ w, okc c
  fl : free.length ≤ 5
  words : WordsJ (stringsJ w free lo hi)
  h0 : (stringsJ w free lo hi)[0]? = some first
  h1 : (stringsJ w free lo hi)[(stringsJ w free lo hi).length - 1]? = some last
  l0 : levD first (rulerJ w.length) (dueJ w) = dueJ w
  l1 : levD (rulerJ w.length) last (dueJ w) = dueJ w
  l2 : levD w (turnedJ w) 4 = if turnedJ w = w then 0 else 4
  fin : EndJ w (leadsJ w.length ((stringsJ w free lo hi).map (leadJ lo hi)) (leadJ lo hi last)) (standsJ (stringsJ w free lo hi).length free.length)
section
variable {C : Cst} {A : Around} {env : Env} {X : Zm} {K : Frag} {Ca : Addr}
theorem law_c (G : LawJ C K Ca) (hr : Room A 4) (hE : EnvOf (stScope (stAt jLaw)) env) {w : List Nat} {lo hi : Nat} {free : List Int} {ws : List (List Nat)} {last : List Nat} (hw : w.length ≤ 5) (hws : ws.length ≤ 6) (hwe : ∀ a ∈ ws, a.length ≤ 40) (hlast : ws[ws.length - 1]? = some last)
    (hfr : free.length ≤ 100) (Q : EndJ w (leadsJ w.length (ws.map (leadJ lo hi)) (leadJ lo hi last)) (standsJ ws.length free.length)) :
    Ex C A env X (P2 w lo hi free ws) [] (lawJ.drop 16) (.ret (.bool true)) := by
  have hl1 := leadJ_len lo hi last
  have hl2 := hwe last (List.mem_of_getElem? hlast)
  refine Ex_cons (P' := upd (P2 w lo hi free ws) "leads" (.list ((ws.map (leadJ lo hi)).map PV.str))) (W' := []) ?_ ?_
  · rw [← leadF_eq]
    refine Ex1_assignComp (P₀ := [("low", .str [lo]), ("high", .str [hi])]) (items := ws.map .str) (p := fun _ => true) (f := leadF lo hi) hE (hE.loc rfl) ?_ ?_ ?_
    · exact ItE_list hr.1 (Ev_name rfl)
    · refine ⟨compOk_of rfl (by with_unfolding_all rfl) (by with_unfolding_all rfl) (.cons rfl rfl rfl (.cons rfl rfl rfl .nil)), rfl, .inl rfl, by decide, fun cenv hC x hx => TsAll_nil, fun cenv hC x hx _ => ?_, by rw [List.length_map]; omega⟩
      obtain ⟨a, ha, rfl⟩ := List.mem_map.mp hx
      exact Ev_fun G.lev.ok (hr.less (by omega)) hC rfl (.cons (Ev_name rfl) (.cons (Ev_name rfl) (.cons (Ev_name rfl) .nil rfl) rfl) rfl) (lead_fun G.lev.ok G.lev.bi G.lead (w := a) (by have := hwe a ha; omega))
    · unfold swapsWith
      simp only [hE.bk, hE.k (x := "leads") (k := .local) rfl]
      rfl
  refine Ex_weak (law_c2 G hr hE hw hws (by rw [List.length_map]; exact hws) (by omega) ?_ hfr Q) (PSub_cons rfl (PSub_cons rfl (PSub_cons rfl (PSub_cons rfl (PSub.nil _))))) (PSub.nil _)
  rw [List.length_map, List.getElem?_map, hlast]
  rfl
theorem stringsJ_len (w : List Nat) (free : List Int) (lo hi : Nat) : (stringsJ w free lo hi).length = free.length + 1 := by simp [stringsJ]
theorem law_b (G : LawJ C K Ca) (hr : Room A 4) (hE : EnvOf (stScope (stAt jLaw)) env) {w : List Nat} {lo hi : Nat} {free : List Int} {first last : List Nat} (Y : GoodB w lo hi free first last) :
    Ex C A env X [("word", .str w), ("low", .str [lo]), ("high", .str [hi]), ("free", .list (iL free))] [] (lawJ.drop 8) (.ret (.bool true)) := by
  have hw := Y.wl
  have hf := Y.fl
  have hsl := stringsJ_len w free lo hi
  have W := Y.words
  refine Ex_cons (Ex1_assign (a := .list ((stringsJ w free lo hi).map PV.str)) (hE.loc rfl) (.of (Ev_fun G.lev.ok (hr.less (by omega)) hE rfl (.cons (Ev_name rfl) (.cons (Ev_name rfl) (.cons (Ev_name rfl) (.cons (Ev_name rfl) .nil rfl) rfl) rfl) rfl) (string_fun G.lev.ok G.lev.bi G.string (w := w) (free := free) (lo := lo) (hi := hi) (by omega) (by omega))))) ?_
  have h0 := Y.h0
  have h1 := Y.h1
  have hl0 := Y.l0
  have hl1 := Y.l1
  have hq := Y.fin
  generalize stringsJ w free lo hi = ws at hsl W h0 h1 hq ⊢
  obtain ⟨f1, f2⟩ := W.each first (List.mem_of_getElem? h0)
  obtain ⟨g1, g2⟩ := W.each last (List.mem_of_getElem? h1)
  have hrl : (rulerJ w.length).length ≤ 15 := by simp [rulerJ]; omega
  refine Ex_cons (Ex1_assign (a := .str (rulerJ w.length)) (hE.loc rfl) (.of (Ev_eq (b := .str (List.replicate ((w.length : Int)).toNat 97 ++ List.replicate ((w.length : Int)).toNat 98 ++ List.replicate ((w.length : Int)).toNat 99)) (by rw [show ((w.length : Int)).toNat = w.length by omega]; rfl) (Ev_bin (Ev_bin ?_ ?_ (op_addS ?_)) ?_ (op_addS ?_))))) ?_
  · exact Ev_bin (Ev_str (l := [97]) rfl) (Ev_call G.lev.ok (hE.k rfl) G.lev.bi.len (CallW.builtin _) (.cons (Ev_name rfl) .nil rfl) (opC_len_str (l := w) (by omega))) (op_mulS (c := 97) (n := (w.length : Int)) (by omega) (by omega))
  · exact Ev_bin (Ev_str (l := [98]) rfl) (Ev_call G.lev.ok (hE.k rfl) G.lev.bi.len (CallW.builtin _) (.cons (Ev_name rfl) .nil rfl) (opC_len_str (l := w) (by omega))) (op_mulS (c := 98) (n := (w.length : Int)) (by omega) (by omega))
  · simp; omega
  · exact Ev_bin (Ev_str (l := [99]) rfl) (Ev_call G.lev.ok (hE.k rfl) G.lev.bi.len (CallW.builtin _) (.cons (Ev_name rfl) .nil rfl) (opC_len_str (l := w) (by omega))) (op_mulS (c := 99) (n := (w.length : Int)) (by omega) (by omega))
  · simp; omega
  refine Ex_cons (Ex1_assign (a := .int (dueJ w)) (hE.loc rfl) (.of (Ev_bin Ev_int (Ev_bin (Ev_call G.lev.ok (hE.k rfl) G.lev.bi.len (CallW.builtin _) (.cons (Ev_name rfl) .nil rfl) (opC_len_str (l := rulerJ w.length) (by omega))) (Ev_fun G.lev.ok (hr.less (by omega)) hE rfl (.cons (Ev_name rfl) .nil rfl) (rise_fun G.lev.ok G.lev.bi G.rise (w := w))) op_sub) (op_mul (mulOk_left (by decide) (by decide)))))) ?_
  have ht1 := pySlice_length_le w (some 1) none
  have ht2 := pySlice_length_le w none (some 1)
  have htl : (turnedJ w).length ≤ 10 := by unfold turnedJ; rw [List.length_append]; omega
  refine Ex_cons (Ex1_assign (a := .str (turnedJ w)) (hE.loc rfl) (.of (Ev_bin (Ev_sliceS (Ev_name rfl) (.int Ev_int) .nil (by omega)) (Ev_sliceS (Ev_name rfl) .nil (.int Ev_int) (by omega)) (op_addS (by omega))))) ?_
  generalize hru : rulerJ w.length = ru at hrl hl0 hl1 ⊢
  generalize hdu : dueJ w = du at hl0 hl1 ⊢
  have hl2 := Y.l2
  have htc := Y.tc
  generalize turnedJ w = tu at htl hl2 htc ⊢
  have hrc := Y.rc
  rw [hru] at hrc
  have c0 := lev_fun G.lev (a := first) (b := ru) (mc := du) f2 hrc f1 (by omega)
  rw [hl0] at c0
  have c1 := lev_fun G.lev (a := ru) (b := last) (mc := du) hrc g2 (by omega) g1
  rw [hl1] at c1
  have c2 := lev_fun G.lev (a := w) (b := tu) (mc := 4) Y.wc htc (by omega) (by omega)
  rw [hl2] at c2
  have hlst : (ws.map PV.str)[(ws.map PV.str).length - 1]? = some (.str last) := by
    rw [List.length_map, List.getElem?_map, h1]; rfl
  refine Ex_cons (Ex1_assignN (xs := iL [du, du, if tu = w then 0 else 4]) (hE.loc rfl) (.of (EvN_list (.cons ?_ (.cons ?_ (.cons ?_ .nil rfl) rfl) rfl) (by show (3 : Nat) ≤ 1000000; decide)))) ?_
  · exact Ev_fun G.lev.ok (hr.less (by omega)) hE rfl (.cons (Ev_sub (Ev_name rfl) Ev_int (op_itemL (l := ws.map .str) (k := 0) (c := .str first) (bind_at (k := 0) (by rw [List.getElem?_map, h0]; rfl)) rfl (by decide))) (.cons (Ev_name rfl) (.cons (Ev_name rfl) .nil rfl) rfl) rfl) c0
  · exact Ev_fun G.lev.ok (hr.less (by omega)) hE rfl (.cons (Ev_name rfl) (.cons (Ev_sub (Ev_name rfl) (Ev_neg Ev_int) (op_itemL (l := ws.map .str) (k := -1) (c := .str last) (last_at hlst) rfl (by decide))) (.cons (Ev_name rfl) .nil rfl) rfl) rfl) c1
  · exact Ev_fun G.lev.ok (hr.less (by omega)) hE rfl (.cons (Ev_name rfl) (.cons (Ev_name rfl) (.cons Ev_int .nil rfl) rfl) rfl) c2
  refine Ex_cons (Ex1_assignN (xs := iL [du, du, if tu = w then 0 else 4]) (hE.loc rfl) (.of (EvN_list (.cons (Ev_name rfl) (.cons (Ev_name rfl) (.cons (Ev_ifexp (c := decide (tu = w)) (Tst_cmp (Ev_name rfl) (Ev_name rfl) op_eqS) (fun h => ?_) (fun h => ?_)) .nil rfl) rfl) rfl) (by show (3 : Nat) ≤ 1000000; decide)))) ?_
  · rw [if_pos (of_decide_eq_true h)]; exact Ev_int
  · rw [if_neg (of_decide_eq_false h)]; exact Ev_int
  obtain ⟨L, hL, hfor⟩ := law_for2 (X := X) (env := env) G hr hE (w := w) (lo := lo) (hi := hi) (free := free) (ws := ws) (L := [du, du, if tu = w then 0 else 4]) W (by simp)
  refine Ex_weak (P' := P2 w lo hi free ws) (W' := W2 [du, du, if tu = w then 0 else 4]) ?_ (P2_sub rfl rfl rfl rfl rfl) (PSub_cons rfl (PSub_cons rfl (PSub.nil _)))
  refine Ex_cons hfor ?_
  refine Ex_freeze (x := "ways") rfl ?_
  refine Ex_freeze (x := "dues") rfl ?_
  refine Ex_cons (Ex1_if (b := false) (.of (Tst_bool (All_or_false (Tst_eq (b := !decide (L = L)) (by simp) (Tst_cmp (Ev_name rfl) (Ev_name rfl) (op_neIL hr))) (All_or_false (Tst_eq (b := decide (true ∈ List.replicate L.length false)) ?_ (Tst_cmp Ev_bool (Ev_eq (b := .list (((iL L).filter fun _ => true).map fun _ => .bool false)) ?_ ?_) op_inBL)) All_nil)))) (fun h => by cases h) (fun _ => Ex_nil)) ?_
  · simp
  · rw [List.filter_eq_self.mpr (by simp)]
    simp [iL, Function.comp_def, List.map_const']
  · refine Ev_comp (P₀ := []) (items := iL L) (p := fun _ => true) (f := fun _ => .bool false) hE (ItE_list hr.1 (Ev_name rfl)) ?_
    refine ⟨compOk_of rfl (by with_unfolding_all rfl) (by with_unfolding_all rfl) .nil, rfl, .inl rfl, by decide, fun cenv hC x hx => TsAll_nil, fun cenv hC x hx _ => ?_, by rw [iL_length]; omega⟩
    obtain ⟨k, hk, rfl⟩ := List.mem_map.mp hx
    exact Ev_call G.lev.ok (hC.k rfl) G.lev.bi.isinst (CallW.builtin _) (.cons (Ev_name rfl) (.cons (Ev_globTy G.lev.ok (hC.k rfl) G.lev.bi.bool) .nil rfl) rfl) opC_isBool_int
  exact Ex_weak (law_c G hr hE hw (by omega) (fun a ha => (W.each a ha).1) h1 (by omega) hq) (P2_sub rfl rfl rfl rfl rfl) (PSub.nil _)
end
end Mine
namespace Mine
def figsJ (ns : List Int) : List Int := (pySlice ns none (some 5)).map (fun x => x.fmod 3) ++ pySlice [0, 1, 2] (some (ns.length : Int)) none
theorem pySlice_take {α : Type} (l : List α) (k : Nat) : pySlice l none (some (k : Int)) = l.take k := by
  unfold pySlice
  have h1 : cutLo none l.length = 0 := rfl
  have h2 : cutHi (some (k : Int)) l.length = min k l.length := by
    show (max (0 : Int) (min (if (k : Int) < 0 then (k : Int) + ((l.length : Nat) : Int) else k) ((l.length : Nat) : Int))).toNat = _
    rw [if_neg (by omega)]
    omega
  rw [h1, h2, List.drop_zero, Nat.sub_zero]
  by_cases h : k ≤ l.length
  · rw [Nat.min_eq_left h]
  · rw [Nat.min_eq_right (by omega), List.take_of_length_le (Nat.le_refl _), List.take_of_length_le (by omega)]
theorem figs_nat (ns : List Int) : ∃ fs : List Nat, figsJ ns = fs.map Int.ofNat ∧ (∀ f ∈ fs, f < 3) ∧ 3 ≤ fs.length ∧ fs.length ≤ 5 := by
  refine ⟨(ns.take 5).map (fun x => (x.fmod 3).toNat) ++ ([0, 1, 2] : List Nat).drop ns.length, ?_, ?_, ?_, ?_⟩
  · unfold figsJ
    rw [show (some 5 : Option Int) = some ((5 : Nat) : Int) from rfl, pySlice_take, slice_drop, List.map_append, List.map_map, List.map_drop]
    congr 1
    refine List.map_congr_left fun x _ => ?_
    have := Int.fmod_nonneg_of_pos x (b := 3) (by omega)
    show x.fmod 3 = Int.ofNat (x.fmod 3).toNat
    rw [Int.ofNat_eq_natCast]
    omega
  · intro f hf
    rcases List.mem_append.mp hf with h | h
    · obtain ⟨x, _, rfl⟩ := List.mem_map.mp h
      have := Int.fmod_nonneg_of_pos x (b := 3) (by omega)
      have := Int.fmod_lt_of_pos x (b := 3) (by omega)
      omega
    · have := List.mem_of_mem_drop h
      simp at this
      omega
  · simp; omega
  · simp; omega
def hiddenJ : List (List Nat) := [[34, 40, 34], [92, 41, 92, 40, 92, 40], [92, 34, 92, 92, 34, 40, 40, 34], [34, 92, 34, 41, 34], [34, 92]]
def pieceJ (w : List Nat) (lo hi : Nat) (j : Int) : List Nat := if [(w[j.toNat]?).getD 0] = [lo] then [41] else if [(w[j.toNat]?).getD 0] = [hi] then [40] else (hiddenJ[j.toNat]?).getD []
def piecesJ (w : List Nat) (lo hi : Nat) : List (List Nat) := (upI 0 w.length).map (pieceJ w lo hi)
def freeT (w : List Nat) (lo hi : Nat) (held : List Int) (j : Int) : Bool := decide ([(w[j.toNat]?).getD 0] ∈ [[lo], [hi]]) && !decide (j ∈ held)
def freeJ (w : List Nat) (lo hi : Nat) (held : List Int) : List Int := (upI 0 w.length).filter (freeT w lo hi held)
def modF : PV → PV
  | .int x => .int (x.fmod 3)
  | _ => .none
theorem modF_eq (ns : List Int) : ((iL ns).filter fun _ => true).map modF = iL (ns.map fun x => x.fmod 3) := by
  rw [List.filter_eq_self.mpr (by simp)]
  simp [iL, modF, Function.comp_def]
def abcF : PV → PV
  | .int k => .str [97 + k.toNat]
  | _ => .none
theorem abcF_eq (fs : List Nat) : ((iL (fs.map Int.ofNat)).filter fun _ => true).map abcF = ((fs.map (97 + ·)).map fun c => [c]).map PV.str := by
  rw [List.filter_eq_self.mpr (by simp)]
  simp [iL, abcF, Function.comp_def]
def pieceF (w : List Nat) (lo hi : Nat) : PV → PV
  | .int j => .str (pieceJ w lo hi j)
  | _ => .none
theorem pieceF_eq (w : List Nat) (lo hi : Nat) (l : List Int) : ((iL l).filter fun _ => true).map (pieceF w lo hi) = (l.map (pieceJ w lo hi)).map PV.str := by
  rw [List.filter_eq_self.mpr (by simp)]
  simp [iL, pieceF, Function.comp_def]
theorem sum_single (l : List Nat) : ((l.map fun c => [c]).map List.length).sum = l.length := by
  induction l with
  | nil => rfl
  | cons x r ih => simp only [List.map_cons, List.sum_cons, List.length_cons, List.length_nil] at ih ⊢; omega
section
variable {C : Cst} {A : Around} {env : Env} {X : Zm} {K : Frag} {Ca : Addr}
theorem law_a2 (G : LawJ C K Ca) (hr : Room A 4) (hE : EnvOf (stScope (stAt jLaw)) env) {w : List Nat} {lo hi : Nat} {first last : List Nat} (hne : lo ≠ hi) (Q : ChkJ w lo hi (piecesJ w lo hi)) (Y : GoodB w lo hi (freeJ w lo hi (heldJ w lo hi)) first last) :
    Ex C A env X [("word", .str w), ("low", .str [lo]), ("high", .str [hi]), ("hidden", .list (hiddenJ.map .str))] [] (lawJ.drop 4) (.ret (.bool true)) := by
  have hw := Y.wl
  refine Ex_cons (P' := upd [("word", .str w), ("low", .str [lo]), ("high", .str [hi]), ("hidden", .list (hiddenJ.map .str))] "pieces" (.list ((piecesJ w lo hi).map PV.str))) (W' := []) ?_ ?_
  · rw [piecesJ, ← pieceF_eq]
    refine Ex1_assignComp (P₀ := [("low", .str [lo]), ("high", .str [hi]), ("word", .str w), ("hidden", .list (hiddenJ.map .str))]) (items := iL (upI 0 w.length)) (p := fun _ => true) (f := pieceF w lo hi) hE (hE.loc rfl) ?_ ?_ ?_
    · rw [← upZ_iL]
      exact ItE_up (a := 0) (b := (w.length : Int)) (n := w.length) G.lev.ok hr.1 (hE.k rfl) G.lev.bi.range (.cons (Ev_call G.lev.ok (hE.k rfl) G.lev.bi.len (CallW.builtin _) (.cons (Ev_name rfl) .nil rfl) (opC_len_str (l := w) (by omega))) .nil rfl) (.inl ⟨rfl, rfl⟩) (by omega) (by omega) (by omega) (by omega) (by omega)
    · refine ⟨compOk_of rfl (by with_unfolding_all rfl) (by with_unfolding_all rfl) (.cons rfl rfl rfl (.cons rfl rfl rfl (.cons rfl rfl rfl (.cons rfl rfl rfl .nil)))), rfl, .inl rfl, by decide, fun cenv hC x hx => TsAll_nil, fun cenv hC x hx _ => ?_, by rw [iL_length, upI_length]; omega⟩
      rw [← upZ_iL] at hx
      obtain ⟨j, rfl, j0, j1⟩ := mem_upZ hx
      have hj : j < w.length := by omega
      have hh : (hiddenJ.map PV.str)[j.toNat]? = some (.str ((hiddenJ[j.toNat]?).getD [])) := by
        have : j.toNat < hiddenJ.length := by
          have : hiddenJ.length = 5 := rfl
          omega
        rw [List.getElem?_map, List.getElem?_eq_getElem this]
        rfl
      simp only [pieceF, pieceJ]
      refine Ev_dictGet G.lev.ok ?_ ?_ ?_ ?_ ?_ ?_ (by simpa using hne)
      · exact Ev_name rfl
      · exact Ev_name rfl
      · exact Ev_str rfl
      · exact Ev_str rfl
      · exact Ev_sub (Ev_name rfl) (Ev_name rfl) (op_itemS (l := w) (k := j) (get_nat j0 hj) rfl (by omega))
      · refine Ev_sub (Ev_name rfl) (Ev_name rfl) (op_itemL (l := hiddenJ.map .str) (k := j) ?_ rfl (by omega))
        have := bind_at hh
        rwa [show ((j.toNat : Nat) : Int) = j by omega] at this
    · unfold swapsWith
      simp only [hE.bk, hE.k (x := "pieces") (k := .local) rfl]
      rfl
  refine Ex_cons (Ex1_assign (a := .list (iL [])) (hE.cel rfl) (.of (Ev_list (as := []) .nil (by simp)))) ?_
  refine Ex_weak (P' := P1 w lo hi (piecesJ w lo hi) []) (W' := []) ?_ (P1_sub rfl rfl rfl rfl rfl) (PSub.nil _)
  refine Ex_cons (law_for1 G hr hE Q) ?_
  generalize heldJ w lo hi = held at Y ⊢
  refine Ex_cons (Ex1_assign (a := .list (iL (freeJ w lo hi held))) (hE.cel rfl) (.of (Ev_eq (b := .list (((iL (upI 0 w.length)).filter (okI (freeT w lo hi held))).map id)) ?_ ?_)) ?_) ?_
  · rw [filter_okI, List.map_id]; rfl
  · refine Ev_comp (P₀ := [("word", .str w), ("low", .str [lo]), ("high", .str [hi]), ("held", .list (iL held))]) (items := iL (upI 0 w.length)) (p := okI (freeT w lo hi held)) (f := id) hE ?_ ?_
    · rw [← upZ_iL]
      exact ItE_up (a := 0) (b := (w.length : Int)) (n := w.length) G.lev.ok hr.1 (hE.k rfl) G.lev.bi.range (.cons (Ev_call G.lev.ok (hE.k rfl) G.lev.bi.len (CallW.builtin _) (.cons (Ev_name rfl) .nil rfl) (opC_len_str (l := w) (by omega))) .nil rfl) (.inl ⟨rfl, rfl⟩) (by omega) (by omega) (by omega) (by omega) (by omega)
    · refine ⟨compOk_of rfl (by with_unfolding_all rfl) (by with_unfolding_all rfl) (.cons rfl rfl rfl (.cons rfl rfl rfl (.cons rfl rfl rfl (.cons rfl rfl rfl .nil)))), rfl, .inl rfl, by decide, fun cenv hC x hx => ?_, fun cenv hC x hx _ => Ev_name (by exact rfl), by rw [iL_length, upI_length]; omega⟩
      rw [← upZ_iL] at hx
      obtain ⟨j, rfl, j0, j1⟩ := mem_upZ hx
      have hj : j < w.length := by omega
      refine TsAll_one (Tst_bool ?_)
      simp only [okI, freeT]
      cases q1 : decide ([(w[j.toNat]?).getD 0] ∈ [[lo], [hi]]) with
      | false =>
        rw [Bool.false_and]
        exact All_and_false (Tst_eq q1 (Tst_cmp (Ev_sub (Ev_name rfl) (Ev_name rfl) (op_itemS (l := w) (k := j) (get_nat j0 hj) rfl (by omega))) (Ev_list (as := [[lo], [hi]].map PV.str) (.cons (Ev_name rfl) (.cons (Ev_name rfl) .nil rfl) rfl) (by simp)) (op_inSL (ns := [[lo], [hi]]))))
      | true =>
        rw [Bool.true_and]
        exact All_and_true (Tst_eq q1 (Tst_cmp (Ev_sub (Ev_name rfl) (Ev_name rfl) (op_itemS (l := w) (k := j) (get_nat j0 hj) rfl (by omega))) (Ev_list (as := [[lo], [hi]].map PV.str) (.cons (Ev_name rfl) (.cons (Ev_name rfl) .nil rfl) rfl) (by simp)) (op_inSL (ns := [[lo], [hi]]))))
          (All_one (Tst_cmp (Ev_name rfl) (Ev_name rfl) op_notInI))
  · unfold swapsWith
    simp only [hE.bk, hE.k (x := "free") (k := .cell) rfl]
    rfl
  exact Ex_weak (law_b G hr hE Y) (PSub_cons rfl (PSub_cons rfl (PSub_cons rfl (PSub_cons rfl (PSub.nil _))))) (PSub.nil _)
end
end Mine
namespace Mine
section
variable {C : Cst} {A : Around} {env : Env} {X : Zm} {K : Frag} {Ca : Addr}
theorem abc_at {k : Int} {f : Nat} (hk : k = Int.ofNat f) (hf : f < 3) : (seqIndex? k ([97, 98, 99] : List Nat).length).bind (([97, 98, 99] : List Nat)[·]?) = some (97 + k.toNat) := by
  subst hk
  match f, hf with
  | 0, _ => rfl
  | 1, _ => rfl
  | 2, _ => rfl
theorem pair_at (n : Nat) : (seqIndex? ((n : Int).fmod 2) ([PV.tuple [.str [97], .str [98]], .tuple [.str [98], .str [99]]] : List PV).length).bind (([PV.tuple [.str [97], .str [98]], .tuple [.str [98], .str [99]]] : List PV)[·]?) =
    some (.tuple [.str [97 + n % 2], .str [98 + n % 2]]) := by
  have h : n % 2 < 2 := Nat.mod_lt _ (by decide)
  rw [show (n : Int).fmod 2 = ((n % 2 : Nat) : Int) from fmod_cast n 2]
  generalize n % 2 = p at h ⊢
  match p, h with
  | 0, _ => rfl
  | 1, _ => rfl
set_option maxHeartbeats 1000000 in
theorem law_exJ (G : LawJ C K Ca) (hr : Room A 4) (hE : EnvOf (stScope (stAt jLaw)) env) {ns : List Int} (hl : ns.length ≤ 1000)
    (hgood : ∀ (fs : List Nat) (p : Nat), (∀ f ∈ fs, f < 3) → 3 ≤ fs.length → fs.length ≤ 5 → p < 2 → ChkJ (fs.map (97 + ·)) (97 + p) (98 + p) (piecesJ (fs.map (97 + ·)) (97 + p) (98 + p)) ∧
      ∃ first last, GoodB (fs.map (97 + ·)) (97 + p) (98 + p) (freeJ (fs.map (97 + ·)) (97 + p) (98 + p) (heldJ (fs.map (97 + ·)) (97 + p) (98 + p))) first last) :
    Ex C A env X [("script", .list (iL ns))] [] lawJ (.ret (.bool true)) := by
  obtain ⟨fs, hfs, f3, fl, fu⟩ := figs_nat ns
  obtain ⟨Q, first, last, Y⟩ := hgood fs (ns.length % 2) f3 fl fu (Nat.mod_lt _ (by decide))
  have e0 := pySlice_length_le ns none (some 5)
  have e1 := pySlice_length_le ([0, 1, 2] : List Int) (some (ns.length : Int)) none
  simp only [List.length_cons, List.length_nil] at e1
  refine Ex_cons (Ex1_assign (a := .list (iL (fs.map Int.ofNat))) (hE.loc rfl) (.of (Ev_eq (b := .list (((iL (pySlice ns none (some 5))).filter fun _ => true).map modF ++ pySlice (iL [0, 1, 2]) (some (ns.length : Int)) none)) ?_ (Ev_bin ?_ ?_ (op_addL ?_))))) ?_
  · rw [modF_eq, iL_slice, ← iL_append, ← hfs]; rfl
  · refine Ev_comp (P₀ := []) (items := iL (pySlice ns none (some 5))) (p := fun _ => true) (f := modF) hE ?_ ?_
    · rw [← iL_slice]
      exact ItE_list hr.1 (Ev_sliceL (Ev_name rfl) .nil (.int Ev_int) (by rw [iL_length]; omega))
    · refine ⟨compOk_of rfl (by with_unfolding_all rfl) (by with_unfolding_all rfl) .nil, rfl, .inl rfl, by decide, fun cenv hC x hx => TsAll_nil, fun cenv hC x hx _ => ?_, by rw [iL_length]; omega⟩
      obtain ⟨k, hk, rfl⟩ := List.mem_map.mp hx
      exact Ev_bin (Ev_name rfl) Ev_int (op_fmod (by decide))
  · exact Ev_sliceL (l := iL [0, 1, 2]) (Ev_list (.cons Ev_int (.cons Ev_int (.cons Ev_int .nil rfl) rfl) rfl) (by show (3 : Nat) ≤ 1000000; decide)) (.int (Ev_eq (b' := .int ns.length) (by rw [iL_length]) (Ev_call G.lev.ok (hE.k rfl) G.lev.bi.len (CallW.builtin _) (.cons (Ev_name rfl) .nil rfl) (opC_len_list (xs := iL ns) (by rw [iL_length]; omega))))) .nil (by show (3 : Nat) ≤ 10000000; decide)
  · rw [modF_eq, iL_slice, iL_length, iL_length, List.length_map]; omega
  have hwl : (fs.map (97 + ·)).length = fs.length := List.length_map _
  generalize hw : fs.map (97 + ·) = w at Q Y hwl ⊢
  refine Ex_cons (Ex1_assign (a := .str w) (hE.cel rfl) (.of (Ev_eq (b := .str (joinL [] (w.map fun c => [c]))) (by rw [joinL_single]) ?_))) ?_
  · refine Ev_methS (l := []) (as := [.list ((w.map fun c => [c]).map PV.str)]) (id := "str.join") ?_ ?_ ?_ ?_ ?_ ?_ ?_ ?_
    · exact Ev_str rfl
    · refine .cons ?_ .nil ?_
      · rw [← hw, ← abcF_eq]
        refine Ev_comp (P₀ := []) (items := iL (fs.map Int.ofNat)) (p := fun _ => true) (f := abcF) hE (ItE_list hr.1 (Ev_name rfl)) ?_
        refine ⟨compOk_of rfl (by with_unfolding_all rfl) (by with_unfolding_all rfl) .nil, rfl, .inl rfl, by decide, fun cenv hC x hx => TsAll_nil, fun cenv hC x hx _ => ?_, by rw [iL_length, List.length_map]; omega⟩
        obtain ⟨k, hk, rfl⟩ := List.mem_map.mp hx
        obtain ⟨f, hf, hfk⟩ := List.mem_map.mp hk
        have h3 := f3 f hf
        simp only [abcF]
        refine Ev_sub ?_ (Ev_name rfl) (op_itemS (l := [97, 98, 99]) (k := k) (abc_at hfk.symm h3) rfl ?_)
        · exact Ev_str rfl
        · rw [← hfk, Int.ofNat_eq_natCast]; omega
      · rfl
    · exact PySem.F.slot_str_join
    · exact PySem.F.type_str_join
    · exact opC_join (sep := []) (by rw [sum_single]; simp; omega)
    · rfl
    · rfl
    · decide
  refine Ex_cons (Ex1_assignT (a := .tuple [.str [97 + ns.length % 2], .str [98 + ns.length % 2]]) (.of ?_) (AsgT_pair hr.1 (hE.cel rfl) (hE.cel rfl)) ?_ ?_) ?_
  · refine Ev_sub (a := .list [PV.tuple [.str [97], .str [98]], .tuple [.str [98], .str [99]]]) (i := .int ((ns.length : Int).fmod 2)) ?_ ?_ ?_
    · exact Ev_list (.cons (Ev_tuple (.cons (Ev_str rfl) (.cons (Ev_str rfl) .nil rfl) rfl) (by simp)) (.cons (Ev_tuple (.cons (Ev_str rfl) (.cons (Ev_str rfl) .nil rfl) rfl) (by simp)) .nil rfl) rfl) (by simp)
    · exact Ev_bin (Ev_eq (b' := .int ns.length) (by rw [iL_length]) (Ev_call G.lev.ok (hE.k rfl) G.lev.bi.len (CallW.builtin _) (.cons (Ev_name rfl) .nil rfl) (opC_len_list (xs := iL ns) (by rw [iL_length]; omega)))) Ev_int (op_fmod (by decide))
    · have h1 := Int.fmod_nonneg_of_pos (ns.length : Int) (b := 2) (by omega)
      have h2 := Int.fmod_lt_of_pos (ns.length : Int) (b := 2) (by omega)
      exact op_itemL (k := (ns.length : Int).fmod 2) (pair_at ns.length) rfl (by omega)
  · rfl
  · rfl
  refine Ex_cons (Ex1_assign (a := .list (hiddenJ.map .str)) (hE.cel rfl) (.of (Ev_list (as := hiddenJ.map .str) (.cons (Ev_str rfl) (.cons (Ev_str rfl) (.cons (Ev_str rfl) (.cons (Ev_str rfl) (.cons (Ev_str rfl) .nil rfl) rfl) rfl) rfl) rfl) (by decide)))) ?_
  exact Ex_weak (law_a2 G hr hE (by omega) Q Y) (PSub_cons rfl (PSub_cons rfl (PSub_cons rfl (PSub_cons rfl (PSub.nil _))))) (PSub.nil _)
end
end Mine
namespace Mine
def allFs : Nat → List (List Nat)
  | 0 => [[]]
  | n + 1 => (allFs n).flatMap fun r => [0 :: r, 1 :: r, 2 :: r]
theorem mem_allFs : ∀ (fs : List Nat), (∀ f ∈ fs, f < 3) → fs ∈ allFs fs.length
  | [], _ => List.mem_singleton.mpr rfl
  | f :: r, h => by
    have ih := mem_allFs r fun x hx => h x (List.mem_cons_of_mem _ hx)
    have hf := h f List.mem_cons_self
    refine List.mem_flatMap.mpr ⟨r, ih, ?_⟩
    match f, hf with
    | 0, _ => simp
    | 1, _ => simp
    | 2, _ => simp
def okChk (w : List Nat) (lo hi : Nat) : Bool :=
  let pcs := piecesJ w lo hi
  decide (w.length ≤ 5) && decide (pcs.length ≤ 5) && (List.range w.length).all fun s => (List.range (w.length - s)).all fun d =>
    let sl := pySlice pcs (some ((s : Nat) : Int)) (some ((s + 1 + d : Nat) : Int))
    decide ((joinL [] sl).length ≤ 500) && decide ((sl.map List.length).sum ≤ 500) && (checkY (joinL [] sl) == closesJ lo hi 0 (pySlice w (some (s : Int)) (some ((s + 1 + d : Nat) : Int))))
def okWords (ws : List (List Nat)) : Bool :=
  decide (ws.length ≤ 6) && (ws.all fun a => decide (a.length ≤ 40) && a.all fun c => decide (okc c)) &&
    (List.range ws.length).all fun k => (List.range (ws.length - k)).all fun d => decide (levD ((ws[k + d]?).getD []) ((ws[k]?).getD []) (2 * (((k + d : Nat) : Int) - k)) = 2 * (((k + d : Nat) : Int) - k))
def leadT (n h f r : Nat) : List Nat := List.replicate (h + (f - r)) 32 ++ [9] ++ List.replicate (h + r) 32 ++ [9] ++ List.replicate (n - 2 * h - f) 32
def lead0T (n h f : Nat) : List (List Nat) := (List.range (f + 1)).map (leadT n h f)
def okEnd (ls : List (List Nat)) (st : List Int) : Bool :=
  decide (st.length = ls.length) && decide (ls.length ≤ 10) && (ls.all fun l => decide (l.length ≤ 400) && decide ((wsRun l ws0).count.length ≤ 560) && decide (0 ≤ lrsY l) && decide (lrsY l ≤ 800)) &&
    (List.range ls.length).all fun k => ((List.range ls.length).all fun m => eqY ((ls[k]?).getD []) ((ls[m]?).getD []) == decide ((st[k]?).getD 0 = (st[m]?).getD 0)) &&
      decide (nweY ((ls[k]?).getD []) ((ls[prev ls.length k]?).getD []) = witJ ((ls[k]?).getD []) ((ls[prev ls.length k]?).getD []))
def okTab (n : Nat) : Bool := (List.range (n + 1)).all fun f => (List.range (n + 1)).all fun h => decide (n < 2 * h + f) || okEnd (leadsJ n (lead0T n h f) (leadT n h f f)) (standsJ (f + 1) f)
def okRest (w : List Nat) (lo hi : Nat) (free : List Int) : Bool :=
  let ws := stringsJ w free lo hi
  let last := (ws[ws.length - 1]?).getD []
  let first := (ws[0]?).getD []
  let ru := rulerJ w.length
  let du := dueJ w
  let tu := turnedJ w
  let h := (idx lo last).length
  (w.all fun c => decide (okc c)) && (ru.all fun c => decide (okc c)) && (tu.all fun c => decide (okc c)) && decide (free.length ≤ w.length) && okWords ws && decide (levD first ru du = du) && decide (levD ru last du = du) && decide (levD w tu 4 = if tu = w then 0 else 4) &&
    decide (2 * h + free.length ≤ w.length) && decide (ws.map (leadJ lo hi) = lead0T w.length h free.length) && decide (leadJ lo hi last = leadT w.length h free.length free.length)
def okJ (p : Nat) (fs : List Nat) : Bool :=
  let w := fs.map (97 + ·)
  okChk w (97 + p) (98 + p) && okRest w (97 + p) (98 + p) (freeJ w (97 + p) (98 + p) (heldJ w (97 + p) (98 + p)))
end Mine
namespace Mine
theorem okt3 : okTab 3 = true := by decide +kernel
theorem okt4 : okTab 4 = true := by decide +kernel
theorem okt5 : okTab 5 = true := by decide +kernel
theorem ok3p0 : ((allFs 3).all (okJ 0)) = true := by decide +kernel
theorem ok4p0a0 : ((allFs 3).all fun r => okJ 0 (0 :: r)) = true := by decide +kernel
theorem ok5p0a0b0 : ((allFs 3).all fun r => okJ 0 (0 :: 0 :: r)) = true := by decide +kernel
theorem ok5p0a0b1 : ((allFs 3).all fun r => okJ 0 (0 :: 1 :: r)) = true := by decide +kernel
theorem ok5p0a0b2 : ((allFs 3).all fun r => okJ 0 (0 :: 2 :: r)) = true := by decide +kernel
theorem ok4p0a1 : ((allFs 3).all fun r => okJ 0 (1 :: r)) = true := by decide +kernel
theorem ok5p0a1b0 : ((allFs 3).all fun r => okJ 0 (1 :: 0 :: r)) = true := by decide +kernel
theorem ok5p0a1b1 : ((allFs 3).all fun r => okJ 0 (1 :: 1 :: r)) = true := by decide +kernel
theorem ok5p0a1b2 : ((allFs 3).all fun r => okJ 0 (1 :: 2 :: r)) = true := by decide +kernel
theorem ok4p0a2 : ((allFs 3).all fun r => okJ 0 (2 :: r)) = true := by decide +kernel
theorem ok5p0a2b0 : ((allFs 3).all fun r => okJ 0 (2 :: 0 :: r)) = true := by decide +kernel
theorem ok5p0a2b1 : ((allFs 3).all fun r => okJ 0 (2 :: 1 :: r)) = true := by decide +kernel
theorem ok5p0a2b2 : ((allFs 3).all fun r => okJ 0 (2 :: 2 :: r)) = true := by decide +kernel
theorem ok3p1 : ((allFs 3).all (okJ 1)) = true := by decide +kernel
theorem ok4p1a0 : ((allFs 3).all fun r => okJ 1 (0 :: r)) = true := by decide +kernel
theorem ok5p1a0b0 : ((allFs 3).all fun r => okJ 1 (0 :: 0 :: r)) = true := by decide +kernel
theorem ok5p1a0b1 : ((allFs 3).all fun r => okJ 1 (0 :: 1 :: r)) = true := by decide +kernel
theorem ok5p1a0b2 : ((allFs 3).all fun r => okJ 1 (0 :: 2 :: r)) = true := by decide +kernel
theorem ok4p1a1 : ((allFs 3).all fun r => okJ 1 (1 :: r)) = true := by decide +kernel
theorem ok5p1a1b0 : ((allFs 3).all fun r => okJ 1 (1 :: 0 :: r)) = true := by decide +kernel
theorem ok5p1a1b1 : ((allFs 3).all fun r => okJ 1 (1 :: 1 :: r)) = true := by decide +kernel
theorem ok5p1a1b2 : ((allFs 3).all fun r => okJ 1 (1 :: 2 :: r)) = true := by decide +kernel
theorem ok4p1a2 : ((allFs 3).all fun r => okJ 1 (2 :: r)) = true := by decide +kernel
theorem ok5p1a2b0 : ((allFs 3).all fun r => okJ 1 (2 :: 0 :: r)) = true := by decide +kernel
theorem ok5p1a2b1 : ((allFs 3).all fun r => okJ 1 (2 :: 1 :: r)) = true := by decide +kernel
theorem ok5p1a2b2 : ((allFs 3).all fun r => okJ 1 (2 :: 2 :: r)) = true := by decide +kernel
end Mine
namespace Mine
theorem wsRun_app {c : Nat} {r : List Nat} (h1 : c ≠ 32) (h2 : c ≠ 9) : ∀ (l : List Nat) (s : WsS), wsRun (l ++ c :: r) s = wsRun l s
  | [], s => by simp only [List.nil_append, wsRun, if_neg h1, if_neg h2]
  | x :: l, s => by
    simp only [List.cons_append, wsRun]
    split
    · exact wsRun_app h1 h2 l _
    · split
      · exact wsRun_app h1 h2 l _
      · rfl
theorem eqY_of {l l' m m' : List Nat} (h : wsRun l ws0 = wsRun l' ws0) (h' : wsRun m ws0 = wsRun m' ws0) : eqY l m = eqY l' m' := by unfold eqY; rw [h, h']
theorem lrsY_of {l l' : List Nat} (h : wsRun l ws0 = wsRun l' ws0) : lrsY l = lrsY l' := by unfold lrsY; rw [h]
theorem wsLevel_of {l l' : List Nat} (h : wsRun l ws0 = wsRun l' ws0) (t : Nat) : wsLevel l t = wsLevel l' t := by unfold wsLevel; rw [h]
theorem nweY_of {l l' m m' : List Nat} (h : wsRun l ws0 = wsRun l' ws0) (h' : wsRun m ws0 = wsRun m' ws0) : nweY l m = nweY l' m' := by
  unfold nweY
  rw [lrsY_of h, lrsY_of h', show nweStep l m = nweStep l' m' from funext fun rs => funext fun k => by unfold nweStep; rw [wsLevel_of h, wsLevel_of h']]
theorem getD_of {α : Type} {l : List α} {k : Nat} {x d : α} (h : l[k]? = some x) : (l[k]?).getD d = x := by rw [h]; rfl
theorem lt_of_some {α : Type} {l : List α} {k : Nat} {x : α} (h : l[k]? = some x) : k < l.length := by
  rcases Nat.lt_or_ge k l.length with q | q
  · exact q
  · rw [List.getElem?_eq_none q] at h; cases h
theorem end_of {w : List Nat} {c : Nat} {r : List Nat} (hw : w = c :: r) (h1 : c ≠ 32) (h2 : c ≠ 9) (hl : w.length ≤ 5) {ls : List (List Nat)} {st : List Int} (h : okEnd ls st = true) : EndJ w ls st := by
  have e : ∀ l, wsRun (l ++ w) ws0 = wsRun l ws0 := fun l => by rw [hw]; exact wsRun_app h1 h2 l _
  unfold okEnd at h
  simp only [Bool.and_eq_true, decide_eq_true_eq, List.all_eq_true, List.mem_range, beq_iff_eq] at h
  obtain ⟨⟨⟨a1, a2⟩, a3⟩, a4⟩ := h
  refine ⟨a1, a2, fun l hm => ?_, fun k m l l' x y hk hm hx hy => ?_, fun k l l' hk hp => ?_⟩
  · obtain ⟨⟨⟨b1, b2⟩, b3⟩, b4⟩ := a3 l hm
    rw [lrsY_of (e l), e l]
    exact ⟨b1, by rw [List.length_append]; omega, b2, b3, b4⟩
  · rw [eqY_of (e l) (e l')]
    have := (a4 k (lt_of_some hk)).1 m (lt_of_some hm)
    rw [getD_of hk, getD_of hm, getD_of hx, getD_of hy] at this
    exact this
  · rw [nweY_of (e l) (e l')]
    have := (a4 k (lt_of_some hk)).2
    rw [getD_of hk, getD_of hp] at this
    exact this
theorem chk_of {w : List Nat} {lo hi : Nat} (h : okChk w lo hi = true) : ChkJ w lo hi (piecesJ w lo hi) := by
  unfold okChk at h
  simp only [Bool.and_eq_true, decide_eq_true_eq, List.all_eq_true, List.mem_range, beq_iff_eq] at h
  obtain ⟨⟨a1, a2⟩, a3⟩ := h
  refine ⟨a1, a2, fun s e hs he => ?_⟩
  obtain ⟨d, rfl⟩ : ∃ d, e = s + 1 + d := ⟨e - (s + 1), by omega⟩
  obtain ⟨⟨b1, b2⟩, b3⟩ := a3 s (by omega) d (by omega)
  exact ⟨b1, b2, b3⟩
theorem words_of {ws : List (List Nat)} (h : okWords ws = true) : WordsJ ws := by
  unfold okWords at h
  simp only [Bool.and_eq_true, decide_eq_true_eq, List.all_eq_true, List.mem_range] at h
  obtain ⟨⟨a1, a2⟩, a3⟩ := h
  refine ⟨a1, a2, fun k m a b hk hm hb => ?_⟩
  obtain ⟨d, rfl⟩ : ∃ d, m = k + d := ⟨m - k, by omega⟩
  have h1 := lt_of_some hm
  have := a3 k (lt_of_some hb) d (by omega)
  rw [getD_of hm, getD_of hb] at this
  exact this
theorem tab_of {n h f : Nat} (h3 : okTab 3 = true) (h4 : okTab 4 = true) (h5 : okTab 5 = true) (hn : 3 ≤ n) (hn' : n ≤ 5) (hs : 2 * h + f ≤ n) : okEnd (leadsJ n (lead0T n h f) (leadT n h f f)) (standsJ (f + 1) f) = true := by
  have key : okTab n = true := by
    rcases (by omega : n = 3 ∨ n = 4 ∨ n = 5) with rfl | rfl | rfl
    · exact h3
    · exact h4
    · exact h5
  unfold okTab at key
  simp only [Bool.or_eq_true, decide_eq_true_eq, List.all_eq_true, List.mem_range] at key
  rcases key f (by omega) h (by omega) with q | q
  · omega
  · exact q
theorem good_of {w : List Nat} {lo hi : Nat} {free : List Int} (h3 : okTab 3 = true) (h4 : okTab 4 = true) (h5 : okTab 5 = true) (hn : 3 ≤ w.length) (hn' : w.length ≤ 5) (hw : ∀ c ∈ w, c ≠ 32 ∧ c ≠ 9) (h : okRest w lo hi free = true) : ∃ first last, GoodB w lo hi free first last := by
  unfold okRest at h
  simp only [Bool.and_eq_true, decide_eq_true_eq, List.all_eq_true] at h
  obtain ⟨⟨⟨⟨⟨⟨⟨⟨⟨⟨a1, a2⟩, a3⟩, a4⟩, a5⟩, a6⟩, a7⟩, a8⟩, a9⟩, a10⟩, a11⟩ := h
  have hsl := stringsJ_len w free lo hi
  have g : ∀ k, k < (stringsJ w free lo hi).length → (stringsJ w free lo hi)[k]? = some (((stringsJ w free lo hi)[k]?).getD []) := fun k hk => by
    rw [List.getElem?_eq_getElem hk]; rfl
  obtain ⟨c, r, hcr⟩ : ∃ c r, w = c :: r := by
    cases w with
    | nil => simp at hn
    | cons c r => exact ⟨c, r, rfl⟩
  obtain ⟨c1, c2⟩ := hw c (by rw [hcr]; exact List.mem_cons_self)
  have T := tab_of h3 h4 h5 hn hn' a9
  refine ⟨_, _, hn', a1, a2, a3, by omega, words_of a5, g 0 (by omega), g _ (by omega), a6, a7, a8, ?_⟩
  have e : standsJ (stringsJ w free lo hi).length free.length = standsJ (free.length + 1) free.length := by rw [hsl]
  rw [e, a10, a11]
  exact end_of hcr c1 c2 hn' T
end Mine
namespace Mine
theorem ok_3 {p a b c : Nat} {P : List Nat → Bool} (h : (allFs 3).all P = true) (ha : a < 3) (hb : b < 3) (hc : c < 3) : P [a, b, c] = true :=
  List.all_eq_true.mp h _ (mem_allFs [a, b, c] (fun f hf => by
    simp only [List.mem_cons, List.not_mem_nil, or_false] at hf
    rcases hf with rfl | rfl | rfl <;> assumption))
theorem ok_4 {p : Nat} (hp : p < 2) {a b c d : Nat} (ha : a < 3) (hb : b < 3) (hc : c < 3) (hd : d < 3) : okJ p [a, b, c, d] = true := by
  match p, hp, a, ha with
  | 0, _, 0, _ => exact ok_3 (p := 0) (P := fun r => okJ 0 (0 :: r)) ok4p0a0 hb hc hd
  | 0, _, 1, _ => exact ok_3 (p := 0) (P := fun r => okJ 0 (1 :: r)) ok4p0a1 hb hc hd
  | 0, _, 2, _ => exact ok_3 (p := 0) (P := fun r => okJ 0 (2 :: r)) ok4p0a2 hb hc hd
  | 1, _, 0, _ => exact ok_3 (p := 0) (P := fun r => okJ 1 (0 :: r)) ok4p1a0 hb hc hd
  | 1, _, 1, _ => exact ok_3 (p := 0) (P := fun r => okJ 1 (1 :: r)) ok4p1a1 hb hc hd
  | 1, _, 2, _ => exact ok_3 (p := 0) (P := fun r => okJ 1 (2 :: r)) ok4p1a2 hb hc hd
theorem ok_5 {p : Nat} (hp : p < 2) {a b c d e : Nat} (ha : a < 3) (hb : b < 3) (hc : c < 3) (hd : d < 3) (he : e < 3) : okJ p [a, b, c, d, e] = true := by
  match p, hp, a, ha, b, hb with
  | 0, _, 0, _, 0, _ => exact ok_3 (p := 0) (P := fun r => okJ 0 (0 :: 0 :: r)) ok5p0a0b0 hc hd he
  | 0, _, 0, _, 1, _ => exact ok_3 (p := 0) (P := fun r => okJ 0 (0 :: 1 :: r)) ok5p0a0b1 hc hd he
  | 0, _, 0, _, 2, _ => exact ok_3 (p := 0) (P := fun r => okJ 0 (0 :: 2 :: r)) ok5p0a0b2 hc hd he
  | 0, _, 1, _, 0, _ => exact ok_3 (p := 0) (P := fun r => okJ 0 (1 :: 0 :: r)) ok5p0a1b0 hc hd he
  | 0, _, 1, _, 1, _ => exact ok_3 (p := 0) (P := fun r => okJ 0 (1 :: 1 :: r)) ok5p0a1b1 hc hd he
  | 0, _, 1, _, 2, _ => exact ok_3 (p := 0) (P := fun r => okJ 0 (1 :: 2 :: r)) ok5p0a1b2 hc hd he
  | 0, _, 2, _, 0, _ => exact ok_3 (p := 0) (P := fun r => okJ 0 (2 :: 0 :: r)) ok5p0a2b0 hc hd he
  | 0, _, 2, _, 1, _ => exact ok_3 (p := 0) (P := fun r => okJ 0 (2 :: 1 :: r)) ok5p0a2b1 hc hd he
  | 0, _, 2, _, 2, _ => exact ok_3 (p := 0) (P := fun r => okJ 0 (2 :: 2 :: r)) ok5p0a2b2 hc hd he
  | 1, _, 0, _, 0, _ => exact ok_3 (p := 0) (P := fun r => okJ 1 (0 :: 0 :: r)) ok5p1a0b0 hc hd he
  | 1, _, 0, _, 1, _ => exact ok_3 (p := 0) (P := fun r => okJ 1 (0 :: 1 :: r)) ok5p1a0b1 hc hd he
  | 1, _, 0, _, 2, _ => exact ok_3 (p := 0) (P := fun r => okJ 1 (0 :: 2 :: r)) ok5p1a0b2 hc hd he
  | 1, _, 1, _, 0, _ => exact ok_3 (p := 0) (P := fun r => okJ 1 (1 :: 0 :: r)) ok5p1a1b0 hc hd he
  | 1, _, 1, _, 1, _ => exact ok_3 (p := 0) (P := fun r => okJ 1 (1 :: 1 :: r)) ok5p1a1b1 hc hd he
  | 1, _, 1, _, 2, _ => exact ok_3 (p := 0) (P := fun r => okJ 1 (1 :: 2 :: r)) ok5p1a1b2 hc hd he
  | 1, _, 2, _, 0, _ => exact ok_3 (p := 0) (P := fun r => okJ 1 (2 :: 0 :: r)) ok5p1a2b0 hc hd he
  | 1, _, 2, _, 1, _ => exact ok_3 (p := 0) (P := fun r => okJ 1 (2 :: 1 :: r)) ok5p1a2b1 hc hd he
  | 1, _, 2, _, 2, _ => exact ok_3 (p := 0) (P := fun r => okJ 1 (2 :: 2 :: r)) ok5p1a2b2 hc hd he
theorem ok_all (fs : List Nat) (p : Nat) (h3 : ∀ f ∈ fs, f < 3) (h1 : 3 ≤ fs.length) (h2 : fs.length ≤ 5) (hp : p < 2) : okJ p fs = true := by
  match fs, h3, h1, h2 with
  | [a, b, c], h3, _, _ =>
    have ha := h3 a (by simp)
    have hb := h3 b (by simp)
    have hc := h3 c (by simp)
    match p, hp with
    | 0, _ => exact ok_3 (p := 0) (P := okJ 0) ok3p0 ha hb hc
    | 1, _ => exact ok_3 (p := 0) (P := okJ 1) ok3p1 ha hb hc
  | [a, b, c, d], h3, _, _ => exact ok_4 hp (h3 a (by simp)) (h3 b (by simp)) (h3 c (by simp)) (h3 d (by simp))
  | [a, b, c, d, e], h3, _, _ => exact ok_5 hp (h3 a (by simp)) (h3 b (by simp)) (h3 c (by simp)) (h3 d (by simp)) (h3 e (by simp))
theorem good_all (fs : List Nat) (p : Nat) (h3 : ∀ f ∈ fs, f < 3) (h1 : 3 ≤ fs.length) (h2 : fs.length ≤ 5) (hp : p < 2) : ChkJ (fs.map (97 + ·)) (97 + p) (98 + p) (piecesJ (fs.map (97 + ·)) (97 + p) (98 + p)) ∧
      ∃ first last, GoodB (fs.map (97 + ·)) (97 + p) (98 + p) (freeJ (fs.map (97 + ·)) (97 + p) (98 + p) (heldJ (fs.map (97 + ·)) (97 + p) (98 + p))) first last := by
  have h := ok_all fs p h3 h1 h2 hp
  unfold okJ at h
  obtain ⟨a, b⟩ := Bool.and_eq_true_iff.mp h
  refine ⟨chk_of a, good_of okt3 okt4 okt5 (by rw [List.length_map]; exact h1) (by rw [List.length_map]; exact h2) (fun c hc => ?_) b⟩
  obtain ⟨f, _, rfl⟩ := List.mem_map.mp hc
  exact ⟨by show 97 + f ≠ 32; omega, by show 97 + f ≠ 9; omega⟩
end Mine
namespace Mine
theorem law_funJ {C : Cst} {K : Frag} {Ca fa : Addr} (G : LawJ C K Ca) (D : DefAt C fa (stArgs (stAt jLaw)) (stBody (stAt jLaw)) (stScope (stAt jLaw))) {ns : List Int} (hl : ns.length ≤ 1000)
    (hgood : ∀ (fs : List Nat) (p : Nat), (∀ f ∈ fs, f < 3) → 3 ≤ fs.length → fs.length ≤ 5 → p < 2 → ChkJ (fs.map (97 + ·)) (97 + p) (98 + p) (piecesJ (fs.map (97 + ·)) (97 + p) (98 + p)) ∧
      ∃ first last, GoodB (fs.map (97 + ·)) (97 + p) (98 + p) (freeJ (fs.map (97 + ·)) (97 + p) (98 + p) (heldJ (fs.map (97 + ·)) (97 + p) (98 + p))) first last) : FunOk C 5 fa [.list (iL ns)] (.bool true) := by
  refine funOk_of (n := 4) (names := ["script"]) (o := .ret (.bool true)) G.lev.ok D ?_ rfl (by decide) ?_ ?_ ?_ (.inl ⟨_, rfl⟩)
  · intro name qual pm code doc vs hv
    match vs, hv with
    | [u], _ => rfl
  · intro x hx
    simp only [List.mem_cons, List.not_mem_nil, or_false] at hx
    rcases hx with rfl
    exact .inl rfl
  · intro x hx
    simp only [List.mem_cons, List.not_mem_nil, or_false] at hx
    rcases hx with rfl
    decide
  intro A env hr hE
  exact law_exJ G hr hE hl hgood
theorem caller_room : Room callerA 5 := ⟨rfl, by decide, by decide⟩
theorem repL_of_ints {z : Zm} : ∀ {vs : List Value} {ns : List Int}, IntsAre vs ns → RepL z (iL ns) vs
  | _, _, .nil => repL_nil
  | _, _, .cons n t h => repL_cons (rep_int _ _) (repL_of_ints h)
theorem ints_of_well {P : Params} {h : Heap} : ∀ {ns : List Int} {vs : List Value}, WellAll P h vs (ofPys (ns.map .int)) → IntsAre vs ns
  | [], _, w => by
    simp only [List.map_nil, ofPys] at w
    cases w
    exact .nil
  | n :: ns, _, w => by
    simp only [List.map_cons, ofPys, ofPy] at w
    cases w with
    | cons hv hr =>
      cases hv
      exact .cons _ _ (ints_of_well hr)
theorem rep_of_well {P : Params} {h : Heap} {l : Addr} {ns : List Int} (w : Well P h (.ref l) (ofPy (.list (ns.map .int)))) : Rep (fun a => h.get? a) (.list (iL ns)) (.ref l) := by
  simp only [ofPy] at w
  cases w with
  | list hg hw => exact rep_list (n := 0) hg (repL_of_ints (ints_of_well hw))
def KF (P : Params) : Frag :=
  (nat_lit 2, ⟨.none, none, (.dict #[] 0), #[]⟩) ::
  (nat_lit 3, ⟨(.type "dict"), none, (.dict #[⟨PyData.keyHash P "__name__", (.str "__name__" 165), (.str "law_sc0088_01" 367)⟩,
      ⟨PyData.keyHash P "__doc__", (.str "__doc__" 166), .none⟩,
      ⟨PyData.keyHash P "__package__", (.str "__package__" 167), .none⟩,
      ⟨PyData.keyHash P "__loader__", (.str "__loader__" 168), (.builtin "__main__.__loader__#opaque")⟩,
      ⟨PyData.keyHash P "__spec__", (.str "__spec__" 169), .none⟩,
      ⟨PyData.keyHash P "__annotations__", (.str "__annotations__" 170), (.ref 6)⟩,
      ⟨PyData.keyHash P "__builtins__", (.str "__builtins__" 171), (.ref 4)⟩,
      ⟨PyData.keyHash P "__file__", (.str "__file__" 173), (.str "/claim/cut.py" 172)⟩,
      ⟨PyData.keyHash P "__cached__", (.str "__cached__" 174), .none⟩,
      ⟨PyData.keyHash P "_wall", (.str "_wall" 193), (.ref 21)⟩,
      ⟨PyData.keyHash P "_iter_escaped_chars", (.str "_iter_escaped_chars" 205), (.ref 28)⟩,
      ⟨PyData.keyHash P "_strip_quoted_realnames", (.str "_strip_quoted_realnames" 217), (.ref 35)⟩,
      ⟨PyData.keyHash P "_check_parenthesis", (.str "_check_parenthesis" 227), (.ref 42)⟩,
      ⟨PyData.keyHash P "Whitespace", (.str "Whitespace" 330), (.ref 104)⟩,
      ⟨PyData.keyHash P "_MAX_STRING_SIZE", (.str "_MAX_STRING_SIZE" 334), (.int (40) 333)⟩,
      ⟨PyData.keyHash P "_MOVE_COST", (.str "_MOVE_COST" 336), (.int (2) 335)⟩,
      ⟨PyData.keyHash P "_CASE_COST", (.str "_CASE_COST" 338), (.int (1) 337)⟩,
      ⟨PyData.keyHash P "_substitution_cost", (.str "_substitution_cost" 346), (.ref 115)⟩,
      ⟨PyData.keyHash P "_levenshtein_distance", (.str "_levenshtein_distance" 366), (.ref 122)⟩,
      ⟨PyData.keyHash P "_law_closes", (.str "_law_closes" 379), (.ref 129)⟩,
      ⟨PyData.keyHash P "_law_rise", (.str "_law_rise" 388), (.ref 136)⟩,
      ⟨PyData.keyHash P "_law_string", (.str "_law_string" 394), (.ref 141)⟩,
      ⟨PyData.keyHash P "_law_lead", (.str "_law_lead" 405), (.ref 148)⟩,
      ⟨PyData.keyHash P "_law_column", (.str "_law_column" 415), (.ref 155)⟩,
      ⟨PyData.keyHash P "_law_witness", (.str "_law_witness" 421), (.ref 160)⟩,
      ⟨PyData.keyHash P "law", (.str "law" 427), (.ref 165)⟩] 26), #[]⟩) ::
  (nat_lit 27, ⟨(.type "code"), none, (.fields #[(.str "_iter_escaped_chars" 196), (.str "_iter_escaped_chars" 197), (.str "/claim/cut.py" 198), (.int (5) 0), (.int (1) 0), (.int (0) 0), (.int (0) 0), (.int (35) 0), (.ref 22), (.bool true), (.int (181) 0), (.ref 23), .none, (.ref 24), (.ref 25), (.ref 26), (.int (203) 0), (.int (5) 0), (.str "/claim/cut.py" 204)]), #[]⟩) ::
  (nat_lit 28, ⟨(.type "function"), none, (.func { name := "_iter_escaped_chars", qualname := "_iter_escaped_chars", params := stArgs (stAt 2), body := .stmts (stBody (stAt 2)), scope := stScope (stAt 2), globals := 3, closure := [], defaults := .none, kwdefaults := .none, doc := .none, pyModule := (.str "cpy313.email.utils" 194), annotations := none, code := (.ref 27), closureTuple := .none, builtins := 0 }), #[]⟩) ::
  (nat_lit 34, ⟨(.type "code"), none, (.fields #[(.str "_strip_quoted_realnames" 206), (.str "_strip_quoted_realnames" 207), (.str "/claim/cut.py" 208), (.int (18) 0), (.int (1) 0), (.int (0) 0), (.int (0) 0), (.int (3) 0), (.ref 29), (.bool true), (.int (181) 0), (.ref 30), .none, (.ref 31), (.ref 32), (.ref 33), (.int (215) 0), (.int (18) 0), (.str "/claim/cut.py" 216)]), #[]⟩) ::
  (nat_lit 35, ⟨(.type "function"), none, (.func { name := "_strip_quoted_realnames", qualname := "_strip_quoted_realnames", params := stArgs (stAt 3), body := .stmts (stBody (stAt 3)), scope := stScope (stAt 3), globals := 3, closure := [], defaults := .none, kwdefaults := .none, doc := .none, pyModule := (.str "cpy313.email.utils" 194), annotations := none, code := (.ref 34), closureTuple := .none, builtins := 0 }), #[]⟩) ::
  (nat_lit 41, ⟨(.type "code"), none, (.fields #[(.str "_check_parenthesis" 218), (.str "_check_parenthesis" 219), (.str "/claim/cut.py" 220), (.int (36) 0), (.int (1) 0), (.int (0) 0), (.int (0) 0), (.int (3) 0), (.ref 36), (.bool true), (.int (181) 0), (.ref 37), .none, (.ref 38), (.ref 39), (.ref 40), (.int (225) 0), (.int (36) 0), (.str "/claim/cut.py" 226)]), #[]⟩) ::
  (nat_lit 42, ⟨(.type "function"), none, (.func { name := "_check_parenthesis", qualname := "_check_parenthesis", params := stArgs (stAt 4), body := .stmts (stBody (stAt 4)), scope := stScope (stAt 4), globals := 3, closure := [], defaults := .none, kwdefaults := .none, doc := .none, pyModule := (.str "cpy313.email.utils" 194), annotations := none, code := (.ref 41), closureTuple := .none, builtins := 0 }), #[]⟩) ::
  (nat_lit 58, ⟨(.type "code"), none, (.fields #[(.str "__init__" 247), (.str "Whitespace.__init__" 248), (.str "/claim/cut.py" 249), (.int (51) 0), (.int (2) 0), (.int (0) 0), (.int (0) 0), (.int (3) 0), (.ref 53), (.bool true), (.int (181) 0), (.ref 54), .none, (.ref 55), (.ref 56), (.ref 57), (.int (259) 0), (.int (51) 0), (.str "/claim/cut.py" 260)]), #[]⟩) ::
  (nat_lit 59, ⟨(.type "function"), none, (.func { name := "__init__", qualname := "Whitespace.__init__", params := stArgs (nthS (stBody (stAt 6)) 1), body := .stmts (stBody (nthS (stBody (stAt 6)) 1)), scope := stScope (nthS (stBody (stAt 6)) 1), globals := 3, closure := [], defaults := .none, kwdefaults := .none, doc := .none, pyModule := (.str "cpy313.tabnanny" 228), annotations := none, code := (.ref 58), closureTuple := .none, builtins := 0 }), #[]⟩) ::
  (nat_lit 65, ⟨(.type "code"), none, (.fields #[(.str "longest_run_of_spaces" 262), (.str "Whitespace.longest_run_of_spaces" 263), (.str "/claim/cut.py" 264), (.int (74) 0), (.int (1) 0), (.int (0) 0), (.int (0) 0), (.int (3) 0), (.ref 60), (.bool true), (.int (181) 0), (.ref 61), .none, (.ref 62), (.ref 63), (.ref 64), (.int (268) 0), (.int (74) 0), (.str "/claim/cut.py" 269)]), #[]⟩) ::
  (nat_lit 66, ⟨(.type "function"), none, (.func { name := "longest_run_of_spaces", qualname := "Whitespace.longest_run_of_spaces", params := stArgs (nthS (stBody (stAt 6)) 2), body := .stmts (stBody (nthS (stBody (stAt 6)) 2)), scope := stScope (nthS (stBody (stAt 6)) 2), globals := 3, closure := [], defaults := .none, kwdefaults := .none, doc := .none, pyModule := (.str "cpy313.tabnanny" 228), annotations := none, code := (.ref 65), closureTuple := .none, builtins := 0 }), #[]⟩) ::
  (nat_lit 72, ⟨(.type "code"), none, (.fields #[(.str "indent_level" 271), (.str "Whitespace.indent_level" 272), (.str "/claim/cut.py" 273), (.int (78) 0), (.int (2) 0), (.int (0) 0), (.int (0) 0), (.int (3) 0), (.ref 67), (.bool true), (.int (181) 0), (.ref 68), .none, (.ref 69), (.ref 70), (.ref 71), (.int (280) 0), (.int (78) 0), (.str "/claim/cut.py" 281)]), #[]⟩) ::
  (nat_lit 73, ⟨(.type "function"), none, (.func { name := "indent_level", qualname := "Whitespace.indent_level", params := stArgs (nthS (stBody (stAt 6)) 3), body := .stmts (stBody (nthS (stBody (stAt 6)) 3)), scope := stScope (nthS (stBody (stAt 6)) 3), globals := 3, closure := [], defaults := .none, kwdefaults := .none, doc := .none, pyModule := (.str "cpy313.tabnanny" 228), annotations := none, code := (.ref 72), closureTuple := .none, builtins := 0 }), #[]⟩) ::
  (nat_lit 79, ⟨(.type "code"), none, (.fields #[(.str "equal" 283), (.str "Whitespace.equal" 284), (.str "/claim/cut.py" 285), (.int (85) 0), (.int (2) 0), (.int (0) 0), (.int (0) 0), (.int (3) 0), (.ref 74), (.bool true), (.int (181) 0), (.ref 75), .none, (.ref 76), (.ref 77), (.ref 78), (.int (288) 0), (.int (85) 0), (.str "/claim/cut.py" 289)]), #[]⟩) ::
  (nat_lit 80, ⟨(.type "function"), none, (.func { name := "equal", qualname := "Whitespace.equal", params := stArgs (nthS (stBody (stAt 6)) 4), body := .stmts (stBody (nthS (stBody (stAt 6)) 4)), scope := stScope (nthS (stBody (stAt 6)) 4), globals := 3, closure := [], defaults := .none, kwdefaults := .none, doc := .none, pyModule := (.str "cpy313.tabnanny" 228), annotations := none, code := (.ref 79), closureTuple := .none, builtins := 0 }), #[]⟩) ::
  (nat_lit 86, ⟨(.type "code"), none, (.fields #[(.str "not_equal_witness" 291), (.str "Whitespace.not_equal_witness" 292), (.str "/claim/cut.py" 293), (.int (88) 0), (.int (2) 0), (.int (0) 0), (.int (0) 0), (.int (3) 0), (.ref 81), (.bool true), (.int (181) 0), (.ref 82), .none, (.ref 83), (.ref 84), (.ref 85), (.int (299) 0), (.int (88) 0), (.str "/claim/cut.py" 300)]), #[]⟩) ::
  (nat_lit 87, ⟨(.type "function"), none, (.func { name := "not_equal_witness", qualname := "Whitespace.not_equal_witness", params := stArgs (nthS (stBody (stAt 6)) 5), body := .stmts (stBody (nthS (stBody (stAt 6)) 5)), scope := stScope (nthS (stBody (stAt 6)) 5), globals := 3, closure := [], defaults := .none, kwdefaults := .none, doc := .none, pyModule := (.str "cpy313.tabnanny" 228), annotations := none, code := (.ref 86), closureTuple := .none, builtins := 0 }), #[]⟩) ::
  (nat_lit 103, ⟨(.type "dict"), none, (.dict #[⟨PyData.keyHash P "__module__", (.str "__module__" 237), (.str "cpy313.tabnanny" 228)⟩,
      ⟨PyData.keyHash P "__firstlineno__", (.str "__firstlineno__" 241), (.int (48) 240)⟩,
      ⟨PyData.keyHash P "S", (.str "S" 245), (.str " " 243)⟩,
      ⟨PyData.keyHash P "T", (.str "T" 246), (.str "\t" 244)⟩,
      ⟨PyData.keyHash P "__init__", (.str "__init__" 261), (.ref 59)⟩,
      ⟨PyData.keyHash P "longest_run_of_spaces", (.str "longest_run_of_spaces" 270), (.ref 66)⟩,
      ⟨PyData.keyHash P "indent_level", (.str "indent_level" 282), (.ref 73)⟩,
      ⟨PyData.keyHash P "equal", (.str "equal" 290), (.ref 80)⟩,
      ⟨PyData.keyHash P "not_equal_witness", (.str "not_equal_witness" 301), (.ref 87)⟩,
      ⟨PyData.keyHash P "less", (.str "less" 309), (.ref 94)⟩,
      ⟨PyData.keyHash P "not_less_witness", (.str "not_less_witness" 317), (.ref 101)⟩,
      ⟨PyData.keyHash P "__static_attributes__", (.str "__static_attributes__" 323), (.ref 102)⟩,
      ⟨PyData.keyHash P "__dict__", (.str "__dict__" 325), (.ref 105)⟩,
      ⟨PyData.keyHash P "__weakref__", (.str "__weakref__" 327), (.ref 106)⟩,
      ⟨PyData.keyHash P "__doc__", (.str "__doc__" 328), .none⟩] 4), #[]⟩) ::
  (nat_lit 104, ⟨(.type "type"), none, (.cls { name := "Whitespace", bases := [(.type "object")], mro := [(.ref 104), (.type "object")], ns := 103, qualname := "Whitespace", hasDict := true, slotNames := [], subclasses := [], abstract := false, collection := none, hasDel := false }), #[none, none, (some (.str "Whitespace" 230)), (some (.str "Whitespace" 238)), (some (.builtin "object.__new__")), (some (.bool true))]⟩) ::
  (nat_lit 114, ⟨(.type "code"), none, (.fields #[(.str "_substitution_cost" 339), (.str "_substitution_cost" 340), (.str "/claim/cut.py" 341), (.int (105) 0), (.int (2) 0), (.int (0) 0), (.int (0) 0), (.int (3) 0), (.ref 109), (.bool true), (.int (181) 0), (.ref 110), .none, (.ref 111), (.ref 112), (.ref 113), (.int (344) 0), (.int (105) 0), (.str "/claim/cut.py" 345)]), #[]⟩) ::
  (nat_lit 115, ⟨(.type "function"), none, (.func { name := "_substitution_cost", qualname := "_substitution_cost", params := stArgs (stAt 11), body := .stmts (stBody (stAt 11)), scope := stScope (stAt 11), globals := 3, closure := [], defaults := .none, kwdefaults := .none, doc := .none, pyModule := (.str "cpy313.traceback" 331), annotations := none, code := (.ref 114), closureTuple := .none, builtins := 0 }), #[]⟩) ::
  (nat_lit 121, ⟨(.type "code"), none, (.fields #[(.str "_levenshtein_distance" 347), (.str "_levenshtein_distance" 348), (.str "/claim/cut.py" 349), (.int (111) 0), (.int (3) 0), (.int (0) 0), (.int (0) 0), (.int (3) 0), (.ref 116), (.bool true), (.int (181) 0), (.ref 117), .none, (.ref 118), (.ref 119), (.ref 120), (.int (364) 0), (.int (111) 0), (.str "/claim/cut.py" 365)]), #[]⟩) ::
  (nat_lit 122, ⟨(.type "function"), none, (.func { name := "_levenshtein_distance", qualname := "_levenshtein_distance", params := stArgs (stAt 12), body := .stmts (stBody (stAt 12)), scope := stScope (stAt 12), globals := 3, closure := [], defaults := .none, kwdefaults := .none, doc := .none, pyModule := (.str "cpy313.traceback" 331), annotations := none, code := (.ref 121), closureTuple := .none, builtins := 0 }), #[]⟩) ::
  (nat_lit 128, ⟨(.type "code"), none, (.fields #[(.str "_law_closes" 369), (.str "_law_closes" 370), (.str "/claim/cut.py" 371), (.int (150) 0), (.int (3) 0), (.int (0) 0), (.int (0) 0), (.int (3) 0), (.ref 123), (.bool true), (.int (181) 0), (.ref 124), .none, (.ref 125), (.ref 126), (.ref 127), (.int (377) 0), (.int (150) 0), (.str "/claim/cut.py" 378)]), #[]⟩) ::
  (nat_lit 129, ⟨(.type "function"), none, (.func { name := "_law_closes", qualname := "_law_closes", params := stArgs (stAt 14), body := .stmts (stBody (stAt 14)), scope := stScope (stAt 14), globals := 3, closure := [], defaults := .none, kwdefaults := .none, doc := .none, pyModule := (.str "law_sc0088_01" 367), annotations := none, code := (.ref 128), closureTuple := .none, builtins := 0 }), #[]⟩) ::
  (nat_lit 135, ⟨(.type "code"), none, (.fields #[(.str "_law_rise" 380), (.str "_law_rise" 381), (.str "/claim/cut.py" 382), (.int (160) 0), (.int (1) 0), (.int (0) 0), (.int (0) 0), (.int (3) 0), (.ref 130), (.bool true), (.int (181) 0), (.ref 131), .none, (.ref 132), (.ref 133), (.ref 134), (.int (386) 0), (.int (160) 0), (.str "/claim/cut.py" 387)]), #[]⟩) ::
  (nat_lit 136, ⟨(.type "function"), none, (.func { name := "_law_rise", qualname := "_law_rise", params := stArgs (stAt 15), body := .stmts (stBody (stAt 15)), scope := stScope (stAt 15), globals := 3, closure := [], defaults := .none, kwdefaults := .none, doc := .none, pyModule := (.str "law_sc0088_01" 367), annotations := none, code := (.ref 135), closureTuple := .none, builtins := 0 }), #[]⟩) ::
  (nat_lit 140, ⟨(.type "code"), none, (.fields #[(.str "_law_string" 389), (.str "_law_string" 390), (.str "/claim/cut.py" 391), (.int (170) 0), (.int (4) 0), (.int (0) 0), (.int (0) 0), (.int (3) 0), (.ref 137), (.bool true), (.int (181) 0), (.ref 138), .none, .none, .none, (.ref 139), (.int (392) 0), (.int (170) 0), (.str "/claim/cut.py" 393)]), #[]⟩) ::
  (nat_lit 141, ⟨(.type "function"), none, (.func { name := "_law_string", qualname := "_law_string", params := stArgs (stAt 16), body := .stmts (stBody (stAt 16)), scope := stScope (stAt 16), globals := 3, closure := [], defaults := .none, kwdefaults := .none, doc := .none, pyModule := (.str "law_sc0088_01" 367), annotations := none, code := (.ref 140), closureTuple := .none, builtins := 0 }), #[]⟩) ::
  (nat_lit 147, ⟨(.type "code"), none, (.fields #[(.str "_law_lead" 395), (.str "_law_lead" 396), (.str "/claim/cut.py" 397), (.int (176) 0), (.int (3) 0), (.int (0) 0), (.int (0) 0), (.int (3) 0), (.ref 142), (.bool true), (.int (181) 0), (.ref 143), .none, (.ref 144), (.ref 145), (.ref 146), (.int (403) 0), (.int (176) 0), (.str "/claim/cut.py" 404)]), #[]⟩) ::
  (nat_lit 148, ⟨(.type "function"), none, (.func { name := "_law_lead", qualname := "_law_lead", params := stArgs (stAt 17), body := .stmts (stBody (stAt 17)), scope := stScope (stAt 17), globals := 3, closure := [], defaults := .none, kwdefaults := .none, doc := .none, pyModule := (.str "law_sc0088_01" 367), annotations := none, code := (.ref 147), closureTuple := .none, builtins := 0 }), #[]⟩) ::
  (nat_lit 154, ⟨(.type "code"), none, (.fields #[(.str "_law_column" 406), (.str "_law_column" 407), (.str "/claim/cut.py" 408), (.int (180) 0), (.int (2) 0), (.int (0) 0), (.int (0) 0), (.int (3) 0), (.ref 149), (.bool true), (.int (181) 0), (.ref 150), .none, (.ref 151), (.ref 152), (.ref 153), (.int (413) 0), (.int (180) 0), (.str "/claim/cut.py" 414)]), #[]⟩) ::
  (nat_lit 155, ⟨(.type "function"), none, (.func { name := "_law_column", qualname := "_law_column", params := stArgs (stAt 18), body := .stmts (stBody (stAt 18)), scope := stScope (stAt 18), globals := 3, closure := [], defaults := .none, kwdefaults := .none, doc := .none, pyModule := (.str "law_sc0088_01" 367), annotations := none, code := (.ref 154), closureTuple := .none, builtins := 0 }), #[]⟩) ::
  (nat_lit 159, ⟨(.type "code"), none, (.fields #[(.str "_law_witness" 416), (.str "_law_witness" 417), (.str "/claim/cut.py" 418), (.int (185) 0), (.int (2) 0), (.int (0) 0), (.int (0) 0), (.int (3) 0), (.ref 156), (.bool true), (.int (181) 0), (.ref 157), .none, .none, .none, (.ref 158), (.int (419) 0), (.int (185) 0), (.str "/claim/cut.py" 420)]), #[]⟩) ::
  (nat_lit 160, ⟨(.type "function"), none, (.func { name := "_law_witness", qualname := "_law_witness", params := stArgs (stAt 19), body := .stmts (stBody (stAt 19)), scope := stScope (stAt 19), globals := 3, closure := [], defaults := .none, kwdefaults := .none, doc := .none, pyModule := (.str "law_sc0088_01" 367), annotations := none, code := (.ref 159), closureTuple := .none, builtins := 0 }), #[]⟩) ::
  (nat_lit 164, ⟨(.type "code"), none, (.fields #[(.str "law" 422), (.str "law" 423), (.str "/claim/cut.py" 424), (.int (193) 0), (.int (1) 0), (.int (0) 0), (.int (0) 0), (.int (3) 0), (.ref 161), (.bool true), (.int (181) 0), (.ref 162), .none, .none, .none, (.ref 163), (.int (425) 0), (.int (193) 0), (.str "/claim/cut.py" 426)]), #[]⟩) ::
  (nat_lit 165, ⟨(.type "function"), none, (.func { name := "law", qualname := "law", params := stArgs (stAt 20), body := .stmts (stBody (stAt 20)), scope := stScope (stAt 20), globals := 3, closure := [], defaults := .none, kwdefaults := .none, doc := .none, pyModule := (.str "law_sc0088_01" 367), annotations := none, code := (.ref 164), closureTuple := .none, builtins := 0 }), #[]⟩) :: []
abbrev KA : List Addr := [2, 3, 27, 28, 34, 35, 41, 42, 58, 59, 65, 66, 72, 73, 79, 80, 86, 87, 103, 104, 114, 115, 121, 122, 128, 129, 135, 136, 140, 141, 147, 148, 154, 155, 159, 160, 164, 165]
theorem ka_eq : ∀ P, KA = (KF P).map (·.1) := fun _ => rfl
def qv : Program := { pw with main := { pw.main with body := [stAt jLaw] } }
def lo : List Str := ["__name__", "_wall", "_iter_escaped_chars", "_strip_quoted_realnames", "_check_parenthesis", "Whitespace", "_MAX_STRING_SIZE", "_MOVE_COST", "_CASE_COST", "_substitution_cost", "_levenshtein_distance", "_law_closes", "_law_rise", "_law_string", "_law_lead", "_law_column", "_law_witness"]
abbrev prg : Program := PySem.Challenge.rw_sc0088_01.row.prog
theorem boots : ∀ w : World, (fencedOpening treeTable prg w 2100).map (fun s => (s.heap, s.gens, s.drawn, s.toks)) = some (boot_heap w.params, #[], boot_drawn, boot_toks) :=
  boot_open (by kernel_rfl) (by kernel_rfl) (fun s => by kernel_rfl)
noncomputable abbrev bootS (P : Params) (os : OsState) : Shared := ⟨boot_heap P, #[], boot_drawn, boot_toks, os⟩
abbrev LeftAt (w : World) : Prop := ∀ os, (topFrom treeTable prg w 2100 (bootS w.params os)).map (fun s => (openSeen qv lo (importedModules prg.main.body) (fun s => xlAt qv [] s && recOk [] s) true s, Hook.obs (kHook KF KA ka_eq) s)) = some (openGood qv lo, Hook.val (kHook KF KA ka_eq) w)
set_option maxHeartbeats 8000000 in
theorem leftF (w : World) : LeftAt (w.withFollow "special-get-raises" false) := fun os => by
  unfold topFrom
  rw [PySem.W.Fast.te14082659384304107361, PySem.W.Fast.te14364793385576792824, PySem.W.Fast.te4187177175401517315]; kernel_rfl
set_option maxHeartbeats 8000000 in
theorem leftT (w : World) : LeftAt (w.withFollow "special-get-raises" true) := fun os => by
  unfold topFrom
  rw [PySem.W.Fast.te14082659384304107361, PySem.W.Fast.te14364793385576792824, PySem.W.Fast.te4187177175401517315]; kernel_rfl
theorem left0 : LeftO prg qv lo (fun s => xlAt qv [] s && recOk [] s) (Hook.obs (kHook KF KA ka_eq)) (Hook.val (kHook KF KA ka_eq)) 2100 := fun w => by
  obtain ⟨⟨h, gs, d, k, os⟩, e, e'⟩ := Option.map_eq_some_iff.mp (boots w)
  obtain ⟨rfl, rfl, rfl, rfl⟩ : h = boot_heap w.params ∧ gs = #[] ∧ d = boot_drawn ∧ k = boot_toks := by simpa using e'
  unfold openEnds
  rw [e]
  exact byRow2 "special-get-raises" (P := LeftAt) leftF leftT w os
end Mine
set_option maxRecDepth 100000 in
set_option maxHeartbeats 8000000 in
theorem PySem.Challenge.cw_sc0088_01_holds : PySem.Challenge.rw_sc0088_01.Holds := by
  w_on
  o_law
  refine holds_open (q := Mine.qv) (loose := Mine.lo) (Xt := fun s => xlAt Mine.qv [] s && recOk [] s) (XP := XL Mine.qv []) (Yf := Hook.obs (kHook Mine.KF Mine.KA Mine.ka_eq)) (Ya := Hook.val (kHook Mine.KF Mine.KA Mine.ka_eq)) (YP := Hook.says (kHook Mine.KF Mine.KA Mine.ka_eq)) (N := 2100) Mine.left0 (Hook.of (kHook Mine.KF Mine.KA Mine.ka_eq)) (Hook.keeps (kHook Mine.KF Mine.KA Mine.ka_eq)) (fun s e => xl_of s (Bool.and_eq_true_iff.mp e).1) XL.keeps (by rfl) (by rfl) (by rfl) (fun s e => recFacts_of (Bool.and_eq_true_iff.mp e).2) (by rfl) (by first | assumption | decide +kernel) (by decide +kernel) ⟨rfl, rfl, rfl, rfl, rfl, by decide +kernel⟩ ?hw ?hc
  case hw => w_witness2
  case hc =>
    k_fill
    intro w s₀ s₁ mg mb G Y fa o pm cd doc dV kV ho hd hcd hD hmg hg args vals as hpre hlay hrd hwl hlo
    have KX := kIn_of Y
    have X := (Ground.X G).1
    have V := (Ground.X G).2
    have GL := glob_more (Ground.glob G (by first | k_qdec | decide +kernel) (by first | k_qdec | decide +kernel)) V
    refine Ground.open G ?_
    intro T B D TE TW
    let CC : Mine.Cst := ⟨false, PySem.Challenge.rw_sc0088_01.row.prog, w, s₁.heap, mg, mb⟩
    have ok : CC.Ok := ⟨GL.g, GL.b, GL.nolimit, GL.builtins⟩
    have bl : ∀ {x : Str} {v : Value}, nsIn (Mine.KF w.params) mainGlobals x = some none → x ≠ "__name__" → bootBuiltins x = some v → Mine.GlobIs CC x v := fun h hx hv => .inr ⟨mg_none_of KX GL.g h, (GL.builtins _ hx).trans hv⟩
    have gl : ∀ {x : Str} {v : Value}, nsIn (Mine.KF w.params) mainGlobals x = some (some v) → Mine.GlobIs CC x v := fun h => .inl (mg_of KX GL.g h)
    have bi : Mine.Bi CC := ⟨bl (by k_is) (by decide) rfl, bl (by k_is) (by decide) rfl, bl (by k_is) (by decide) rfl, bl (by k_is) (by decide) rfl, bl (by k_is) (by decide) rfl, bl (by k_is) (by decide) rfl, bl (by k_is) (by decide) rfl, bl (by k_is) (by decide) rfl, bl (by k_is) (by decide) rfl, bl (by k_is) (by decide) rfl⟩
    have lev : Mine.LevG CC := ⟨ok, bi, ⟨_, gl (by k_is)⟩, ⟨_, gl (by k_is)⟩, ⟨_, gl (by k_is)⟩, ⟨_, gl (by k_is), ⟨_, _, _, _, _, _, KX _ _ (by k_is), rfl, codeRec_of KX (by k_is)⟩⟩, ⟨_, gl (by k_is), ⟨_, _, _, _, _, _, KX _ _ (by k_is), rfl, codeRec_of KX (by k_is)⟩⟩⟩
    have chk : Mine.ChkG CC := ⟨ok, bi, rfl, ⟨_, gl (by k_is), ⟨_, _, _, _, _, _, KX _ _ (by k_is), rfl, codeRec_of KX (by k_is)⟩⟩, ⟨_, gl (by k_is), ⟨_, _, _, _, _, _, KX _ _ (by k_is), rfl, codeRec_of KX (by k_is)⟩⟩, ⟨_, gl (by k_is), ⟨_, _, _, _, _, _, KX _ _ (by k_is), rfl, codeRec_of KX (by k_is)⟩⟩⟩
    have cls : Mine.ClsK CC (Mine.KF w.params) 104 := ⟨KX, by k_is, by k_is, by k_is, by k_is, by k_is, by k_is⟩
    have tk : ∀ a ∈ Mine.wsNs, takerIn (Mine.KF w.params) 104 a = some none := by
      intro a ha
      simp only [List.mem_cons, List.not_mem_nil, or_false] at ha
      rcases ha with rfl | rfl | rfl | rfl | rfl <;> k_is
    have at_ : ∀ a ∈ Mine.wsNs, findIn (Mine.KF w.params) (.ref 104) a = some none := by
      intro a ha
      simp only [List.mem_cons, List.not_mem_nil, or_false] at ha
      rcases ha with rfl | rfl | rfl | rfl | rfl <;> k_is
    have ws : Mine.WsG CC (Mine.KF w.params) 104 :=
      { ok := ok, bi := bi, k := cls, glob := gl (by k_is)
        mc := ⟨.type "type", by k_is, ⟨_, _, by k_is, rfl⟩, ⟨_, _, by k_is, rfl⟩⟩
        init := ⟨59, by k_is, by k_is, ⟨_, _, _, _, _, _, KX _ _ (by k_is), rfl, codeRec_of KX (by k_is)⟩⟩
        lvl := ⟨73, by k_is, by k_is, ⟨_, _, _, _, _, _, KX _ _ (by k_is), rfl, codeRec_of KX (by k_is)⟩⟩
        tk := tk, at_ := at_ }
    have ws1 : Mine.Ws1G CC (Mine.KF w.params) 104 :=
      { ws := ws
        lrs := ⟨66, by k_is, by k_is, ⟨_, _, _, _, _, _, KX _ _ (by k_is), rfl, codeRec_of KX (by k_is)⟩⟩
        eq := ⟨80, by k_is, by k_is, ⟨_, _, _, _, _, _, KX _ _ (by k_is), rfl, codeRec_of KX (by k_is)⟩⟩
        nwe := ⟨87, by k_is, by k_is, ⟨_, _, _, _, _, _, KX _ _ (by k_is), rfl, codeRec_of KX (by k_is)⟩⟩ }
    have LG : Mine.LawJ CC (Mine.KF w.params) 104 :=
      { lev := lev, chk := chk, ws := ws1
        closes := ⟨_, gl (by k_is), ⟨_, _, _, _, _, _, KX _ _ (by k_is), rfl, codeRec_of KX (by k_is)⟩⟩
        rise := ⟨_, gl (by k_is), ⟨_, _, _, _, _, _, KX _ _ (by k_is), rfl, codeRec_of KX (by k_is)⟩⟩
        string := ⟨_, gl (by k_is), ⟨_, _, _, _, _, _, KX _ _ (by k_is), rfl, codeRec_of KX (by k_is)⟩⟩
        lead := ⟨_, gl (by k_is), ⟨_, _, _, _, _, _, KX _ _ (by k_is), rfl, codeRec_of KX (by k_is)⟩⟩
        column := ⟨_, gl (by k_is), ⟨_, _, _, _, _, _, KX _ _ (by k_is), rfl, codeRec_of KX (by k_is)⟩⟩
        witness := ⟨_, gl (by k_is), ⟨_, _, _, _, _, _, KX _ _ (by k_is), rfl, codeRec_of KX (by k_is)⟩⟩ }
    obtain ⟨f, hf, dl⟩ : ∃ f, mg "law" = some (.ref f) ∧ Mine.DefAt CC f (Mine.stArgs (Mine.stAt Mine.jLaw)) (Mine.stBody (Mine.stAt Mine.jLaw)) (Mine.stScope (Mine.stAt Mine.jLaw)) :=
      ⟨_, mg_of KX GL.g (by k_is), ⟨_, _, _, _, _, _, KX _ _ (by k_is), rfl, codeRec_of KX (by k_is)⟩⟩
    have hfa : f = fa := by
      have e : some (Value.ref f) = some (Value.ref fa) := hf.symm.trans hmg
      exact Value.ref.inj (Option.some.inj e)
    subst hfa
    have key : ∀ (l : Addr) (ns : List Int), Well w.params s₁.heap (.ref l) (ofPy (.list (ns.map .int))) → ns.length ≤ 1000 →
        wpAny CC.M callerA (call (.ref f) [.ref l]) (Mine.Post false (fun a => s₁.heap.get? a) s₁ (.bool true)) Mine.noE s₁ := fun l ns hw hl =>
      Mine.law_funJ LG dl hl Mine.good_all callerA Mine.caller_room s₁ (fun a => s₁.heap.get? a) [.ref l] (fun a o e => e) (fun a o e => e) (Mine.repL_cons (Mine.rep_of_well hw) Mine.repL_nil)
    have fin : ∀ (args : List WData), PySem.Challenge.rw_sc0088_01.row.claim.post args (.bool true) args = true → ∀ (v : Value) (s' : Shared), Mine.Post false (fun a => s₁.heap.get? a) s₁ (.bool true) v s' →
        GoodWG PySem.Challenge.rw_sc0088_01.row.claim (classAt s₀.heap) (ExcName.means s₀.heap) args s₁ (.ok (.ret v)) s' := fun args hp v s' hq => by
      obtain ⟨z', g, r⟩ := hq
      simp only [Mine.Rep] at r
      subst r
      exact ⟨.inl ⟨.bool true, .bool true, [], rfl, fun _ => rfl, .bool true, hp, fun _ => ⟨List.nodup_nil, fun a ha => by cases ha⟩⟩, .of_keep g.keeps.old, g.keeps.os, g.keeps.bare (.of_eq hg)⟩
    wrow_args hpre hlay hrd hwl hlo
    refine' wpAny_mono (key _ _ ?hw ?hl) (fun v s' hq => fin _ ?hp v s' hq) (fun e s' (hq : False) => hq.elim)
    case hw => assumption
    case hl => omega
    case hp => with_unfolding_all rfl
