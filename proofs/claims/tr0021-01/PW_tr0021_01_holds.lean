import PyProof.Rows.All
import Wide.All
import OpenK.AllK
import Wide.FinOn
import PySem.Challenge.RW_tr0021_01
set_option Elab.async false

section
open PySem PySem.W PyProof.Rows
set_option Elab.async false
set_option maxRecDepth 100000
namespace Mine

theorem len1 {α : Type} {l : List α} (h : l.length = 1) : ∃ a, l = [a] := List.length_eq_one_iff.mp h
theorem len2 {α : Type} {l : List α} (h : l.length = 2) : ∃ a b, l = [a, b] := by
  cases l with
  | nil => cases h
  | cons a l => obtain ⟨b, rfl⟩ := len1 (Nat.succ.inj h); exact ⟨a, b, rfl⟩
theorem len3 {α : Type} {l : List α} (h : l.length = 3) : ∃ a b c, l = [a, b, c] := by
  cases l with
  | nil => cases h
  | cons a l => obtain ⟨b, c, rfl⟩ := len2 (Nat.succ.inj h); exact ⟨a, b, c, rfl⟩
noncomputable abbrev prg : Program := PySem.Challenge.pw_tr0021_01

inductive D where
  | none
  | bool (b : Bool)
  | int (i : Int)
  | flt (b : UInt64)
  | str (x : Str)
  | bytes (b : Array UInt8)
  | tup (ds : List D)
  | lst (ds : List D)
  | dct (es : List (Int × D))

noncomputable def PTup (h : Heap) (a : Addr) (vs : List Value) : Prop := ∃ n, h.get? a = some { cls := .type "tuple", data := .seq vs.toArray n }
noncomputable abbrev PLst (h : Heap) (a : Addr) (vs : List Value) : Prop := PlainL h a vs.toArray
theorem PTup.isTup {h : Heap} {a : Addr} {vs : List Value} (x : PTup h a vs) : IsTup h a vs.toArray := let ⟨n, e⟩ := x; ⟨_, e, rfl, n, rfl⟩
mutual
inductive Rp (w : World) (P : Addr → Prop) (h : Heap) : Value → D → Prop
  | none : Rp w P h .none .none
  | bool (b : Bool) : Rp w P h (.bool b) (.bool b)
  | int (i : Int) (t : Tok) : Rp w P h (.int i t) (.int i)
  | flt (b : UInt64) (t : Tok) : Rp w P h (.float b t) (.flt b)
  | str (x : Str) (t : Tok) : Rp w P h (.str x t) (.str x)
  | bytes (b : Array UInt8) (t : Tok) : Rp w P h (.bytes b t) (.bytes b)
  | tup {a : Addr} {vs : List Value} {ds : List D} : P a → PTup h a vs → RpL w P h vs ds → Rp w P h (.ref a) (.tup ds)
  | lst {a : Addr} {vs : List Value} {ds : List D} : P a → PLst h a vs → RpL w P h vs ds → Rp w P h (.ref a) (.lst ds)
  | dct {a : Addr} {kvs : List (Int × Value)} {es : List (Int × D)} : P a → (a == sysModules) = false → h.DictOf (intKind prg w) a kvs → RpE w P h kvs es → Rp w P h (.ref a) (.dct es)
inductive RpL (w : World) (P : Addr → Prop) (h : Heap) : List Value → List D → Prop
  | nil : RpL w P h [] []
  | cons {v : Value} {vs : List Value} {d : D} {ds : List D} : Rp w P h v d → RpL w P h vs ds → RpL w P h (v :: vs) (d :: ds)
inductive RpE (w : World) (P : Addr → Prop) (h : Heap) : List (Int × Value) → List (Int × D) → Prop
  | nil : RpE w P h [] []
  | cons {k : Int} {v : Value} {kvs : List (Int × Value)} {d : D} {es : List (Int × D)} : Rp w P h v d → RpE w P h kvs es → RpE w P h ((k, v) :: kvs) ((k, d) :: es)
end

noncomputable def RpInv (w : World) (P : Addr → Prop) (h : Heap) (v : Value) : D → Prop
  | .none => ∃ _ : Unit, v = .none
  | .bool b => ∃ _ : Unit, v = .bool b
  | .int i => ∃ t, v = .int i t
  | .flt b => ∃ t, v = .float b t
  | .str x => ∃ t, v = .str x t
  | .bytes b => ∃ t, v = .bytes b t
  | .tup ds => ∃ a vs, v = .ref a ∧ P a ∧ PTup h a vs ∧ RpL w P h vs ds
  | .lst ds => ∃ a vs, v = .ref a ∧ P a ∧ PLst h a vs ∧ RpL w P h vs ds
  | .dct es => ∃ a kvs, v = .ref a ∧ P a ∧ (a == sysModules) = false ∧ h.DictOf (intKind prg w) a kvs ∧ RpE w P h kvs es
theorem Rp.inv {w : World} {P : Addr → Prop} {h : Heap} {v : Value} {d : D} (x : Rp w P h v d) : RpInv w P h v d := by
  cases x with
  | none => exact ⟨(), rfl⟩
  | bool b => exact ⟨(), rfl⟩
  | int i t => exact ⟨t, rfl⟩
  | flt b t => exact ⟨t, rfl⟩
  | str x t => exact ⟨t, rfl⟩
  | bytes b t => exact ⟨t, rfl⟩
  | tup a b c => exact ⟨_, _, rfl, a, b, c⟩
  | lst a b c => exact ⟨_, _, rfl, a, b, c⟩
  | dct a b c d => exact ⟨_, _, rfl, a, b, c, d⟩

noncomputable def Kp (P : Addr → Prop) (h h' : Heap) : Prop := ∀ b o, P b → h.get? b = some o → h'.get? b = some o
noncomputable def Ks (h h' : Heap) : Prop := ∀ b o, h.get? b = some o → h'.get? b = some o
theorem Ks.kp {P : Addr → Prop} {h h' : Heap} (k : Ks h h') : Kp P h h' := fun b o _ e => k b o e
theorem Ks.refl (h : Heap) : Ks h h := fun _ _ e => e
theorem Ks.trans {a b c : Heap} (x : Ks a b) (y : Ks b c) : Ks a c := fun i o e => y i o (x i o e)

theorem isTup_kp {P : Addr → Prop} {h h' : Heap} {a : Addr} {its : List Value} (k : Kp P h h') (hp : P a) (x : PTup h a its) : PTup h' a its :=
  let ⟨n, ho⟩ := x; ⟨n, k a _ hp ho⟩
theorem isList_kp {P : Addr → Prop} {h h' : Heap} {a : Addr} {its : List Value} (k : Kp P h h') (hp : P a) (x : PLst h a its) : PLst h' a its :=
  let ⟨o, n, ho, r⟩ := x; ⟨o, n, k a _ hp ho, r⟩
theorem dictOf_kp {w : World} {P : Addr → Prop} {h h' : Heap} {a : Addr} {kvs : List (Int × Value)} (k : Kp P h h') (hp : P a) (x : h.DictOf (intKind prg w) a kvs) : h'.DictOf (intKind prg w) a kvs := by
  change (let G : Prop := _; G)
  intro G
  obtain ⟨o, ho, r⟩ := Heap.dictOf_iff.mp x
  subst G
  exact Heap.dictOf_iff.mpr ⟨o, k a o hp ho, r⟩

theorem Rp.mono {w : World} {P P' : Addr → Prop} {h h' : Heap} (hs : ∀ b, P b → P' b) (k : Kp P h h') {v : Value} {d : D} (x : Rp w P h v d) : Rp w P' h' v d :=
  Rp.rec (motive_1 := fun v d _ => Rp w P' h' v d) (motive_2 := fun vs ds _ => RpL w P' h' vs ds) (motive_3 := fun a b _ => RpE w P' h' a b) .none (fun b => .bool b) (fun i t => .int i t) (fun b t => .flt b t) (fun x t => .str x t) (fun b t => .bytes b t)
    (fun hp x _ r => .tup (hs _ hp) (isTup_kp k hp x) r) (fun hp x _ r => .lst (hs _ hp) (isList_kp k hp x) r) (fun hp l x _ r => .dct (hs _ hp) l (dictOf_kp k hp x) r) .nil (fun _ _ a r => .cons a r) .nil (fun _ _ a r => .cons a r) x
theorem RpL.mono {w : World} {P P' : Addr → Prop} {h h' : Heap} (hs : ∀ b, P b → P' b) (k : Kp P h h') {v : List Value} {d : List D} (x : RpL w P h v d) : RpL w P' h' v d :=
  RpL.rec (motive_1 := fun v d _ => Rp w P' h' v d) (motive_2 := fun vs ds _ => RpL w P' h' vs ds) (motive_3 := fun a b _ => RpE w P' h' a b) .none (fun b => .bool b) (fun i t => .int i t) (fun b t => .flt b t) (fun x t => .str x t) (fun b t => .bytes b t)
    (fun hp x _ r => .tup (hs _ hp) (isTup_kp k hp x) r) (fun hp x _ r => .lst (hs _ hp) (isList_kp k hp x) r) (fun hp l x _ r => .dct (hs _ hp) l (dictOf_kp k hp x) r) .nil (fun _ _ a r => .cons a r) .nil (fun _ _ a r => .cons a r) x
theorem RpE.mono {w : World} {P P' : Addr → Prop} {h h' : Heap} (hs : ∀ b, P b → P' b) (k : Kp P h h') {v : List (Int × Value)} {d : List (Int × D)} (x : RpE w P h v d) : RpE w P' h' v d :=
  RpE.rec (motive_1 := fun v d _ => Rp w P' h' v d) (motive_2 := fun vs ds _ => RpL w P' h' vs ds) (motive_3 := fun a b _ => RpE w P' h' a b) .none (fun b => .bool b) (fun i t => .int i t) (fun b t => .flt b t) (fun x t => .str x t) (fun b t => .bytes b t)
    (fun hp x _ r => .tup (hs _ hp) (isTup_kp k hp x) r) (fun hp x _ r => .lst (hs _ hp) (isList_kp k hp x) r) (fun hp l x _ r => .dct (hs _ hp) l (dictOf_kp k hp x) r) .nil (fun _ _ a r => .cons a r) .nil (fun _ _ a r => .cons a r) x

section
variable {w : World} {P : Addr → Prop} {h : Heap}
theorem RpL.nil_inv {vs : List Value} (x : RpL w P h vs []) : vs = [] := by cases x; rfl
theorem RpL.cons_inv {vs : List Value} {d : D} {ds : List D} (x : RpL w P h vs (d :: ds)) : ∃ v vs', vs = v :: vs' ∧ Rp w P h v d ∧ RpL w P h vs' ds := by
  cases x with | cons a r => exact ⟨_, _, rfl, a, r⟩
theorem RpL.length {vs : List Value} {ds : List D} (x : RpL w P h vs ds) : vs.length = ds.length := by
  induction vs generalizing ds with
  | nil => cases x; rfl
  | cons v vs ih => cases x with | cons _ r => rw [List.length_cons, List.length_cons, ih r]
theorem RpL.append {vs us : List Value} {ds es : List D} (x : RpL w P h vs ds) (y : RpL w P h us es) : RpL w P h (vs ++ us) (ds ++ es) := by
  induction vs generalizing ds with
  | nil => cases x; exact y
  | cons v vs ih => cases x with | cons a r => exact .cons a (ih r)
theorem RpL.get {vs : List Value} {ds : List D} (x : RpL w P h vs ds) {k : Nat} {d : D} (hd : ds[k]? = some d) : ∃ v, vs[k]? = some v ∧ Rp w P h v d := by
  induction vs generalizing ds k with
  | nil => cases x; cases hd
  | cons v vs ih =>
    cases x with
    | cons a r =>
      cases k with
      | zero => cases hd; exact ⟨v, rfl, a⟩
      | succ k => exact ih r hd
theorem RpL.get' {vs : List Value} {ds : List D} (x : RpL w P h vs ds) {k : Nat} {v : Value} (hv : vs[k]? = some v) : ∃ d, ds[k]? = some d ∧ Rp w P h v d := by
  induction vs generalizing ds k with
  | nil => cases hv
  | cons u vs ih =>
    cases x with
    | cons a r =>
      cases k with
      | zero => cases hv; exact ⟨_, rfl, a⟩
      | succ k => exact ih r hv
theorem RpL.take {vs : List Value} {ds : List D} (x : RpL w P h vs ds) (k : Nat) : RpL w P h (vs.take k) (ds.take k) := by
  induction vs generalizing ds k with
  | nil => cases x; simpa using RpL.nil
  | cons v vs ih =>
    cases x with
    | cons a r =>
      cases k with
      | zero => exact .nil
      | succ k => exact .cons a (ih r k)
theorem RpL.drop {vs : List Value} {ds : List D} (x : RpL w P h vs ds) (k : Nat) : RpL w P h (vs.drop k) (ds.drop k) := by
  induction vs generalizing ds k with
  | nil => cases x; simpa using RpL.nil
  | cons v vs ih =>
    cases x with
    | cons a r =>
      cases k with
      | zero => exact .cons a r
      | succ k => exact ih r k
theorem RpL.set {vs : List Value} {ds : List D} (x : RpL w P h vs ds) (k : Nat) {v : Value} {d : D} (hv : Rp w P h v d) : RpL w P h (vs.set k v) (ds.set k d) := by
  induction vs generalizing ds k with
  | nil => cases x; exact .nil
  | cons u vs ih =>
    cases x with
    | cons a r =>
      cases k with
      | zero => exact .cons hv r
      | succ k => exact .cons a (ih r k)
end

noncomputable def GEx (q : Bool) (a b : Array GenState) : Prop := if q then b = a else ∃ l : List GenState, b = a ++ l.toArray ∧ ∀ x ∈ l, x.bare = true
noncomputable def Rest (q : Bool) (s s' : Shared) : Prop := s'.drawn = s.drawn ∧ s'.os = s.os ∧ GEx q s.gens s'.gens
theorem GEx.refl (q : Bool) (a : Array GenState) : GEx q a a := by
  unfold GEx; split
  · rfl
  · exact ⟨[], by simp, fun _ h => nomatch h⟩
theorem GEx.trans {q : Bool} {a b c : Array GenState} (x : GEx q a b) (y : GEx q b c) : GEx q a c := by
  unfold GEx at *
  cases q with
  | true => simp only [if_true] at *; rw [y, x]
  | false =>
    simp only [Bool.false_eq_true, if_false] at *
    change (let G : Prop := _; G)
    intro G
    obtain ⟨l, rfl, hl⟩ := x
    subst G
    change (let G : Prop := _; G)
    intro G
    obtain ⟨m, rfl, hm⟩ := y
    subst G
    refine ⟨l ++ m, by simp [Array.append_assoc], fun x hx => ?_⟩
    rcases List.mem_append.mp hx with h | h
    · exact hl x h
    · exact hm x h
theorem GEx.weak {q : Bool} {a b : Array GenState} (x : GEx true a b) : GEx q a b := by
  have : b = a := x
  subst this; exact GEx.refl _ _
theorem Rest.refl (q : Bool) (s : Shared) : Rest q s s := ⟨rfl, rfl, GEx.refl _ _⟩
theorem Rest.trans {q : Bool} {a b c : Shared} (x : Rest q a b) (y : Rest q b c) : Rest q a c := ⟨y.1.trans x.1, y.2.1.trans x.2.1, x.2.2.trans y.2.2⟩
theorem Rest.weak {q : Bool} {a b : Shared} (x : Rest true a b) : Rest q a b := ⟨x.1, x.2.1, x.2.2.weak⟩
theorem Rest.of {q : Bool} {s : Shared} {h : Heap} {t : Nat} : Rest q s { s with heap := h, toks := t } := ⟨rfl, rfl, GEx.refl _ _⟩

noncomputable def NoE : Value → Shared → Prop := fun _ _ => False

noncomputable def PW (P : Addr → Prop) (h : Heap) : Prop := ∀ b, P b → (h.get? b).isSome = true
theorem PW.ks {P : Addr → Prop} {h h' : Heap} (x : PW P h) (k : Ks h h') : PW P h' := fun b hb => by
  obtain ⟨o, ho⟩ := Option.isSome_iff_exists.mp (x b hb)
  rw [k b o ho]; rfl
theorem PW.not_new {P : Addr → Prop} {h : Heap} (x : PW P h) : ¬ P h.objs.size := fun hp => by
  obtain ⟨o, ho⟩ := Option.isSome_iff_exists.mp (x _ hp)
  exact Nat.lt_irrefl _ (Heap.lt_size ho)

structure Ext (P P' : Addr → Prop) (h h' : Heap) : Prop where
  ks : Ks h h'
  sub : ∀ b, P b → P' b
  new : ∀ b, P' b → P b ∨ h.get? b = none
  pw : PW P' h'
theorem Ext.refl {P : Addr → Prop} {h : Heap} (x : PW P h) : Ext P P h h := ⟨Ks.refl h, fun _ e => e, fun _ e => .inl e, x⟩
theorem Ext.trans {P P' P'' : Addr → Prop} {h h' h'' : Heap} (x : Ext P P' h h') (y : Ext P' P'' h' h'') : Ext P P'' h h'' :=
  ⟨x.ks.trans y.ks, fun b e => y.sub b (x.sub b e), fun b e => (y.new b e).elim (x.new b) fun z => .inr (by
    cases q : h.get? b with
    | none => rfl
    | some o => rw [x.ks b o q] at z; cases z), y.pw⟩
theorem Ext.rp {w : World} {P P' : Addr → Prop} {h h' : Heap} (x : Ext P P' h h') {v : Value} {d : D} (r : Rp w P h v d) : Rp w P' h' v d := r.mono x.sub x.ks.kp
theorem Ext.rpl {w : World} {P P' : Addr → Prop} {h h' : Heap} (x : Ext P P' h h') {v : List Value} {d : List D} (r : RpL w P h v d) : RpL w P' h' v d := r.mono x.sub x.ks.kp
theorem Ext.of_ks {P : Addr → Prop} {h h' : Heap} (x : PW P h) (k : Ks h h') : Ext P P h h' := ⟨k, fun _ e => e, fun _ e => .inl e, x.ks k⟩

theorem none_of_lt {h : Heap} {b : Addr} (hb : h.objs.size ≤ b) : h.get? b = none := by
  cases e : h.get? b with
  | none => rfl
  | some o => exact absurd (Heap.lt_size e) (Nat.not_lt.mpr hb)

end Mine
end

section
open PySem PySem.W PyProof.Rows
set_option Elab.async false
set_option maxRecDepth 100000
namespace Mine

noncomputable def fnTab : List (Str × Addr × Nat) := [("Int2AP", 43, 3), ("ParseFlags", 50, 4), ("_iter_escaped_chars", 57, 6), ("_strip_quoted_realnames", 64, 7), ("_check_parenthesis", 71, 8),
  ("rgb_to_hls", 78, 10), ("_law_grow", 83, 12), ("_law_names", 90, 13), ("_law_write", 97, 14), ("_law_read", 104, 15), ("_law_tie", 111, 16), ("_law_mixes", 118, 17),
  ("_law_seen", 125, 18), ("_law_sums", 130, 19), ("_law_unlike", 135, 20), ("_law_twice", 140, 21), ("law", 145, 22)]
noncomputable def biNames : List Str := ["int", "abs", "divmod", "tuple", "enumerate", "max", "min", "len", "range", "bytes", "sorted", "sum"]

noncomputable def stAt (i : Nat) : Stmt := (PySem.Challenge.pw_tr0021_01.main.body)[i]?.getD (.Pass ⟨0, 0, 0, 0⟩)
noncomputable def defArgs : Stmt → Arguments
  | .FunctionDef _ a _ _ _ _ _ _ _ _ => a
  | _ => ⟨[], [], none, [], [], none, []⟩
noncomputable def defBody : Stmt → List Stmt
  | .FunctionDef _ _ b _ _ _ _ _ _ _ => b
  | _ => []
noncomputable def defScope : Stmt → Scope
  | .FunctionDef _ _ _ _ _ _ sc _ _ _ => sc
  | _ => PySem.Challenge.pw_tr0021_01.main.scope
noncomputable def bodyAt (i : Nat) : List Stmt := defBody (stAt i)
noncomputable def argsAt (i : Nat) : Arguments := defArgs (stAt i)
noncomputable def scopeAt (i : Nat) : Scope := defScope (stAt i)

structure IsFn (h : Heap) (a : Addr) (i : Nat) : Prop where
  ex : ∃ o fd, h.get? a = some o ∧ o.data = .func fd ∧ fd.params = argsAt i ∧ fd.body = .stmts (bodyAt i) ∧ fd.scope = scopeAt i ∧ fd.globals = mainGlobals ∧ fd.closure = [] ∧
    fd.builtins = builtinsNs ∧ h.CodeRec fd.code fd.qualname ∧ fd.defaults = .none ∧ fd.kwdefaults = .none

noncomputable def reCode : Array Nat := #[14, 4, 0, 8, 4294967295, 24, 5, 0, 4294967295, 2, 1, 16, 70, 16, 76, 16, 65, 16, 71, 16, 83, 16, 32, 16, 40, 17, 0, 24, 6, 0, 4294967295, 20, 41, 1, 17, 1, 16, 41, 1]
structure IsPat (w : World) (h : Heap) : Prop where
  d : ∃ n, h.get? 33 = some { cls := .type "dict", data := .dict #[{ hash := PyData.keyHash w.params (Str.ofString "flags"), key := .str (Str.ofString "flags") 327, val := .int 1 328 }] n }
  c : h.get? 35 = some { cls := .type "tuple", data := .seq (reCode.map fun (n : Nat) => Value.int (n : Int) 0) }
  p : ∃ a b c, h.get? 36 = some { cls := .type "re.Pattern", data := .fields #[a, b, .int 1 0, .ref 33, c, .ref 35, .int 1 0] }
theorem IsPat.ks {w : World} {h h' : Heap} (K : IsPat w h) (k : Ks h h') : IsPat w h' := by
  obtain ⟨n, h1⟩ := K.d
  change (let G : Prop := _; G)
  intro G
  obtain ⟨a, b, c, h2⟩ := K.p
  subst G
  exact ⟨⟨n, k _ _ h1⟩, k _ _ K.c, ⟨a, b, c, k _ _ h2⟩⟩

structure Base (w : World) (h : Heap) : Prop where
  pat : IsPat w h
  glob : ∃ mg, h.Ns mainGlobals mg ∧ (∀ x a i, (x, a, i) ∈ fnTab → mg x = some (.ref a)) ∧ (∀ x ∈ biNames, mg x = none) ∧ mg "Flags" = some (.ref 36)
  blt : ∃ mb, h.Ns builtinsNs mb ∧ ∀ x : Str, x ≠ ("__name__" : Str) → mb x = bootBuiltins x
  nolimit : h.NoLimit
  fns : ∀ x a i, (x, a, i) ∈ fnTab → IsFn h a i

theorem IsFn.ks {h h' : Heap} {a : Addr} {i : Nat} (x : IsFn h a i) (k : Ks h h') : IsFn h' a i := by
  change (let G : Prop := _; G)
  intro G
  obtain ⟨o, fd, ho, h1, h2, h3, h4, h5, h6, h7, h8, h9⟩ := x.ex
  subst G
  change (let G : Prop := _; G)
  intro G
  obtain ⟨c, oc, vs, t, e1, e2, e3, e4⟩ := h8
  subst G
  exact ⟨o, fd, k a o ho, h1, h2, h3, h4, h5, h6, h7, ⟨c, oc, vs, t, e1, k _ _ e2, e3, e4⟩, h9⟩
theorem Base.ks {w : World} {h h' : Heap} (x : Base w h) (k : Ks h h') : Base w h' := by
  obtain ⟨mg, g1, g2⟩ := x.glob
  obtain ⟨mb, b1, b2⟩ := x.blt
  exact ⟨x.pat.ks k, ⟨mg, g1.keeps k, g2⟩, ⟨mb, b1.keeps k, b2⟩, x.nolimit.keeps k, fun n a i hm => (x.fns n a i hm).ks k⟩

inductive Ent where
  | dat (d : D)
  | lst (ds : List D)
  | dct (es : List (Int × D))
  | pil (xs : List (Int × Int))
  | mat (b : Array UInt8) (i j : Nat)

inductive Pil (h : Heap) : List Addr → List (Int × Int) → Prop
  | nil : Pil h [] []
  | cons {a : Addr} {as : List Addr} {p c : Int} {xs : List (Int × Int)} {t t' : Nat} : PLst h a [.int p t, .int c t'] → Pil h as xs → Pil h (a :: as) ((p, c) :: xs)
theorem Pil.mono {h h' : Heap} {as : List Addr} {xs : List (Int × Int)} (x : Pil h as xs) (k : ∀ a ∈ as, h'.get? a = h.get? a) : Pil h' as xs := by
  induction x with
  | nil => exact .nil
  | cons la r ih =>
    change (let G : Prop := _; G)
    intro G
    obtain ⟨o, n, e, z⟩ := la
    subst G
    exact .cons ⟨o, n, (k _ (.head _)).trans e, z⟩ (ih fun a ha => k a (.tail _ ha))

noncomputable def EntOK (w : World) (P : Addr → Prop) (h : Heap) (v : Value) : Ent → List Addr → Prop
  | .dat d, os => os = [] ∧ Rp w P h v d
  | .lst ds, os => ∃ a vs, v = .ref a ∧ os = [a] ∧ PLst h a vs ∧ RpL w P h vs ds
  | .dct es, os => ∃ a kvs, v = .ref a ∧ os = [a] ∧ (a == sysModules) = false ∧ h.DictOf (intKind prg w) a kvs ∧ RpE w P h kvs es
  | .pil xs, os => ∃ a as, v = .ref a ∧ os = a :: as ∧ PLst h a (as.map Value.ref) ∧ Pil h as xs
  | .mat b i j, os => ∃ m sp t c₁ c₂ c₃ c₄ c₅, v = .ref m ∧ os = [m, sp] ∧ h.get? m = some { cls := .type "re.Match", data := .fields #[.bytes b t, .ref 36, c₁, c₂, c₃, .ref sp] } ∧ h.get? sp = some { cls := .type "tuple", data := .seq #[c₄, c₅, .int (i : Int) 0, .int (j : Int) 0] }

theorem EntOK.mono {w : World} {P P' : Addr → Prop} {h h' : Heap} {v : Value} {e : Ent} {os : List Addr} (x : EntOK w P h v e os) (hs : ∀ b, P b → P' b) (k : Kp P h h') (ho : ∀ a ∈ os, h'.get? a = h.get? a) : EntOK w P' h' v e os := by
  cases e with
  | dat d => exact ⟨x.1, x.2.mono hs k⟩
  | lst ds =>
    change (let G : Prop := _; G)
    intro G
    obtain ⟨a, vs, e1, e2, ⟨o, n, e3, e5⟩, e4⟩ := x
    subst G
    subst e2
    exact ⟨a, vs, e1, rfl, ⟨o, n, (ho a (.head _)).trans e3, e5⟩, e4.mono hs k⟩
  | dct es =>
    change (let G : Prop := _; G)
    intro G
    obtain ⟨a, kvs, e1, e2, e0, e3, e4⟩ := x
    subst G
    subst e2
    obtain ⟨o, ho', r⟩ := Heap.dictOf_iff.mp e3
    exact ⟨a, kvs, e1, rfl, e0, Heap.dictOf_iff.mpr ⟨o, (ho a (.head _)).trans ho', r⟩, e4.mono hs k⟩
  | pil xs =>
    change (let G : Prop := _; G)
    intro G
    obtain ⟨a, as, e1, e2, ⟨o, n, e3, e5⟩, e4⟩ := x
    subst G
    subst e2
    exact ⟨a, as, e1, rfl, ⟨o, n, (ho a (.head _)).trans e3, e5⟩, e4.mono fun b hb => ho b (.tail _ hb)⟩
  | mat b i j =>
    change (let G : Prop := _; G)
    intro G
    obtain ⟨m, sp, t, c₁, c₂, c₃, c₄, c₅, e1, e2, e3, e4⟩ := x
    subst G
    subst e2
    exact ⟨m, sp, t, c₁, c₂, c₃, c₄, c₅, e1, rfl, (ho m (.head _)).trans e3, (ho sp (.tail _ (.head _))).trans e4⟩

inductive Bnd (env : Env) (h : Heap) (x : Str) (v : Value) : Prop
  | loc {m : Str → Option Value} : env.kindOf x = some .local → h.Ns env.locals m → m x = some v → Bnd env h x v
  | cell {c : Addr} : env.kindOf x = some .cell ∨ env.kindOf x = some .free → env.cells.lookup x = some c → h.IsCell c (some v) → Bnd env h x v

structure Sto (w : World) (g : Heap) (env : Env) (P : Addr → Prop) (h : Heap) (σ : List (Str × Ent)) (ρ : Str → Value) (ω : Str → List Addr) : Prop where
  base : Base w g
  ks : Ks g h
  pw : PW P h
  fn : env.scope.kind = .function
  gl : env.globals = mainGlobals
  bl : env.builtins = builtinsNs
  ns : ∃ m, h.Ns env.locals m
  lg : g.get? env.locals = none
  lp : ¬ P env.locals
  cells : ∀ x c, env.cells.lookup x = some c → (∃ v, h.IsCell c v) ∧ c ≠ env.locals ∧ (env.locals < c → g.get? c = none ∧ ¬ P c)
  capart : ∀ x y c, env.cells.lookup x = some c → env.cells.lookup y = some c → x = y
  vals : ∀ x e, (x, e) ∈ σ → Bnd env h x (ρ x) ∧ EntOK w P h (ρ x) e (ω x)
  own : ∀ x e, (x, e) ∈ σ → ∀ a ∈ ω x, ¬ P a ∧ g.get? a = none ∧ a ≠ env.locals ∧ (∀ y c, env.cells.lookup y = some c → a ≠ c) ∧ (h.get? a).isSome = true
  apart : ∀ x e y e', (x, e) ∈ σ → (y, e') ∈ σ → x ≠ y → ∀ a ∈ ω x, a ∉ ω y
  nodup : ∀ x e, (x, e) ∈ σ → (ω x).Nodup

theorem Bnd.ks {env : Env} {h h' : Heap} {x : Str} {v : Value} (b : Bnd env h x v) (k : Ks h h') : Bnd env h' x v := by
  cases b with
  | loc a n e => exact .loc a (n.keeps k) e
  | cell a e i => exact .cell a e (i.keeps k)

theorem Sto.base_now {w : World} {g : Heap} {env : Env} {P : Addr → Prop} {h : Heap} {σ : List (Str × Ent)} {ρ : Str → Value} {ω : Str → List Addr} (S : Sto w g env P h σ ρ ω) : Base w h := S.base.ks S.ks
theorem some_of_ks {h h' : Heap} (k : Ks h h') {a : Addr} (e : (h.get? a).isSome = true) : h'.get? a = h.get? a := by
  obtain ⟨o, ho⟩ := Option.isSome_iff_exists.mp e
  rw [ho, k a o ho]

theorem Sto.ext {w : World} {g : Heap} {env : Env} {P P' : Addr → Prop} {h h' : Heap} {σ : List (Str × Ent)} {ρ : Str → Value} {ω : Str → List Addr} (S : Sto w g env P h σ ρ ω) (x : Ext P P' h h') : Sto w g env P' h' σ ρ ω := by
  have notP : ∀ a, (h.get? a).isSome = true → ¬ P a → ¬ P' a := fun a ha hn hp => by
    rcases x.new a hp with z | z
    · exact hn z
    · rw [z] at ha; cases ha
  obtain ⟨m, hm⟩ := S.ns
  have hL : (h.get? env.locals).isSome = true := by obtain ⟨o, _, _, ho, _⟩ := hm; rw [ho]; rfl
  refine ⟨S.base, S.ks.trans x.ks, x.pw, S.fn, S.gl, S.bl, ⟨m, hm.keeps x.ks⟩, S.lg, notP _ hL S.lp, fun y c hc => ?_, S.capart, fun y e hy => ?_, fun y e hy a ha => ?_, S.apart, S.nodup⟩
  · change (let G : Prop := _; G)
    intro G
    obtain ⟨⟨v, hv⟩, h1, h2⟩ := S.cells y c hc
    subst G
    refine ⟨⟨v, hv.keeps x.ks⟩, h1, fun hl => ⟨(h2 hl).1, notP c ?_ (h2 hl).2⟩⟩
    obtain ⟨o, ho, _⟩ := hv; rw [ho]; rfl
  · obtain ⟨h1, h2⟩ := S.vals y e hy
    exact ⟨h1.ks x.ks, h2.mono x.sub x.ks.kp fun a ha => some_of_ks x.ks (S.own y e hy a ha).2.2.2.2⟩
  · change (let G : Prop := _; G)
    intro G
    obtain ⟨h1, h2, h3, h4, h5⟩ := S.own y e hy a ha
    subst G
    exact ⟨notP a h5 h1, h2, h3, h4, by rw [some_of_ks x.ks h5]; exact h5⟩

theorem Ns.eq {h : Heap} {a : Addr} {m m' : Str → Option Value} (x : h.Ns a m) (y : h.Ns a m') : m = m' := by
  change (let G : Prop := _; G)
  intro G
  obtain ⟨o, es, ep, ho, hd, _, hf⟩ := x
  subst G
  change (let G : Prop := _; G)
  intro G
  obtain ⟨o', es', ep', ho', hd', _, hf'⟩ := y
  subst G
  rw [ho] at ho'; cases ho'
  rw [hd] at hd'; cases hd'
  funext n; rw [← hf, ← hf']

structure NewEnt (w : World) (g : Heap) (env : Env) (P : Addr → Prop) (h : Heap) (σ : List (Str × Ent)) (ω : Str → List Addr) (x : Str) (v : Value) (en : Ent) (os : List Addr) : Prop where
  ok : EntOK w P h v en os
  nd : os.Nodup
  own : ∀ a ∈ os, ¬ P a ∧ g.get? a = none ∧ a ≠ env.locals ∧ (∀ y c, env.cells.lookup y = some c → a ≠ c) ∧ (h.get? a).isSome = true
  apart : ∀ y e, (y, e) ∈ σ → y ≠ x → ∀ a ∈ os, a ∉ ω y

noncomputable def upS (ρ : Str → Value) (x : Str) (v : Value) : Str → Value := fun y => if y = x then v else ρ y
noncomputable def upO (ω : Str → List Addr) (x : Str) (os : List Addr) : Str → List Addr := fun y => if y = x then os else ω y

noncomputable def Puts (x : Str) (en : Ent) (σ σ' : List (Str × Ent)) : Prop := ∀ y e, (y, e) ∈ σ' → (y = x ∧ e = en) ∨ (y ≠ x ∧ (y, e) ∈ σ)

section
variable {w : World} {g : Heap} {env : Env} {P : Addr → Prop} {h h' : Heap} {σ σ' : List (Str × Ent)} {ρ : Str → Value} {ω : Str → List Addr} {x : Str} {v : Value} {en : Ent} {os : List Addr}

theorem Sto.put (S : Sto w g env P h σ ρ ω) (N : NewEnt w g env P h σ ω x v en os) (hp : Puts x en σ σ') (D : Addr) (hs : Heap.SameBut D h h') (hD : ¬ P D) (hDg : g.get? D = none)
    (hDo : ∀ y e, (y, e) ∈ σ → y ≠ x → D ∉ ω y) (hDn : D ∉ os) (hns : ∃ m, h'.Ns env.locals m)
    (hcl : ∀ y c, env.cells.lookup y = some c → ∃ v, h'.IsCell c v) (hb : Bnd env h' x v) (hbs : ∀ y v', y ≠ x → Bnd env h y v' → Bnd env h' y v') : Sto w g env P h' σ' (upS ρ x v) (upO ω x os) := by
  have kp : Kp P h h' := fun b o hb e => (hs.2 b fun z => hD (z ▸ hb)).trans e
  have same : ∀ a, a ≠ D → h'.get? a = h.get? a := fun a ha => hs.2 a ha
  refine ⟨S.base, fun b o e => (hs.2 b fun z => ?_).trans (S.ks b o e), fun b hb => ?_, S.fn, S.gl, S.bl, hns, S.lg, S.lp, fun y c hc => ⟨hcl y c hc, (S.cells y c hc).2⟩, S.capart, fun y e hy => ?_, fun y e hy a ha => ?_, fun y e z e' hy hz hne a ha => ?_, fun y e hy => ?_⟩
  · rw [z, hDg] at e; cases e
  · rw [same b fun z => hD (z ▸ hb)]; exact S.pw b hb
  · rcases hp y e hy with ⟨rfl, rfl⟩ | ⟨hne, hm⟩
    · simp only [upS, upO, if_true]
      exact ⟨hb, N.ok.mono (fun _ e => e) kp fun a ha => same a fun z => hDn (z ▸ ha)⟩
    · simp only [upS, upO, if_neg hne]
      exact ⟨hbs y _ hne (S.vals y e hm).1, (S.vals y e hm).2.mono (fun _ e => e) kp fun a ha => same a fun z => hDo y e hm hne (z ▸ ha)⟩
  · rcases hp y e hy with ⟨rfl, rfl⟩ | ⟨hne, hm⟩
    · simp only [upO, if_true] at ha
      change (let G : Prop := _; G)
      intro G
      obtain ⟨h1, h2, h3, h4, h5⟩ := N.own a ha
      subst G
      exact ⟨h1, h2, h3, h4, by rw [same a fun z => hDn (z ▸ ha)]; exact h5⟩
    · simp only [upO, if_neg hne] at ha
      change (let G : Prop := _; G)
      intro G
      obtain ⟨h1, h2, h3, h4, h5⟩ := S.own y e hm a ha
      subst G
      exact ⟨h1, h2, h3, h4, by rw [same a fun z => hDo y e hm hne (z ▸ ha)]; exact h5⟩
  · rcases hp y e hy with ⟨rfl, rfl⟩ | ⟨hny, hmy⟩
    · rcases hp z e' hz with ⟨rfl, _⟩ | ⟨hnz, hmz⟩
      · exact absurd rfl hne
      · simp only [upO, if_true] at ha
        simp only [upO, if_neg hnz]
        exact N.apart z e' hmz hnz a ha
    · simp only [upO, if_neg hny] at ha
      rcases hp z e' hz with ⟨rfl, rfl⟩ | ⟨hnz, hmz⟩
      · simp only [upO, if_true]
        exact fun hb => N.apart y e hmy hny a hb ha
      · simp only [upO, if_neg hnz]
        exact S.apart y e z e' hmy hmz hne a ha
  · rcases hp y e hy with ⟨rfl, rfl⟩ | ⟨hne, hm⟩
    · simp only [upO, if_true]; exact N.nd
    · simp only [upO, if_neg hne]; exact S.nodup y e hm
end

theorem Sto.store {w : World} {g : Heap} {env : Env} {P : Addr → Prop} {s : Shared} {σ σ' : List (Str × Ent)} {ρ : Str → Value} {ω : Str → List Addr} {x : Str} {v : Value} {en : Ent} {os : List Addr} {A : Around} {E : Value → Shared → Prop} {Q : Unit → Shared → Prop}
    (S : Sto w g env P s.heap σ ρ ω) (N : NewEnt w g env P s.heap σ ω x v en os) (hp : Puts x en σ σ')
    (hk : env.kindOf x = some .local ∨ (env.kindOf x = some .cell ∧ ∃ c, env.cells.lookup x = some c ∧ env.locals < c))
    (h : ∀ h' tk, Sto w g env P h' σ' (upS ρ x v) (upO ω x os) → Kp P s.heap h' → (∀ b, b ≠ env.locals → (∀ y a, env.cells.lookup y = some a → env.locals < a → b ≠ a) → h'.get? b = s.heap.get? b) → Q () { s with heap := h', toks := tk }) :
    wpAny (model prg w) A (storeName env x v) Q E s := by
  obtain ⟨m, hm⟩ := S.ns
  rcases hk with hk | ⟨hk, c, hc, hlt⟩
  · refine wpAny_storeName_local hk hm (fun h' hn hs => h h' _ ?_ (fun b o hb e => (hs.2 b fun z => S.lp (z ▸ hb)).trans e) fun b hb _ => hs.2 b hb) (by rw [S.fn]; rfl)
    refine S.put N hp env.locals hs S.lp S.lg (fun y e hy _ ha => (S.own y e hy _ ha).2.2.1 rfl) (fun ha => (N.own _ ha).2.2.1 rfl) ⟨_, hn⟩ (fun y c hc => ?_) (.loc hk hn (by simp)) fun y v' hne b => ?_
    · change (let G : Prop := _; G)
      intro G
      obtain ⟨⟨u, hu⟩, h1, _⟩ := S.cells y c hc
      subst G
      exact ⟨u, hu.sameBut hs h1⟩
    · cases b with
      | loc a n e => exact .loc a hn (by rw [if_neg hne, Ns.eq hm n]; exact e)
      | cell a e i => exact .cell a e (i.sameBut hs (S.cells _ _ e).2.1)
  · change (let G : Prop := _; G)
    intro G
    obtain ⟨⟨u, hu⟩, h1, h2⟩ := S.cells x c hc
    subst G
    refine wpAny_storeName_cell S.fn hk hc hu fun h' hn hs => ?_
    have := h h' s.toks ?_ (fun b o hb e => (hs.2 b fun z => (h2 hlt).2 (z ▸ hb)).trans e) fun b _ hb => hs.2 b (hb _ _ hc hlt)
    · exact this
    refine S.put N hp c hs (h2 hlt).2 (h2 hlt).1 (fun y e hy _ ha => (S.own y e hy _ ha).2.2.2.1 _ _ hc rfl) (fun ha => (N.own _ ha).2.2.2.1 _ _ hc rfl) ⟨m, hm.sameBut hs (Ne.symm h1)⟩ (fun y c' hc' => ?_) (.cell (.inl hk) hc hn) fun y v' hne b => ?_
    · by_cases e : c' = c
      · subst e; exact ⟨_, hn⟩
      · change (let G : Prop := _; G)
        intro G
        obtain ⟨⟨u', hu'⟩, _, _⟩ := S.cells y c' hc'
        subst G
        exact ⟨u', hu'.sameBut hs e⟩
    · cases b with
      | loc a n e => exact .loc a (n.sameBut hs (Ne.symm h1)) e
      | cell a e i => exact .cell a e (i.sameBut hs fun z => hne (S.capart _ _ _ e (z ▸ hc)))

theorem NewEnt.dat {w : World} {g : Heap} {env : Env} {P : Addr → Prop} {h : Heap} {σ : List (Str × Ent)} {ω : Str → List Addr} {x : Str} {v : Value} {d : D} (r : Rp w P h v d) : NewEnt w g env P h σ ω x v (.dat d) [] :=
  ⟨⟨rfl, r⟩, List.nodup_nil, fun _ h => (nomatch h), fun _ _ _ _ _ h => (nomatch h)⟩

theorem NewEnt.fresh {w : World} {g : Heap} {env : Env} {P P' : Addr → Prop} {h h' : Heap} {σ : List (Str × Ent)} {ρ : Str → Value} {ω : Str → List Addr} {x : Str} {v : Value} {en : Ent} {os : List Addr}
    (S : Sto w g env P h σ ρ ω) (k : Ks h h') (r : EntOK w P' h' v en os) (nd : os.Nodup) (hf : ∀ a ∈ os, h.get? a = none ∧ ¬ P' a ∧ (h'.get? a).isSome = true) : NewEnt w g env P' h' σ ω x v en os := by
  refine ⟨r, nd, fun a ha => ?_, fun y e hy _ a ha hb => ?_⟩
  · obtain ⟨h1, h2, h3⟩ := hf a ha
    refine ⟨h2, ?_, fun z => ?_, fun y c hc z => ?_, h3⟩
    · cases q : g.get? a with
      | none => rfl
      | some o => rw [S.ks a o q] at h1; cases h1
    · change (let G : Prop := _; G)
      intro G
      obtain ⟨m, o, _, _, ho, _⟩ := S.ns
      subst G
      rw [z, ho] at h1; cases h1
    · change (let G : Prop := _; G)
      intro G
      obtain ⟨⟨u, o, ho, _⟩, _⟩ := S.cells y c hc
      subst G
      rw [z, ho] at h1; cases h1
  · have := (S.own y e hy a hb).2.2.2.2
    rw [(hf a ha).1] at this; cases this

end Mine
end

section
open PySem PySem.W PyProof.Rows
set_option Elab.async false
set_option maxRecDepth 100000
set_option linter.unusedVariables false
namespace Mine

structure Cx where
  w : World
  q : Bool
  k : Nat
  env : Env

noncomputable def Rm (k : Nat) (A : Around) : Prop := A.handled = none ∧ A.depth + k < recursionLimit ∧ A.units + 8 * k + 200 < cLine
theorem Rm.le {k j : Nat} {A : Around} (x : Rm k A) (h : j ≤ k) : Rm j A := ⟨x.1, by have := x.2.1; (first | lia | omega), by have := x.2.2; (first | lia | omega)⟩
theorem Rm.deeper {k : Nat} {A : Around} {env : Env} (x : Rm (k + 1) A) : Rm k (A.deeper env) := ⟨x.1, by have := x.2.1; show A.depth + 1 + k < _; (first | lia | omega), by have := x.2.2; show A.units + 3 + 8 * k + 200 < _; (first | lia | omega)⟩
theorem Rm.room {k : Nat} {A : Around} (x : Rm k A) : A.depth < recursionLimit := by have := x.2.1; (first | lia | omega)
theorem Rm.units {k : Nat} {A : Around} (x : Rm k A) : A.units + 200 < cLine := by have := x.2.2; (first | lia | omega)

noncomputable def Pst {α : Type} (q : Bool) (P : Addr → Prop) (s : Shared) (R : (Addr → Prop) → α → Heap → Prop) (a : α) (s' : Shared) : Prop :=
  ∃ P', Ext P P' s.heap s'.heap ∧ Rest q s s' ∧ R P' a s'.heap

theorem Pst.elim {α : Type} {q : Bool} {P : Addr → Prop} {s s' : Shared} {R : (Addr → Prop) → α → Heap → Prop} {a : α} {G : Prop} (z : Pst q P s R a s') (h : ∀ P', Ext P P' s.heap s'.heap → Rest q s s' → R P' a s'.heap → G) : G :=
  let ⟨P', x, y, r⟩ := z; h P' x y r
theorem Pst.now {α : Type} {q : Bool} {P : Addr → Prop} {s : Shared} {R : (Addr → Prop) → α → Heap → Prop} {a : α} {t : Nat} (hp : PW P s.heap) (r : R P a s.heap) : Pst q P s R a { s with toks := t } :=
  ⟨P, Ext.refl hp, Rest.of, r⟩
theorem Pst.here {α : Type} {q : Bool} {P : Addr → Prop} {s : Shared} {R : (Addr → Prop) → α → Heap → Prop} {a : α} (hp : PW P s.heap) (r : R P a s.heap) : Pst q P s R a s :=
  ⟨P, Ext.refl hp, Rest.refl _ _, r⟩
theorem Pst.step {α β : Type} {q : Bool} {P P₁ : Addr → Prop} {s s₁ s₂ : Shared} {R : (Addr → Prop) → α → Heap → Prop} {R' : (Addr → Prop) → β → Heap → Prop} {a : α} {b : β} (x : Ext P P₁ s.heap s₁.heap) (y : Rest q s s₁) (z : Pst q P₁ s₁ R a s₂)
    (hr : ∀ P' h', Ext P₁ P' s₁.heap h' → R P' a h' → R' P' b h') : Pst q P s R' b s₂ := by
  change (let G : Prop := _; G)
  intro G
  obtain ⟨P₂, e, r, t⟩ := z
  subst G
  exact ⟨P₂, x.trans e, y.trans r, hr _ _ e t⟩

inductive Res where
  | dat (d : D)
  | own (e : Ent)
noncomputable def ResOK (w : World) (h₀ : Heap) (P : Addr → Prop) (v : Value) (h : Heap) : Res → Prop
  | .dat d => Rp w P h v d
  | .own e => ∃ os, EntOK w P h v e os ∧ os.Nodup ∧ ∀ a ∈ os, h₀.get? a = none ∧ ¬ P a ∧ (h.get? a).isSome = true
theorem ResOK.back {w : World} {h₀ h₁ : Heap} {P : Addr → Prop} {v : Value} {h : Heap} {r : Res} (k : Ks h₀ h₁) (x : ResOK w h₁ P v h r) : ResOK w h₀ P v h r := by
  cases r with
  | dat d => exact x
  | own e =>
    change (let G : Prop := _; G)
    intro G
    obtain ⟨os, a, b, c⟩ := x
    subst G
    refine ⟨os, a, b, fun i hi => ⟨?_, (c i hi).2⟩⟩
    cases q : h₀.get? i with
    | none => rfl
    | some o => have := (c i hi).1; rw [k i o q] at this; cases this

noncomputable def OpL (w : World) (q : Bool) (k : Nat) (t : List Value → Sem Value) (ds : List D) (r : Res) : Prop :=
  ∀ A P s vs, Rm k A → Base w s.heap → PW P s.heap → RpL w P s.heap vs ds → wpAny (model prg w) A (t vs) (Pst q P s fun P' v h' => ResOK w s.heap P' v h' r) NoE s

noncomputable def EvR (c : Cx) (σ : List (Str × Ent)) (e : Expr) (r : Res) : Prop :=
  ∀ A g P s ρ ω, Rm c.k A → Sto c.w g c.env P s.heap σ ρ ω → wpAny (model prg c.w) A (eval e c.env) (Pst c.q P s fun P' v h' => ResOK c.w s.heap P' v h' r) NoE s
noncomputable abbrev Ev (c : Cx) (σ : List (Str × Ent)) (e : Expr) (d : D) : Prop := EvR c σ e (.dat d)

noncomputable def Tst (c : Cx) (σ : List (Str × Ent)) (e : Expr) (b : Bool) : Prop :=
  ∀ A g P s ρ ω, Rm c.k A → Sto c.w g c.env P s.heap σ ρ ω → wpAny (model prg c.w) A (isTrue e c.env (eval e c.env)) (Pst c.q P s fun _ b' _ => b' = b) NoE s

noncomputable def EvL (c : Cx) (σ : List (Str × Ent)) (es : List Expr) (ds : List D) : Prop :=
  ∀ A g P s ρ ω pos, Rm c.k A → Sto c.w g c.env P s.heap σ ρ ω → wpAny (model prg c.w) A (spliced (backTo pos (starEach es c.env))) (Pst c.q P s fun P' vs h' => RpL c.w P' h' vs ds) NoE s

theorem Base.lt {w : World} {h : Heap} (x : Base w h) : 3 < h.objs.size := by
  change (let G : Prop := _; G)
  intro G
  obtain ⟨mg, ⟨o, _, _, ho, _⟩, _⟩ := x.glob
  subst G
  exact Heap.lt_size ho

theorem Ext.push {P : Addr → Prop} {h : Heap} (hp : PW P h) (o : Obj) (hf : o.isFreed = false) : Ext P (fun b => P b ∨ b = h.objs.size) h (h.push o) := by
  refine ⟨fun b o' e => Heap.get?_push_of_some _ e, fun b e => .inl e, fun b e => e.elim .inl fun z => .inr (z ▸ none_of_lt (Nat.le_refl _)), fun b hb => ?_⟩
  rcases hb with hb | rfl
  · exact hp.ks (fun b o' e => Heap.get?_push_of_some _ e) b hb
  · rw [Heap.get?_push_size _ hf]; rfl
theorem Ext.push0 {P : Addr → Prop} {h : Heap} (hp : PW P h) (o : Obj) : Ext P P h (h.push o) := Ext.of_ks hp fun b o' e => Heap.get?_push_of_some _ e

theorem Ext.freeze {P : Addr → Prop} {h : Heap} {os : List Addr} (hp : PW P h) (hs : ∀ a ∈ os, (h.get? a).isSome = true) : PW (fun b => P b ∨ b ∈ os) h := fun b hb => hb.elim (hp b) (hs b)

theorem ResOK.freezeL {w : World} {h₀ h : Heap} {P : Addr → Prop} {v : Value} {ds : List D} (x : ResOK w h₀ P v h (.own (.lst ds))) :
    ∃ a, v = .ref a ∧ h₀.get? a = none ∧ (h.get? a).isSome = true ∧ Rp w (fun b => P b ∨ b = a) h v (.lst ds) := by
  change (let G : Prop := _; G)
  intro G
  obtain ⟨os, ⟨a, vs, rfl, rfl, ho, r⟩, _, hf⟩ := x
  subst G
  change (let G : Prop := _; G)
  intro G
  obtain ⟨f1, f2, f3⟩ := hf a (.head _)
  subst G
  exact ⟨a, rfl, f1, f3, .lst (.inr rfl) ho (r.mono (fun _ e => .inl e) fun _ _ _ e => e)⟩
theorem Pst.freezeL {w : World} {q : Bool} {P : Addr → Prop} {s s' : Shared} {v : Value} {ds : List D} (x : Pst q P s (fun P' v h' => ResOK w s.heap P' v h' (.own (.lst ds))) v s') :
    Pst q P s (fun P' v h' => ResOK w s.heap P' v h' (.dat (.lst ds))) v s' := by
  change (let G : Prop := _; G)
  intro G
  obtain ⟨P', e, r, t⟩ := x
  subst G
  change (let G : Prop := _; G)
  intro G
  obtain ⟨a, rfl, h1, h2, h3⟩ := t.freezeL
  subst G
  refine ⟨fun b => P' b ∨ b = a, ⟨e.ks, fun b hb => .inl (e.sub b hb), fun b hb => hb.elim (e.new b) fun z => .inr (z ▸ h1), fun b hb => hb.elim (e.pw b) fun z => z ▸ h2⟩, r, h3⟩

section
variable {c : Cx} {σ : List (Str × Ent)} {e e₁ e₂ : Expr} {d d₁ d₂ : D} {r : Res}

theorem EvR.freeze {ds : List D} (h : EvR c σ e (.own (.lst ds))) : Ev c σ e (.lst ds) := fun A g P s ρ ω rm S =>
  wpAny_mono (h A g P s ρ ω rm S) (fun _ _ x => x.freezeL) fun _ _ x => x

theorem Ev.int {i : Int} {k : Nat} {p : Pos} : Ev c σ (.Constant (.int i) k p) (.int i) := fun A g P s ρ ω rm S => wpAny_Constant_int (Pst.now S.pw (.int _ _))
theorem Ev.str {x : Str} {k : Nat} {p : Pos} : Ev c σ (.Constant (.str x) k p) (.str x) := fun A g P s ρ ω rm S => wpAny_Constant_str (Pst.now S.pw (.str _ _))
theorem Ev.bytes {b : List UInt8} {k : Nat} {p : Pos} : Ev c σ (.Constant (.bytes b) k p) (.bytes b.toArray) := fun A g P s ρ ω rm S => wpAny_mkTextBytes (Pst.now S.pw (.bytes _ _))
theorem Ev.bool {b : Bool} {k : Nat} {p : Pos} : Ev c σ (.Constant (.bool b) k p) (.bool b) := fun A g P s ρ ω rm S => wpAny_Constant_bool (Pst.here S.pw (.bool _))
theorem Ev.none {k : Nat} {p : Pos} : Ev c σ (.Constant .none k p) .none := fun A g P s ρ ω rm S => wpAny_Constant_none (Pst.here S.pw .none)
theorem Ev.flt {b : UInt64} {k : Nat} {p : Pos} : Ev c σ (.Constant (.float b) k p) (.flt b) := fun A g P s ρ ω rm S => wpAny_Constant_float (Pst.now S.pw (.flt _ _))

theorem Sto.load {w : World} {g : Heap} {env : Env} {P : Addr → Prop} {s : Shared} {ρ : Str → Value} {ω : Str → List Addr} {x : Str} {v : Value} {A : Around} {E : Value → Shared → Prop} {Q : Value → Shared → Prop} {σ : List (Str × Ent)}
    (S : Sto w g env P s.heap σ ρ ω) (b : Bnd env s.heap x v) (hn : (x == ("__classdict__" : Str)) = false) (h : Q v s) : wpAny (model prg w) A (loadName env x) Q E s := by
  cases b with
  | loc a n e => exact wpAny_loadName_local S.fn a n e h
  | cell a e i =>
    rcases a with a | a
    · exact wpAny_loadName_cell S.fn a e i h
    · exact wpAny_loadName_free S.fn a e i h hn
theorem Ev.name {x : Str} {p : Pos} (hm : σ.lookup x = some (Ent.dat d) := by rfl) (hn : (x == ("__classdict__" : Str)) = false := by decide) (hd : (x == ("__debug__" : Str)) = false := by decide) : Ev c σ (.Name x p) d := fun A g P s ρ ω rm S => by
  obtain ⟨h1, h2⟩ := S.vals x _ (mem_of_lookup hm)
  exact wpAny_Name (S.load h1 hn (Pst.here S.pw h2.2)) hd

theorem Ev.bin {op : Operator} {p : Pos} (h₁ : Ev c σ e₁ d₁) (h₂ : Ev c σ e₂ d₂) (o : OpL c.w c.q c.k (fun vs => binaryOp op (vs.getD 0 .none) (vs.getD 1 .none)) [d₁, d₂] r) : EvR c σ (.BinOp e₁ op e₂ p) r := fun A g P s ρ ω rm S =>
  wpAny_BinOp (wpAny_mono (h₁ A g P s ρ ω rm S) (fun v₁ s₁ zz => Pst.elim zz fun P₁ x₁ y₁ z₁ => wpAny_mono (h₂ A g P₁ s₁ ρ ω rm (S.ext x₁)) (fun v₂ s₂ zz => Pst.elim zz fun P₂ x₂ y₂ z₂ =>
    wpAny_mono (o A P₂ s₂ [v₁, v₂] rm ((S.ext x₁).ext x₂).base_now x₂.pw (.cons (x₂.rp z₁) (.cons z₂ .nil))) (fun v s' z => Pst.step (x₁.trans x₂) (y₁.trans y₂) z fun P' h' _ t => t.back (x₁.trans x₂).ks) fun _ _ x => x) fun _ _ x => x) fun _ _ x => x)
theorem Ev.cmp {op : CmpOp} {p : Pos} (h₁ : Ev c σ e₁ d₁) (h₂ : Ev c σ e₂ d₂) (o : OpL c.w c.q c.k (fun vs => compareOp op (vs.getD 0 .none) (vs.getD 1 .none)) [d₁, d₂] r) (hb : behindInMarks op e₂ = false := by rfl) : EvR c σ (.Compare e₁ [op] [e₂] p) r := fun A g P s ρ ω rm S =>
  wpAny_Compare1 (wpAny_mono (h₁ A g P s ρ ω rm S) (fun v₁ s₁ zz => Pst.elim zz fun P₁ x₁ y₁ z₁ => wpAny_mono (h₂ A g P₁ s₁ ρ ω rm (S.ext x₁)) (fun v₂ s₂ zz => Pst.elim zz fun P₂ x₂ y₂ z₂ =>
    wpAny_mono (o A P₂ s₂ [v₁, v₂] rm ((S.ext x₁).ext x₂).base_now x₂.pw (.cons (x₂.rp z₁) (.cons z₂ .nil))) (fun v s' z => Pst.step (x₁.trans x₂) (y₁.trans y₂) z fun P' h' _ t => t.back (x₁.trans x₂).ks) fun _ _ x => x) fun _ _ x => x) fun _ _ x => x) hb

theorem EvL.nil : EvL c σ [] [] := fun A g P s ρ ω pos rm S => Calls.spliced_nil (Pst.here S.pw .nil)
theorem EvL.cons {es : List Expr} {ds : List D} (h : Ev c σ e d) (t : EvL c σ es ds) (he : starEach (e :: es) c.env = (false, eval e c.env) :: starEach es c.env := by rfl) : EvL c σ (e :: es) (d :: ds) := fun A g P s ρ ω pos rm S => by
  rw [he]
  exact Calls.spliced_cons (wpAny_mono (h A g P s ρ ω rm S) (fun v s₁ zz => Pst.elim zz fun P₁ x₁ y₁ z₁ => wpAny_mono (t A g P₁ s₁ ρ ω pos rm (S.ext x₁)) (fun vs s₂ z => Pst.step x₁ y₁ z fun P' h' e t => .cons (e.rp z₁) t) fun _ _ x => x) fun _ _ x => x)

theorem Ev.tuple {es : List Expr} {ds : List D} {k : Nat} {p : Pos} (h : EvL c σ es ds) (hz : ds.length ≤ sizeLine := by exact Nat.le_of_ble_eq_true (by with_unfolding_all rfl)) : Ev c σ (.Tuple es k p) (.tup ds) := fun A g P s ρ ω rm S =>
  Tuple_ (wpAny_mono (h A g P s ρ ω p rm S) (fun vs s₁ zz => Pst.elim zz fun P₁ x₁ y₁ z₁ => by
    refine wpAny_newTuple ?_ (by rw [z₁.length]; exact hz)
    have x₂ := Ext.push (P := P₁) x₁.pw { cls := .type "tuple", data := .seq vs.toArray } rfl
    exact ⟨_, x₁.trans x₂, y₁.trans Rest.of, .tup (.inr rfl) ⟨0, Heap.get?_push_size _ rfl⟩ (x₂.rpl z₁)⟩) fun _ _ x => x)
theorem EvR.list {es : List Expr} {ds : List D} {p : Pos} (h : EvL c σ es ds) (hz : ds.length ≤ sizeLine := by exact Nat.le_of_ble_eq_true (by with_unfolding_all rfl)) : EvR c σ (.List es p) (.own (.lst ds)) := fun A g P s ρ ω rm S =>
  List_ (wpAny_mono (h A g P s ρ ω p rm S) (fun vs s₁ zz => Pst.elim zz fun P₁ x₁ y₁ z₁ => by
    refine wpAny_newList ?_ (by rw [z₁.length]; exact hz)
    have x₂ := Ext.push0 (P := P₁) x₁.pw { cls := .type "list", data := .seq vs.toArray }
    refine ⟨_, x₁.trans x₂, y₁.trans Rest.of, [s₁.heap.objs.size], ⟨_, vs, rfl, rfl, ⟨_, 0, Heap.get?_push_size _ rfl, rfl, rfl, rfl⟩, x₂.rpl z₁⟩, by simp, fun a ha => ?_⟩
    rw [List.mem_singleton.mp ha]
    refine ⟨?_, x₁.pw.not_new, by rw [Heap.get?_push_size _ rfl]; rfl⟩
    cases q : s.heap.get? s₁.heap.objs.size with
    | none => rfl
    | some o => exact absurd (Heap.lt_size (x₁.ks _ _ q)) (Nat.lt_irrefl _)) fun _ _ x => x)
end

end Mine
end

section
open PySem PySem.W PyProof.Rows
set_option Elab.async false
set_option maxRecDepth 100000
set_option linter.unusedVariables false
namespace Mine
section
variable {w : World} {q : Bool} {k : Nat} {r : Res}

theorem OpL.two {t : Value → Value → Sem Value} {d₁ d₂ : D} (h : ∀ A P s v₁ v₂, Rm k A → Base w s.heap → PW P s.heap → Rp w P s.heap v₁ d₁ → Rp w P s.heap v₂ d₂ → wpAny (model prg w) A (t v₁ v₂) (Pst q P s fun P' v h' => ResOK w s.heap P' v h' r) NoE s) :
    OpL w q k (fun vs => t (vs.getD 0 .none) (vs.getD 1 .none)) [d₁, d₂] r := fun A P s vs rm B hp x => by
  cases x with | cons a x => cases x with | cons b x => cases x; exact h A P s _ _ rm B hp a b

noncomputable abbrev Bin (w : World) (q : Bool) (k : Nat) (op : Operator) (d₁ d₂ : D) (r : Res) : Prop := OpL w q k (fun vs => binaryOp op (vs.getD 0 .none) (vs.getD 1 .none)) [d₁, d₂] r
noncomputable abbrev Cmp (w : World) (q : Bool) (k : Nat) (op : CmpOp) (d₁ d₂ : D) (r : Res) : Prop := OpL w q k (fun vs => compareOp op (vs.getD 0 .none) (vs.getD 1 .none)) [d₁, d₂] r

theorem Bin.add {a b : Int} : Bin w q k .Add (.int a) (.int b) (.dat (.int (a + b))) := OpL.two fun A P s _ _ rm B hp x y => by obtain ⟨_, rfl⟩ := Rp.inv x; obtain ⟨_, rfl⟩ := Rp.inv y; exact add_int (Pst.now hp (.int _ _))
theorem Bin.sub {a b : Int} : Bin w q k .Sub (.int a) (.int b) (.dat (.int (a - b))) := OpL.two fun A P s _ _ rm B hp x y => by obtain ⟨_, rfl⟩ := Rp.inv x; obtain ⟨_, rfl⟩ := Rp.inv y; exact sub_int (Pst.now hp (.int _ _))
theorem Bin.mul {a b : Int} (h : Builtin.Int.intBits a ≤ 64) : Bin w q k .Mult (.int a) (.int b) (.dat (.int (a * b))) := OpL.two fun A P s _ _ rm B hp x y => by obtain ⟨_, rfl⟩ := Rp.inv x; obtain ⟨_, rfl⟩ := Rp.inv y; exact mul_int (Pst.now hp (.int _ _)) (.of_left h)
theorem Bin.div {a b : Int} (h0 : b ≠ 0) (h : b.natAbs < 1073741824) : Bin w q k .FloorDiv (.int a) (.int b) (.dat (.int (a.fdiv b))) := OpL.two fun A P s _ _ rm B hp x y => by obtain ⟨_, rfl⟩ := Rp.inv x; obtain ⟨_, rfl⟩ := Rp.inv y; exact floordiv_int h0 (Pst.now hp (.int _ _)) (.inl (PyProof.noPylong_small h))
theorem Bin.mod {a b : Int} (h0 : b ≠ 0) : Bin w q k .Mod (.int a) (.int b) (.dat (.int (a.fmod b))) := OpL.two fun A P s _ _ rm B hp x y => by obtain ⟨_, rfl⟩ := Rp.inv x; obtain ⟨_, rfl⟩ := Rp.inv y; exact mod_int' h0 (Pst.now hp (.int _ _))
theorem Cmp.eq {a b : Int} : Cmp w q k .Eq (.int a) (.int b) (.dat (.bool (a == b))) := OpL.two fun A P s _ _ rm B hp x y => by obtain ⟨_, rfl⟩ := Rp.inv x; obtain ⟨_, rfl⟩ := Rp.inv y; exact eq_int (Pst.here hp (.bool _))
theorem Cmp.ne {a b : Int} : Cmp w q k .NotEq (.int a) (.int b) (.dat (.bool (a != b))) := OpL.two fun A P s _ _ rm B hp x y => by obtain ⟨_, rfl⟩ := Rp.inv x; obtain ⟨_, rfl⟩ := Rp.inv y; exact ne_int (Pst.here hp (.bool _))
theorem Cmp.lt {a b : Int} : Cmp w q k .Lt (.int a) (.int b) (.dat (.bool (decide (a < b)))) := OpL.two fun A P s _ _ rm B hp x y => by obtain ⟨_, rfl⟩ := Rp.inv x; obtain ⟨_, rfl⟩ := Rp.inv y; exact lt_int (Pst.here hp (.bool _))
theorem Cmp.gt {a b : Int} : Cmp w q k .Gt (.int a) (.int b) (.dat (.bool (decide (b < a)))) := OpL.two fun A P s _ _ rm B hp x y => by obtain ⟨_, rfl⟩ := Rp.inv x; obtain ⟨_, rfl⟩ := Rp.inv y; exact gt_int (Pst.here hp (.bool _))
theorem Cmp.le {a b : Int} : Cmp w q k .LtE (.int a) (.int b) (.dat (.bool (decide (a ≤ b)))) := OpL.two fun A P s _ _ rm B hp x y => by obtain ⟨_, rfl⟩ := Rp.inv x; obtain ⟨_, rfl⟩ := Rp.inv y; exact le_int (Pst.here hp (.bool _))

theorem Bin.adds {a b : Str} (h : a.length + b.length ≤ sizeLine) : Bin w q k .Add (.str a) (.str b) (.dat (.str (a ++ b))) := OpL.two fun A P s _ _ rm B hp x y => by obtain ⟨_, rfl⟩ := Rp.inv x; obtain ⟨_, rfl⟩ := Rp.inv y; exact add_str (fun _ _ => Pst.now hp (.str _ _)) h
theorem Bin.addb {a b : Array UInt8} (h : a.size + b.size ≤ 16777216) : Bin w q k .Add (.bytes a) (.bytes b) (.dat (.bytes (a ++ b))) := OpL.two fun A P s _ _ rm B hp x y => by obtain ⟨_, rfl⟩ := Rp.inv x; obtain ⟨_, rfl⟩ := Rp.inv y; exact KBy.add_bytes h fun _ _ => Pst.now hp (.bytes _ _)
theorem Cmp.eqs {a b : Str} : Cmp w q k .Eq (.str a) (.str b) (.dat (.bool (a == b))) := OpL.two fun A P s _ _ rm B hp x y => by obtain ⟨_, rfl⟩ := Rp.inv x; obtain ⟨_, rfl⟩ := Rp.inv y; exact eq_str (Pst.here hp (.bool _))

theorem own_new {P : Addr → Prop} {s : Shared} {vs : List Value} {ds : List D} (hp : PW P s.heap) (x : RpL w P s.heap vs ds) :
    Pst q P s (fun P' v h' => ResOK w s.heap P' v h' (.own (.lst ds))) (.ref s.heap.objs.size) { s with heap := s.heap.push { cls := .type "list", data := .seq vs.toArray } } := by
  have x₂ := Ext.push0 (P := P) hp { cls := .type "list", data := .seq vs.toArray }
  refine ⟨_, x₂, Rest.of, [s.heap.objs.size], ⟨_, vs, rfl, rfl, ⟨_, 0, Heap.get?_push_size _ rfl, rfl, rfl, rfl⟩, x₂.rpl x⟩, by simp, fun a ha => ?_⟩
  rw [List.mem_singleton.mp ha]
  exact ⟨none_of_lt (Nat.le_refl _), hp.not_new, by rw [Heap.get?_push_size _ rfl]; rfl⟩
theorem Bin.addl {a b : List D} (h : a.length + b.length ≤ sizeLine) : Bin w q k .Add (.lst a) (.lst b) (.own (.lst (a ++ b))) := OpL.two fun A P s _ _ rm B hp x y => by
  change (let G : Prop := _; G)
  intro G
  obtain ⟨_, vs, rfl, pa, la, xa⟩ := Rp.inv x
  subst G
  change (let G : Prop := _; G)
  intro G
  obtain ⟨b, us, rfl, pb, lb, xb⟩ := Rp.inv y
  subst G
  change (let G : Prop := _; G)
  intro G
  obtain ⟨⟨cls, dd, data, sl⟩, ho, hc, n, hd⟩ := la.isList
  subst G
  change (let G : Prop := _; G)
  intro G
  obtain ⟨⟨cls2, dd2, data2, sl2⟩, ho', hc2, n', hd2⟩ := lb.isList
  subst G
  simp only at hc hd hc2 hd2
  subst hc hd hc2 hd2
  have e : vs.toArray ++ us.toArray = (vs ++ us).toArray := by simp
  refine concat_meets ⟨_, ho, rfl⟩ ⟨_, ho', rfl⟩ noFill_list_add seq_list_add PySem.F.slot_list_add PySem.F.entry_list_add (PySem.F.args_list_add_2 _ _) (list_addW _ _ vs.toArray us.toArray n n' _ _ _ _ (by rw [List.size_toArray, List.size_toArray, xa.length, xb.length]; exact h)) ⟨ho, ho', ?_⟩
  rw [e]
  exact own_new hp (xa.append xb)
theorem foldl_rep {v : Value} : ∀ (n : Nat) (acc : Array Value), List.foldl (fun x1 x2 => x1 ++ x2) acc (List.replicate n [v].toArray) = acc ++ (List.replicate n v).toArray
  | 0, acc => by simp
  | n + 1, acc => by
    rw [List.replicate_succ, List.foldl_cons, foldl_rep n, List.replicate_succ]
    apply Array.ext'
    simp
theorem RpL.rep {w : World} {P : Addr → Prop} {h : Heap} {v : Value} {d : D} (x : Rp w P h v d) : ∀ n : Nat, RpL w P h (List.replicate n v) (List.replicate n d)
  | 0 => .nil
  | n + 1 => .cons x (RpL.rep x n)
theorem wp_mull {A : Around} {P : Addr → Prop} {s : Shared} {a : Addr} {v : Value} {k : Nat} {n : Int} {u : Tok} {d : D} (hp : PW P s.heap) (hl : s.heap.get? a = some { cls := .type "list", data := .seq [v].toArray k })
    (x0 : Rp w P s.heap v d) (hlo : -(2 ^ 63 : Int) ≤ n) (hhi : n ≤ 16777216) : wpAny (model prg w) A (binaryOp .Mult (.ref a) (.int n u)) (Pst q P s fun P' v h' => ResOK w s.heap P' v h' (.own (.lst (List.replicate n.toNat d)))) NoE s := by
  refine wpAny_binaryOp_repeat_ref (T := "list") (U := "int") (by decide) ⟨_, hl, rfl⟩ (fun s' => typeIs_int s' n u) noFill_list_mul F.fills_int_mul F.slot_int_rmul repeat_list F.slot_int_index.lookup
   (call_meets F.slot_int_rmul (typeIs_int s n u) F.entry_int_rmul (F.args_int_rmul_2 _ _) (int___rmul___int_list n u _ [v].toArray k)
      ⟨hl, rfl, ⟨_, hl, rfl⟩, call_meets F.slot_list_mul ⟨_, hl, rfl⟩ F.entry_list_mul (F.args_list_mul_2 _ _)
        (AutoListH.list___mul___list_int_3 _ [v].toArray k n u (by simp [Builtin.List.listFitsIndex]; (first | lia | omega)) (by simp; (first | lia | omega)) (by simp [Builtin.List.listTooLong, sizeLine]; (first | lia | omega)))
        ⟨hl, ?_⟩⟩)
  have e : List.foldl (fun x1 x2 => x1 ++ x2) #[] (List.replicate (if ([v].toArray).isEmpty = true then 0 else n.toNat) [v].toArray) = (List.replicate n.toNat v).toArray := by
    rw [if_neg (by simp), foldl_rep]; simp
  rw [e]
  exact own_new hp (RpL.rep x0 _)
theorem EvR.mull {c : Cx} {σ : List (Str × Ent)} {e e₂ : Expr} {d : D} {n : Int} {p p' : Pos} (h : Ev c σ e d) (h₂ : Ev c σ e₂ (.int n)) (hlo : -(2 ^ 63 : Int) ≤ n) (hhi : n ≤ 16777216)
    (he : starEach [e] c.env = [(false, eval e c.env)] := by rfl) : EvR c σ (.BinOp (.List [e] p') .Mult e₂ p) (.own (.lst (List.replicate n.toNat d))) := fun A g P s ρ ω rm S => by
  refine wpAny_BinOp (List_ ?_)
  rw [he]
  refine Calls.spliced_cons (wpAny_mono (h A g P s ρ ω rm S) (fun v s₁ zz => Pst.elim zz fun P₁ x₁ y₁ z₁ => Calls.spliced_nil (wpAny_newList ?_)) fun _ _ x => x)
  have x₂ := Ext.push0 (P := P₁) x₁.pw { cls := .type "list", data := .seq [v].toArray }
  refine wpAny_mono (h₂ A g P₁ _ ρ ω rm ((S.ext x₁).ext x₂)) (fun v₂ s₂ zz => Pst.elim zz fun P₂ x₃ y₃ z₃ => ?_) fun _ _ x => x
  cases z₃
  exact wpAny_mono (wp_mull (q := c.q) (d := d) x₃.pw (x₃.ks _ _ (Heap.get?_push_size _ rfl)) (x₃.rp (x₂.rp z₁)) hlo hhi) (fun v s' z => Pst.step ((x₁.trans x₂).trans x₃) ((y₁.trans Rest.of).trans y₃) z fun P' h' _ t => t.back ((x₁.trans x₂).trans x₃).ks) fun _ _ x => x
end
end Mine
end

section
open PySem PySem.W PyProof.Rows
set_option Elab.async false
set_option maxRecDepth 100000
set_option linter.unusedVariables false
namespace Mine

inductive Out where
  | nxt (σ : List (Str × Ent))
  | ret (d : D)

noncomputable def XO (c : Cx) (g : Heap) (P' : Addr → Prop) (h : Heap) (f : Flow) : Out → Prop
  | .nxt σ => f = .next ∧ ∃ ρ ω, Sto c.w g c.env P' h σ ρ ω
  | .ret d => ∃ v, f = .ret v ∧ Ks g h ∧ PW P' h ∧ Rp c.w P' h v d

structure XS (c : Cx) (g : Heap) (P P' : Addr → Prop) (s s' : Shared) : Prop where
  sub : ∀ b, P b → P' b
  new : ∀ b, P' b → P b ∨ g.get? b = none
  kp : Kp P s.heap s'.heap
  rest : Rest c.q s s'
theorem XS.trans {c : Cx} {g : Heap} {P P' P'' : Addr → Prop} {s s' s'' : Shared} (x : XS c g P P' s s') (y : XS c g P' P'' s' s'') : XS c g P P'' s s'' :=
  ⟨fun b e => y.sub b (x.sub b e), fun b e => (y.new b e).elim (x.new b) .inr, fun b o hb e => y.kp b o (x.sub b hb) (x.kp b o hb e), x.rest.trans y.rest⟩
theorem XS.refl {c : Cx} {g : Heap} {P : Addr → Prop} {s : Shared} : XS c g P P s s := ⟨fun _ e => e, fun _ e => .inl e, fun _ _ _ e => e, Rest.refl _ _⟩
theorem XS.of_ext {c : Cx} {g : Heap} {P P' : Addr → Prop} {s s' : Shared} (k : Ks g s.heap) (x : Ext P P' s.heap s'.heap) (y : Rest c.q s s') : XS c g P P' s s' :=
  ⟨x.sub, fun b e => (x.new b e).imp id (fun z => by
    cases q : g.get? b with
    | none => rfl
    | some o => (rw [k b o q] at z; cases z)), x.ks.kp, y⟩

noncomputable def XP (c : Cx) (g : Heap) (P : Addr → Prop) (s : Shared) (o : Out) (f : Flow) (s' : Shared) : Prop := ∃ P', XS c g P P' s s' ∧ XO c g P' s'.heap f o
theorem XP.step {c : Cx} {g : Heap} {P P' : Addr → Prop} {s s' s'' : Shared} {o : Out} {f : Flow} (x : XS c g P P' s s') (y : XP c g P' s' o f s'') : XP c g P s o f s'' :=
  let ⟨P'', a, b⟩ := y; ⟨P'', x.trans a, b⟩

noncomputable def Ex (c : Cx) (σ : List (Str × Ent)) (sts : List Stmt) (o : Out) : Prop :=
  ∀ A g P s ρ ω, Rm c.k A → Sto c.w g c.env P s.heap σ ρ ω → wpAny (model prg c.w) A (execs sts c.env) (XP c g P s o) NoE s
noncomputable def Ex1 (c : Cx) (σ : List (Str × Ent)) (st : Stmt) (o : Out) : Prop :=
  ∀ A g P s ρ ω, Rm c.k A → Sto c.w g c.env P s.heap σ ρ ω → wpAny (model prg c.w) A (exec st c.env) (XP c g P s o) NoE s

section
variable {c : Cx} {σ σ₁ σ' : List (Str × Ent)} {st : Stmt} {sts body els : List Stmt} {o : Out} {e : Expr} {d : D} {p p' : Pos} {x : Str}

theorem Ex.nil : Ex c σ [] (.nxt σ) := fun A g P s ρ ω rm S => wpAny_execs_nil ⟨P, XS.refl, rfl, ρ, ω, S⟩
theorem Ex.cons (h : Ex1 c σ st (.nxt σ₁)) (t : Ex c σ₁ sts o) : Ex c σ (st :: sts) o := fun A g P s ρ ω rm S =>
  wpAny_execs_cons (wpAny_mono (h A g P s ρ ω rm S) (fun f s₁ ⟨P₁, x, hf, ρ₁, ω₁, S₁⟩ => by
    subst hf
    exact wpAny_mono (t A g P₁ s₁ ρ₁ ω₁ rm S₁) (fun _ _ y => XP.step x y) fun _ _ x => x) fun _ _ x => x)
theorem Ex.ret (h : Ex1 c σ st (.ret d)) : Ex c σ (st :: sts) (.ret d) := fun A g P s ρ ω rm S =>
  wpAny_execs_cons (wpAny_mono (h A g P s ρ ω rm S) (fun f s₁ ⟨P₁, x, v, hf, r⟩ => by
    subst hf
    exact ⟨P₁, x, v, rfl, r⟩) fun _ _ x => x)
noncomputable def Sub (σ σ' : List (Str × Ent)) : Prop := ∀ y en, (y, en) ∈ σ → (y, en) ∈ σ'
theorem Sub.nil : Sub [] σ := fun _ _ h => nomatch h
theorem Sub.cons {en : Ent} (hm : σ'.lookup x = some en) (t : Sub σ σ') : Sub ((x, en) :: σ) σ' := fun y e h => by
  rcases List.mem_cons.mp h with h | h
  · cases h; exact mem_of_lookup hm
  · exact t y e h
theorem Ex.sub (hs : Sub σ σ') (h : Ex c σ sts o) : Ex c σ' sts o := fun A g P s ρ ω rm S =>
  h A g P s ρ ω rm { S with vals := fun y e m => S.vals y e (hs y e m), own := fun y e m => S.own y e (hs y e m), apart := fun y e z e' m m' => S.apart y e z e' (hs y e m) (hs z e' m'), nodup := fun y e m => S.nodup y e (hs y e m) }

theorem Ex1.ret (h : Ev c σ e d) : Ex1 c σ (.Return (some e) p) (.ret d) := fun A g P s ρ ω rm S =>
  wpAny_Return_some (wpAny_mono (h A g P s ρ ω rm S) (fun v s₁ zz => Pst.elim zz fun P₁ x y z => ⟨P₁, XS.of_ext S.ks x y, v, rfl, S.ks.trans x.ks, x.pw, z⟩) fun _ _ x => x)
theorem Ex1.ifT (h : Tst c σ e true) (t : Ex c σ body o) : Ex1 c σ (.If e body els p) o := fun A g P s ρ ω rm S =>
  wpAny_If (wpAny_mono (h A g P s ρ ω rm S) (fun b s₁ zz => Pst.elim zz fun P₁ x y z => by
    subst z
    rw [if_pos rfl]
    exact wpAny_mono (t A g P₁ s₁ ρ ω rm (S.ext x)) (fun _ _ z => XP.step (XS.of_ext S.ks x y) z) fun _ _ x => x) fun _ _ x => x)
theorem Ex1.ifF (h : Tst c σ e false) (t : Ex c σ els o) : Ex1 c σ (.If e body els p) o := fun A g P s ρ ω rm S =>
  wpAny_If (wpAny_mono (h A g P s ρ ω rm S) (fun b s₁ zz => Pst.elim zz fun P₁ x y z => by
    subst z
    rw [if_neg Bool.false_ne_true]
    exact wpAny_mono (t A g P₁ s₁ ρ ω rm (S.ext x)) (fun _ _ z => XP.step (XS.of_ext S.ks x y) z) fun _ _ x => x) fun _ _ x => x)

theorem Tst.cmp {op : CmpOp} {e₁ e₂ : Expr} {d₁ d₂ : D} {b : Bool} (h₁ : Ev c σ e₁ d₁) (h₂ : Ev c σ e₂ d₂) (o : Cmp c.w c.q c.k op d₁ d₂ (.dat (.bool b))) (hb : behindInMarks op e₂ = false := by rfl) : Tst c σ (.Compare e₁ [op] [e₂] p) b := fun A g P s ρ ω rm S =>
  wpAny_isTrue_Compare1 (wpAny_mono (h₁ A g P s ρ ω rm S) (fun v₁ s₁ zz => Pst.elim zz fun P₁ x₁ y₁ z₁ => wpAny_mono (h₂ A g P₁ s₁ ρ ω rm (S.ext x₁)) (fun v₂ s₂ zz => Pst.elim zz fun P₂ x₂ y₂ z₂ =>
    wpAny_mono (o A P₂ s₂ [v₁, v₂] rm ((S.ext x₁).ext x₂).base_now x₂.pw (.cons (x₂.rp z₁) (.cons z₂ .nil))) (fun v s' zz => Pst.elim zz fun P₃ x₃ y₃ z₃ => by
      cases z₃
      exact wpAny_truthy_bool ⟨P₃, (x₁.trans x₂).trans x₃, (y₁.trans y₂).trans y₃, rfl⟩) fun _ _ x => x) fun _ _ x => x) fun _ _ x => x) hb
theorem Tst.not {b : Bool} (h : Tst c σ e b) : Tst c σ (.UnaryOp .Not e p) (!b) := fun A g P s ρ ω rm S =>
  wpAny_isTrue_Not (wpAny_mono (h A g P s ρ ω rm S) (fun b' s₁ zz => Pst.elim zz fun P₁ x y z => ⟨P₁, x, y, by rw [z]⟩) fun _ _ x => x)
theorem Tst.eq {b b' : Bool} (h : Tst c σ e b) (hb : b = b') : Tst c σ e b' := hb ▸ h

noncomputable def TstA (c : Cx) (σ : List (Str × Ent)) (op : BoolOp) (es : List Expr) (b : Bool) : Prop :=
  ∀ A g P s ρ ω, Rm c.k A → Sto c.w g c.env P s.heap σ ρ ω → wpAny (model prg c.w) A (allTrue op es c.env) (Pst c.q P s fun _ b' _ => b' = b) NoE s
theorem Tst.all {op : BoolOp} {es : List Expr} {b : Bool} (h : TstA c σ op es b) : Tst c σ (.BoolOp op es p) b := fun A g P s ρ ω rm S => wpAny_isTrue_BoolOp (h A g P s ρ ω rm S)
theorem TstA.orNil : TstA c σ .Or [] false := fun A g P s ρ ω rm S => wpAny_allTrue_Or_nil (Pst.here S.pw rfl)
theorem TstA.orF {es : List Expr} {b : Bool} (h : Tst c σ e false) (t : TstA c σ .Or es b) : TstA c σ .Or (e :: es) b := fun A g P s ρ ω rm S =>
  wpAny_allTrue_Or_cons (wpAny_mono (h A g P s ρ ω rm S) (fun b' s₁ zz => Pst.elim zz fun P₁ x y z => by
    subst z
    rw [if_neg Bool.false_ne_true]
    exact wpAny_mono (t A g P₁ s₁ ρ ω rm (S.ext x)) (fun _ _ z => Pst.step x y z fun _ _ _ t => t) fun _ _ x => x) fun _ _ x => x)
theorem Ev.iteT {a b : Expr} {r : Res} (h : Tst c σ e true) (t : EvR c σ a r) : EvR c σ (.IfExp e a b p) r := fun A g P s ρ ω rm S =>
  wpAny_IfExp (wpAny_mono (h A g P s ρ ω rm S) (fun b s₁ zz => Pst.elim zz fun P₁ x y z => by
    subst z
    rw [if_pos rfl]
    exact wpAny_mono (t A g P₁ s₁ ρ ω rm (S.ext x)) (fun _ _ z => Pst.step x y z fun _ _ _ t => t.back x.ks) fun _ _ x => x) fun _ _ x => x)
theorem Ev.iteF {a b : Expr} {r : Res} (h : Tst c σ e false) (t : EvR c σ b r) : EvR c σ (.IfExp e a b p) r := fun A g P s ρ ω rm S =>
  wpAny_IfExp (wpAny_mono (h A g P s ρ ω rm S) (fun b s₁ zz => Pst.elim zz fun P₁ x y z => by
    subst z
    rw [if_neg Bool.false_ne_true]
    exact wpAny_mono (t A g P₁ s₁ ρ ω rm (S.ext x)) (fun _ _ z => Pst.step x y z fun _ _ _ t => t.back x.ks) fun _ _ x => x) fun _ _ x => x)
theorem EvR.eq {r r' : Res} (h : EvR c σ e r) (hr : r = r') : EvR c σ e r' := hr ▸ h

noncomputable def Wr (env : Env) (x : Str) : Prop := env.kindOf x = some .local ∨ (env.kindOf x = some .cell ∧ ∃ a, env.cells.lookup x = some a ∧ env.locals < a)
noncomputable def Res.ent : Res → Ent
  | .dat d => .dat d
  | .own e => e
theorem ResOK.newEnt {w : World} {g : Heap} {env : Env} {P P' : Addr → Prop} {h h' : Heap} {ρ : Str → Value} {ω : Str → List Addr} {v : Value} {r : Res} (S : Sto w g env P h σ ρ ω) (k : Ks h h') (z : ResOK w h P' v h' r) :
    ∃ os, NewEnt w g env P' h' σ ω x v r.ent os := by
  cases r with
  | dat d => exact ⟨[], NewEnt.dat z⟩
  | own en =>
    change (let G : Prop := _; G)
    intro G
    obtain ⟨os, a, b, f⟩ := z
    subst G
    exact ⟨os, NewEnt.fresh S k a b f⟩
theorem Ex1.assign {r : Res} (h : EvR c σ e r) (hw : Wr c.env x) (hp : Puts x r.ent σ σ') (hs : swapsWith e (some (.Name x p')) p.line c.env = pure false := by rfl) : Ex1 c σ (.Assign [.Name x p'] e p) (.nxt σ') := fun A g P s ρ ω rm S =>
  wpAny_Assign_Name (wpAny_mono (h A g P s ρ ω rm S) (fun v s₁ zz => Pst.elim zz fun P₁ x₁ y z => by
    obtain ⟨os, N⟩ := z.newEnt (x := x) S x₁.ks
    exact (S.ext x₁).store N hp hw fun h' tk S' kp _ => ⟨P₁, (XS.of_ext S.ks x₁ y).trans ⟨fun _ e => e, fun _ e => .inl e, kp, Rest.of⟩, rfl, _, _, S'⟩) fun _ _ x => x) hs

theorem Puts.new {en : Ent} : Puts x en σ ((x, en) :: σ.filter fun y => y.1 != x) := fun y e hm => by
  rcases List.mem_cons.mp hm with h | h
  · cases h; exact .inl ⟨rfl, rfl⟩
  · obtain ⟨h1, h2⟩ := List.mem_filter.mp h
    exact .inr ⟨by simpa using h2, h1⟩
end
end Mine
end

section
open PySem PySem.W PyProof.Rows
set_option Elab.async false
set_option maxRecDepth 100000
set_option linter.unusedVariables false
namespace Mine

noncomputable abbrev Pr := (Addr → Prop) → Value → Heap → Prop
noncomputable def DatR (w : World) (d : D) : Pr := fun P v h => Rp w P h v d
noncomputable def OwnR (w : World) (e : Ent) : Pr := fun P v h => ∃ os, EntOK w P h v e os ∧ ∀ a ∈ os, (h.get? a).isSome = true
noncomputable def Stb (R : Pr) : Prop := ∀ P P' h h' v, Ext P P' h h' → R P v h → R P' v h'
theorem DatR.stb {w : World} {d : D} : Stb (DatR w d) := fun _ _ _ _ _ x r => x.rp r
theorem OwnR.stb {w : World} {e : Ent} : Stb (OwnR w e) := fun _ _ _ _ _ x ⟨os, a, b⟩ => ⟨os, a.mono x.sub x.ks.kp fun i hi => some_of_ks x.ks (b i hi), fun i hi => by rw [some_of_ks x.ks (b i hi)]; exact b i hi⟩
noncomputable def Rcv (c : Cx) (σ : List (Str × Ent)) (e : Expr) (R : Pr) : Prop :=
  ∀ A g P s ρ ω, Rm c.k A → Sto c.w g c.env P s.heap σ ρ ω → wpAny (model prg c.w) A (eval e c.env) (Pst c.q P s R) NoE s

section
variable {c : Cx} {σ σ' : List (Str × Ent)} {e e₁ e₂ : Expr} {d d₁ d₂ : D} {r : Res} {R : Pr} {p p' : Pos} {x : Str}
theorem EvR.rcv (h : Ev c σ e d) : Rcv c σ e (DatR c.w d) := h
theorem Rcv.own {en : Ent} (hm : σ.lookup x = some en := by rfl) (hn : (x == ("__classdict__" : Str)) = false := by decide) (hd : (x == ("__debug__" : Str)) = false := by decide) : Rcv c σ (.Name x p) (OwnR c.w en) := fun A g P s ρ ω rm S => by
  have hm := mem_of_lookup hm
  obtain ⟨h1, h2⟩ := S.vals x _ hm
  exact wpAny_Name (S.load h1 hn (Pst.here S.pw ⟨_, h2, fun a ha => (S.own x _ hm a ha).2.2.2.2⟩)) hd

noncomputable def ItemOp (w : World) (q : Bool) (k : Nat) (R : Pr) (d₂ : D) (r : Res) : Prop :=
  ∀ A P s v₁ v₂, Rm k A → Base w s.heap → PW P s.heap → R P v₁ s.heap → Rp w P s.heap v₂ d₂ →
    (∃ T id, s.TypeIs v₁ T ∧ typeLookup (.type T) "__getitem__" = pure (some (.builtin id))) ∧ wpAny (model prg w) A (getItem v₁ v₂) (Pst q P s fun P' v h' => ResOK w s.heap P' v h' r) NoE s
theorem Ev.item (h₁ : Rcv c σ e₁ R) (hR : Stb R) (h₂ : Ev c σ e₂ d₂) (o : ItemOp c.w c.q c.k R d₂ r) (hs : ∀ o i, subscripted e₂ false o i = operate [o, i] (getItem o i) := by intros; rfl) : EvR c σ (.Subscript e₁ e₂ p) r := fun A g P s ρ ω rm S =>
  Subscript_ (wpAny_mono (h₁ A g P s ρ ω rm S) (fun v₁ s₁ zz => Pst.elim zz fun P₁ x₁ y₁ z₁ => wpAny_mono (h₂ A g P₁ s₁ ρ ω rm (S.ext x₁)) (fun v₂ s₂ zz => Pst.elim zz fun P₂ x₂ y₂ z₂ => by
    change (let G : Prop := _; G)
    intro G
    obtain ⟨⟨T, id, hT, hl⟩, hw⟩ := o A P₂ s₂ v₁ v₂ rm ((S.ext x₁).ext x₂).base_now x₂.pw (hR _ _ _ _ _ x₂ z₁) z₂
    subst G
    exact tail_any hT hl (wpAny_mono hw (fun v s' z => Pst.step (x₁.trans x₂) (y₁.trans y₂) z fun P' h' _ t => t.back (x₁.trans x₂).ks) fun _ _ x => x) (hs _ _)) fun _ _ x => x) fun _ _ x => x)

variable {w : World} {q : Bool} {k : Nat}
theorem ItemOp.lst {ds : List D} {i : Int} (h0 : 0 ≤ i) (h1 : i < 2 ^ 63) (hd : ds[i.toNat]? = some d) : ItemOp w q k (DatR w (.lst ds)) (.int i) (.dat d) := fun A P s v₁ v₂ rm B hp x y => by
  change (let G : Prop := _; G)
  intro G
  obtain ⟨a, vs, rfl, pa, la, xa⟩ := Rp.inv x
  subst G
  obtain ⟨_, rfl⟩ := Rp.inv y
  obtain ⟨v, hv, rv⟩ := xa.get hd
  exact ⟨⟨_, _, la.isList.typeIs, slot_list_getitem.lookup⟩, wpAny_getItem_list la.isList h0 h1 (by simpa using hv) (Pst.here hp rv)⟩
theorem ItemOp.lstO {ds : List D} {i : Int} (h0 : 0 ≤ i) (h1 : i < 2 ^ 63) (hd : ds[i.toNat]? = some d) : ItemOp w q k (OwnR w (.lst ds)) (.int i) (.dat d) := fun A P s v₁ v₂ rm B hp x y => by
  change (let G : Prop := _; G)
  intro G
  obtain ⟨os, ⟨a, vs, rfl, rfl, la, xa⟩, _⟩ := x
  subst G
  obtain ⟨_, rfl⟩ := Rp.inv y
  obtain ⟨v, hv, rv⟩ := xa.get hd
  exact ⟨⟨_, _, la.isList.typeIs, slot_list_getitem.lookup⟩, wpAny_getItem_list la.isList h0 h1 (by simpa using hv) (Pst.here hp rv)⟩
theorem ItemOp.tup {ds : List D} {i : Int} (h0 : 0 ≤ i) (h1 : i < 2 ^ 63) (hd : ds[i.toNat]? = some d) : ItemOp w q k (DatR w (.tup ds)) (.int i) (.dat d) := fun A P s v₁ v₂ rm B hp x y => by
  change (let G : Prop := _; G)
  intro G
  obtain ⟨a, vs, rfl, pa, la, xa⟩ := Rp.inv x
  subst G
  obtain ⟨_, rfl⟩ := Rp.inv y
  obtain ⟨v, hv, rv⟩ := xa.get hd
  have hlt : i.toNat < ds.length := (List.getElem?_eq_some_iff.mp hd).1
  have hl := xa.length
  refine ⟨⟨_, _, la.isTup.typeIs, slot_tuple_getitem.lookup⟩, getItem_tuple la.isTup (by (first | lia | omega)) h1 (j := i.toNat) ?_ (by simpa using hv) (Pst.here hp rv)⟩
  have hn : ¬ i < 0 := by (first | lia | omega)
  have hi : i < (vs.length : Int) := by rw [hl]; (first | lia | omega)
  simp [seqIndex?, hn, h0, hi]
noncomputable def dget (es : List (Int × D)) (k : Int) : Option D := (es.find? fun e => decide (e.1 = k)).map (·.2)
theorem RpE.get {P : Addr → Prop} {h : Heap} {kvs : List (Int × Value)} {es : List (Int × D)} (x : RpE w P h kvs es) (k : Int) : (dget es k = none ∧ valueAt kvs k = none) ∨ ∃ d v, dget es k = some d ∧ valueAt kvs k = some v ∧ Rp w P h v d := by
  induction kvs generalizing es with
  | nil => cases x; exact .inl ⟨rfl, rfl⟩
  | cons kv kvs ih =>
    cases x with
    | cons a r =>
      rename_i k' v d es
      by_cases hk : k' = k
      · exact .inr ⟨d, v, by simp [dget, hk], by simp [valueAt, hk], a⟩
      · rcases ih r with ⟨h1, h2⟩ | ⟨d', v', h1, h2, h3⟩
        · exact .inl ⟨by simpa [dget, hk] using h1, by simpa [valueAt, hk] using h2⟩
        · exact .inr ⟨d', v', by simpa [dget, hk] using h1, by simpa [valueAt, hk] using h2, h3⟩
theorem RpE.length {P : Addr → Prop} {h : Heap} {kvs : List (Int × Value)} {es : List (Int × D)} (x : RpE w P h kvs es) : kvs.length = es.length := by
  induction kvs generalizing es with
  | nil => cases x; rfl
  | cons kv kvs ih => cases x with | cons a r => rw [List.length_cons, List.length_cons, ih r]
theorem ItemOp.dct {es : List (Int × D)} {i : Int} (hd : dget es i = some d) : ItemOp w q k (DatR w (.dct es)) (.int i) (.dat d) := fun A P s v₁ v₂ rm B hp x y => by
  change (let G : Prop := _; G)
  intro G
  obtain ⟨a, kvs, rfl, pa, lo, la, xa⟩ := Rp.inv x
  subst G
  obtain ⟨_, rfl⟩ := Rp.inv y
  rcases xa.get i with ⟨h1, _⟩ | ⟨d', v, h1, h2, h3⟩
  · rw [hd] at h1; cases h1
  · rw [hd] at h1; cases h1
    exact ⟨⟨_, _, la.mapOf.typeIs, slot_dict_getitem.lookup⟩, wpAny_getItem_of (intKind_is prg w i _) la.mapOf h2 (Pst.now hp h3)⟩
theorem ItemOp.bytes {b : List UInt8} {i : Int} (hf : b.length ≤ 1099511627776) (h0 : 0 ≤ i) (h1 : i < b.length) : ItemOp w q k (DatR w (.bytes b.toArray)) (.int i) (.dat (.int (b.getD i.toNat 0).toNat)) := fun A P s v₁ v₂ rm B hp x y => by
  obtain ⟨_, rfl⟩ := Rp.inv x; obtain ⟨_, rfl⟩ := Rp.inv y
  exact ⟨⟨_, _, typeIs_bytes _ _ _, FB.slot_bytes_getitem.lookup⟩, getItem_bytes hf h0 h1 (Pst.now hp (.int _ _))⟩

theorem Cmp.notInD {es : List (Int × D)} {i : Int} : Cmp w q k .NotIn (.int i) (.dct es) (.dat (.bool (!(dget es i).isSome))) := OpL.two fun A P s _ _ rm B hp x y => by
  obtain ⟨_, rfl⟩ := Rp.inv x; obtain ⟨a, kvs, rfl, pa, lo, la, xa⟩ := Rp.inv y
  refine wpAny_notIn_of (intKind_is prg w i _) lo la.mapOf (Pst.now hp ?_)
  rcases xa.get i with ⟨h1, h2⟩ | ⟨d', v, h1, h2, h3⟩ <;> rw [h1, h2] <;> exact .bool _
end
end Mine
end

section
open PySem PySem.W PyProof.Rows
set_option Elab.async false
set_option maxRecDepth 100000
set_option linter.unusedVariables false
namespace Mine

section
variable {c : Cx} {σ σ' : List (Str × Ent)} {e e₁ e₂ : Expr} {d d₁ d₂ : D} {r : Res} {R : Pr} {p p' : Pos} {x f : Str} {args : List Expr} {ds : List D}

theorem name_global {A : Around} {E : Value → Shared → Prop} {g : Heap} {P : Addr → Prop} {s : Shared} {ρ : Str → Value} {ω : Str → List Addr} {Q : Value → Shared → Prop} {a : Addr} {i : Nat} (S : Sto c.w g c.env P s.heap σ ρ ω)
    (hk : c.env.kindOf f = some .globalImplicit) (hf : (f, a, i) ∈ fnTab) (h : Q (.ref a) s) (hd : (f == ("__debug__" : Str)) = false := by decide) : wpAny (model prg c.w) A (eval (.Name f p) c.env) Q E s := by
  change (let G : Prop := _; G)
  intro G
  obtain ⟨mg, g1, g2, _⟩ := S.base_now.glob
  subst G
  exact Calls.Name_function_global S.fn hk (Calls.loadGlobal_global (by rw [S.gl]; exact g1) (g2 _ _ _ hf) h) hd
theorem name_builtin {A : Around} {E : Value → Shared → Prop} {g : Heap} {P : Addr → Prop} {s : Shared} {ρ : Str → Value} {ω : Str → List Addr} {Q : Value → Shared → Prop} {v : Value} (S : Sto c.w g c.env P s.heap σ ρ ω)
    (hk : c.env.kindOf f = some .globalImplicit) (hf : f ∈ biNames) (hv : bootBuiltins f = some v) (h : Q v s) (hn : f ≠ "__name__" := by decide) (hd : (f == ("__debug__" : Str)) = false := by decide) : wpAny (model prg c.w) A (eval (.Name f p) c.env) Q E s := by
  change (let G : Prop := _; G)
  intro G
  obtain ⟨mg, g1, _, g2, _⟩ := S.base_now.glob
  subst G
  obtain ⟨mb, b1, b2⟩ := S.base_now.blt
  exact Calls.Name_function_global S.fn hk (Calls.loadGlobal_builtin (by rw [S.gl]; exact g1) (g2 _ hf) (by rw [S.bl]; exact b1) ((b2 f hn).trans hv) h) hd

theorem EvL.call {A : Around} {g : Heap} {P : Addr → Prop} {s : Shared} {ρ : Str → Value} {ω : Str → List Addr} {t : List Value → Sem Value} (ha : EvL c σ args ds) (o : OpL c.w c.q c.k t ds r) (rm : Rm c.k A) (S : Sto c.w g c.env P s.heap σ ρ ω) (pos : Pos) :
    wpAny (model prg c.w) A (spliced (backTo pos (starEach args c.env))) (fun vs s₁ => (Ks s.heap s₁.heap) ∧ wpAny (model prg c.w) A (t vs) (Pst c.q P s fun P' v h' => ResOK c.w s.heap P' v h' r) NoE s₁) NoE s :=
  wpAny_mono (ha A g P s ρ ω pos rm S) (fun vs s₁ zz => Pst.elim zz fun P₁ x₁ y₁ z₁ => ⟨x₁.ks, wpAny_mono (o A P₁ s₁ vs rm (S.ext x₁).base_now x₁.pw z₁) (fun v s' z => Pst.step x₁ y₁ z fun P' h' _ t => t.back x₁.ks) fun _ _ x => x⟩) fun _ _ x => x

theorem Ev.callB {id : String} (ha : EvL c σ (e :: args) ds) (o : OpL c.w c.q c.k (fun vs => call (.builtin id) vs) ds r) (hk : c.env.kindOf f = some .globalImplicit) (hf : f ∈ biNames) (hv : bootBuiltins f = some (.builtin id))
    (hn : f ≠ "__name__" := by decide) (hd : (f == ("__debug__" : Str)) = false := by decide) (he : starEach (e :: args) c.env = (false, eval e c.env) :: starEach args c.env := by rfl) (hpl : (backTo p (starEach args c.env)).any (·.1) = false := by rfl) :
    EvR c σ (.Call (.Name f p') (e :: args) [] p) r := fun A g P s ρ ω rm S => by
  refine wpAny_Call_Name_kw (name_builtin S hk hf hv ?_ hn hd)
  have hh := ha.call o rm S p
  rw [he] at hh ⊢
  exact Calls.callWith_builtin (by show (false || (backTo p (starEach args c.env)).any (·.1)) = false; rw [hpl]; rfl) (Calls.evalArgs_plain (wpAny_mono hh (fun vs s₁ z => z.2) fun _ _ x => x))
theorem Ev.callT {T : String} (ha : EvL c σ (e :: args) ds) (o : OpL c.w c.q c.k (fun vs => call (.type T) vs) ds r) (hk : c.env.kindOf f = some .globalImplicit) (hf : f ∈ biNames) (hv : bootBuiltins f = some (.type T))
    (hn : f ≠ "__name__" := by decide) (hd : (f == ("__debug__" : Str)) = false := by decide) (he : starEach (e :: args) c.env = (false, eval e c.env) :: starEach args c.env := by rfl) (hpl : (backTo p (starEach args c.env)).any (·.1) = false := by rfl) :
    EvR c σ (.Call (.Name f p') (e :: args) [] p) r := fun A g P s ρ ω rm S => by
  refine wpAny_Call_Name_kw (name_builtin S hk hf hv ?_ hn hd)
  have hh := ha.call o rm S p
  rw [he] at hh ⊢
  exact PySem.callWith_type (by show (false || (backTo p (starEach args c.env)).any (·.1)) = false; rw [hpl]; rfl) (Calls.evalArgs_plain (wpAny_mono hh (fun vs s₁ z => z.2) fun _ _ x => x))
theorem Ev.callF {a : Addr} {i : Nat} (ha : EvL c σ (e :: args) ds) (o : OpL c.w c.q c.k (fun vs => call (.ref a) vs) ds r) (hk : c.env.kindOf f = some .globalImplicit) (hf : (f, a, i) ∈ fnTab)
    (hd : (f == ("__debug__" : Str)) = false := by decide) (he : starEach (e :: args) c.env = (false, eval e c.env) :: starEach args c.env := by rfl) :
    EvR c σ (.Call (.Name f p') (e :: args) [] p) r := fun A g P s ρ ω rm S => by
  refine wpAny_Call_Name_kw (name_global S hk hf ?_ hd)
  change (let G : Prop := _; G)
  intro G
  obtain ⟨ob, fd, ho, h1, _⟩ := (S.base_now.fns _ _ _ hf).ex
  subst G
  have hh := ha.call o rm S p
  rw [he] at hh ⊢
  exact Calls.callWith_function (o := ob) (fd := fd) (Calls.evalArgs_plain (wpAny_mono hh (fun vs s₁ z => ⟨⟨z.1 _ _ ho, h1⟩, z.2⟩) fun _ _ x => x))
end

noncomputable def fenv (i : Nat) (L fa : Addr) (qn : Str) (cd : Value) : Env :=
  { scope := scopeAt i, locals := L, globals := mainGlobals, cells := cellsFrom (L + 1) (scopeAt i).names [], qual := qn, func := some fa, code := cd, frame := some L, builtins := builtinsNs }

noncomputable abbrev Fn (w : World) (q : Bool) (k : Nat) (a : Addr) (ds : List D) (d : D) : Prop := OpL w q k (fun vs => call (.ref a) vs) ds (.dat d)

theorem zip_mem {w : World} {P : Addr → Prop} {h : Heap} : ∀ {xs : List Str} {vs : List Value} {ds : List D}, RpL w P h vs ds → ∀ {x : Str} {d : D}, (x, d) ∈ xs.zip ds → ∃ v, (x, v) ∈ xs.zip vs ∧ Rp w P h v d
  | [], _, _, _, _, _, hm => by cases hm
  | y :: xs, _, _, .nil, _, _, hm => by cases hm
  | y :: xs, _, _, .cons a r, x, d, hm => by
    rcases List.mem_cons.mp hm with e | hm
    · cases e; exact ⟨_, .head _, a⟩
    · obtain ⟨v, h1, h2⟩ := zip_mem r hm
      exact ⟨v, .tail _ h1, h2⟩
theorem bindL_at {kd : Str → Option NameKind} : ∀ {bs : List (Str × Value)} {m : Str → Option Value} {x : Str} {v : Value}, (bs.map (·.1)).Nodup → (x, v) ∈ bs → kd x = some .local → bindL kd bs m x = some v
  | b :: bs, m, x, v, hn, hm, hk => by
    obtain ⟨y, u⟩ := b
    have hn' := List.nodup_cons.mp hn
    rcases List.mem_cons.mp hm with e | hm
    · cases e
      have : ∀ (bs : List (Str × Value)) (m : Str → Option Value), x ∉ bs.map (·.1) → m x = some v → bindL kd bs m x = some v := by
        intro bs
        induction bs with
        | nil => intro m _ h; exact h
        | cons b bs ih =>
          intro m hx h
          obtain ⟨z, t⟩ := b
          unfold bindL
          refine ih _ (fun q => hx (.tail _ q)) ?_
          split
          · show (if x = z then some t else m x) = some v; rw [if_neg (show ¬ x = z from fun q => hx (by rw [q]; exact .head _))]; exact h
          · exact h
      unfold bindL
      refine this bs _ hn'.1 ?_
      rw [if_pos hk]; simp
    · unfold bindL; exact bindL_at hn'.2 hm hk
theorem bindC_at {kd : Str → Option NameKind} : ∀ {bs : List (Str × Value)} {m : Str → Option Value} {x : Str} {v : Value}, (bs.map (·.1)).Nodup → (x, v) ∈ bs → kd x ≠ some .local → bindC kd bs m x = some v
  | b :: bs, m, x, v, hn, hm, hk => by
    obtain ⟨y, u⟩ := b
    have hn' := List.nodup_cons.mp hn
    rcases List.mem_cons.mp hm with e | hm
    · cases e
      have : ∀ (bs : List (Str × Value)) (m : Str → Option Value), x ∉ bs.map (·.1) → m x = some v → bindC kd bs m x = some v := by
        intro bs
        induction bs with
        | nil => intro m _ h; exact h
        | cons b bs ih =>
          intro m hx h
          obtain ⟨z, t⟩ := b
          unfold bindC
          refine ih _ (fun q => hx (.tail _ q)) ?_
          split
          · exact h
          · show (if x = z then some t else m x) = some v; rw [if_neg (show ¬ x = z from fun q => hx (by rw [q]; exact .head _))]; exact h
      unfold bindC
      refine this bs _ hn'.1 ?_
      rw [if_neg hk]; simp
    · unfold bindC; exact bindC_at hn'.2 hm hk

structure FnOk (i : Nat) (xs : List Str) : Prop where
  gen : (scopeAt i).isGenerator = false
  co : (scopeAt i).isCoroutine = false
  fn : (scopeAt i).kind = .function
  nd : xs.Nodup
  kinds : ∀ L : Nat, ∀ x ∈ xs, (scopeAt i).names.lookup x = some .local ∨ ((scopeAt i).names.lookup x = some .cell ∧ ((cellsFrom L (scopeAt i).names []).lookup x).isSome = true)
  apart : ∀ L x y a, (cellsFrom L (scopeAt i).names []).lookup x = some a → (cellsFrom L (scopeAt i).names []).lookup y = some a → x = y
  binds : ∀ (fd : FuncData) (vs : List Value), fd.params = argsAt i → fd.defaults = .none → fd.kwdefaults = .none → vs.length = xs.length → bindArgs fd ⟨vs, []⟩ = pure (xs.zip vs)

theorem Fn.intro {w : World} {q : Bool} {k : Nat} {f : Str} {a : Addr} {i : Nat} {xs : List Str} {ds : List D} {d : D} (hf : (f, a, i) ∈ fnTab) (ok : FnOk i xs) (hl : ds.length = xs.length)
    (h : ∀ L qn cd, Ex ⟨w, q, k, fenv i L a qn cd⟩ ((xs.zip ds).map fun y => (y.1, .dat y.2)) (bodyAt i) (.ret d)) : Fn w q (k + 1) a ds d := fun A P s vs rm B hp x => by
  change (let G : Prop := _; G)
  intro G
  obtain ⟨ob, fd, ho, e1, e2, e3, e4, e5, e6, e7, e8, e9, e10⟩ := (B.fns _ _ _ hf).ex
  subst G
  have hlv : vs.length = xs.length := by rw [x.length, hl]
  refine wpAny_call ?_
  refine codeAny_call_cells (fd := fd) (body := bodyAt i) (binds := xs.zip vs) rm.room ho e1 B.nolimit e8 e3 (ok.binds fd vs e2 e9 e10 hlv) e6 ?_ (fun s₁ y => ?_) (by rw [e4]; exact ok.co) (by rw [e4]; exact ok.gen) (by rw [e4]; exact ok.fn)
  · intro b hb
    rw [e4]
    exact ok.kinds _ b.1 (List.of_mem_zip hb).1
  · have henv : callEnvC fd s.heap.objs.size a = fenv i s.heap.objs.size a (fd.qualname ++ ".<locals>.") fd.code := by
      show newEnv _ _ _ _ _ _ _ _ _ = _
      unfold newEnv fenv
      rw [e4, e5, e7]
    rw [henv] at y ⊢
    change (let G : Prop := _; G)
    intro G
    obtain ⟨⟨⟨h₁, tk, rfl⟩, yns, ykeep, yfresh⟩, ycell, yapart, yabove⟩ := y
    subst G
    have hnd : ((xs.zip vs).map (·.1)).Nodup := by
      rw [List.map_fst_zip (by (first | lia | omega))]; exact ok.nd
    have S : Sto w s.heap (fenv i s.heap.objs.size a (fd.qualname ++ ".<locals>.") fd.code) P h₁ ((xs.zip ds).map fun y => (y.1, .dat y.2)) (fun x => ((xs.zip vs).lookup x).getD .none) (fun _ => []) := by
      refine ⟨B, ykeep, hp.ks ykeep, ok.fn, rfl, rfl, ⟨_, yns⟩, none_of_lt (Nat.le_refl _), hp.not_new, fun x c hc => ⟨⟨_, ycell x c hc⟩, Nat.ne_of_gt (yabove x c (mem_of_lookup hc)), fun hlt => ⟨none_of_lt (Nat.le_of_lt hlt), fun hP => ?_⟩⟩, fun x y c => ok.apart _ x y c, fun x e hx => ?_, fun _ _ _ _ h => (nomatch h), fun _ _ _ _ _ _ _ _ h => (nomatch h), fun _ _ _ => List.nodup_nil⟩
      · obtain ⟨o, ho⟩ := Option.isSome_iff_exists.mp (hp _ hP)
        exact Nat.lt_irrefl _ (Nat.lt_trans (Heap.lt_size ho) hlt)
      · change (let G : Prop := _; G)
        intro G
        obtain ⟨⟨x', d'⟩, hm, he⟩ := List.mem_map.mp hx
        subst G
        cases he
        obtain ⟨v, hv, rv⟩ := zip_mem x hm
        have hlk : (xs.zip vs).lookup x' = some v := by
          have : ∀ (l : List (Str × Value)), (l.map (·.1)).Nodup → (x', v) ∈ l → l.lookup x' = some v := by
            intro l
            induction l with
            | nil => intro _ h; cases h
            | cons b l ih =>
              intro hn hb
              obtain ⟨y, u⟩ := b
              have hn' := List.nodup_cons.mp hn
              rcases List.mem_cons.mp hb with e | hb
              · cases e; simp
              · rw [List.lookup_cons]
                have : (x' == y) = false := by
                  simp only [beq_eq_false_iff_ne, ne_eq]
                  intro q
                  exact hn'.1 (q ▸ List.mem_map.mpr ⟨_, hb, rfl⟩)
                rw [this]
                exact ih hn'.2 hb
          exact this _ hnd hv
        rw [hlk]
        refine ⟨?_, rfl, rv.mono (fun _ e => e) (Ks.kp ykeep)⟩
        rcases ok.kinds (s.heap.objs.size + 1) x' (List.of_mem_zip hv).1 with hk | ⟨hk, hc⟩
        · exact .loc hk yns (bindL_at hnd hv hk)
        · obtain ⟨c, hc⟩ := Option.isSome_iff_exists.mp hc
          refine .cell (.inl hk) hc ?_
          have := ycell x' c hc
          rw [bindC_at hnd hv (by show ¬ (fenv _ _ _ _ _).kindOf x' = _; show ¬ (scopeAt i).names.lookup x' = _; rw [hk]; decide)] at this
          exact this
    refine wpAny_mono (h _ _ _ (A.deeper _) s.heap P _ _ _ rm.deeper S) (fun f s' z => ?_) fun _ _ x => x.elim
    change (let G : Prop := _; G)
    intro G
    obtain ⟨P', xs', v, rfl, z1, z2, z3⟩ := z
    subst G
    exact ⟨P', ⟨z1, xs'.sub, xs'.new, z2⟩, xs'.rest, z3⟩
end Mine
end

section
open PySem PySem.W PyProof.Rows
set_option Elab.async false
set_option maxRecDepth 100000
set_option linter.unusedVariables false
namespace Mine

noncomputable def colB : Nat → Array UInt8
  | 0 => [114, 101, 100].toArray
  | 1 => [103, 114, 101, 101, 110].toArray
  | _ => [98, 108, 117, 101].toArray

theorem ok_names : FnOk 13 ["kind"] := by
  refine ⟨by rfl, by rfl, by rfl, by decide, ?_, ?_, ?_⟩
  · intro L x hx
    rcases List.mem_singleton.mp hx with rfl
    exact .inl (by rfl)
  · intro L x y a h1 h2
    cases h1
  · rintro ⟨⟩ vs rfl rfl rfl hl
    obtain ⟨v, rfl⟩ := len1 hl
    rfl
theorem mem_names : (("_law_names" : Str), 90, 13) ∈ fnTab := by decide
theorem names_lt {w : World} {q : Bool} {k : Nat} {i : Nat} (hi : i < 3) : Fn w q (k + 1) 90 [.int i] (.tup [.bytes (colB i)]) :=
  Fn.intro mem_names ok_names rfl fun L qn cd => by
    refine Ex.cons (Ex1.assign (EvR.freeze (EvR.list (EvL.cons Ev.bytes (EvL.cons Ev.bytes (EvL.cons Ev.bytes EvL.nil))))) (.inl (by rfl)) Puts.new) ?_
    refine Ex.ret (Ex1.ifT (Tst.eq (Tst.cmp Ev.name Ev.int Cmp.lt) (by simp; (first | lia | omega))) ?_)
    refine Ex.ret (Ex1.ret (Ev.tuple (EvL.cons (Ev.item (EvR.rcv Ev.name) DatR.stb Ev.name (ItemOp.lst (by (first | lia | omega)) (by (first | lia | omega)) ?_)) EvL.nil)))
    match i, hi with
    | 0, _ => rfl
    | 1, _ => rfl
    | 2, _ => rfl
theorem names_ge {w : World} {q : Bool} {k : Nat} {i : Nat} (hi : 3 ≤ i) (hi' : i < 6) : Fn w q (k + 1) 90 [.int i] (.tup [.bytes (colB ((i - 2) % 3)), .bytes (colB ((i - 1) % 3))]) :=
  Fn.intro mem_names ok_names rfl fun L qn cd => by
    refine Ex.cons (Ex1.assign (EvR.freeze (EvR.list (EvL.cons Ev.bytes (EvL.cons Ev.bytes (EvL.cons Ev.bytes EvL.nil))))) (.inl (by rfl)) Puts.new) ?_
    refine Ex.cons (Ex1.ifF (Tst.eq (Tst.cmp Ev.name Ev.int Cmp.lt) (by simp; (first | lia | omega))) Ex.nil) ?_
    have key : ∀ j : Nat, j ≤ i → ([D.bytes (colB 0), D.bytes (colB 1), D.bytes (colB 2)])[(((i : Int) - j).fmod 3).toNat]? = some (.bytes (colB ((i - j) % 3))) := fun j hj => by
      have e : (((i : Int) - j).fmod 3).toNat = (i - j) % 3 := by
        rw [Int.fmod_eq_emod_of_nonneg _ (by decide)]; (first | lia | omega)
      rw [e]
      have : (i - j) % 3 < 3 := Nat.mod_lt _ (by decide)
      match (i - j) % 3, this with
      | 0, _ => rfl
      | 1, _ => rfl
      | 2, _ => rfl
    have lo : ∀ j : Int, 0 ≤ ((i : Int) - j).fmod 3 := fun j => Int.fmod_nonneg_of_pos _ (by decide)
    have hi2 : ∀ j : Int, ((i : Int) - j).fmod 3 < 2 ^ 63 := fun j => Int.lt_trans (Int.fmod_lt_of_pos _ (by decide)) (by decide)
    refine Ex.ret (Ex1.ret (Ev.tuple (EvL.cons (Ev.item (EvR.rcv Ev.name) DatR.stb (Ev.bin (Ev.bin Ev.name Ev.int Bin.sub) Ev.int (Bin.mod (by decide))) (ItemOp.lst (lo _) (hi2 _) (key 2 (by (first | lia | omega)))))
      (EvL.cons (Ev.item (EvR.rcv Ev.name) DatR.stb (Ev.bin (Ev.bin Ev.name Ev.int Bin.sub) Ev.int (Bin.mod (by decide))) (ItemOp.lst (lo _) (hi2 _) (key 1 (by (first | lia | omega))))) EvL.nil))))
end Mine
end

section
open PySem PySem.W PyProof.Rows
set_option Elab.async false
set_option maxRecDepth 100000
set_option linter.unusedVariables false
namespace Mine

structure Off (env : Env) (P : Addr → Prop) (σ : List (Str × Ent)) (ω : Str → List Addr) (b : Addr) : Prop where
  p : ¬ P b
  l : b ≠ env.locals
  c : ∀ y a, env.cells.lookup y = some a → b ≠ a
  o : ∀ x e, (x, e) ∈ σ → b ∉ ω x

section
variable {w : World} {g g' : Heap} {env : Env} {P : Addr → Prop} {h h' : Heap} {σ : List (Str × Ent)} {ρ : Str → Value} {ω : Str → List Addr}

theorem Sto.off (S : Sto w g env P h σ ρ ω) {wr : List Addr} (k : ∀ b o, b ∉ wr → h.get? b = some o → h'.get? b = some o) (hw : ∀ b ∈ wr, Off env P σ ω b) (hg : ∀ b ∈ wr, g.get? b = none) : Sto w g env P h' σ ρ ω := by
  have kp : Kp P h h' := fun b o hb e => k b o (fun hm => (hw b hm).p hb) e
  have same : ∀ a, (h.get? a).isSome = true → a ∉ wr → h'.get? a = h.get? a := fun a ha hn => by
    obtain ⟨o, ho⟩ := Option.isSome_iff_exists.mp ha
    rw [ho, k a o hn ho]
  obtain ⟨m, hm⟩ := S.ns
  have nl : env.locals ∉ wr := fun hm => (hw _ hm).l rfl
  refine ⟨S.base, fun b o e => k b o (fun hm => ?_) (S.ks b o e), fun b hb => ?_, S.fn, S.gl, S.bl, ⟨m, hm.at' fun o e => k _ o nl e⟩, S.lg, S.lp, fun x c hc => ?_, S.capart, fun x e hx => ?_, fun x e hx a ha => ?_, S.apart, S.nodup⟩
  · rw [hg b hm] at e; cases e
  · obtain ⟨o, ho⟩ := Option.isSome_iff_exists.mp (S.pw b hb)
    rw [kp b o hb ho]; rfl
  · change (let G : Prop := _; G)
    intro G
    obtain ⟨⟨v, o, ho, r⟩, h2⟩ := S.cells x c hc
    subst G
    exact ⟨⟨v, o, k c o (fun hm => (hw c hm).c x c hc rfl) ho, r⟩, h2⟩
  · obtain ⟨h1, h2⟩ := S.vals x e hx
    refine ⟨?_, h2.mono (fun _ e => e) kp fun a ha => same a (S.own x e hx a ha).2.2.2.2 fun hm => (hw a hm).o x e hx ha⟩
    cases h1 with
    | loc a n e => exact .loc a (n.at' fun o e => k _ o nl e) e
    | cell a e i =>
      obtain ⟨o, ho, r⟩ := i
      exact .cell a e ⟨o, k _ o (fun hm => (hw _ hm).c _ _ e rfl) ho, r⟩
  · change (let G : Prop := _; G)
    intro G
    obtain ⟨h1, h2, h3, h4, h5⟩ := S.own x e hx a ha
    subst G
    exact ⟨h1, h2, h3, h4, by rw [same a h5 fun hm => (hw a hm).o x e hx ha]; exact h5⟩

theorem Sto.hide (S : Sto w g env P h σ ρ ω) : ∃ g', Ks g g' ∧ Sto w g' env P h σ ρ ω ∧ ∀ b, b ≠ env.locals → (∀ y a, env.cells.lookup y = some a → b ≠ a) → (∀ x e, (x, e) ∈ σ → b ∉ ω x) → (h.get? b).isSome = true → g'.get? b = h.get? b := by
  obtain ⟨l, hl⟩ : ∃ l : List Addr, ∀ a, a ∈ l ↔ a = env.locals ∨ (∃ y, env.cells.lookup y = some a ∧ env.locals < a) ∨ ∃ x e, (x, e) ∈ σ ∧ a ∈ ω x := by
    refine ⟨env.locals :: ((env.cells.filter fun p => decide (env.cells.lookup p.1 = some p.2) && decide (env.locals < p.2)).map (·.2)) ++ σ.flatMap fun y => ω y.1, fun a => ?_⟩
    simp only [List.mem_append, List.mem_cons, List.mem_map, List.mem_filter, Bool.and_eq_true, decide_eq_true_eq, List.mem_flatMap, Prod.exists]
    constructor
    · rintro ((h | ⟨y, b, ⟨h1, h2, h3⟩, rfl⟩) | ⟨x, e, h1, h2⟩)
      · exact .inl h
      · exact .inr (.inl ⟨y, h2, h3⟩)
      · exact .inr (.inr ⟨x, e, h1, h2⟩)
    · rintro (h | ⟨y, h1, h2⟩ | ⟨x, e, h1, h2⟩)
      · exact .inl (.inl h)
      · exact .inl (.inr ⟨y, a, ⟨mem_of_lookup h1, h1, h2⟩, rfl⟩)
      · exact .inr ⟨x, e, h1, h2⟩
  have kg : Ks g (hideAll h l) := fun b o e => hideAll_get l (S.ks b o e) fun hm => by
    rcases (hl b).mp hm with rfl | ⟨y, h1, h2⟩ | ⟨x, e', h1, h2⟩
    · rw [S.lg] at e; cases e
    · rw [((S.cells y b h1).2.2 h2).1] at e; cases e
    · rw [(S.own x e' h1 b h2).2.1] at e; cases e
  refine ⟨hideAll h l, kg, ⟨S.base.ks kg, fun b o e => of_hideAll l e, S.pw, S.fn, S.gl, S.bl, S.ns, hideAll_none l ((hl _).mpr (.inl rfl)), S.lp, fun x c hc => ⟨(S.cells x c hc).1, (S.cells x c hc).2.1, fun hlt => ⟨hideAll_none l ((hl _).mpr (.inr (.inl ⟨x, hc, hlt⟩))), ((S.cells x c hc).2.2 hlt).2⟩⟩, S.capart, S.vals, fun x e hx a ha => ?_, S.apart, S.nodup⟩, fun b h1 h2 h3 h4 => ?_⟩
  · change (let G : Prop := _; G)
    intro G
    obtain ⟨q1, q2, q3, q4, q5⟩ := S.own x e hx a ha
    subst G
    exact ⟨q1, hideAll_none l ((hl _).mpr (.inr (.inr ⟨x, e, hx, ha⟩))), q3, q4, q5⟩
  · obtain ⟨o, ho⟩ := Option.isSome_iff_exists.mp h4
    rw [ho]
    refine hideAll_get l ho fun hm => ?_
    rcases (hl b).mp hm with h | ⟨y, h5, _⟩ | ⟨x, e, h5, h6⟩
    · exact h1 h
    · exact h2 y b h5 rfl
    · exact h3 x e h5 h6
theorem Sto.base_of (S : Sto w g' env P h σ ρ ω) (B : Base w g) (k : Ks g g') : Sto w g env P h σ ρ ω := by
  have no : ∀ b, g'.get? b = none → g.get? b = none := fun b e => by
    cases q : g.get? b with
    | none => rfl
    | some o => rw [k b o q] at e; cases e
  exact { S with base := B, ks := k.trans S.ks, lg := no _ S.lg, cells := fun x c hc => ⟨(S.cells x c hc).1, (S.cells x c hc).2.1, fun hl => ⟨no _ ((S.cells x c hc).2.2 hl).1, ((S.cells x c hc).2.2 hl).2⟩⟩, own := fun x e hx a ha => ⟨(S.own x e hx a ha).1, no _ (S.own x e hx a ha).2.1, (S.own x e hx a ha).2.2⟩ }
end

structure IterAt (c : Cx) (A : Around) (P : Addr → Prop) (s : Shared) (ds : List D) (it : Value) (s₂ : Shared) : Prop where
  ex : ∃ P' I fp wr n Pn St, it = .ref I ∧ n = ds.length ∧ Ext P P' s.heap s₂.heap ∧ Rest c.q s s₂ ∧ Walks prg c.w A I fp wr n Pn St ∧ St 0 s₂.heap ∧ (∀ b ∈ wr, s.heap.get? b = none ∧ ¬ P' b ∧ (s₂.heap.get? b).isSome = true) ∧
    (∀ b ∈ fp, b ∈ wr ∨ P' b) ∧ (∀ i v, i < ds.length → Pn i v → ∀ P'' h', (∀ b, P' b → P'' b) → Kp P' s₂.heap h' → ∃ d, ds[i]? = some d ∧ Rp c.w P'' h' v d) ∧
    (∀ i h, St i h → ∀ b ∈ wr, (h.get? b).isSome = true) ∧ (∀ i h elts x p v, St i h → ∀ (A : Around) (s : Shared) (Q : Unit → Shared → Prop) (E : Value → Shared → Prop), s.heap = h → Q () s → wpAny (model prg c.w) A (letOwnedTupleGo (.Tuple elts x p) (.ref I) v) Q E s)

noncomputable def Itr (c : Cx) (σ : List (Str × Ent)) (iter : Expr) (ds : List D) : Prop :=
  ∀ A g P s ρ ω, Rm c.k A → Sto c.w g c.env P s.heap σ ρ ω →
    wpAny (model prg c.w) A (eval iter c.env) (fun x s₁ => wpAny (model prg c.w) A (pyIter x) (fun it s₂ => IterAt c A P s ds it s₂) NoE s₁) NoE s

theorem let_go {A : Around} {w : World} {s : Shared} {I : Addr} {o : Obj} {vs : Array Value} {elts : List Expr} {x : Nat} {p : Pos} {v : Value} {Q : Unit → Shared → Prop} {E : Value → Shared → Prop} {T : String} (ho : s.heap.get? I = some o) (hc : o.cls = .type T) (hd : o.data = .fields vs)
    (hT : ["enumerate", "zip", "dict_itemiterator", "dict_reverseitemiterator", "odict_iterator", "itertools.zip_longest", "itertools.pairwise"].contains T = false) (h : Q () s) : wpAny (model prg w) A (letOwnedTupleGo (.Tuple elts x p) (.ref I) v) Q E s := by
  unfold letOwnedTupleGo
  cases v with
  | ref a =>
    refine wpAny_bind (wpAny_load ho ?_)
    rw [hc, hd]
    dsimp only
    rw [hT]
    exact wpAny_pure h
  | _ => exact wpAny_pure h

section
variable {c : Cx} {σ : List (Str × Ent)} {iter : Expr} {ds : List D}
theorem Itr.lst (h : Ev c σ iter (.lst ds)) : Itr c σ iter ds := fun A g P s ρ ω rm S =>
  wpAny_mono (h A g P s ρ ω rm S) (fun v s₁ zz => Pst.elim zz fun P₁ x₁ y₁ z₁ => by
    change (let G : Prop := _; G)
    intro G
    obtain ⟨a, vs, rfl, pa, la, xa⟩ := Rp.inv z₁
    subst G
    refine wpAny_pyIter_list la.isList ?_
    have hlt : a < s₁.heap.objs.size := la.lt
    have x₂ := Ext.push0 (P := P₁) x₁.pw { cls := .type "list_iterator", data := .fields #[.ref a, .int 0 0] }
    have hlen : vs.toArray.size = ds.length := by rw [List.size_toArray, xa.length]
    refine ⟨P₁, s₁.heap.objs.size, _, _, _, _, _, rfl, hlen, x₁.trans x₂, y₁.trans Rest.of, Walks.list rm.1 s₁.heap.objs.size a (Nat.ne_of_lt hlt) vs.toArray, ⟨⟨_, Heap.get?_push_size _ rfl, rfl, rfl⟩, la.isList.push _⟩, fun b hb => ?_, fun b hb => ?_, fun i v hi hv P'' h' hs kp => ?_, fun i h st b hb => ?_, fun i h elts x p v st A s Q E e hq => ?_⟩
    · rw [List.mem_singleton.mp hb]
      refine ⟨?_, x₁.pw.not_new, by rw [Heap.get?_push_size _ rfl]; rfl⟩
      cases q : s.heap.get? s₁.heap.objs.size with
      | none => rfl
      | some o => exact absurd (Heap.lt_size (x₁.ks _ _ q)) (Nat.lt_irrefl _)
    · rcases List.mem_cons.mp hb with rfl | hb
      · exact .inl (.head _)
      · rw [List.mem_singleton.mp hb]; exact .inr pa
    · obtain ⟨d, h1, h2⟩ := (x₂.rpl xa).get' (k := i) (v := v) (by simpa using hv)
      exact ⟨d, h1, h2.mono hs kp⟩
    · change (let G : Prop := _; G)
      intro G
      obtain ⟨⟨o, ho, _⟩, _⟩ := st
      subst G
      rw [List.mem_singleton.mp hb, ho]; rfl
    · change (let G : Prop := _; G)
      intro G
      obtain ⟨⟨o, ho, h1, h2⟩, _⟩ := st
      subst G
      subst e
      exact let_go ho h1 h2 (by decide) hq) fun _ _ x => x
theorem Itr.tup (h : Ev c σ iter (.tup ds)) : Itr c σ iter ds := fun A g P s ρ ω rm S =>
  wpAny_mono (h A g P s ρ ω rm S) (fun v s₁ zz => Pst.elim zz fun P₁ x₁ y₁ z₁ => by
    change (let G : Prop := _; G)
    intro G
    obtain ⟨a, vs, rfl, pa, la, xa⟩ := Rp.inv z₁
    subst G
    have la' : s₁.heap.IsTuple a vs.toArray := la.isTup
    refine wpAny_pyIter_tuple la' ?_
    have hlt : a < s₁.heap.objs.size := by obtain ⟨n, ho⟩ := la; exact Heap.lt_size ho
    have x₂ := Ext.push0 (P := P₁) x₁.pw { cls := .type "tuple_iterator", data := .fields #[.ref a, .int 0 0] }
    have hlen : vs.toArray.size = ds.length := by rw [List.size_toArray, xa.length]
    refine ⟨P₁, s₁.heap.objs.size, _, _, _, _, _, rfl, hlen, x₁.trans x₂, y₁.trans Rest.of, Walks.tuple rm.1 s₁.heap.objs.size a (Nat.ne_of_lt hlt) vs.toArray, ⟨⟨_, Heap.get?_push_size _ rfl, rfl, rfl⟩, la'.at fun o e => Heap.get?_push_of_some _ e⟩, fun b hb => ?_, fun b hb => ?_, fun i v hi hv P'' h' hs kp => ?_, fun i h st b hb => ?_, fun i h elts x p v st A s Q E e hq => ?_⟩
    · rw [List.mem_singleton.mp hb]
      refine ⟨?_, x₁.pw.not_new, by rw [Heap.get?_push_size _ rfl]; rfl⟩
      cases q : s.heap.get? s₁.heap.objs.size with
      | none => rfl
      | some o => exact absurd (Heap.lt_size (x₁.ks _ _ q)) (Nat.lt_irrefl _)
    · rcases List.mem_cons.mp hb with rfl | hb
      · exact .inl (.head _)
      · rw [List.mem_singleton.mp hb]; exact .inr pa
    · obtain ⟨d, h1, h2⟩ := (x₂.rpl xa).get' (k := i) (v := v) (by simpa using hv)
      exact ⟨d, h1, h2.mono hs kp⟩
    · change (let G : Prop := _; G)
      intro G
      obtain ⟨⟨o, ho, _⟩, _⟩ := st
      subst G
      rw [List.mem_singleton.mp hb, ho]; rfl
    · change (let G : Prop := _; G)
      intro G
      obtain ⟨⟨o, ho, h1, h2⟩, _⟩ := st
      subst G
      subst e
      exact let_go ho h1 h2 (by decide) hq) fun _ _ x => x

noncomputable def intsTo (n : Nat) : List D := (List.range n).map fun i : Nat => D.int (i : Int)
theorem intsTo_length (n : Nat) : (intsTo n).length = n := by simp [intsTo]
theorem intsTo_get {n i : Nat} {d : D} (h : (intsTo n)[i]? = some d) : i < n ∧ d = .int (i : Int) := by
  have hi : i < n := by have := (List.getElem?_eq_some_iff.mp h).1; simpa [intsTo_length] using this
  simp only [intsTo, List.getElem?_map, List.getElem?_range hi, Option.map_some, Option.some.injEq] at h
  exact ⟨hi, h.symm⟩
theorem Itr.range {e : Expr} {n : Int} {f : Str} {p p' : Pos} (h : Ev c σ e (.int n)) (hk : c.env.kindOf f = some .globalImplicit) (hlo : -(2 ^ 62) ≤ n) (hhi : n < 2 ^ 62) (hf : f = "range" := by rfl)
    (he : starEach [e] c.env = [(false, eval e c.env)] := by rfl) : Itr c σ (.Call (.Name f p') [e] [] p) (intsTo n.toNat) := fun A g P s ρ ω rm S => by
  subst hf
  refine wpAny_Call_Name_kw (name_builtin S hk (by decide) (by first | exact boot_range | decide +kernel) ?_ (by decide))
  rw [he]
  refine PySem.callWith_type rfl (Calls.evalArgs_plain (Calls.spliced_cons (wpAny_mono (h A g P s ρ ω rm S) (fun v s₁ zz => Pst.elim zz fun P₁ x₁ y₁ z₁ => Calls.spliced_nil ?_) fun _ _ x => x)))
  obtain ⟨t, rfl⟩ := Rp.inv z₁
  have hs : Builtin.Range.small 0 n 1 = true := small_one (by decide) (by decide) hlo hhi
  have hz : Builtin.Range.rangeSize 0 n 1 = (n.toNat : Int) := by rw [rangeSize_nat]; congr 1; (first | lia | omega)
  refine call_range_1 ?_
  have x₂ := Ext.push0 (P := P₁) x₁.pw { cls := .type "range", data := .fields #[.int 0 s₁.toks, .int n t, .int 1 (s₁.toks + 1)] }
  refine wpAny_pyIter_range (IsRange.new _ _ _ _ _ _ _) hs ?_
  have x₃ := Ext.push0 (P := P₁) x₂.pw { cls := .type "range_iterator", data := .fields #[rawInt 0, rawInt (Builtin.Range.rangeSize 0 n 1), rawInt 1] }
  have xx := (x₁.trans x₂).trans x₃
  have hW := Walks.range (prog := prg) (w := c.w) rm.1 (s₁.heap.push { cls := .type "range", data := .fields #[.int 0 s₁.toks, .int n t, .int 1 (s₁.toks + 1)] }).objs.size 0 1 n.toNat
  have hl := intsTo_length n.toNat
  refine ⟨P₁, _, _, _, _, _, _, rfl, hl.symm, xx, (y₁.trans Rest.of).trans Rest.of, hW, ?_, fun b hb => ?_, fun b hb => .inl hb, fun i v hi hv P'' h' hs kp => ?_, fun i h st b hb => ?_, fun i h elts x p v st A s Q E e hq => ?_⟩
  · have := Heap.get?_push_size (s₁.heap.push { cls := .type "range", data := .fields #[.int 0 s₁.toks, .int n t, .int 1 (s₁.toks + 1)] }) (o := { cls := .type "range_iterator", data := .fields #[rawInt 0, rawInt (Builtin.Range.rangeSize 0 n 1), rawInt 1] }) rfl
    rw [hz] at this
    rw [hz]
    show Heap.get? _ _ = _
    rw [this]
    simp [rawInt]
  · rw [List.mem_singleton.mp hb]
    refine ⟨?_, fun hp => ?_, by rw [Heap.get?_push_size _ rfl]; rfl⟩
    · cases q : s.heap.get? (s₁.heap.push _).objs.size with
      | none => rfl
      | some o => exact absurd (Heap.lt_size ((x₁.trans x₂).ks _ _ q)) (Nat.lt_irrefl _)
    · exact x₂.pw.not_new hp
  · obtain ⟨t, rfl⟩ := hv
    rw [hl] at hi
    exact ⟨.int (i : Int), by simp [intsTo, hi], by simpa using Rp.int (i : Int) t⟩
  · rw [List.mem_singleton.mp hb, show h.get? _ = _ from st]; rfl
  · subst e
    exact let_go (T := "range_iterator") st rfl rfl (by decide) hq
theorem RpE.keys {w : World} {P : Addr → Prop} {h : Heap} {kvs : List (Int × Value)} {es : List (Int × D)} (x : RpE w P h kvs es) : kvs.map (·.1) = es.map (·.1) := by
  induction kvs generalizing es with
  | nil => cases x; rfl
  | cons kv kvs ih => cases x with | cons a r => rw [List.map_cons, List.map_cons, ih r]
theorem Itr.dct {es : List (Int × D)} (h : Ev c σ iter (.dct es)) : Itr c σ iter (es.map fun e => D.int e.1) := fun A g P s ρ ω rm S =>
  wpAny_mono (h A g P s ρ ω rm S) (fun v s₁ zz => Pst.elim zz fun P₁ x₁ y₁ z₁ => by
    change (let G : Prop := _; G)
    intro G
    obtain ⟨a, kvs, rfl, pa, lo, la, xa⟩ := Rp.inv z₁
    subst G
    change (let G : Prop := _; G)
    intro G
    obtain ⟨o, es', ep, ho, l1, l2, l3, l4, l5⟩ := la
    subst G
    have la' : Heap.DictAt (intKind prg c.w) s₁.heap a kvs ep := ⟨o, es', ho, l1, l2, l3, l4, l5⟩
    have hlt : a < s₁.heap.objs.size := Heap.lt_size ho
    refine wpAny_pyIter_dict lo la' ?_
    have x₂ := Ext.push0 (P := P₁) x₁.pw { cls := .type "dict_keyiterator", data := .fields #[.ref a, .int 0 0, .int (kvs.length : Int) 0, .int (ep : Int) 0] }
    have hlen : kvs.length = (es.map fun e => D.int e.1).length := by rw [xa.length, List.length_map]
    refine ⟨P₁, s₁.heap.objs.size, _, _, _, _, _, rfl, hlen, x₁.trans x₂, y₁.trans Rest.of, Walks.dictKeys rm.1 s₁.heap.objs.size a (Nat.ne_of_lt hlt) kvs ep, ⟨⟨_, Heap.get?_push_size _ rfl, rfl, by rfl⟩, la'.at' fun o e => Heap.get?_push_of_some _ e⟩, fun b hb => ?_, fun b hb => ?_, fun i v hi hv P'' h' hs kp => ?_, fun i h st b hb => ?_, fun i h elts x p v st A s Q E e hq => ?_⟩
    · rw [List.mem_singleton.mp hb]
      refine ⟨?_, x₁.pw.not_new, by rw [Heap.get?_push_size _ rfl]; rfl⟩
      cases q : s.heap.get? s₁.heap.objs.size with
      | none => rfl
      | some o => exact absurd (Heap.lt_size (x₁.ks _ _ q)) (Nat.lt_irrefl _)
    · rcases List.mem_cons.mp hb with rfl | hb
      · exact .inl (.head _)
      · rw [List.mem_singleton.mp hb]; exact .inr pa
    · change (let G : Prop := _; G)
      intro G
      obtain ⟨k, x, h1, h2⟩ := hv
      subst G
      obtain ⟨t, rfl⟩ := Value.isInt_shape h2
      have h3 : (kvs.map (·.1))[i]? = some k := by rw [List.getElem?_map, h1]; rfl
      rw [xa.keys] at h3
      refine ⟨.int k, ?_, .int k t⟩
      rw [List.getElem?_map] at h3 ⊢
      cases q : es[i]? with
      | none => rw [q] at h3; cases h3
      | some e => rw [q] at h3; cases h3; rfl
    · change (let G : Prop := _; G)
      intro G
      obtain ⟨⟨o, ho, _⟩, _⟩ := st
      subst G
      rw [List.mem_singleton.mp hb, ho]; rfl
    · change (let G : Prop := _; G)
      intro G
      obtain ⟨⟨o, ho, h1, h2⟩, _⟩ := st
      subst G
      subst e
      exact let_go ho h1 h2 (by decide) hq) fun _ _ x => x
end
end Mine
end

section
open PySem PySem.W PyProof.Rows
set_option Elab.async false
set_option maxRecDepth 100000
set_option linter.unusedVariables false
namespace Mine

theorem Sto.sub {w : World} {g : Heap} {env : Env} {P : Addr → Prop} {h : Heap} {σ σ' : List (Str × Ent)} {ρ : Str → Value} {ω : Str → List Addr} (S : Sto w g env P h σ' ρ ω) (hs : Sub σ σ') : Sto w g env P h σ ρ ω :=
  { S with vals := fun y e m => S.vals y e (hs y e m), own := fun y e m => S.own y e (hs y e m), apart := fun y e z e' m m' => S.apart y e z e' (hs y e m) (hs z e' m'), nodup := fun y e m => S.nodup y e (hs y e m) }
theorem XS.base_of {c : Cx} {g g' : Heap} {P P' : Addr → Prop} {s s' : Shared} (x : XS c g' P P' s s') (k : Ks g g') : XS c g P P' s s' :=
  ⟨x.sub, fun b e => (x.new b e).imp id (fun z => by
    cases q : g.get? b with
    | none => rfl
    | some o => (rw [k b o q] at z; cases z)), x.kp, x.rest⟩

noncomputable def outOf (Inv : Nat → List (Str × Ent)) (n : Nat) : Option (Nat × D) → Out
  | none => .nxt (Inv n)
  | some (_, d) => .ret d

section
variable {c : Cx} {σ : List (Str × Ent)} {iter : Expr} {ds : List D} {x : Str} {body : List Stmt} {p px : Pos}

theorem Ex1.for' (Inv : Nat → List (Str × Ent)) (stop : Option (Nat × D)) (hi : Itr c σ iter ds) (hw : Wr c.env x) (h0 : Sub (Inv 0) σ)
    (turn : ∀ i d, ds[i]? = some d → (∀ m dd, stop = some (m, dd) → i < m) → ∃ σ', Puts x (.dat d) (Inv i) σ' ∧ Ex c σ' body (.nxt (Inv (i + 1))))
    (last : ∀ m dd, stop = some (m, dd) → ∃ d, ds[m]? = some d ∧ ∃ σ', Puts x (.dat d) (Inv m) σ' ∧ Ex c σ' body (.ret dd))
    (hs : ∀ v, foldedSetIterable iter c.env v = pure v := by intro _; rfl) : Ex1 c σ (.For (.Name x px) iter body [] p) (outOf Inv ds.length stop) := by
  intro A g P s ρ ω rm S
  refine wpAny_For (wpAny_mono (hi A g P s ρ ω rm S) (fun xv s₁ h₁ => wpAny_mono h₁ (fun it s₂ h₂ => ?_) fun _ _ e => e) fun _ _ e => e) hs
  change (let G : Prop := _; G)
  intro G
  obtain ⟨P', I, fp, wr, n, Pn, St, rfl, hn, x₂, y₂, W, st0, hwr, hfp, hP, hsome', hgo⟩ := h₂.ex
  subst G
  have S₂ := (S.ext x₂).sub h0
  have gw : ∀ b ∈ wr, g.get? b = none := fun b hb => by
    cases q : g.get? b with
    | none => rfl
    | some o => have := (hwr b hb).1; rw [S.ks b o q] at this; cases this
  have mlen : ∀ m dd, stop = some (m, dd) → m < n := fun m dd h => by
    obtain ⟨d, hd, _⟩ := last m dd h
    rw [hn]; exact (List.getElem?_eq_some_iff.mp hd).1
  refine codeAny_forLoop (fun k s' => ∃ i Pi ρi ωi, i ≤ n ∧ k = n + 1 - i ∧ (∀ m dd, stop = some (m, dd) → i ≤ m) ∧ Sto c.w g c.env Pi s'.heap (Inv i) ρi ωi ∧ XS c g P' Pi s₂ s' ∧ St i s'.heap ∧
    ∀ b ∈ wr, Off c.env Pi (Inv i) ωi b ∧ (s'.heap.get? b).isSome = true) ?_ (n + 1) ⟨0, P', ρ, ω, Nat.zero_le _, rfl, fun _ _ _ => Nat.zero_le _, S₂, XS.refl, st0, fun b hb => ?_⟩
  · intro k s' hI0
    change (let G : Prop := _; G)
    intro G
    obtain ⟨i, Pi, ρi, ωi, hin, rfl, hstop, Si, xi, sti, offi⟩ := hI0
    subst G
    have kwp : ∀ {h' : Heap}, (∀ b o, b ∉ wr → s'.heap.get? b = some o → h'.get? b = some o) → Kp Pi s'.heap h' := fun hk b o hb e => hk b o (fun hm => (offi b hm).1.p hb) e
    by_cases hlt : i < n
    · refine W.item i _ _ _ hlt sti fun v h' tk hPn st' hk => ?_
      have S1 := Si.off hk (fun b hb => (offi b hb).1) gw
      obtain ⟨d, hd, rv⟩ := hP i v (hn ▸ hlt) hPn Pi h' xi.sub fun b o hb e => kwp hk b o (xi.sub b hb) (xi.kp b o hb e)
      have hh : ∃ σ' o, Puts x (.dat d) (Inv i) σ' ∧ Ex c σ' body o ∧ (o = .nxt (Inv (i + 1)) ∧ (∀ m dd, stop = some (m, dd) → i + 1 ≤ m) ∨ ∃ dd, stop = some (i, dd) ∧ o = .ret dd) := by
        by_cases hm : ∃ dd, stop = some (i, dd)
        · obtain ⟨dd, hm⟩ := hm
          change (let G : Prop := _; G)
          intro G
          obtain ⟨d', hd', σ', h1, h2⟩ := last i dd hm
          subst G
          rw [hd] at hd'; cases hd'
          exact ⟨σ', _, h1, h2, .inr ⟨dd, hm, rfl⟩⟩
        · have hlt' : ∀ m dd, stop = some (m, dd) → i < m := fun m dd h => Nat.lt_of_le_of_ne (hstop m dd h) fun e => hm ⟨dd, e ▸ h⟩
          obtain ⟨σ', h1, h2⟩ := turn i d hd hlt'
          exact ⟨σ', _, h1, h2, .inl ⟨rfl, hlt'⟩⟩
      change (let G : Prop := _; G)
      intro G
      obtain ⟨σ', o, hput, hex, ho⟩ := hh
      subst G
      refine wpAny_assign_Name (S1.store (NewEnt.dat rv) hput hw fun h'' tk' S2 kp same => ?_)
      change (let G : Prop := _; G)
      intro G
      obtain ⟨g', kg, S3, hg'⟩ := S2.hide
      subst G
      have wk : ∀ b ∈ wr, (h''.get? b).isSome = true ∧ h''.get? b = h'.get? b ∧ g'.get? b = h''.get? b := fun b hb => by
        have hsb := same b (offi b hb).1.l fun y a e _ => (offi b hb).1.c y a e
        have hsome : (h'.get? b).isSome = true := hsome' _ _ st' b hb
        have h2 : (h''.get? b).isSome = true := by rw [hsb]; exact hsome
        refine ⟨h2, hsb, hg' b (offi b hb).1.l (offi b hb).1.c (fun y e hy => ?_) h2⟩
        rcases hput y e hy with ⟨rfl, rfl⟩ | ⟨hne, hm⟩
        · simp [upO]
        · simp only [upO, if_neg hne]; exact (offi b hb).1.o y e hm
      refine wpAny_mono (hex A g' Pi _ _ _ rm S3) (fun f s₄ z => ?_) fun _ _ x => x.elim
      obtain ⟨P4, x4, z⟩ := z
      have xx : XS c g P' P4 s₂ s₄ := xi.trans ((⟨fun _ e => e, fun _ e => .inl e, fun b o hb e => kp b o hb (kwp hk b o hb e), Rest.of⟩ : XS c g Pi Pi s' { s' with heap := h'', toks := tk' }).trans (x4.base_of kg))
      rcases ho with ⟨rfl, hst⟩ | ⟨dd, hst, rfl⟩
      · change (let G : Prop := _; G)
        intro G
        obtain ⟨rfl, ρ4, ω4, S4⟩ := z
        subst G
        refine ⟨n + 1 - (i + 1), by (first | lia | omega), i + 1, P4, ρ4, ω4, hlt, rfl, hst, S4.base_of S.base kg, xx, ?_, fun b hb => ?_⟩
        · refine W.frame _ _ _ st' fun b hb o e => ?_
          rcases hfp b hb with hbw | hbp
          · obtain ⟨w1, w2, w3⟩ := wk b hbw
            exact S4.ks b o (by rw [w3, w2]; exact e)
          · exact x4.kp b o (xi.sub b hbp) (kp b o (xi.sub b hbp) e)
        · obtain ⟨w1, w2, w3⟩ := wk b hb
          rw [← w3] at w1
          obtain ⟨ob, hob⟩ := Option.isSome_iff_exists.mp w1
          refine ⟨⟨fun hp => ?_, (offi b hb).1.l, (offi b hb).1.c, fun y e hy hm => ?_⟩, by rw [S4.ks b ob hob]; rfl⟩
          · rcases x4.new b hp with h | h
            · exact (offi b hb).1.p h
            · rw [hob] at h; cases h
          · have := (S4.own y e hy b hm).2.1
            rw [hob] at this; cases this
      · change (let G : Prop := _; G)
        intro G
        obtain ⟨v', rfl, k4, p4, r4⟩ := z
        subst G
        subst hst
        exact ⟨P4, (XS.of_ext S.ks x₂ y₂).trans xx, v', rfl, kg.trans k4, p4, r4⟩
    · have hie : i = n := by (first | lia | omega)
      subst hie
      refine W.done _ _ _ sti fun h' tk hk => wpAny_execs_nil ?_
      have hst : stop = none := by
        cases q : stop with
        | none => rfl
        | some md =>
          obtain ⟨m, dd⟩ := md
          have h1 := mlen m dd q
          have h2 := hstop m dd q
          (first | lia | omega)
      subst hst
      refine ⟨Pi, (XS.of_ext S.ks x₂ y₂).trans (xi.trans ⟨fun _ e => e, fun _ e => .inl e, kwp hk, Rest.of⟩), rfl, ρi, ωi, ?_⟩
      rw [← hn]
      exact Si.off hk (fun b hb => (offi b hb).1) gw
  · obtain ⟨h1, h2, h3⟩ := hwr b hb
    refine ⟨⟨h2, fun e => ?_, fun y a ha e => ?_, fun y e hy hm => ?_⟩, h3⟩
    · change (let G : Prop := _; G)
      intro G
      obtain ⟨m, o, _, _, ho, _⟩ := S.ns
      subst G
      rw [e, ho] at h1; cases h1
    · change (let G : Prop := _; G)
      intro G
      obtain ⟨⟨u, o, ho, _⟩, _⟩ := S.cells y a ha
      subst G
      rw [e, ho] at h1; cases h1
    · have := (S.own y e (h0 y e hy) b hm).2.2.2.2
      rw [h1] at this; cases this
end
end Mine
end

section
open PySem PySem.W PyProof.Rows
set_option Elab.async false
set_option maxRecDepth 100000
set_option linter.unusedVariables false
namespace Mine

section
variable {w : World} {g : Heap} {env : Env} {P : Addr → Prop} {h h' : Heap} {σ σ' : List (Str × Ent)} {ρ : Str → Value} {ω : Str → List Addr} {x : Str}
theorem Sto.mut {e en : Ent} {a : Addr} (S : Sto w g env P h σ ρ ω) (hm : (x, e) ∈ σ) (ha : a ∈ ω x) (hs : Heap.SameBut a h h') (hi : (h'.get? a).isSome = true) (hn : EntOK w P h' (ρ x) en (ω x)) (hp : Puts x en σ σ') : Sto w g env P h' σ' ρ ω := by
  change (let G : Prop := _; G)
  intro G
  obtain ⟨a1, a2, a3, a4, a5⟩ := S.own x e hm a ha
  subst G
  have kp : Kp P h h' := fun b o hb e => (hs.2 b fun z => a1 (z ▸ hb)).trans e
  obtain ⟨m, hm'⟩ := S.ns
  have ex : ∀ y e', (y, e') ∈ σ' → ∃ e'', (y, e'') ∈ σ := fun y e' hy => by
    rcases hp y e' hy with ⟨rfl, _⟩ | ⟨_, h⟩
    · exact ⟨e, hm⟩
    · exact ⟨_, h⟩
  refine ⟨S.base, fun b o e => (hs.2 b fun z => ?_).trans (S.ks b o e), fun b hb => ?_, S.fn, S.gl, S.bl, ⟨m, hm'.sameBut hs (Ne.symm a3)⟩, S.lg, S.lp, fun y c hc => ?_, S.capart, fun y e' hy => ?_, fun y e' hy b hb => ?_, fun y e' z e'' hy hz hne b hb => ?_, fun y e' hy => ?_⟩
  · rw [z, a2] at e; cases e
  · rw [hs.2 b fun z => a1 (z ▸ hb)]; exact S.pw b hb
  · obtain ⟨⟨v, hv⟩, h2⟩ := S.cells y c hc
    exact ⟨⟨v, hv.sameBut hs (Ne.symm (a4 y c hc))⟩, h2⟩
  · have bk : ∀ {v}, Bnd env h y v → Bnd env h' y v := fun b => by
      cases b with
      | loc q n e => exact .loc q (n.sameBut hs (Ne.symm a3)) e
      | cell q e i => exact .cell q e (i.sameBut hs (Ne.symm (a4 _ _ e)))
    rcases hp y e' hy with ⟨rfl, rfl⟩ | ⟨hne, hy'⟩
    · exact ⟨bk (S.vals _ _ hm).1, hn⟩
    · obtain ⟨h1, h2⟩ := S.vals y e' hy'
      exact ⟨bk h1, h2.mono (fun _ e => e) kp fun b hb => hs.2 b fun z => S.apart y e' x e hy' hm hne b hb (z ▸ ha)⟩
  · obtain ⟨e'', hy'⟩ := ex y e' hy
    change (let G : Prop := _; G)
    intro G
    obtain ⟨h1, h2, h3, h4, h5⟩ := S.own y e'' hy' b hb
    subst G
    refine ⟨h1, h2, h3, h4, ?_⟩
    by_cases hba : b = a
    · rw [hba]; exact hi
    · rw [hs.2 b hba]; exact h5
  · obtain ⟨f1, hy'⟩ := ex y e' hy
    obtain ⟨f2, hz'⟩ := ex z e'' hz
    exact S.apart y f1 z f2 hy' hz' hne b hb
  · obtain ⟨f1, hy'⟩ := ex y e' hy
    exact S.nodup y f1 hy'
end

theorem set_plain {A : Around} {w : World} {s : Shared} {l : Addr} {items : Array Value} {k : Int} {t : Tok} {v : Value} {Q : Unit → Shared → Prop} {E : Value → Shared → Prop} (hl : PlainL s.heap l items) (h0 : 0 ≤ k) (hn : k < items.size) (hf : k < 2 ^ 63)
    (hQ : ∀ h', PlainL h' l (items.setIfInBounds k.toNat v) → Heap.SameBut l s.heap h' → Q () { s with heap := h' }) : wpAny (model prg w) A (setItem (.ref l) (.int k t) v) Q E s := by
  change (let G : Prop := _; G)
  intro G
  obtain ⟨o, n, ho, hc, hdn, hd⟩ := id hl
  subst G
  have hT : s.TypeIs (.ref l) "list" := ⟨o, ho, hc⟩
  have hfit := fitsIndex_of h0 hf
  clear hf
  unfold setItem
  try with_reducible refine wpAny_holding ?_
  first | refine wpAny_bind (wpAny_pure ?_) | skip
  refine wpAny_bind (wpAny_sequenceKey hT (by decide) ?_)
  refine wpAny_bind (wpAny_callSpecial?_slot (name := Str.ofString "__setitem__") hT slot_list_setitem
    (wpAny_call_entry slot_list_setitem hT entry_list_setitem ?_ (args_list_setitem _ _ _)))
  show wpAny _ _ (Builtin.List.listSubscript? (.int k t) >>= _) _ _ s
  refine wpAny_bind (wpAny_listSubscript_int hfit ?_)
  clear hfit
  obtain ⟨j, rfl⟩ := Int.eq_ofNat_of_zero_le h0
  have hj : j < items.size := by (first | lia | omega)
  have hit : items[j]? = some items[j] := Array.getElem?_eq_getElem hj
  obtain ⟨n', hd'⟩ := Obj.data_mapSeq hd (·.setIfInBounds j v)
  have fin : PlainL (s.heap.update l (Obj.mapSeq (·.setIfInBounds j v))) l (items.setIfInBounds j v) := by
    refine ⟨_, n', Heap.get?_update_self _ ho (Obj.isFreed_of_seq hd'), (Obj.cls_mapSeq ..).trans hc, ?_, hd'⟩
    change (let G : Prop := _; G)
    intro G
    obtain ⟨oc, od, dt, sl⟩ := o
    subst G
    cases dt <;> exact hdn
  show wpAny _ _ ((seqItemAt l j >>= fun r => pure (r.map (j, ·))) >>= _) _ _ s
  refine wpAny_bind (wpAny_bind (wpAny_seqItemAt ho hd (wpAny_pure ?_)))
  rw [hit]
  show wpAny _ _ (setSeqItemAt l j v >>= _) _ _ s
  refine wpAny_bind (wpAny_setSeqItemAt ho hd ?_)
  first
    | exact wpAny_bind (wpAny_pure (wpAny_pure ⟨.none, rfl, wpAny_pure (hQ _ fin (Heap.SameBut.update ..))⟩))
    | exact wpAny_pure ⟨.none, rfl, wpAny_pure (hQ _ fin (Heap.SameBut.update ..))⟩

noncomputable def dput (es : List (Int × D)) (k : Int) (d : D) : List (Int × D) := if (es.any fun e => decide (e.1 = k)) = true then es.map fun e => if e.1 = k then (e.1, d) else e else es ++ [(k, d)]
theorem RpE.any {w : World} {P : Addr → Prop} {h : Heap} {kvs : List (Int × Value)} {es : List (Int × D)} (x : RpE w P h kvs es) (k : Int) : (kvs.any fun e => decide (e.1 = k)) = es.any fun e => decide (e.1 = k) := by
  induction kvs generalizing es with
  | nil => cases x; rfl
  | cons kv kvs ih => cases x with | cons a r => rw [List.any_cons, List.any_cons, ih r]
theorem RpE.app {w : World} {P : Addr → Prop} {h : Heap} {kvs us : List (Int × Value)} {es fs : List (Int × D)} (x : RpE w P h kvs es) (y : RpE w P h us fs) : RpE w P h (kvs ++ us) (es ++ fs) := by
  induction kvs generalizing es with
  | nil => cases x; exact y
  | cons kv kvs ih => cases x with | cons a r => exact .cons a (ih r)
theorem RpE.repl {w : World} {P : Addr → Prop} {h : Heap} {v : Value} {d : D} (hv : Rp w P h v d) {kvs : List (Int × Value)} {es : List (Int × D)} (x : RpE w P h kvs es) (k : Int) :
    RpE w P h (kvs.map fun e => if e.1 = k then (e.1, v) else e) (es.map fun e => if e.1 = k then (e.1, d) else e) := by
  induction kvs generalizing es with
  | nil => cases x; exact .nil
  | cons kv kvs ih =>
    cases x with
    | cons a r =>
      rename_i k' u d' es
      rw [List.map_cons, List.map_cons]
      by_cases hk : k' = k
      · rw [if_pos hk, if_pos hk]; exact .cons hv (ih r)
      · rw [if_neg hk, if_neg hk]; exact .cons a (ih r)
theorem RpE.put {w : World} {P : Addr → Prop} {h : Heap} {v : Value} {d : D} {kvs : List (Int × Value)} {es : List (Int × D)} (x : RpE w P h kvs es) (k : Int) (hv : Rp w P h v d) : RpE w P h (stored kvs k v) (dput es k d) := by
  unfold stored dput
  rw [x.any k]
  split
  · exact x.repl hv k
  · exact x.app (.cons hv .nil)

section
variable {c : Cx} {σ σ' : List (Str × Ent)} {x : Str} {p p' p'' : Pos} {val idx : Expr} {d : D} {ds : List D} {es : List (Int × D)} {i : Int}
theorem Ex1.setL (hv : Ev c σ val d) (hi : Ev c σ idx (.int i)) (hx : σ.lookup x = some (.lst ds)) (h0 : 0 ≤ i) (h1 : i.toNat < ds.length) (h2 : i < 2 ^ 63) (hp : Puts x (.lst (ds.set i.toNat d)) σ σ')
    (hs : swapsWith val (some (.Subscript (.Name x p'') idx p')) p.line c.env = pure false := by rfl) (hn : (x == ("__classdict__" : Str)) = false := by decide) (hd : (x == ("__debug__" : Str)) = false := by decide) : Ex1 c σ (.Assign [.Subscript (.Name x p'') idx p'] val p) (.nxt σ') := fun A g P s ρ ω rm S => by
  have hm := mem_of_lookup hx
  refine wpAny_Assign_Subscript (wpAny_mono (hv A g P s ρ ω rm S) (fun v s₁ zz => Pst.elim zz fun P₁ x₁ y₁ z₁ => ?_) fun _ _ x => x) hs
  have S₁ := S.ext x₁
  refine wpAny_Name (S₁.load (S₁.vals x _ hm).1 hn ?_) hd
  refine wpAny_mono (hi A g P₁ s₁ ρ ω rm S₁) (fun iv s₂ zz => Pst.elim zz fun P₂ x₂ y₂ z₂ => ?_) fun _ _ x => x
  have S₂ := S₁.ext x₂
  cases z₂
  change (let G : Prop := _; G)
  intro G
  obtain ⟨a, vs, e1, e2, e3, e4⟩ := (S₂.vals x _ hm).2
  subst G
  rw [e1]
  refine set_plain e3 h0 (by rw [List.size_toArray, e4.length]; (first | lia | omega)) h2 fun h' hl hsb => ?_
  have kp : Kp P₂ s₂.heap h' := fun b o hb e => (hsb.2 b fun z => (S₂.own x _ hm a (by rw [e2]; exact .head _)).1 (z ▸ hb)).trans e
  refine ⟨P₂, (XS.of_ext S.ks (x₁.trans x₂) (y₁.trans y₂)).trans ⟨fun _ e => e, fun _ e => .inl e, kp, Rest.of⟩, rfl, ρ, ω, ?_⟩
  change (let G : Prop := _; G)
  intro G
  obtain ⟨o, n, ho, _⟩ := id hl
  subst G
  refine S₂.mut (en := .lst (ds.set i.toNat d)) hm (a := a) (by rw [e2]; exact .head _) hsb (by rw [ho]; rfl) ⟨a, vs.set i.toNat v, e1, e2, ?_, ?_⟩ hp
  · rw [List.setIfInBounds_toArray] at hl
    exact hl
  · exact (e4.mono (fun _ e => e) kp).set i.toNat ((x₂.rp z₁).mono (fun _ e => e) kp)
theorem Ex1.setD (hv : Ev c σ val d) (hi : Ev c σ idx (.int i)) (hx : σ.lookup x = some (.dct es)) (hz : es.length ≤ sizeLine) (hp : Puts x (.dct (dput es i d)) σ σ')
    (hs : swapsWith val (some (.Subscript (.Name x p'') idx p')) p.line c.env = pure false := by rfl) (hn : (x == ("__classdict__" : Str)) = false := by decide) (hd : (x == ("__debug__" : Str)) = false := by decide) : Ex1 c σ (.Assign [.Subscript (.Name x p'') idx p'] val p) (.nxt σ') := fun A g P s ρ ω rm S => by
  have hm := mem_of_lookup hx
  refine wpAny_Assign_Subscript (wpAny_mono (hv A g P s ρ ω rm S) (fun v s₁ zz => Pst.elim zz fun P₁ x₁ y₁ z₁ => ?_) fun _ _ x => x) hs
  have S₁ := S.ext x₁
  refine wpAny_Name (S₁.load (S₁.vals x _ hm).1 hn ?_) hd
  refine wpAny_mono (hi A g P₁ s₁ ρ ω rm S₁) (fun iv s₂ zz => Pst.elim zz fun P₂ x₂ y₂ z₂ => ?_) fun _ _ x => x
  have S₂ := S₁.ext x₂
  obtain ⟨t, rfl⟩ := Rp.inv z₂
  change (let G : Prop := _; G)
  intro G
  obtain ⟨a, kvs, e1, e2, e0, e3, e4⟩ := (S₂.vals x _ hm).2
  subst G
  rw [e1]
  refine wpAny_setItem_pairs (hsz := by rw [e4.length]; exact hz) (intKind_is prg c.w i t) e3 fun h' hl hsb => ?_
  have kp : Kp P₂ s₂.heap h' := fun b o hb e => (hsb.2 b fun z => (S₂.own x _ hm a (by rw [e2]; exact .head _)).1 (z ▸ hb)).trans e
  refine ⟨P₂, (XS.of_ext S.ks (x₁.trans x₂) (y₁.trans y₂)).trans ⟨fun _ e => e, fun _ e => .inl e, kp, Rest.of⟩, rfl, ρ, ω, ?_⟩
  obtain ⟨o, ho, _⟩ := Heap.dictOf_iff.mp hl
  exact S₂.mut (en := .dct (dput es i d)) hm (a := a) (by rw [e2]; exact .head _) hsb (by rw [ho]; rfl) ⟨a, _, e1, e2, e0, hl, (e4.mono (fun _ e => e) kp).put i ((x₂.rp z₁).mono (fun _ e => e) kp)⟩ hp
theorem Ex1.append {ap : Pos} (hv : Ev c σ val d) (hx : σ.lookup x = some (.lst ds)) (hz : ds.length ≤ sizeLine) (hp : Puts x (.lst (ds ++ [d])) σ σ')
    (hi : interactive c.env = false := by rfl) (hs : swapsWith (.Call (.Attribute (.Name x p'') "append" ap) [val] [] p') none p.line c.env = pure false := by rfl)
    (hbase : attributeBase (.Name x p'') "append" c.env (eval (.Name x p'') c.env) = eval (.Name x p'') c.env := by rfl)
    (hfew : ((backTo p' (starEach [val] c.env)).all (fun x => !x.1) && (backToKw p' (keywordEach [] c.env)).all (fun x => x.1.isSome)
      && decide (([val] : List Expr).length + ([] : List Keyword).length + (if ([] : List Keyword).isEmpty then 0 else 1) < 30)) = true := by rfl)
    (hline : (ap.endLine == p'.line) = true := by rfl) (htrees : backTo p' (starEach [val] c.env) = [(false, eval val c.env)] := by rfl)
    (hn : (x == ("__classdict__" : Str)) = false := by decide) (hd : (x == ("__debug__" : Str)) = false := by decide) : Ex1 c σ (.Expr (.Call (.Attribute (.Name x p'') "append" ap) [val] [] p') p) (.nxt σ') := fun A g P s ρ ω rm S => by
  have hm := mem_of_lookup hx
  change (let G : Prop := _; G)
  intro G
  obtain ⟨a, vs, e1, e2, e3, e4⟩ := (S.vals x _ hm).2
  subst G
  refine wpAny_Expr (wpAny_Call_append hbase hfew hline htrees (wpAny_Name (S.load (S.vals x _ hm).1 hn ⟨a, vs.toArray, e1, e3, ?_⟩) hd)) hi hs
  refine wpAny_mono (hv A g P s ρ ω rm S) (fun v s₁ zz => Pst.elim zz fun P₁ x₁ y₁ z₁ => ?_) fun _ _ x => x
  have S₁ := S.ext x₁
  change (let G : Prop := _; G)
  intro G
  obtain ⟨a', vs', e1', e2', e3', e4'⟩ := (S₁.vals x _ hm).2
  subst G
  rw [e1] at e1'; cases e1'
  have hvs : vs.toArray = vs'.toArray := by
    change (let G : Prop := _; G)
    intro G
    obtain ⟨o, n, ho, hc, _, hdd⟩ := e3
    subst G
    change (let G : Prop := _; G)
    intro G
    obtain ⟨o', n', ho', hc', _, hdd'⟩ := e3'
    subst G
    rw [x₁.ks _ _ ho] at ho'; cases ho'
    rw [hdd] at hdd'; cases hdd'; rfl
  refine list_append_plainL (hsz := by rw [List.size_toArray, e4'.length]; exact hz) e3' fun h' hl hsb => ?_
  have kp : Kp P₁ s₁.heap h' := fun b o hb e => (hsb.2 b fun z => (S₁.own x _ hm a (by rw [e2']; exact .head _)).1 (z ▸ hb)).trans e
  refine ⟨P₁, (XS.of_ext S.ks x₁ y₁).trans ⟨fun _ e => e, fun _ e => .inl e, kp, Rest.of⟩, rfl, ρ, ω, ?_⟩
  change (let G : Prop := _; G)
  intro G
  obtain ⟨o, n, ho, _⟩ := id hl
  subst G
  refine S₁.mut (en := .lst (ds ++ [d])) hm (a := a) (by rw [e2']; exact .head _) hsb (by rw [ho]; rfl) ⟨a, vs' ++ [v], e1, e2', ?_, ?_⟩ hp
  · rw [List.push_toArray] at hl; exact hl
  · exact (e4'.mono (fun _ e => e) kp).append (.cons (z₁.mono (fun _ e => e) kp) .nil)
end
end Mine
end

section
open PySem PySem.W PyProof.Rows
set_option Elab.async false
set_option maxRecDepth 100000
set_option linter.unusedVariables false
namespace Mine

section
variable {c : Cx} {σ σ' σ'' : List (Str × Ent)} {x : Str} {p p' p'' : Pos} {e : Expr} {d : D} {ds : List D} {es : List (Int × D)} {i : Int} {o : Out}

theorem Sto.frzL {w : World} {g : Heap} {env : Env} {P : Addr → Prop} {h : Heap} {ρ : Str → Value} {ω : Str → List Addr} (S : Sto w g env P h σ ρ ω) {en : Ent} (hm : (x, en) ∈ σ) (hd : Rp w (fun b => P b ∨ b ∈ ω x) h (ρ x) d) (hp : Puts x (.dat d) σ σ') :
    ∃ P', Sto w g env P' h σ' ρ (upO ω x []) ∧ (∀ b, P b → P' b) ∧ ∀ b, P' b → P b ∨ g.get? b = none := by
  have ex : ∀ y e', (y, e') ∈ σ' → y ≠ x → (y, e') ∈ σ := fun y e' hy hne => by
    rcases hp y e' hy with ⟨rfl, _⟩ | ⟨_, h⟩
    · exact absurd rfl hne
    · exact h
  have np : ∀ b, b ∈ ω x → ¬ P b ∧ g.get? b = none ∧ b ≠ env.locals ∧ (∀ y c, env.cells.lookup y = some c → b ≠ c) ∧ (h.get? b).isSome = true := fun b hb => S.own x en hm b hb
  refine ⟨fun b => P b ∨ b ∈ ω x, ⟨S.base, S.ks, fun b hb => hb.elim (S.pw b) fun hb => (np b hb).2.2.2.2, S.fn, S.gl, S.bl, S.ns, S.lg, fun hl => hl.elim S.lp fun hl => (np _ hl).2.2.1 rfl, fun y a ha => ?_, S.capart, fun y e' hy => ?_, fun y e' hy b hb => ?_, fun y e' z e'' hy hz hne b hb => ?_, fun y e' hy => ?_⟩, fun b hb => .inl hb, fun b hb => hb.imp id fun hb => (np b hb).2.1⟩
  · obtain ⟨h1, h2, h3⟩ := S.cells y a ha
    exact ⟨h1, h2, fun hl => ⟨(h3 hl).1, fun hp => hp.elim (h3 hl).2 fun hp => (np a hp).2.2.2.1 y a ha rfl⟩⟩
  · by_cases hne : y = x
    · subst hne
      rcases hp _ e' hy with ⟨_, rfl⟩ | ⟨h, _⟩
      · exact ⟨(S.vals _ _ hm).1, by simp [upO], hd⟩
      · exact absurd rfl h
    · obtain ⟨h1, h2⟩ := S.vals y e' (ex y e' hy hne)
      simp only [upO, if_neg hne]
      exact ⟨h1, h2.mono (fun _ e => .inl e) (fun _ _ _ e => e) fun _ _ => rfl⟩
  · by_cases hne : y = x
    · subst hne; simp [upO] at hb
    · simp only [upO, if_neg hne] at hb
      obtain ⟨h1, h2⟩ := S.own y e' (ex y e' hy hne) b hb
      exact ⟨fun hp => hp.elim h1 fun hp => S.apart y e' x en (ex y e' hy hne) hm hne b hb hp, h2⟩
  · by_cases hny : y = x
    · subst hny; simp [upO] at hb
    · simp only [upO, if_neg hny] at hb
      by_cases hnz : z = x
      · subst hnz; simp [upO]
      · simp only [upO, if_neg hnz]; exact S.apart y e' z e'' (ex y e' hy hny) (ex z e'' hz hnz) hne b hb
  · by_cases hny : y = x
    · subst hny; simp [upO]
    · simp only [upO, if_neg hny]; exact S.nodup y e' (ex y e' hy hny)

theorem Ex.frz {sts : List Stmt} (hm : σ.lookup x = some (.lst ds)) (hp : Puts x (.dat (.lst ds)) σ σ') (h : Ex c σ' sts o) : Ex c σ sts o := fun A g P s ρ ω rm S => by
  have hm := mem_of_lookup hm
  change (let G : Prop := _; G)
  intro G
  obtain ⟨a, vs, e1, e2, e3, e4⟩ := (S.vals x _ hm).2
  subst G
  obtain ⟨P', S', hs, hn⟩ := S.frzL hm (d := .lst ds) (by rw [e1]; exact .lst (.inr (by rw [e2]; exact .head _)) e3 (e4.mono (fun _ e => .inl e) fun _ _ _ e => e)) hp
  refine wpAny_mono (h A g P' s ρ _ rm S') (fun f s' z => XP.step ⟨hs, hn, fun _ _ _ e => e, Rest.refl _ _⟩ z) fun _ _ x => x
theorem Ex.frzD {sts : List Stmt} (hm : σ.lookup x = some (.dct es)) (hp : Puts x (.dat (.dct es)) σ σ') (h : Ex c σ' sts o) : Ex c σ sts o := fun A g P s ρ ω rm S => by
  have hm := mem_of_lookup hm
  change (let G : Prop := _; G)
  intro G
  obtain ⟨a, kvs, e1, e2, e0, e3, e4⟩ := (S.vals x _ hm).2
  subst G
  obtain ⟨P', S', hs, hn⟩ := S.frzL hm (d := .dct es) (by rw [e1]; exact .dct (.inr (by rw [e2]; exact .head _)) e0 e3 (e4.mono (fun _ e => .inl e) fun _ _ _ e => e)) hp
  refine wpAny_mono (h A g P' s ρ _ rm S') (fun f s' z => XP.step ⟨hs, hn, fun _ _ _ e => e, Rest.refl _ _⟩ z) fun _ _ x => x

theorem none_back {h h' : Heap} (k : Ks h h') {b : Addr} (e : h'.get? b = none) : h.get? b = none := by
  cases q : h.get? b with
  | none => rfl
  | some o => rw [k b o q] at e; cases e

theorem EvR.dict0 : EvR c σ (.Dict [] [] p) (.own (.dct [])) := fun A g P s ρ ω rm S => by
  refine wpAny_Dict_empty ?_
  have x := Ext.push0 (P := P) S.pw { cls := .type "dict", data := .dict #[] }
  refine ⟨P, x, Rest.of, [s.heap.objs.size], ⟨_, [], rfl, rfl, ?_, Heap.DictOf.new s.heap, .nil⟩, by simp, fun a ha => ?_⟩
  · have := S.base_now.lt
    have h3 : sysModules ≤ 3 := by decide
    simp only [beq_eq_false_iff_ne, ne_eq]
    exact fun e => Nat.lt_irrefl _ (Nat.lt_of_lt_of_le this (e ▸ h3))
  · rw [List.mem_singleton.mp ha]
    exact ⟨none_of_lt (Nat.le_refl _), S.pw.not_new, by rw [Heap.get?_push_size _ rfl]; rfl⟩

noncomputable abbrev Inp (w : World) (q : Bool) (k : Nat) (op : Operator) (d₁ d₂ : D) (r : Res) : Prop := OpL w q k (fun vs => inplaceOp op (vs.getD 0 .none) (vs.getD 1 .none)) [d₁, d₂] r
theorem Inp.add {w : World} {q : Bool} {k : Nat} {a b : Int} : Inp w q k .Add (.int a) (.int b) (.dat (.int (a + b))) := OpL.two fun A P s _ _ rm B hp x y => by obtain ⟨_, rfl⟩ := Rp.inv x; obtain ⟨_, rfl⟩ := Rp.inv y; exact iadd_int (Pst.now hp (.int _ _))
theorem Inp.sub {w : World} {q : Bool} {k : Nat} {a b : Int} : Inp w q k .Sub (.int a) (.int b) (.dat (.int (a - b))) := OpL.two fun A P s _ _ rm B hp x y => by obtain ⟨_, rfl⟩ := Rp.inv x; obtain ⟨_, rfl⟩ := Rp.inv y; exact isub_int (Pst.now hp (.int _ _))
theorem Ex1.aug {op : Operator} {d₁ d₂ : D} {r : Res} (hm : σ.lookup x = some (.dat d₁)) (h : Ev c σ e d₂) (hi : Inp c.w c.q c.k op d₁ d₂ r) (hw : Wr c.env x) (hp : Puts x r.ent σ σ') (hn : (x == ("__classdict__" : Str)) = false := by decide) : Ex1 c σ (.AugAssign (.Name x p') op e p) (.nxt σ') := fun A g P s ρ ω rm S => by
  obtain ⟨h1, h2⟩ := S.vals x _ (mem_of_lookup hm)
  refine wpAny_AugAssign_Name (S.load h1 hn ?_)
  refine wpAny_mono (h A g P s ρ ω rm S) (fun v s₁ zz => Pst.elim zz fun P₁ x₁ y z => ?_) fun _ _ x => x
  refine wpAny_mono (hi A P₁ s₁ [ρ x, v] rm (S.ext x₁).base_now x₁.pw (.cons (x₁.rp h2.2) (.cons z .nil))) (fun u s₂ zz => Pst.elim zz fun P₂ x₂ y₂ z₂ => ?_) fun _ _ x => x
  obtain ⟨os, N⟩ := z₂.newEnt (x := x) (S.ext x₁) x₂.ks
  exact ((S.ext x₁).ext x₂).store N hp hw fun h' tk S' kp _ => ⟨P₂, (XS.of_ext S.ks (x₁.trans x₂) (y.trans y₂)).trans ⟨fun _ e => e, fun _ e => .inl e, kp, Rest.of⟩, rfl, _, _, S'⟩
end

inductive PutsL : List Str → List D → List (Str × Ent) → List (Str × Ent) → Prop
  | nil {σ : List (Str × Ent)} : PutsL [] [] σ σ
  | cons {x : Str} {d : D} {xs : List Str} {ds : List D} {σ σ' σ'' : List (Str × Ent)} : Puts x (.dat d) σ σ' → PutsL xs ds σ' σ'' → PutsL (x :: xs) (d :: ds) σ σ''

section
variable {w : World} {A : Around} {E : Value → Shared → Prop}
theorem draw_list {it l : Addr} {items : Array Value} (hne : it ≠ l) : ∀ (n i : Nat) (s : Shared) (Q : List Value → Shared → Prop), s.heap.IsListIter it l i → s.heap.IsList l items → i + n ≤ items.size →
    (∀ h', h'.IsListIter it l (i + n) → Heap.SameBut it s.heap h' → Q ((items.toList.drop i).take n) { s with heap := h' }) → wpAny (model prg w) A (draw (.ref it) n) Q E s
  | 0, i, s, Q, hit, _, _, hQ => by
    show wpAny _ _ (pure []) Q E s
    exact wpAny_pure (by simpa using hQ s.heap hit (Heap.SameBut.refl ..))
  | n + 1, i, s, Q, hit, hl, hle, hQ => by
    have hlt : i < items.size := by (first | lia | omega)
    show wpAny _ _ (pyNext (.ref it) >>= _) Q E s
    refine wpAny_bind (wpAny_pyNext_list_item hit hl (x := items[i]) (by simp [hlt]) fun h₁ hit₁ hs₁ => ?_)
    refine wpAny_bind (wpAny_holding (draw_list hne n (i + 1) _ _ hit₁ (hl.extBut hs₁.extBut (Ne.symm hne)) (by (first | lia | omega)) fun h₂ hit₂ hs₂ => wpAny_pure ?_))
    have hd : items.toList.drop i = items[i] :: items.toList.drop (i + 1) := by simp [List.drop_eq_getElem_cons, hlt]
    have := hQ h₂ (by rw [show i + (n + 1) = i + 1 + n by (first | lia | omega)]; exact hit₂) (hs₁.trans hs₂)
    rw [hd, List.take_succ_cons] at this
    exact this
theorem unpackItems_lst {s : Shared} {l : Addr} {items : Array Value} {Q : List Value → Shared → Prop} (hh : A.handled = none) (hl : s.heap.IsList l items)
    (hQ : ∀ h', Heap.ExtBut s.heap.objs.size s.heap h' → Q items.toList { s with heap := h' }) : wpAny (model prg w) A (unpackItems (.ref l) items.size none) Q E s := by
  have hlt : l ≠ s.heap.objs.size := by obtain ⟨o, ho, _⟩ := id hl; exact Nat.ne_of_lt (Heap.lt_size ho)
  unfold unpackItems
  refine wpAny_bind ?_
  · unfold notIterableAtAll
    refine wpAny_bind (wpAny_specialOf hl.typeIs slot_list_iter.lookup ?_)
    refine wpAny_pure ?_
    simp only [Bool.false_eq_true, if_false]
    refine wpAny_bind (wpAny_holding (wpAny_pyIter_list hl ?_))
    refine wpAny_bind (wpAny_holding (draw_list (Ne.symm hlt) items.size 0 _ _ ⟨_, Heap.get?_push_size _ rfl, rfl, rfl⟩ (hl.push _) (by (first | lia | omega)) fun h₁ hit₁ hs₁ => ?_))
    have hall : List.take items.size (List.drop 0 items.toList) = items.toList := by
      rw [List.drop_zero]; exact List.take_of_length_le (by simp)
    rw [hall]
    rw [if_neg (by simp)]
    have hl₁ : h₁.IsList l items := (hl.push _).extBut hs₁.extBut hlt
    refine wpAny_bind (wpAny_holding (wpAny_pyNext_list_end hh hit₁ hl₁ (by simp) fun h₂ he₂ => ?_))
    simp only [Option.isSome_none, Bool.false_eq_true, if_false]
    refine wpAny_pure (hQ h₂ fun b o hb e => he₂ b o hb (hs₁.extBut b o hb (Heap.get?_push_of_some _ e)))
end
noncomputable def Tgt (c : Cx) (t : Expr) (d : D) (σ σ' : List (Str × Ent)) : Prop :=
  ∀ A g P s ρ ω v (Q : Unit → Shared → Prop), Rm c.k A → Sto c.w g c.env P s.heap σ ρ ω → Rp c.w P s.heap v d →
    (∀ h' tk ρ' ω', Sto c.w g c.env P h' σ' ρ' ω' → Kp P s.heap h' → (∀ b, b ≠ c.env.locals → (∀ y a, c.env.cells.lookup y = some a → c.env.locals < a → b ≠ a) → (s.heap.get? b).isSome = true → h'.get? b = s.heap.get? b) → (∀ y e, (y, e) ∈ σ' → ∀ b ∈ ω' y, (s.heap.get? b).isSome = true ∧ ∃ e', (y, e') ∈ σ ∧ b ∈ ω y) → Q () { s with heap := h', toks := tk }) →
    wpAny (model prg c.w) A (assign t c.env v) Q NoE s

section
variable {c : Cx} {σ σ' σ'' : List (Str × Ent)} {x : Str} {p p' p'' : Pos} {e : Expr} {d : D} {ds : List D}
theorem Tgt.name (hw : Wr c.env x) (hp : Puts x (.dat d) σ σ') : Tgt c (.Name x p) d σ σ' := fun A g P s ρ ω v Q rm S r h =>
  wpAny_assign_Name (S.store (NewEnt.dat r) hp hw fun h' tk S' kp same => h h' tk _ _ S' kp (fun b h1 h2 _ => same b h1 h2) fun y e hy b hb => by
    rcases hp y e hy with ⟨rfl, rfl⟩ | ⟨hne, hm⟩
    · simp [upO] at hb
    · simp only [upO, if_neg hne] at hb
      exact ⟨(S.own y e hm b hb).2.2.2.2, e, hm, hb⟩)


theorem assign_names {A : Around} {g : Heap} : ∀ {xs : List (Str × Pos)} {ds : List D} {σ σ' : List (Str × Ent)} {P : Addr → Prop} {s : Shared} {ρ : Str → Value} {ω : Str → List Addr} {vs : List Value} {Q : Unit → Shared → Prop}, (∀ y ∈ xs, Wr c.env y.1) → PutsL (xs.map (·.1)) ds σ σ' →
    Sto c.w g c.env P s.heap σ ρ ω → RpL c.w P s.heap vs ds →
    (∀ h' tk ρ' ω', Sto c.w g c.env P h' σ' ρ' ω' → Kp P s.heap h' → (∀ b, b ≠ c.env.locals → (∀ y a, c.env.cells.lookup y = some a → c.env.locals < a → b ≠ a) → h'.get? b = s.heap.get? b) → (∀ y e, (y, e) ∈ σ' → ∀ b ∈ ω' y, (s.heap.get? b).isSome = true ∧ ∃ e', (y, e') ∈ σ ∧ b ∈ ω y) → Q () { s with heap := h', toks := tk }) →
    wpAny (model prg c.w) A (assignInOrder ((assignEach (xs.map fun y => Expr.Name y.1 y.2) c.env).map (·.2)) vs) Q NoE s
  | [], _, _, _, _, s, _, _, _, _, _, .nil, S, .nil, h => by
    refine wpAny_pure ?_
    exact h _ s.toks _ _ S (fun _ _ _ e => e) (fun _ _ _ => rfl) fun y e hy b hb => ⟨(S.own y e hy b hb).2.2.2.2, e, hy, hb⟩
  | (y, q) :: xs, _, σ, σ', P, s, ρ, ω, _, Q, hw, .cons hp hps, S, .cons r rs, h => by
    show wpAny _ A (do holding _ (assign (.Name y q) c.env _); assignInOrder _ _) Q NoE s
    refine wpAny_bind (wpAny_holding (wpAny_assign_Name (S.store (NewEnt.dat r) hp (hw _ (.head _)) fun h' tk S' kp same => ?_)))
    refine assign_names (s := { s with heap := h', toks := tk }) (fun y hy => hw y (.tail _ hy)) hps S' (rs.mono (fun _ e => e) kp) fun h'' tk' ρ' ω' S'' kp' same' own' => ?_
    refine h h'' tk' ρ' ω' S'' (fun b o hb e => kp' b o hb (kp b o hb e)) (fun b h1 h2 => (same' b h1 h2).trans (same b h1 h2)) fun z e hz b hb => ?_
    change (let G : Prop := _; G)
    intro G
    obtain ⟨_, e', hm', hb'⟩ := own' z e hz b hb
    subst G
    rcases hp z e' hm' with ⟨rfl, rfl⟩ | ⟨hne, hm⟩
    · simp [upO] at hb'
    · simp only [upO, if_neg hne] at hb'
      exact ⟨(S.own z e' hm b hb').2.2.2.2, e', hm, hb'⟩
theorem names_len (xs : List (Str × Pos)) (env : Env) : (assignEach (xs.map fun y => Expr.Name y.1 y.2) env).length = xs.length ∧ (assignEach (xs.map fun y => Expr.Name y.1 y.2) env).findIdx? (·.1) = none := by
  induction xs with
  | nil => exact ⟨rfl, rfl⟩
  | cons y xs ih =>
    refine ⟨congrArg (· + 1) ih.1, ?_⟩
    show List.findIdx? _ ((false, _) :: assignEach (xs.map fun y => Expr.Name y.1 y.2) env) = none
    rw [List.findIdx?_cons, ih.2]; rfl

theorem PutsL.length {xs : List Str} (h : PutsL xs ds σ σ') : xs.length = ds.length := by induction h with | nil => rfl | cons _ _ ih => rw [List.length_cons, List.length_cons, ih]

theorem Tgt.tup {k : Nat} {elts : List Expr} (xs : List (Str × Pos)) (he : elts = xs.map fun y => Expr.Name y.1 y.2) (hw : ∀ y ∈ xs, Wr c.env y.1) (hp : PutsL (xs.map (·.1)) ds σ σ') : Tgt c (.Tuple elts k p) (.tup ds) σ σ' := fun A g P s ρ ω v Q rm S r h => by
  change (let G : Prop := _; G)
  intro G
  obtain ⟨a, vs, rfl, pa, la, xa⟩ := Rp.inv r
  subst G
  subst he
  have hl := hp.length
  have hv := xa.length
  rw [List.length_map] at hl
  refine assign_Tuple_tuple rm.1 la.isTup (by rw [(names_len xs c.env).1, List.size_toArray]; (first | lia | omega)) (names_len xs c.env).2 fun h' hx => ?_
  have ks : Ks s.heap h' := fun b o e => hx b o (Nat.ne_of_lt (Heap.lt_size e)) e
  have x := Ext.of_ks S.pw ks
  refine assign_names hw hp (S.ext x) (x.rpl xa) fun h'' tk ρ' ω' S' kp same own => h h'' tk ρ' ω' S' (fun b o hb e => kp b o hb (ks b o e)) (fun b h1 h2 h3 => (same b h1 h2).trans (some_of_ks ks h3)) fun y e hy b hb => ?_
  change (let G : Prop := _; G)
  intro G
  obtain ⟨_, e', hm, hb'⟩ := own y e hy b hb
  subst G
  exact ⟨(S.own y e' hm b hb').2.2.2.2, e', hm, hb'⟩
theorem Tgt.lst {k : Nat} {elts : List Expr} (xs : List (Str × Pos)) (he : elts = xs.map fun y => Expr.Name y.1 y.2) (hw : ∀ y ∈ xs, Wr c.env y.1) (hp : PutsL (xs.map (·.1)) ds σ σ') : Tgt c (.Tuple elts k p) (.lst ds) σ σ' := fun A g P s ρ ω v Q rm S r h => by
  change (let G : Prop := _; G)
  intro G
  obtain ⟨a, vs, rfl, pa, la, xa⟩ := Rp.inv r
  subst G
  subst he
  have hl := hp.length
  have hv := xa.length
  rw [List.length_map] at hl
  rw [PyProof.Rows.assign_Tuple]
  refine wpAny_bind (wpAny_standAt ?_)
  unfold unpack
  rw [(names_len xs c.env).2, (names_len xs c.env).1]
  have hz : xs.length = vs.toArray.size := by rw [List.size_toArray]; (first | lia | omega)
  rw [hz]
  refine wpAny_bind (wpAny_holding (unpackItems_lst rm.1 la.isList fun h' hx => ?_))
  have ks : Ks s.heap h' := fun b o e => hx b o (Nat.ne_of_lt (Heap.lt_size e)) e
  have x := Ext.of_ks S.pw ks
  refine assign_names hw hp (S.ext x) (x.rpl xa) fun h'' tk ρ' ω' S' kp same own => h h'' tk ρ' ω' S' (fun b o hb e => kp b o hb (ks b o e)) (fun b h1 h2 h3 => (same b h1 h2).trans (some_of_ks ks h3)) fun y e hy b hb => ?_
  change (let G : Prop := _; G)
  intro G
  obtain ⟨_, e', hm, hb'⟩ := own y e hy b hb
  subst G
  exact ⟨(S.own y e' hm b hb').2.2.2.2, e', hm, hb'⟩
end
end Mine
end

section
open PySem PySem.W PyProof.Rows
set_option Elab.async false
set_option maxRecDepth 100000
set_option linter.unusedVariables false
namespace Mine

theorem RpL.ints {w : World} {P : Addr → Prop} {h : Heap} {vs : List Value} {ns : List Int} (x : RpL w P h vs (ns.map .int)) : IntsAre vs ns := by
  induction ns generalizing vs with
  | nil => rw [RpL.nil_inv x]; exact .nil
  | cons n ns ih =>
    change (let G : Prop := _; G)
    intro G
    obtain ⟨v, vs', rfl, a, r⟩ := RpL.cons_inv x
    subst G
    cases a
    exact .cons _ _ (ih r)

section
variable {c : Cx} {σ σ' σ'' : List (Str × Ent)} {x : Str} {p p' p'' : Pos} {e e₁ e₂ : Expr} {d : D} {ds : List D} {es : List (Int × D)} {i : Int} {o : Out} {r : Res}

noncomputable def Tru (w : World) (q : Bool) (k : Nat) (d : D) (b : Bool) : Prop := ∀ A P s v, Rm k A → Base w s.heap → PW P s.heap → Rp w P s.heap v d → wpAny (model prg w) A (truthy v) (Pst q P s fun _ b' _ => b' = b) NoE s
theorem Tru.int {w : World} {q : Bool} {k : Nat} {a : Int} : Tru w q k (.int a) (a != 0) := fun A P s v rm B hp r => by cases r; exact truthy_int (Pst.here hp rfl)
theorem Tru.bool {w : World} {q : Bool} {k : Nat} {b : Bool} : Tru w q k (.bool b) b := fun A P s v rm B hp r => by cases r; exact wpAny_truthy_bool (Pst.here hp rfl)
theorem Tst.val {b : Bool} (h : Ev c σ e d) (t : Tru c.w c.q c.k d b) (he : ∀ whole, isTrue e c.env whole = (do let v ← whole; standAt e.pos; holding [v] (truthy v)) := by intro _; rfl) : Tst c σ e b := fun A g P s ρ ω rm S =>
  isTrue_plain (wpAny_mono (h A g P s ρ ω rm S) (fun v s₁ zz => Pst.elim zz fun P₁ x y z => wpAny_mono (t A P₁ s₁ v rm (S.ext x).base_now x.pw z) (fun _ _ z => Pst.step x y z fun _ _ _ t => t) fun _ _ x => x) fun _ _ x => x) (he _)

theorem Ex1.assignT {elts : List Expr} {k : Nat} {tp : Pos} (h : Ev c σ e d) (t : Tgt c (.Tuple elts k tp) d σ σ') (hs : swapsWithSole [.Tuple elts k tp] e p.line c.env = pure false := by rfl)
    (hw : swappedStores [.Tuple elts k tp] e c.env = pure none := by rfl) : Ex1 c σ (.Assign [.Tuple elts k tp] e p) (.nxt σ') := fun A g P s ρ ω rm S =>
  Assign_Tuple (wpAny_mono (h A g P s ρ ω rm S) (fun v s₁ zz => Pst.elim zz fun P₁ x₁ y z => t A g P₁ s₁ ρ ω v _ rm (S.ext x₁) z fun h' tk ρ' ω' S' kp _ _ => ⟨P₁, (XS.of_ext S.ks x₁ y).trans ⟨fun _ e => e, fun _ e => .inl e, kp, Rest.of⟩, rfl, _, _, S'⟩) fun _ _ x => x) hs hw

inductive Part (c : Cx) (σ : List (Str × Ent)) : Option Expr → Option Int → Prop
  | none : Part c σ none none
  | some {e : Expr} {i : Int} : Ev c σ e (.int i) → Part c σ (some e) (some i)
theorem Part.go {m : Option Expr} {lo : Option Int} (h : Part c σ m lo) {A : Around} {g : Heap} {P : Addr → Prop} {s : Shared} {ρ : Str → Value} {ω : Str → List Addr} (rm : Rm c.k A) (S : Sto c.w g c.env P s.heap σ ρ ω) :
    wpAny (model prg c.w) A (evalPart m c.env) (Pst c.q P s fun _ v _ => IsPart v lo) NoE s := by
  cases h with
  | none => rw [evalPart_none]; exact wpAny_pure (Pst.here S.pw .none)
  | some h => rw [evalPart_some]; exact wpAny_mono (h A g P s ρ ω rm S) (fun v s₁ zz => Pst.elim zz fun P₁ x y z => ⟨P₁, x, y, by cases z; exact .int _ _⟩) fun _ _ x => x

noncomputable def pickD (ds : List D) (lo hi : Option Int) : List D := (ds.drop (lo.elim 0 (clipAt ds.length))).take (hi.elim ds.length (clipAt ds.length) - lo.elim 0 (clipAt ds.length))
theorem pickD_upto (ds : List D) (b : Nat) : pickD ds none (some (b : Int)) = ds.take b := by
  simp only [pickD, Option.elim, clipAt_nat, List.drop_zero, Nat.sub_zero]
  by_cases h : b ≤ ds.length
  · rw [Nat.min_eq_left h]
  · rw [Nat.min_eq_right (by (first | lia | omega)), List.take_of_length_le (Nat.le_refl _), List.take_of_length_le (by (first | lia | omega))]
theorem pickD_from (ds : List D) (a : Nat) : pickD ds (some (a : Int)) none = ds.drop a := by
  simp only [pickD, Option.elim, clipAt_nat]
  by_cases h : a ≤ ds.length
  · rw [Nat.min_eq_left h, List.take_of_length_le (by rw [List.length_drop]; (first | lia | omega))]
  · rw [Nat.min_eq_right (by (first | lia | omega)), List.drop_of_length_le (Nat.le_refl _), List.drop_of_length_le (by (first | lia | omega)), List.take_nil]
theorem EvR.sliceL {lower upper : Option Expr} {lo hi : Option Int} (h : Ev c σ e (.lst ds)) (hl : Part c σ lower lo) (hu : Part c σ upper hi) (hz : ds.length ≤ sizeLine) (ht : ∀ o r, letTemporaryGo e o r = pure () := by intro _ _; rfl) :
    EvR c σ (.Subscript e (.Slice lower upper none p) p') (.own (.lst (pickD ds lo hi))) := fun A g P s ρ ω rm S => by
  refine wpAny_Subscript_list_slice (wpAny_mono (h A g P s ρ ω rm S) (fun v s₁ zz => Pst.elim zz fun P₁ x₁ y₁ z₁ => wpAny_mono (hl.go rm (S.ext x₁)) (fun vl s₂ zz => Pst.elim zz fun P₂ x₂ y₂ z₂ => wpAny_mono (hu.go rm ((S.ext x₁).ext x₂)) (fun vu s₃ zz => Pst.elim zz fun P₃ x₃ y₃ z₃ => ?_) fun _ _ x => x) fun _ _ x => x) fun _ _ x => x) ht
  have z₁ := (x₂.trans x₃).rp z₁
  change (let G : Prop := _; G)
  intro G
  obtain ⟨a, vs, rfl, pa, la, xa⟩ := Rp.inv z₁
  subst G
  refine ⟨a, vs.toArray, lo, hi, rfl, la.isList, by rw [List.size_toArray, xa.length]; exact hz, z₂, z₃, ?_⟩
  have x₄ := Ext.push0 (P := P₃) x₃.pw { cls := .type "slice", data := .fields #[vl, vu, .none] }
  have x₅ := Ext.push0 (P := P₃) x₄.pw { cls := .type "list", data := .seq (slicePick vs.toArray lo hi none) }
  have xx := ((x₁.trans x₂).trans x₃).trans (x₄.trans x₅)
  have hsz := Heap.size_push s₃.heap { cls := .type "slice", data := .fields #[vl, vu, .none] }
  refine ⟨P₃, xx, ((y₁.trans y₂).trans y₃).trans Rest.of, [s₃.heap.objs.size + 1], ⟨_, (vs.drop (lo.elim 0 (clipAt vs.length))).take (hi.elim vs.length (clipAt vs.length) - lo.elim 0 (clipAt vs.length)), rfl, rfl, ⟨{ cls := .type "list", data := .seq (slicePick vs.toArray lo hi none) }, 0, ?_, rfl, rfl, ?_⟩, ?_⟩, by simp, fun b hb => ?_⟩
  · rw [← hsz, Heap.get?_push_size _ rfl]
  · show Data.seq (slicePick vs.toArray lo hi none) 0 = _
    rw [slicePick_plain]; rfl
  · unfold pickD
    rw [← xa.length]
    exact (((x₄.trans x₅).rpl xa).drop _).take _
  · rw [List.mem_singleton.mp hb, ← hsz]
    refine ⟨none_back ((x₁.trans x₂).trans (x₃.trans x₄)).ks (none_of_lt (Nat.le_refl _)), x₄.pw.not_new, by rw [Heap.get?_push_size _ rfl]; rfl⟩
theorem EvR.sliceB {lower upper : Option Expr} {lo hi : Option Int} {b : Array UInt8} (h : Ev c σ e (.bytes b)) (hl : Part c σ lower lo) (hu : Part c σ upper hi) (hz : b.size ≤ sizeLine) (ht : ∀ o r, letTemporaryGo e o r = pure () := by intro _ _; rfl) :
    Ev c σ (.Subscript e (.Slice lower upper none p) p') (.bytes (KBy.picked b lo hi)) := fun A g P s ρ ω rm S => by
  refine wpAny_Subscript_Slice (T := "bytes") FB.slot_bytes_getitem.lookup (wpAny_mono (h A g P s ρ ω rm S) (fun v s₁ zz => Pst.elim zz fun P₁ x₁ y₁ z₁ => wpAny_Slice (wpAny_mono (hl.go rm (S.ext x₁)) (fun vl s₂ zz => Pst.elim zz fun P₂ x₂ y₂ z₂ => wpAny_mono (hu.go rm ((S.ext x₁).ext x₂)) (fun vu s₃ zz => Pst.elim zz fun P₃ x₃ y₃ z₃ => ?_) fun _ _ x => x) fun _ _ x => x)) fun _ _ x => x) ht
  obtain ⟨_, rfl⟩ := Rp.inv z₁
  rw [evalPart_none]
  have x₄ := Ext.push0 (P := P₃) x₃.pw { cls := .type "slice", data := .fields #[vl, vu, .none] }
  refine wpAny_pure ⟨PySem.W.typeIs_bytes _ _ _, getItem_meets (PySem.W.typeIs_bytes _ _ _) (by decide) FB.slot_bytes_getitem FB.entry_bytes_getitem (FB.args_bytes_getitem_2 _ _) (KBc.meets_slice2 b _ _ z₂ z₃)
    ⟨Heap.IsSliceOf.new .., Nat.le_trans (KBc.size_picked_le b lo hi) hz, fun t' k => ?_⟩⟩
  exact ⟨P₃, ((x₁.trans x₂).trans x₃).trans x₄, ((y₁.trans y₂).trans y₃).trans Rest.of, .bytes _ _⟩

variable {w : World} {q : Bool} {k : Nat}
theorem OpL.call1 {f : Value} {d₁ : D} (h : ∀ A P s v₁, Rm k A → Base w s.heap → PW P s.heap → Rp w P s.heap v₁ d₁ → wpAny (model prg w) A (call f [v₁]) (Pst q P s fun P' v h' => ResOK w s.heap P' v h' r) NoE s) :
    OpL w q k (fun vs => call f vs) [d₁] r := fun A P s vs rm B hp x => by
  cases x with | cons a x => cases x; exact h A P s _ rm B hp a
theorem OpL.call2 {f : Value} {d₁ d₂ : D} (h : ∀ A P s v₁ v₂, Rm k A → Base w s.heap → PW P s.heap → Rp w P s.heap v₁ d₁ → Rp w P s.heap v₂ d₂ → wpAny (model prg w) A (call f [v₁, v₂]) (Pst q P s fun P' v h' => ResOK w s.heap P' v h' r) NoE s) :
    OpL w q k (fun vs => call f vs) [d₁, d₂] r := fun A P s vs rm B hp x => by
  cases x with | cons a x => cases x with | cons b x => cases x; exact h A P s _ _ rm B hp a b
noncomputable abbrev Bi (w : World) (q : Bool) (k : Nat) (id : String) (ds : List D) (r : Res) : Prop := OpL w q k (fun vs => call (.builtin id) vs) ds r
noncomputable abbrev Ty (w : World) (q : Bool) (k : Nat) (T : String) (ds : List D) (r : Res) : Prop := OpL w q k (fun vs => call (.type T) vs) ds r
theorem Bi.abs {a : Int} : Bi w q k "abs" [.int a] (.dat (.int (if a < 0 then -a else a))) := OpL.call1 fun A P s v rm B hp x => by obtain ⟨_, rfl⟩ := Rp.inv x; exact PyProof.Rows.call_abs_int fun u tk => Pst.now hp (.int _ _)
theorem Ty.int {a : Int} : Ty w q k "int" [.int a] (.dat (.int a)) := OpL.call1 fun A P s v rm B hp x => by obtain ⟨_, rfl⟩ := Rp.inv x; exact PySem.call_int_int (Pst.here hp (.int _ _))
theorem Bi.divmod {a b : Int} (h0 : b ≠ 0) (h : b.natAbs < 1073741824) : Bi w q k "divmod" [.int a, .int b] (.dat (.tup [.int (a.fdiv b), .int (a.fmod b)])) := OpL.call2 fun A P s v₁ v₂ rm B hp x y => by
  obtain ⟨_, rfl⟩ := Rp.inv x; obtain ⟨_, rfl⟩ := Rp.inv y
  refine PyProof.Rows.divmod_int h0 ?_ (.inl (PyProof.noPylong_small h))
  exact ⟨_, Ext.push hp _ rfl, Rest.of, .tup (.inr rfl) ⟨0, Heap.get?_push_size _ rfl⟩ (.cons (.int _ _) (.cons (.int _ _) .nil))⟩
theorem Bi.lenL (hz : ds.length < 2 ^ 62) : Bi w q k "len" [.lst ds] (.dat (.int ds.length)) := OpL.call1 fun A P s v rm B hp x => by
  change (let G : Prop := _; G)
  intro G
  obtain ⟨a, vs, rfl, pa, la, xa⟩ := Rp.inv x
  subst G
  refine PyProof.Rows.len_list la.isList (by rw [List.size_toArray, xa.length]; (first | lia | omega)) ?_
  rw [List.size_toArray, xa.length]
  exact Pst.now hp (.int _ _)
theorem Bi.sum {ns : List Int} (hz : ns.length < 2 ^ 62) : Bi w q k "sum" [.lst (ns.map .int)] (.dat (.int ns.sum)) := OpL.call1 fun A P s v rm B hp x => by
  change (let G : Prop := _; G)
  intro G
  obtain ⟨a, vs, rfl, pa, la, xa⟩ := Rp.inv x
  subst G
  have hi : IntsAre vs ns := by
    exact RpL.ints xa
  obtain ⟨xs, hx⟩ := hi.allInts.items
  have hl' : s.heap.IsList a (intItems xs) := hx ▸ la.isList
  refine sum_intListG rm.1 hl' fun h' tk t' hk => ?_
  have e1 : ns = xs.toList.map (·.1) := by
    rw [← nums_intItems, ← hx]
    exact (show numsOf vs.toArray.toList = ns from hi.numsOf).symm
  have e2 : preSum (numAt xs) xs.size = ns.sum := by
    rw [preSum_eq, List.take_of_length_le (by simp), e1]
  rw [e2]
  exact ⟨P, Ext.of_ks hp hk, Rest.of, .int _ _⟩

theorem Ex1.while' {test : Expr} {body : List Stmt} (Inv : Nat → List (Str × Ent)) (n : Nat) (stop : Option D) (h0 : Sub (Inv 0) σ)
    (turn : ∀ i, i < n → Tst c (Inv i) test true ∧ Ex c (Inv i) body (.nxt (Inv (i + 1))))
    (last : (stop = none → Tst c (Inv n) test false) ∧ ∀ d, stop = some d → Tst c (Inv n) test true ∧ Ex c (Inv n) body (.ret d)) : Ex1 c σ (.While test body [] p) (match stop with | none => .nxt (Inv n) | some d => .ret d) := by
  intro A g P s ρ ω rm S
  refine wpAny_While (codeAny_whileLoop (fun m s' => ∃ i Pi ρi ωi, i ≤ n ∧ m = n + 1 - i ∧ Sto c.w g c.env Pi s'.heap (Inv i) ρi ωi ∧ XS c g P Pi s s') ?_ (n + 1) ⟨0, P, ρ, ω, Nat.zero_le _, rfl, S.sub h0, XS.refl⟩)
  intro m s' hI0
  change (let G : Prop := _; G)
  intro G
  obtain ⟨i, Pi, ρi, ωi, hin, rfl, Si, xi⟩ := hI0
  subst G
  by_cases hlt : i < n
  · obtain ⟨h1, h2⟩ := turn i hlt
    refine wpAny_mono (h1 A g Pi s' ρi ωi rm Si) (fun b s₁ zz => Pst.elim zz fun P₁ x₁ y₁ z₁ => ?_) fun _ _ x => x.elim
    subst z₁
    rw [if_pos rfl]
    refine wpAny_mono (h2 A g P₁ s₁ ρi ωi rm (Si.ext x₁)) (fun f s₂ z => ?_) fun _ _ x => x.elim
    change (let G : Prop := _; G)
    intro G
    obtain ⟨P₂, x₂, rfl, ρ₂, ω₂, S₂⟩ := z
    subst G
    exact ⟨n + 1 - (i + 1), by (first | lia | omega), i + 1, P₂, ρ₂, ω₂, hlt, rfl, S₂, (xi.trans (XS.of_ext Si.ks x₁ y₁)).trans x₂⟩
  · have hie : i = n := by (first | lia | omega)
    subst hie
    cases stop with
    | none =>
      refine wpAny_mono (last.1 rfl A g Pi s' ρi ωi rm Si) (fun b s₁ zz => Pst.elim zz fun P₁ x₁ y₁ z₁ => ?_) fun _ _ x => x.elim
      subst z₁
      rw [if_neg Bool.false_ne_true]
      exact wpAny_execs_nil ⟨P₁, xi.trans (XS.of_ext Si.ks x₁ y₁), rfl, ρi, ωi, Si.ext x₁⟩
    | some d =>
      obtain ⟨h1, h2⟩ := last.2 d rfl
      refine wpAny_mono (h1 A g Pi s' ρi ωi rm Si) (fun b s₁ zz => Pst.elim zz fun P₁ x₁ y₁ z₁ => ?_) fun _ _ x => x.elim
      subst z₁
      rw [if_pos rfl]
      refine wpAny_mono (h2 A g P₁ s₁ ρi ωi rm (Si.ext x₁)) (fun f s₂ z => ?_) fun _ _ x => x.elim
      change (let G : Prop := _; G)
      intro G
      obtain ⟨P₂, x₂, v, rfl, h3⟩ := z
      subst G
      exact ⟨P₂, (xi.trans (XS.of_ext Si.ks x₁ y₁)).trans x₂, v, rfl, h3⟩
end
end Mine
end

section
open PySem PySem.W PyProof.Rows
set_option Elab.async false
set_option maxRecDepth 100000
set_option linter.unusedVariables false
namespace Mine

noncomputable def cEnv (scope : Scope) (cl : List (Str × Addr)) (C : Addr) (env : Env) : Env :=
  { scope := relabel scope env, locals := C, globals := env.globals, cells := cellsFrom (C + 1) scope.names cl, qual := env.qual, func := none, code := env.code, frame := env.frame, builtins := env.builtins }

noncomputable def ClOk (env : Env) : List (Str × Addr) → Prop
  | [] => True
  | (x, a) :: r => env.cells.lookup x = some a ∧ ClOk env r
theorem ClOk.mem {env : Env} : ∀ {cl : List (Str × Addr)}, ClOk env cl → ∀ {x : Str} {a : Addr}, (x, a) ∈ cl → env.cells.lookup x = some a
  | [], _, _, _, h => nomatch h
  | (y, b) :: r, ⟨h1, h2⟩, x, a, h => by
    rcases List.mem_cons.mp h with e | h
    · cases e; exact h1
    · exact h2.mem h

theorem cf_mem : ∀ (names : List (Str × NameKind)) (h : Heap) (acc : List (Str × Addr)) {x : Str} {a : Addr}, (x, a) ∈ cellsFrom h.objs.size names acc → (x, a) ∈ acc ∨ (h.objs.size ≤ a ∧ (pushCells h names).IsCell a none)
  | [], _, _, _, _, hm => .inl hm
  | (name, kind) :: r, h, acc, x, a, hm => by
    unfold cellsFrom at hm
    unfold pushCells
    split at hm
    · rename_i hk
      rw [if_pos hk]
      have e : h.objs.size + 1 = (h.push { cls := .type "cell", data := .cell none }).objs.size := (Heap.size_push ..).symm
      rw [e] at hm
      rcases cf_mem r _ _ hm with h1 | ⟨h1, h2⟩
      · rcases List.mem_cons.mp h1 with e | h1
        · cases e
          exact .inr ⟨Nat.le_refl _, ⟨_, pushCells_keeps _ _ _ _ (Heap.get?_push_size _ rfl), rfl⟩⟩
        · exact .inl h1
      · rw [← e] at h1; exact .inr ⟨by (first | lia | omega), h2⟩
    · rename_i hk
      rw [if_neg hk]
      exact cf_mem r h acc hm
theorem cf_pair : ∀ (names : List (Str × NameKind)) (n : Nat) (acc : List (Str × Addr)), (acc.Pairwise fun x y => x.2 ≠ y.2) → (∀ x ∈ acc, x.2 < n) → (cellsFrom n names acc).Pairwise fun x y => x.2 ≠ y.2
  | [], _, _, h, _ => h
  | (name, kind) :: r, n, acc, h, hlt => by
    unfold cellsFrom
    split
    · refine cf_pair r _ _ (List.pairwise_cons.mpr ⟨fun y hy e => ?_, h⟩) fun x hx => ?_
      · exact Nat.lt_irrefl _ ((show n = y.2 from e) ▸ hlt y hy)
      · rcases List.mem_cons.mp hx with rfl | hx
        · exact Nat.lt_succ_self _
        · exact Nat.lt_succ_of_lt (hlt x hx)
    · exact cf_pair r n acc h hlt

theorem comp_env {A : Around} {E : Value → Shared → Prop} {w : World} {s : Shared} {scope : Scope} {cl : List (Str × Addr)} {env : Env} {Q : Env → Shared → Prop}
    (h : Q { scope := scope, locals := s.heap.objs.size, globals := env.globals, cells := cellsFrom (s.heap.objs.size + 1) scope.names cl, qual := env.qual, func := none, code := env.code, frame := env.frame, builtins := env.builtins }
      { s with heap := pushCells (s.heap.push { cls := .type "dict", data := .dict #[] }) scope.names }) : wpAny (model prg w) A (newFunctionEnv scope env.globals cl [] env.qual none .none (some env)) Q E s := by
  simp only [newFunctionEnv, Option.isSome_some, if_true]
  refine wpAny_bind (wpAny_alloc ?_)
  refine wpAny_bind (wpAny_layCells _ (fun name kind cells => by cases hkc : kind == NameKind.cell <;> simp [hkc]) _ _ _ _ ?_)
  rw [show ({ s with heap := s.heap.push { cls := .type "dict", data := .dict #[] } } : Shared).heap.objs.size = s.heap.objs.size + 1 from Heap.size_push ..]
  simp only [List.forIn_nil]
  exact wpAny_bind (wpAny_pure (wpAny_pure h))

noncomputable def Ifs (c : Cx) (σ : List (Str × Ent)) (ifs : List Expr) (b : Bool) : Prop := ∀ A g P s ρ ω, Rm c.k A → Sto c.w g c.env P s.heap σ ρ ω →
  wpAny (model prg c.w) A (forIn ifs true fun e r => if r = true then do let ok ← isTrue e c.env (eval e c.env); pure (ForInStep.yield ok) else pure (ForInStep.yield r)) (Pst c.q P s fun _ b' _ => b' = b) NoE s
theorem Ifs.nil {c : Cx} {σ : List (Str × Ent)} : Ifs c σ [] true := fun A g P s ρ ω rm S => wpAny_tests_nil (Pst.here S.pw rfl)
theorem Ifs.one {c : Cx} {σ : List (Str × Ent)} {e : Expr} {b : Bool} (h : Tst c σ e b) : Ifs c σ [e] b := fun A g P s ρ ω rm S => wpAny_tests_one (h A g P s ρ ω rm S)

section
variable {w : World} {A : Around} {R : Result → Shared → Prop}
theorem compLoop_go {elt target iter : Expr} {ifs : List Expr} {scope : Scope} {pos : Pos} {it acc : Value} {env : Env} (I : Nat → Shared → Prop)
    (turn : ∀ n s, I n s → wpAny (model prg w) A (pyNext it) (fun r s₁ => match r with
      | none => R (.ok .next) s₁
      | some v => wpAny (model prg w) A (letOwnedTupleGo target it v) (fun _ s₁' => wpAny (model prg w) A (assign target env v) (fun _ s₂ =>
          wpAny (model prg w) A (forIn ifs true fun c r => if r = true then do let ok ← isTrue c env (eval c env); pure (ForInStep.yield ok) else pure (ForInStep.yield r)) (fun ok s₃ =>
            if ok = true then wpAny (model prg w) A (eval elt env) (fun x s₄ =>
              wpAny (model prg w) A (call (.builtin "list.append") [acc, x]) (fun _ s₅ => ∃ m, m < n ∧ I m s₅) (notedBy (model prg w) A env fun e s' => R (.error e) s') s₄) (notedBy (model prg w) A env fun e s' => R (.error e) s') s₃
            else ∃ m, m < n ∧ I m s₃) (notedBy (model prg w) A env fun e s' => R (.error e) s') s₂) (notedBy (model prg w) A env fun e s' => R (.error e) s') s₁') (notedBy (model prg w) A env fun e s' => R (.error e) s') s₁) (notedBy (model prg w) A env fun e s' => R (.error e) s') s)
    (n : Nat) {s : Shared} (h : I n s) : codeAny (model prg w) A (.compLoop (.ListComp elt [⟨target, iter, ifs, 0⟩] scope pos) 0 it acc env) R s := by
  refine codeAny_loop rfl I (fun n s hI => ?_) n h
  show wpAny _ A ((compTurn (.ListComp elt [⟨target, iter, ifs, 0⟩] scope pos) 0 it acc env).onRaise (fun x => do noteFrame x env; theTreesLotGoes x)) _ _ s
  refine wpAny_noted ?_
  rw [compTurn_list]
  refine wpAny_bind (wpAny_standAt (wpAny_bind (wpAny_mono (turn n s hI) (fun r s₁ h₁ => ?_) fun _ _ h' => h')))
  cases r with
  | none => exact wpAny_pure h₁
  | some v =>
    refine wpAny_bind (wpAny_mono h₁ (fun _ s₁' h₁' => ?_) fun _ _ h' => h')
    refine wpAny_bind (wpAny_mono h₁' (fun _ s₂ h₂ => wpAny_bind (wpAny_mono h₂ (fun ok s₃ h₃ => ?_) fun _ _ h' => h')) fun _ _ h' => h')
    cases ok with
    | false => exact wpAny_pure ⟨rfl, h₃⟩
    | true =>
      exact wpAny_bind (wpAny_bind (wpAny_mono h₃ (fun x s₄ h₄ => wpAny_bind (wpAny_mono h₄ (fun _ s₅ h₅ => wpAny_pure (wpAny_pure ⟨rfl, h₅⟩)) fun _ _ h' => h')) fun _ _ h' => h'))
theorem compLoop_goD {kx vx target iter : Expr} {ifs : List Expr} {scope : Scope} {pos : Pos} {it : Value} {D : Addr} {env : Env} (I : Nat → Shared → Prop)
    (turn : ∀ n s, I n s → wpAny (model prg w) A (pyNext it) (fun r s₁ => match r with
      | none => R (.ok .next) s₁
      | some v => wpAny (model prg w) A (letOwnedTupleGo target it v) (fun _ s₁' => wpAny (model prg w) A (assign target env v) (fun _ s₂ =>
          wpAny (model prg w) A (forIn ifs true fun c r => if r = true then do let ok ← isTrue c env (eval c env); pure (ForInStep.yield ok) else pure (ForInStep.yield r)) (fun ok s₃ =>
            if ok = true then wpAny (model prg w) A (eval kx env) (fun kv s₄ => wpAny (model prg w) A (eval vx env) (fun vv s₅ =>
              wpAny (model prg w) A (dictSet D kv vv) (fun _ s₆ => ∃ m, m < n ∧ I m s₆) (notedBy (model prg w) A env fun e s' => R (.error e) s') s₅) (notedBy (model prg w) A env fun e s' => R (.error e) s') s₄) (notedBy (model prg w) A env fun e s' => R (.error e) s') s₃
            else ∃ m, m < n ∧ I m s₃) (notedBy (model prg w) A env fun e s' => R (.error e) s') s₂) (notedBy (model prg w) A env fun e s' => R (.error e) s') s₁') (notedBy (model prg w) A env fun e s' => R (.error e) s') s₁) (notedBy (model prg w) A env fun e s' => R (.error e) s') s)
    (n : Nat) {s : Shared} (h : I n s) : codeAny (model prg w) A (.compLoop (.DictComp kx vx [⟨target, iter, ifs, 0⟩] scope pos) 0 it (.ref D) env) R s := by
  refine codeAny_loop rfl I (fun n s hI => ?_) n h
  show wpAny _ A ((compTurn (.DictComp kx vx [⟨target, iter, ifs, 0⟩] scope pos) 0 it (.ref D) env).onRaise (fun x => do noteFrame x env; theTreesLotGoes x)) _ _ s
  refine wpAny_noted ?_
  rw [compTurn_dict]
  refine wpAny_bind (wpAny_standAt (wpAny_bind (wpAny_mono (turn n s hI) (fun r s₁ h₁ => ?_) fun _ _ h' => h')))
  cases r with
  | none => exact wpAny_pure h₁
  | some v =>
    refine wpAny_bind (wpAny_mono h₁ (fun _ s₁' h₁' => ?_) fun _ _ h' => h')
    refine wpAny_bind (wpAny_mono h₁' (fun _ s₂ h₂ => wpAny_bind (wpAny_mono h₂ (fun ok s₃ h₃ => ?_) fun _ _ h' => h')) fun _ _ h' => h')
    cases ok with
    | false => exact wpAny_pure ⟨rfl, h₃⟩
    | true =>
      exact wpAny_bind (wpAny_bind (wpAny_mono h₃ (fun kv s₄ h₄ => wpAny_bind (wpAny_holding (wpAny_mono h₄ (fun vv s₅ h₅ => wpAny_bind (wpAny_standAt (wpAny_holding (wpAny_mono h₅ (fun _ s₆ h₆ => wpAny_pure ⟨rfl, h₆⟩) fun _ _ h' => h')))) fun _ _ h' => h'))) fun _ _ h' => h'))
end

noncomputable def TgtShape (t : Expr) : Prop := (∃ x p, t = .Name x p) ∨ ∃ es k p, t = .Tuple es k p

structure Capt (c : Cx) (scope : Scope) (cl : List (Str × Addr)) (σ capt : List (Str × Ent)) : Prop where
  clos : closureFor scope c.env = pure cl
  kind : scope.kind = .function
  names : ∀ x ∈ scope.names, x.2 = .local → scope.names.lookup x.1 = some .local
  ok : ClOk c.env cl
  nd : (cl.map (·.1)).Nodup
  sub : Sub capt σ
  cap : ∀ C : Nat, ∀ y ∈ capt.map (·.1), ((cEnv scope cl C c.env).kindOf y = some .cell ∨ (cEnv scope cl C c.env).kindOf y = some .free) ∧ (c.env.kindOf y = some .cell ∨ c.env.kindOf y = some .free) ∧
    ∃ a, (cEnv scope cl C c.env).cells.lookup y = some a ∧ c.env.cells.lookup y = some a

section
variable {c : Cx} {scope : Scope} {cl : List (Str × Addr)} {σ capt : List (Str × Ent)}

theorem Capt.sto (K : Capt c scope cl σ capt) {g : Heap} {P : Addr → Prop} {h : Heap} {ρ : Str → Value} {ω : Str → List Addr} (S : Sto c.w g c.env P h σ ρ ω) :
    let H := pushCells (h.push { cls := .type "dict", data := .dict #[] }) scope.names
    Sto c.w g (cEnv scope cl h.objs.size c.env) P H capt ρ ω ∧ Ks h H ∧ (H.get? h.objs.size).isSome = true ∧ (∀ y a, (cEnv scope cl h.objs.size c.env).cells.lookup y = some a → c.env.cells.lookup y = some a ∨ h.objs.size < a) := by
  intro H
  have kH : Ks h H := fun b o e => pushCells_keeps _ _ _ _ (Heap.get?_push_of_some _ e)
  have hn : H.Ns h.objs.size (fun _ => none) := (Heap.Ns.new h (.type "dict")).keeps (pushCells_keeps _ _)
  have hs1 : (h.push { cls := .type "dict", data := .dict #[] }).objs.size = h.objs.size + 1 := Heap.size_push ..
  have mem : ∀ y a, (cEnv scope cl h.objs.size c.env).cells.lookup y = some a → c.env.cells.lookup y = some a ∨ (h.objs.size < a ∧ H.IsCell a none) := fun y a ha => by
    have hm := mem_of_lookup ha
    change (y, a) ∈ cellsFrom (h.objs.size + 1) scope.names cl at hm
    rw [← hs1] at hm
    rcases cf_mem _ _ _ hm with h1 | ⟨h1, h2⟩
    · exact .inl (K.ok.mem h1)
    · exact .inr ⟨by (first | lia | omega), h2⟩
  have clt : ∀ y a, c.env.cells.lookup y = some a → a < h.objs.size := fun y a ha => by
    change (let G : Prop := _; G)
    intro G
    obtain ⟨⟨u, o, ho, _⟩, _⟩ := S.cells y a ha
    subst G
    exact Heap.lt_size ho
  refine ⟨⟨S.base, fun b o e => kH b o (S.ks b o e), S.pw.ks kH, K.kind, S.gl, S.bl, ⟨_, hn⟩, ?_, S.pw.not_new, fun y a ha => ?_, fun x y a hx hy => ?_, fun y e hy => ?_, fun y e hy b hb => ?_, fun y e z e' hy hz => S.apart y e z e' (K.sub y e hy) (K.sub z e' hz), fun y e hy => S.nodup y e (K.sub y e hy)⟩, kH, ?_, fun y a ha => (mem y a ha).imp id And.left⟩
  · exact none_back S.ks (none_of_lt (Nat.le_refl _))
  · rcases mem y a ha with h1 | ⟨h1, h2⟩
    · obtain ⟨⟨u, hu⟩, _⟩ := S.cells y a h1
      have hlt := clt y a h1
      exact ⟨⟨u, hu.keeps kH⟩, Nat.ne_of_lt hlt, fun hl => absurd (Nat.lt_trans hl hlt) (Nat.lt_irrefl _)⟩
    · refine ⟨⟨_, h2⟩, Nat.ne_of_gt h1, fun _ => ⟨none_back S.ks (none_of_lt (Nat.le_of_lt h1)), fun hp => ?_⟩⟩
      obtain ⟨o, ho⟩ := Option.isSome_iff_exists.mp (S.pw a hp)
      exact Nat.lt_irrefl _ (Nat.lt_trans (Heap.lt_size ho) h1)
  · have pw : (cellsFrom (h.objs.size + 1) scope.names cl).Pairwise fun x y => x.2 ≠ y.2 := by
      refine cf_pair _ _ _ ?_ fun z hz => Nat.lt_succ_of_lt (clt z.1 z.2 (K.ok.mem hz))
      have nd := K.nd
      have ok := K.ok
      generalize cl = l at nd ok
      induction l with
      | nil => exact List.Pairwise.nil
      | cons z r ih =>
        obtain ⟨n1, n2⟩ := List.nodup_cons.mp nd
        refine List.pairwise_cons.mpr ⟨fun u hu e => n1 ?_, ih n2 ok.2⟩
        have h1 := ok.mem (x := z.1) (a := z.2) (.head _)
        have h2 := ok.mem (x := u.1) (a := u.2) (.tail _ hu)
        rw [← e] at h2
        show z.1 ∈ _
        rw [S.capart _ _ _ h1 h2]
        exact List.mem_map.mpr ⟨u, hu, rfl⟩
    exact name_of_addr pw (mem_of_lookup hx) (mem_of_lookup hy)
  · change (let G : Prop := _; G)
    intro G
    obtain ⟨h1, h2, a, h3, h4⟩ := K.cap h.objs.size y (List.mem_map.mpr ⟨_, hy, rfl⟩)
    subst G
    obtain ⟨b, en⟩ := S.vals y e (K.sub y e hy)
    refine ⟨?_, en.mono (fun _ e => e) (Ks.kp kH) fun b hb => some_of_ks kH (S.own y e (K.sub y e hy) b hb).2.2.2.2⟩
    cases b with
    | loc q n e => rcases h2 with h2 | h2 <;> (rw [h2] at q; cases q)
    | cell q e i =>
      rw [h4] at e; cases e
      exact .cell h1 h3 (i.keeps kH)
  · change (let G : Prop := _; G)
    intro G
    obtain ⟨h1, h2, h3, h4, h5⟩ := S.own y e (K.sub y e hy) b hb
    subst G
    have hlt : b < h.objs.size := by obtain ⟨o, ho⟩ := Option.isSome_iff_exists.mp h5; exact Heap.lt_size ho
    refine ⟨h1, h2, Nat.ne_of_lt hlt, fun z a ha => ?_, by rw [some_of_ks kH h5]; exact h5⟩
    rcases mem z a ha with q | ⟨q, _⟩
    · exact h4 z a q
    · exact Nat.ne_of_lt (Nat.lt_trans hlt q)
  · change (let G : Prop := _; G)
    intro G
    obtain ⟨o, _, _, ho, _⟩ := hn
    subst G
    show (H.get? h.objs.size).isSome = true
    rw [ho]; rfl
end

end Mine
end

section
open PySem PySem.W PyProof.Rows
set_option Elab.async false
set_option maxRecDepth 100000
set_option linter.unusedVariables false
namespace Mine

section
variable {c : Cx} {scope : Scope} {cl : List (Str × Addr)} {σ capt : List (Str × Ent)} {iter elt kx vx target : Expr} {ifs : List Expr} {ds : List D} {pos pos' : Pos}

structure CompDone (c : Cx) (P : Addr → Prop) (s : Shared) (C : Addr) (P' : Addr → Prop) (s' : Shared) : Prop where
  ext : Ext P P' s.heap s'.heap
  rest : Rest c.q s s'
  cn : s.heap.get? C = none
  cp : ¬ P' C
  ns : ∃ m, s'.heap.Ns C m

structure CompAt (c : Cx) (ce : Env) (capt : List (Str × Ent)) (g : Heap) (P P' : Addr → Prop) (s s₂ : Shared) (wr : List Addr) (D : Addr) (n : Nat) (St : Nat → Heap → Prop) (i : Nat) (Pi : Addr → Prop) (ρ : Str → Value) (ω : Str → List Addr) (s' : Shared) : Prop where
  le : i ≤ n
  sto : Sto c.w g ce Pi s'.heap capt ρ ω
  sub : ∀ b, P' b → Pi b
  new : ∀ b, Pi b → P b ∨ s.heap.get? b = none
  kp : Kp P' s₂.heap s'.heap
  ks : Ks s.heap s'.heap
  rest : Rest c.q s s'
  st : St i s'.heap
  offw : ∀ b ∈ wr, Off ce Pi capt ω b ∧ (s'.heap.get? b).isSome = true
  offD : Off ce Pi capt ω D ∧ (s'.heap.get? D).isSome = true

theorem shape_go {A : Around} {w : World} {I : Addr} {v : Value} {s : Shared} {Q : Unit → Shared → Prop} {E : Value → Shared → Prop} (ht : TgtShape target)
    (hgo : ∀ elts x p, ∀ (Q : Unit → Shared → Prop) (E : Value → Shared → Prop), Q () s → wpAny (model prg w) A (letOwnedTupleGo (.Tuple elts x p) (.ref I) v) Q E s) (h : Q () s) : wpAny (model prg w) A (letOwnedTupleGo target (.ref I) v) Q E s := by
  rcases ht with ⟨x, p, rfl⟩ | ⟨es, k, p, rfl⟩
  · exact wpAny_pure h
  · exact hgo _ _ _ _ _ h

theorem CompAt.turn {A : Around} {g : Heap} {P P' : Addr → Prop} {s s₂ s' : Shared} {ce : Env} {I : Addr} {fp wr : List Addr} {D : Addr} {n : Nat} {Pn : Nat → Value → Prop} {St : Nat → Heap → Prop} {i : Nat} {Pi : Addr → Prop} {ρ : Str → Value} {ω : Str → List Addr} {E : Value → Shared → Prop} {Q : Option Value → Shared → Prop}
    (X : CompAt c ce capt g P P' s s₂ wr D n St i Pi ρ ω s') (rm : Rm c.k A) (W : Walks prg c.w A I fp wr n Pn St) (hn : n = ds.length) (hlt : i < n) (ht : TgtShape target) (hDfp : D ∉ fp)
    (gw : ∀ b ∈ wr, g.get? b = none) (sw : ∀ b ∈ wr, s.heap.get? b = none) (hC : s.heap.get? ce.locals = none) (hcn : ∀ y a, ce.cells.lookup y = some a → ce.locals < a → s.heap.get? a = none)
    (hfp : ∀ b ∈ fp, b ∈ wr ∨ P' b) (hP : ∀ i v, i < ds.length → Pn i v → ∀ P'' h', (∀ b, P' b → P'' b) → Kp P' s₂.heap h' → ∃ d, ds[i]? = some d ∧ Rp c.w P'' h' v d)
    (hsome : ∀ i h, St i h → ∀ b ∈ wr, (h.get? b).isSome = true)
    (hgo : ∀ i h elts x p v, St i h → ∀ (A : Around) (s : Shared) (Q : Unit → Shared → Prop) (E : Value → Shared → Prop), s.heap = h → Q () s → wpAny (model prg c.w) A (letOwnedTupleGo (.Tuple elts x p) (.ref I) v) Q E s)
    (h : ∀ d v s₁, ds[i]? = some d → (wpAny (model prg c.w) A (letOwnedTupleGo target (.ref I) v) (fun _ s₁' => s₁' = s₁) NoE s₁) →
      (∀ (σ' : List (Str × Ent)), Sub capt σ' → Tgt { c with env := ce } target d capt σ' → ∀ K : Unit → Shared → Prop,
        (∀ s₃ ρ' ω', CompAt c ce capt g P P' s s₂ wr D n St (i + 1) Pi ρ' ω' s₃ → Sto c.w g ce Pi s₃.heap σ' ρ' ω' → s₃.heap.get? D = s'.heap.get? D → Kp Pi s'.heap s₃.heap → K () s₃) → wpAny (model prg c.w) A (assign target ce v) K NoE s₁) → Q (some v) s₁) :
    wpAny (model prg c.w) A (pyNext (.ref I)) Q E s' := by
  refine W.item i _ _ _ hlt X.st fun v h' tk hPn st' hk => ?_
  have kwp : Kp Pi s'.heap h' := fun b o hb e => hk b o (fun hm => (X.offw b hm).1.p hb) e
  have S1 : Sto c.w g ce Pi h' capt ρ ω := X.sto.off hk (fun b hb => (X.offw b hb).1) gw
  change (let G : Prop := _; G)
  intro G
  obtain ⟨d, hd, rv⟩ := hP i v (hn ▸ hlt) hPn Pi h' X.sub fun b o hb e => kwp b o (X.sub b hb) (X.kp b o hb e)
  subst G
  have hDw : D ∉ wr := fun hm => hDfp (W.sub D hm)
  have hD1 : h'.get? D = s'.heap.get? D := by
    obtain ⟨o, ho⟩ := Option.isSome_iff_exists.mp X.offD.2
    rw [ho, hk D o hDw ho]
  refine h d v { s' with heap := h', toks := tk } hd (shape_go ht (fun elts x p Q E hq => hgo (i + 1) h' elts x p v st' A _ Q E rfl hq) rfl) fun σ' hsub T K hK => ?_
  refine T A g Pi { s' with heap := h', toks := tk } ρ ω v K rm S1 rv fun h'' tk' ρ' ω' S2 kp same own => hK { s' with heap := h'', toks := tk' } ρ' ω' ?_ S2 ?_ fun b o hb e => kp b o hb (kwp b o hb e)
  · have offs : ∀ b, Off ce Pi capt ω b → (h'.get? b).isSome = true → h''.get? b = h'.get? b ∧ Off ce Pi capt ω' b := fun b ob hb => by
      refine ⟨same b ob.l (fun y a ha _ => ob.c y a ha) hb, ob.p, ob.l, ob.c, fun x e hx hm => ?_⟩
      change (let G : Prop := _; G)
      intro G
      obtain ⟨_, e', hm', hb'⟩ := own x e (hsub x e hx) b hm
      subst G
      exact ob.o x e' hm' hb'
    refine ⟨hlt, S2.sub hsub, X.sub, X.new, fun b o hb e => kp b o (X.sub b hb) (kwp b o (X.sub b hb) (X.kp b o hb e)), fun b o e => ?_, X.rest.trans Rest.of, ?_, fun b hb => ?_, ?_⟩
    · have e1 := hk b o (fun hm => by rw [sw b hm] at e; cases e) (X.ks b o e)
      refine (same b (fun z => by rw [z, hC] at e; cases e) (fun y a ha hl z => by rw [z, hcn y a ha hl] at e; cases e) (by show (h'.get? b).isSome = true; rw [e1]; rfl)).trans e1
    · refine W.frame _ _ _ st' fun b hb o e => ?_
      rcases hfp b hb with hw | hp
      · rw [(offs b (X.offw b hw).1 (hsome _ _ st' b hw)).1]; exact e
      · exact kp b o (X.sub b hp) e
    · obtain ⟨q1, q2⟩ := offs b (X.offw b hb).1 (hsome _ _ st' b hb)
      exact ⟨q2, by show (h''.get? b).isSome = true; rw [q1]; exact hsome _ _ st' b hb⟩
    · have hDs : (h'.get? D).isSome = true := by rw [hD1]; exact X.offD.2
      obtain ⟨q1, q2⟩ := offs D X.offD.1 hDs
      exact ⟨q2, by show (h''.get? D).isSome = true; rw [q1]; exact hDs⟩
  · refine (same D X.offD.1.l (fun y a ha _ => X.offD.1.c y a ha) (by rw [hD1]; exact X.offD.2)).trans hD1

theorem CompAt.grow {g : Heap} {P P' : Addr → Prop} {s s₂ s' s₃ : Shared} {ce : Env} {wr fp : List Addr} {D I : Addr} {n : Nat} {A : Around} {Pn : Nat → Value → Prop} {St : Nat → Heap → Prop} {i : Nat} {Pi P₃ : Addr → Prop} {ρ : Str → Value} {ω : Str → List Addr}
    (X : CompAt c ce capt g P P' s s₂ wr D n St i Pi ρ ω s') (W : Walks prg c.w A I fp wr n Pn St) (x : Ext Pi P₃ s'.heap s₃.heap) (y : Rest c.q s' s₃) : CompAt c ce capt g P P' s s₂ wr D n St i P₃ ρ ω s₃ := by
  have offs : ∀ b, Off ce Pi capt ω b → (s'.heap.get? b).isSome = true → Off ce P₃ capt ω b ∧ (s₃.heap.get? b).isSome = true := fun b ob hb =>
    ⟨⟨fun hp => (x.new b hp).elim ob.p fun z => (by rw [z] at hb; cases hb), ob.l, ob.c, ob.o⟩, by rw [some_of_ks x.ks hb]; exact hb⟩
  exact ⟨X.le, X.sto.ext x, fun b hb => x.sub b (X.sub b hb), fun b hb => (x.new b hb).elim (X.new b) fun z => .inr (none_back X.ks z), fun b o hb e => x.ks b o (X.kp b o hb e), X.ks.trans x.ks, X.rest.trans y,
    W.frame _ _ _ X.st fun b _ o e => x.ks b o e, fun b hb => offs b (X.offw b hb).1 (X.offw b hb).2, offs D X.offD.1 X.offD.2⟩
theorem CompAt.mut {g : Heap} {P P' : Addr → Prop} {s s₂ s' : Shared} {h' : Heap} {tk : Nat} {ce : Env} {wr fp : List Addr} {D I : Addr} {n : Nat} {A : Around} {Pn : Nat → Value → Prop} {St : Nat → Heap → Prop} {i : Nat} {Pi : Addr → Prop} {ρ : Str → Value} {ω : Str → List Addr}
    (X : CompAt c ce capt g P P' s s₂ wr D n St i Pi ρ ω s') (W : Walks prg c.w A I fp wr n Pn St) (hDfp : D ∉ fp) (hD : s.heap.get? D = none) (gD : g.get? D = none) (hs : Heap.SameBut D s'.heap h') (hi : (h'.get? D).isSome = true) : CompAt c ce capt g P P' s s₂ wr D n St i Pi ρ ω { s' with heap := h', toks := tk } := by
  have kp : ∀ b o, b ≠ D → s'.heap.get? b = some o → h'.get? b = some o := fun b o hb e => (hs.2 b hb).trans e
  have pD : ∀ b, Pi b → b ≠ D := fun b hb z => X.offD.1.p (z ▸ hb)
  refine ⟨X.le, X.sto.off (wr := [D]) (fun b o hb e => kp b o (fun z => hb (by rw [z]; exact .head _)) e) (fun b hb => by rw [List.mem_singleton.mp hb]; exact X.offD.1) (fun b hb => by rw [List.mem_singleton.mp hb]; exact gD), X.sub, X.new, fun b o hb e => kp b o (pD b (X.sub b hb)) (X.kp b o hb e), fun b o e => kp b o (fun z => by rw [z, hD] at e; cases e) (X.ks b o e), X.rest.trans Rest.of,
    W.frame _ _ _ X.st fun b hb o e => kp b o (fun z => hDfp (z ▸ hb)) e, fun b hb => ⟨(X.offw b hb).1, ?_⟩, X.offD.1, hi⟩
  show (h'.get? b).isSome = true
  rw [hs.2 b fun z => hDfp (z ▸ W.sub b hb)]
  exact (X.offw b hb).2

theorem Rest.toks {q : Bool} {s : Shared} {t : Nat} : Rest q s { s with toks := t } := Rest.of

theorem comp_list (K : Capt c scope cl σ capt) (hi : Itr c σ iter ds) (hsz : ds.length ≤ sizeLine) (ht : TgtShape target) (out : Nat → List D) (h0 : out 0 = [])
    (turn : ∀ (C : Nat) i d, ds[i]? = some d → ∃ σ' b, Sub capt σ' ∧ Tgt { c with env := cEnv scope cl C c.env } target d capt σ' ∧ Ifs { c with env := cEnv scope cl C c.env } σ' ifs b ∧
      (b = true → ∃ r, Ev { c with env := cEnv scope cl C c.env } σ' elt r ∧ out (i + 1) = out i ++ [r]) ∧ (b = false → out (i + 1) = out i))
    (use : Option (Value → Sem Unit)) {A : Around} {g : Heap} {P : Addr → Prop} {s : Shared} {ρ : Str → Value} {ω : Str → List Addr} (rm : Rm c.k A) (S : Sto c.w g c.env P s.heap σ ρ ω) {Q : Value → Shared → Prop}
    (hQ : ∀ D C P' s', CompDone c P s C P' s' → (∃ vs, PLst s'.heap D vs ∧ RpL c.w P' s'.heap vs (out ds.length)) → s.heap.get? D = none → ¬ P' D → D ≠ C → compPost (model prg c.w) A NoE use Q (.ref D) C (.ok .next) s')
    (hs : ∀ x, foldedSetIterable iter c.env x = pure x := by intro _; rfl) :
    wpAny (model prg c.w) A (comprehension (.ListComp elt [⟨target, iter, ifs, 0⟩] scope pos) scope c.env pos' (newList []) false (eval iter c.env) use) Q NoE s := by
  refine wpAny_comprehension_free (g := ⟨target, iter, ifs, 0⟩) (gs := []) rfl hs K.clos K.kind K.names (wpAny_mono (hi A g P s ρ ω rm S) (fun xv s₁ h₁ => wpAny_mono h₁ (fun it s₂ h₂ => ?_) fun _ _ e => e) fun _ _ e => e)
  change (let G : Prop := _; G)
  intro G
  obtain ⟨P', I, fp, wr, n, Pn, St, rfl, hn, x₂, y₂, W, st0, hwr, hfp, hP, hsome, hgo⟩ := h₂.ex
  subst G
  have S₂ := S.ext x₂
  refine wpAny_newList ?_ (by show 0 ≤ sizeLine; exact Nat.zero_le _)
  refine comp_env ?_
  show codeAny _ A (.compStart _ 0 (.ref I) (.ref s₂.heap.objs.size) (cEnv scope cl _ c.env)) _ _
  have x₃ := Ext.push0 (P := P') x₂.pw { cls := .type "list", data := .seq ([] : List Value).toArray }
  have S₃ := S₂.ext x₃
  have hlist : (s₂.heap.push { cls := .type "list", data := .seq ([] : List Value).toArray }).get? s₂.heap.objs.size = some { cls := .type "list", data := .seq ([] : List Value).toArray } := Heap.get?_push_size _ rfl
  generalize hH : s₂.heap.push { cls := .type "list", data := .seq ([] : List Value).toArray } = H3 at *
  have hH3 : H3.objs.size = s₂.heap.objs.size + 1 := by rw [← hH]; exact Heap.size_push ..
  change (let G : Prop := _; G)
  intro G
  obtain ⟨S₄, k₄, hC₄, hcell⟩ := K.sto S₃
  subst G
  show codeAny _ A (.compStart _ 0 (.ref I) (.ref s₂.heap.objs.size) (cEnv scope cl H3.objs.size c.env)) (compPost (model prg c.w) A NoE use Q (.ref s₂.heap.objs.size) H3.objs.size) { s₂ with heap := pushCells (H3.push { cls := .type "dict", data := .dict #[] }) scope.names }
  generalize hH4 : pushCells (H3.push { cls := .type "dict", data := .dict #[] }) scope.names = H4 at *
  have fresh : ∀ b, s₂.heap.objs.size ≤ b → s.heap.get? b = none := fun b hb => none_back x₂.ks (none_of_lt hb)
  have gfresh : ∀ b, s₂.heap.objs.size ≤ b → g.get? b = none := fun b hb => none_back S.ks (fresh b hb)
  have hDfp : s₂.heap.objs.size ∉ fp := fun hm => by
    rcases hfp _ hm with hw | hp
    · obtain ⟨o, ho⟩ := Option.isSome_iff_exists.mp (hwr _ hw).2.2
      exact Nat.lt_irrefl _ (Heap.lt_size ho)
    · exact x₂.pw.not_new hp
  have kk : Ks s₂.heap H4 := x₃.ks.trans k₄
  have gw : ∀ b ∈ wr, g.get? b = none := fun b hb => none_back S.ks (hwr b hb).1
  have sw : ∀ b ∈ wr, s.heap.get? b = none := fun b hb => (hwr b hb).1
  have hcn : ∀ y a, (cEnv scope cl H3.objs.size c.env).cells.lookup y = some a → H3.objs.size < a → s.heap.get? a = none := fun y a _ hl => fresh a (by (first | lia | omega))
  have start : ∀ b, (s₂.heap.get? b).isSome = true ∨ b = s₂.heap.objs.size → ¬ P' b → (∀ y a, c.env.cells.lookup y = some a → b ≠ a) → (∀ x e, (x, e) ∈ capt → b ∉ ω x) → Off (cEnv scope cl H3.objs.size c.env) P' capt ω b ∧ (H4.get? b).isSome = true := fun b hb hp hc ho => by
    have hlt : b < H3.objs.size := by
      rw [hH3]
      rcases hb with hb | rfl
      · obtain ⟨o, ho⟩ := Option.isSome_iff_exists.mp hb; exact Nat.lt_succ_of_lt (Heap.lt_size ho)
      · exact Nat.lt_succ_self _
    refine ⟨⟨hp, Nat.ne_of_lt hlt, fun y a ha => ?_, ho⟩, ?_⟩
    · rcases hcell y a ha with q | q
      · exact hc y a q
      · exact Nat.ne_of_lt (Nat.lt_trans hlt q)
    · rcases hb with hb | rfl
      · rw [some_of_ks kk hb]; exact hb
      · rw [k₄ _ _ hlist]; rfl
  have cfresh : ∀ b, s.heap.get? b = none → (∀ y a, c.env.cells.lookup y = some a → b ≠ a) ∧ ∀ x e, (x, e) ∈ capt → b ∉ ω x := fun b hb => by
    refine ⟨fun y a ha z => ?_, fun x e hx hm => ?_⟩
    · change (let G : Prop := _; G)
      intro G
      obtain ⟨⟨u, o, ho, _⟩, _⟩ := S.cells y a ha
      subst G
      rw [z, ho] at hb; cases hb
    · have := (S.own x e (K.sub x e hx) b hm).2.2.2.2
      rw [hb] at this; cases this
  have X0 : CompAt c (cEnv scope cl H3.objs.size c.env) capt g P P' s s₂ wr s₂.heap.objs.size n St 0 P' ρ ω { s₂ with heap := H4 } :=
    ⟨Nat.zero_le _, S₄, fun _ h => h, x₂.new, fun b o _ e => kk b o e, x₂.ks.trans kk, y₂.trans Rest.of, W.frame _ _ _ st0 fun b _ o e => kk b o e, fun b hb => start b (.inl (hwr b hb).2.2) (hwr b hb).2.1 (cfresh b (hwr b hb).1).1 (cfresh b (hwr b hb).1).2,
      start _ (.inr rfl) x₂.pw.not_new (cfresh _ (fresh _ (Nat.le_refl _))).1 (cfresh _ (fresh _ (Nat.le_refl _))).2⟩
  have L0 : ∃ vs, PLst H4 s₂.heap.objs.size vs ∧ RpL c.w P' H4 vs (out 0) := ⟨[], ⟨_, 0, k₄ _ _ hlist, rfl, rfl, rfl⟩, by rw [h0]; exact .nil⟩
  have loop : ∀ s₄ : Shared, s₄ = { s₂ with heap := H4 } → codeAny (model prg c.w) A (.compLoop (.ListComp elt [⟨target, iter, ifs, 0⟩] scope pos) 0 (.ref I) (.ref s₂.heap.objs.size) (cEnv scope cl H3.objs.size c.env)) (compPost (model prg c.w) A NoE use Q (.ref s₂.heap.objs.size) H3.objs.size) s₄ := by
    rintro s₄ rfl
    refine compLoop_go (fun k s' => ∃ i Pi ρi ωi vs, k = n + 1 - i ∧ CompAt c (cEnv scope cl H3.objs.size c.env) capt g P P' s s₂ wr s₂.heap.objs.size n St i Pi ρi ωi s' ∧ PLst s'.heap s₂.heap.objs.size vs ∧ RpL c.w Pi s'.heap vs (out i) ∧ vs.length ≤ i) ?_ (n + 1)
      ⟨0, P', ρ, ω, [], rfl, X0, ⟨_, 0, k₄ _ _ hlist, rfl, rfl, rfl⟩, by rw [h0]; exact .nil, Nat.le_refl _⟩
    intro k s' hI0
    change (let G : Prop := _; G)
    intro G
    obtain ⟨i, Pi, ρi, ωi, vs, rfl, X, hl, hr, hle⟩ := hI0
    subst G
    by_cases hlt : i < n
    · refine X.turn rm W hn hlt ht hDfp gw sw (fresh _ (by show s₂.heap.objs.size ≤ H3.objs.size; (first | lia | omega))) hcn hfp hP hsome hgo fun d v s₁ hd hlet go => ?_
      change (let G : Prop := _; G)
      intro G
      obtain ⟨σ', b, hsub, hT, hifs, hb1, hb0⟩ := turn H3.objs.size i d hd
      subst G
      refine wpAny_mono hlet (fun _ s₁' e => ?_) fun _ _ x => x.elim
      subst e
      refine wpAny_mono (go σ' hsub hT _ fun s₃ ρ' ω' X' S' hD hkp => ?_) (fun _ _ h => h) fun _ _ x => x.elim
      have hl₃ : PLst s₃.heap s₂.heap.objs.size vs := by
        change (let G : Prop := _; G)
        intro G
        obtain ⟨o, m, ho, r⟩ := hl
        subst G
        exact ⟨o, m, hD.trans ho, r⟩
      have hr₃ : RpL c.w Pi s₃.heap vs (out i) := hr.mono (fun _ e => e) hkp
      refine wpAny_mono (hifs A g Pi s₃ ρ' ω' rm S') (fun ok s₄ zz => Pst.elim zz fun P₄ x₄ y₄ z₄ => ?_) fun _ _ x => x.elim
      subst z₄
      have X₄ := X'.grow W x₄ y₄
      have hl₄ : PLst s₄.heap s₂.heap.objs.size vs := by
        change (let G : Prop := _; G)
        intro G
        obtain ⟨o, m, ho, r⟩ := hl₃
        subst G
        exact ⟨o, m, x₄.ks _ _ ho, r⟩
      have hr₄ := x₄.rpl hr₃
      cases ok with
      | false =>
        rw [if_neg Bool.false_ne_true]
        exact ⟨n + 1 - (i + 1), by (first | lia | omega), i + 1, P₄, ρ', ω', vs, rfl, X₄, hl₄, by rw [hb0 rfl]; exact hr₄, by (first | lia | omega)⟩
      | true =>
        rw [if_pos rfl]
        change (let G : Prop := _; G)
        intro G
        obtain ⟨r, hev, hout⟩ := hb1 rfl
        subst G
        refine wpAny_mono (hev A g P₄ s₄ ρ' ω' rm (S'.ext x₄)) (fun y s₅ zz => Pst.elim zz fun P₅ x₅ y₅ z₅ => ?_) fun _ _ x => x.elim
        have X₅ := X₄.grow W x₅ y₅
        have hl₅ : PLst s₅.heap s₂.heap.objs.size vs := by
          change (let G : Prop := _; G)
          intro G
          obtain ⟨o, m, ho, q⟩ := hl₄
          subst G
          exact ⟨o, m, x₅.ks _ _ ho, q⟩
        have hr₅ := x₅.rpl hr₄
        refine list_append_plainL (hsz := by rw [List.size_toArray]; (first | lia | omega)) hl₅ fun h' hl' hsb => ?_
        change (let G : Prop := _; G)
        intro G
        obtain ⟨o, m, ho, _⟩ := id hl'
        subst G
        have X₆ := X₅.mut (h' := h') (tk := s₅.toks) W hDfp (fresh _ (Nat.le_refl _)) (gfresh _ (Nat.le_refl _)) hsb (by rw [ho]; rfl)
        have kp : Kp P₅ s₅.heap h' := fun b o hb e => (hsb.2 b fun z => X₅.offD.1.p (z ▸ hb)).trans e
        rw [List.push_toArray] at hl'
        exact ⟨n + 1 - (i + 1), by (first | lia | omega), i + 1, P₅, ρ', ω', vs ++ [y], rfl, X₆, hl', by rw [hout]; exact (hr₅.mono (fun _ e => e) kp).append (.cons (Rp.mono (fun _ e => e) kp z₅) .nil), by rw [List.length_append]; simp; (first | lia | omega)⟩
    · have hie : i = n := by have := X.le; (first | lia | omega)
      subst hie
      refine W.done _ _ _ X.st fun h' tk hk => ?_
      have hDw : s₂.heap.objs.size ∉ wr := fun hm => hDfp (W.sub _ hm)
      have kwp : Kp Pi s'.heap h' := fun b o hb e => hk b o (fun hm => (X.offw b hm).1.p hb) e
      have S₉ := X.sto.off hk (fun b hb => (X.offw b hb).1) gw
      refine hQ s₂.heap.objs.size H3.objs.size Pi _ ⟨⟨fun b o e => hk b o (fun hm => by rw [sw b hm] at e; cases e) (X.ks b o e), fun b hb => X.sub b (x₂.sub b hb), X.new, S₉.pw⟩, X.rest.trans Rest.of, fresh _ (by (first | lia | omega)), S₉.lp, S₉.ns⟩ ⟨vs, ?_, ?_⟩ (fresh _ (Nat.le_refl _)) X.offD.1.p (by rw [hH3]; exact Nat.ne_of_lt (Nat.lt_succ_self _))
      · change (let G : Prop := _; G)
        intro G
        obtain ⟨o, m, ho, q⟩ := hl
        subst G
        exact ⟨o, m, hk _ _ hDw ho, q⟩
      · rw [← hn]; exact hr.mono (fun _ e => e) kwp
  exact codeAny_compStart_list (loop _ rfl) (W.self 0 _ _ _ X0.st (loop _ rfl))
end
end Mine
end

section
open PySem PySem.W PyProof.Rows
set_option Elab.async false
set_option maxRecDepth 100000
set_option linter.unusedVariables false
namespace Mine

section
variable {c : Cx} {scope : Scope} {cl : List (Str × Addr)} {σ σ' capt : List (Str × Ent)} {iter elt kx vx target : Expr} {ifs : List Expr} {ds : List D} {pos pos' : Pos}
theorem comp_dict (K : Capt c scope cl σ capt) (hi : Itr c σ iter ds) (hsz : ds.length ≤ sizeLine) (ht : TgtShape target) (out : Nat → List (Int × D)) (h0 : out 0 = [])
    (turn : ∀ (C : Nat) i d, ds[i]? = some d → ∃ σ' b, Sub capt σ' ∧ Tgt { c with env := cEnv scope cl C c.env } target d capt σ' ∧ Ifs { c with env := cEnv scope cl C c.env } σ' ifs b ∧
      (b = true → ∃ n r, Ev { c with env := cEnv scope cl C c.env } σ' kx (.int n) ∧ Ev { c with env := cEnv scope cl C c.env } σ' vx r ∧ out (i + 1) = dput (out i) n r) ∧ (b = false → out (i + 1) = out i))
    (use : Option (Value → Sem Unit)) {A : Around} {g : Heap} {P : Addr → Prop} {s : Shared} {ρ : Str → Value} {ω : Str → List Addr} (rm : Rm c.k A) (S : Sto c.w g c.env P s.heap σ ρ ω) {Q : Value → Shared → Prop}
    (hQ : ∀ D C P' s', CompDone c P s C P' s' → (∃ kvs, s'.heap.DictOf (intKind prg c.w) D kvs ∧ RpE c.w P' s'.heap kvs (out ds.length)) → 3 < D → s.heap.get? D = none → ¬ P' D → D ≠ C → compPost (model prg c.w) A NoE use Q (.ref D) C (.ok .next) s')
    (hs : ∀ x, foldedSetIterable iter c.env x = pure x := by intro _; rfl) :
    wpAny (model prg c.w) A (comprehension (.DictComp kx vx [⟨target, iter, ifs, 0⟩] scope pos) scope c.env pos' newDict false (eval iter c.env) use) Q NoE s := by
  refine wpAny_comprehension_free (g := ⟨target, iter, ifs, 0⟩) (gs := []) rfl hs K.clos K.kind K.names (wpAny_mono (hi A g P s ρ ω rm S) (fun xv s₁ h₁ => wpAny_mono h₁ (fun it s₂ h₂ => ?_) fun _ _ e => e) fun _ _ e => e)
  change (let G : Prop := _; G)
  intro G
  obtain ⟨P', I, fp, wr, n, Pn, St, rfl, hn, x₂, y₂, W, st0, hwr, hfp, hP, hsome, hgo⟩ := h₂.ex
  subst G
  have S₂ := S.ext x₂
  refine wpAny_newObj_type ?_
  refine comp_env ?_
  show codeAny _ A (.compStart _ 0 (.ref I) (.ref s₂.heap.objs.size) (cEnv scope cl _ c.env)) _ _
  have x₃ := Ext.push0 (P := P') x₂.pw { cls := .type "dict", data := .dict #[] }
  have S₃ := S₂.ext x₃
  have hnew : (s₂.heap.push { cls := .type "dict", data := .dict #[] }).DictOf (intKind prg c.w) s₂.heap.objs.size [] := Heap.DictOf.new s₂.heap
  have hlist : (s₂.heap.push { cls := .type "dict", data := .dict #[] }).get? s₂.heap.objs.size = some { cls := .type "dict", data := .dict #[] } := Heap.get?_push_size _ rfl
  generalize hH : s₂.heap.push { cls := .type "dict", data := .dict #[] } = H3 at *
  have hH3 : H3.objs.size = s₂.heap.objs.size + 1 := by rw [← hH]; exact Heap.size_push ..
  change (let G : Prop := _; G)
  intro G
  obtain ⟨S₄, k₄, hC₄, hcell⟩ := K.sto S₃
  subst G
  show codeAny _ A (.compStart _ 0 (.ref I) (.ref s₂.heap.objs.size) (cEnv scope cl H3.objs.size c.env)) (compPost (model prg c.w) A NoE use Q (.ref s₂.heap.objs.size) H3.objs.size) { s₂ with heap := pushCells (H3.push { cls := .type "dict", data := .dict #[] }) scope.names }
  generalize hH4 : pushCells (H3.push { cls := .type "dict", data := .dict #[] }) scope.names = H4 at *
  have fresh : ∀ b, s₂.heap.objs.size ≤ b → s.heap.get? b = none := fun b hb => none_back x₂.ks (none_of_lt hb)
  have gfresh : ∀ b, s₂.heap.objs.size ≤ b → g.get? b = none := fun b hb => none_back S.ks (fresh b hb)
  have hDfp : s₂.heap.objs.size ∉ fp := fun hm => by
    rcases hfp _ hm with hw | hp
    · obtain ⟨o, ho⟩ := Option.isSome_iff_exists.mp (hwr _ hw).2.2
      exact Nat.lt_irrefl _ (Heap.lt_size ho)
    · exact x₂.pw.not_new hp
  have kk : Ks s₂.heap H4 := x₃.ks.trans k₄
  have gw : ∀ b ∈ wr, g.get? b = none := fun b hb => none_back S.ks (hwr b hb).1
  have sw : ∀ b ∈ wr, s.heap.get? b = none := fun b hb => (hwr b hb).1
  have hcn : ∀ y a, (cEnv scope cl H3.objs.size c.env).cells.lookup y = some a → H3.objs.size < a → s.heap.get? a = none := fun y a _ hl => fresh a (by (first | lia | omega))
  have start : ∀ b, (s₂.heap.get? b).isSome = true ∨ b = s₂.heap.objs.size → ¬ P' b → (∀ y a, c.env.cells.lookup y = some a → b ≠ a) → (∀ x e, (x, e) ∈ capt → b ∉ ω x) → Off (cEnv scope cl H3.objs.size c.env) P' capt ω b ∧ (H4.get? b).isSome = true := fun b hb hp hc ho => by
    have hlt : b < H3.objs.size := by
      rw [hH3]
      rcases hb with hb | rfl
      · obtain ⟨o, ho⟩ := Option.isSome_iff_exists.mp hb; exact Nat.lt_succ_of_lt (Heap.lt_size ho)
      · exact Nat.lt_succ_self _
    refine ⟨⟨hp, Nat.ne_of_lt hlt, fun y a ha => ?_, ho⟩, ?_⟩
    · rcases hcell y a ha with q | q
      · exact hc y a q
      · exact Nat.ne_of_lt (Nat.lt_trans hlt q)
    · rcases hb with hb | rfl
      · rw [some_of_ks kk hb]; exact hb
      · rw [k₄ _ _ hlist]; rfl
  have cfresh : ∀ b, s.heap.get? b = none → (∀ y a, c.env.cells.lookup y = some a → b ≠ a) ∧ ∀ x e, (x, e) ∈ capt → b ∉ ω x := fun b hb => by
    refine ⟨fun y a ha z => ?_, fun x e hx hm => ?_⟩
    · change (let G : Prop := _; G)
      intro G
      obtain ⟨⟨u, o, ho, _⟩, _⟩ := S.cells y a ha
      subst G
      rw [z, ho] at hb; cases hb
    · have := (S.own x e (K.sub x e hx) b hm).2.2.2.2
      rw [hb] at this; cases this
  have X0 : CompAt c (cEnv scope cl H3.objs.size c.env) capt g P P' s s₂ wr s₂.heap.objs.size n St 0 P' ρ ω { s₂ with heap := H4 } :=
    ⟨Nat.zero_le _, S₄, fun _ h => h, x₂.new, fun b o _ e => kk b o e, x₂.ks.trans kk, y₂.trans Rest.of, W.frame _ _ _ st0 fun b _ o e => kk b o e, fun b hb => start b (.inl (hwr b hb).2.2) (hwr b hb).2.1 (cfresh b (hwr b hb).1).1 (cfresh b (hwr b hb).1).2,
      start _ (.inr rfl) x₂.pw.not_new (cfresh _ (fresh _ (Nat.le_refl _))).1 (cfresh _ (fresh _ (Nat.le_refl _))).2⟩
  have hnew4 : H4.DictOf (intKind prg c.w) s₂.heap.objs.size [] := hnew.at fun o e => k₄ _ _ e
  have loop : ∀ s₄ : Shared, s₄ = { s₂ with heap := H4 } → codeAny (model prg c.w) A (.compLoop (.DictComp kx vx [⟨target, iter, ifs, 0⟩] scope pos) 0 (.ref I) (.ref s₂.heap.objs.size) (cEnv scope cl H3.objs.size c.env)) (compPost (model prg c.w) A NoE use Q (.ref s₂.heap.objs.size) H3.objs.size) s₄ := by
    rintro s₄ rfl
    refine compLoop_goD (fun k s' => ∃ i Pi ρi ωi vs, k = n + 1 - i ∧ CompAt c (cEnv scope cl H3.objs.size c.env) capt g P P' s s₂ wr s₂.heap.objs.size n St i Pi ρi ωi s' ∧ s'.heap.DictOf (intKind prg c.w) s₂.heap.objs.size vs ∧ RpE c.w Pi s'.heap vs (out i) ∧ vs.length ≤ i) ?_ (n + 1)
      ⟨0, P', ρ, ω, [], rfl, X0, hnew4, by rw [h0]; exact .nil, Nat.le_refl _⟩
    intro k s' hI0
    change (let G : Prop := _; G)
    intro G
    obtain ⟨i, Pi, ρi, ωi, vs, rfl, X, hl, hr, hle⟩ := hI0
    subst G
    by_cases hlt : i < n
    · refine X.turn rm W hn hlt ht hDfp gw sw (fresh _ (by show s₂.heap.objs.size ≤ H3.objs.size; (first | lia | omega))) hcn hfp hP hsome hgo fun d v s₁ hd hlet go => ?_
      change (let G : Prop := _; G)
      intro G
      obtain ⟨σ', b, hsub, hT, hifs, hb1, hb0⟩ := turn H3.objs.size i d hd
      subst G
      refine wpAny_mono hlet (fun _ s₁' e => ?_) fun _ _ x => x.elim
      subst e
      refine wpAny_mono (go σ' hsub hT _ fun s₃ ρ' ω' X' S' hD hkp => ?_) (fun _ _ h => h) fun _ _ x => x.elim
      have hl₃ : s₃.heap.DictOf (intKind prg c.w) s₂.heap.objs.size vs := hl.at fun o ho => hD.trans ho
      have hr₃ : RpE c.w Pi s₃.heap vs (out i) := hr.mono (fun _ e => e) hkp
      refine wpAny_mono (hifs A g Pi s₃ ρ' ω' rm S') (fun ok s₄ zz => Pst.elim zz fun P₄ x₄ y₄ z₄ => ?_) fun _ _ x => x.elim
      subst z₄
      have X₄ := X'.grow W x₄ y₄
      have hl₄ := hl₃.at fun o ho => x₄.ks _ o ho
      have hr₄ : RpE c.w P₄ s₄.heap vs (out i) := hr₃.mono x₄.sub x₄.ks.kp
      cases ok with
      | false =>
        rw [if_neg Bool.false_ne_true]
        exact ⟨n + 1 - (i + 1), by (first | lia | omega), i + 1, P₄, ρ', ω', vs, rfl, X₄, hl₄, by rw [hb0 rfl]; exact hr₄, by (first | lia | omega)⟩
      | true =>
        rw [if_pos rfl]
        change (let G : Prop := _; G)
        intro G
        obtain ⟨m, r, hkx, hvx, hout⟩ := hb1 rfl
        subst G
        refine wpAny_mono (hkx A g P₄ s₄ ρ' ω' rm (S'.ext x₄)) (fun kv s₅ zz => Pst.elim zz fun P₅ x₅ y₅ z₅ => ?_) fun _ _ x => x.elim
        have X₅ := X₄.grow W x₅ y₅
        refine wpAny_mono (hvx A g P₅ s₅ ρ' ω' rm ((S'.ext x₄).ext x₅)) (fun y s₆ zz => Pst.elim zz fun P₆ x₆ y₆ z₆ => ?_) fun _ _ x => x.elim
        have X₆ := X₅.grow W x₆ y₆
        obtain ⟨t, rfl⟩ := Rp.inv z₅
        have hl₆ := hl₄.at fun o ho => (x₅.ks.trans x₆.ks) _ o ho
        have hr₆ : RpE c.w P₆ s₆.heap vs (out i) := hr₄.mono (x₅.trans x₆).sub (x₅.trans x₆).ks.kp
        refine wpAny_dictSet_pairs (hsz := by (first | lia | omega)) (intKind_is prg c.w m t) hl₆ fun h' hl' hsb => ?_
        obtain ⟨o, ho, _⟩ := Heap.dictOf_iff.mp hl'
        have X₇ := X₆.mut (h' := h') (tk := s₆.toks + 1) W hDfp (fresh _ (Nat.le_refl _)) (gfresh _ (Nat.le_refl _)) hsb (by rw [ho]; rfl)
        have kp : Kp P₆ s₆.heap h' := fun b o hb e => (hsb.2 b fun z => X₆.offD.1.p (z ▸ hb)).trans e
        exact ⟨n + 1 - (i + 1), by (first | lia | omega), i + 1, P₆, ρ', ω', stored vs m y, rfl, X₇, hl', by rw [hout]; exact (hr₆.mono (fun _ e => e) kp).put m (Rp.mono (fun _ e => e) kp z₆), by have := stored_length_le vs m y; (first | lia | omega)⟩
    · have hie : i = n := by have := X.le; (first | lia | omega)
      subst hie
      refine W.done _ _ _ X.st fun h' tk hk => ?_
      have hDw : s₂.heap.objs.size ∉ wr := fun hm => hDfp (W.sub _ hm)
      have kwp : Kp Pi s'.heap h' := fun b o hb e => hk b o (fun hm => (X.offw b hm).1.p hb) e
      have S₉ := X.sto.off hk (fun b hb => (X.offw b hb).1) gw
      refine hQ s₂.heap.objs.size H3.objs.size Pi _ ⟨⟨fun b o e => hk b o (fun hm => by rw [sw b hm] at e; cases e) (X.ks b o e), fun b hb => X.sub b (x₂.sub b hb), X.new, S₉.pw⟩, X.rest.trans Rest.of, fresh _ (by (first | lia | omega)), S₉.lp, S₉.ns⟩ ⟨vs, ?_, ?_⟩ S₂.base_now.lt (fresh _ (Nat.le_refl _)) X.offD.1.p (by rw [hH3]; exact Nat.ne_of_lt (Nat.lt_succ_self _))
      · exact hl.at fun o ho => hk _ _ hDw ho
      · rw [← hn]; exact hr.mono (fun _ e => e) kwp
  exact codeAny_compStart_dict (loop _ rfl) (W.self 0 _ _ _ X0.st (loop _ rfl))

theorem DictOf.keep {w : World} {P : Addr → Prop} {h : Heap} {a : Addr} {kvs : List (Int × Value)} {es : List (Int × D)} (hp : h.DictOf (intKind prg w) a kvs) (hr : RpE w P h kvs es) (hl : (a == sysModules) = false) : Rp w (fun b => P b ∨ b = a) h (.ref a) (.dct es) :=
  .dct (.inr rfl) hl hp (hr.mono (fun _ e => .inl e) fun _ _ _ e => e)

theorem EvR.comp (K : Capt c scope cl σ capt) (hi : Itr c σ iter ds) (hsz : ds.length ≤ sizeLine) (ht : TgtShape target) (out : Nat → List D) (h0 : out 0 = [])
    (turn : ∀ (C : Nat) i d, ds[i]? = some d → ∃ σ' b, Sub capt σ' ∧ Tgt { c with env := cEnv scope cl C c.env } target d capt σ' ∧ Ifs { c with env := cEnv scope cl C c.env } σ' ifs b ∧
      (b = true → ∃ r, Ev { c with env := cEnv scope cl C c.env } σ' elt r ∧ out (i + 1) = out i ++ [r]) ∧ (b = false → out (i + 1) = out i))
    (hs : ∀ x, foldedSetIterable iter c.env x = pure x := by intro _; rfl) : EvR c σ (.ListComp elt [⟨target, iter, ifs, 0⟩] scope pos) (.own (.lst (out ds.length))) := fun A g P s ρ ω rm S => by
  rw [eval_ListComp]
  refine comp_list K hi hsz ht out h0 turn none rm S (fun D C P' s' X ⟨vs, hl, hr⟩ hD hDp hDC => ?_) hs
  obtain ⟨m, hm⟩ := X.ns
  refine ⟨m, hm, fun h' hsb => ⟨P', ⟨fun b o e => (hsb.2 b fun z => by rw [z, X.cn] at e; cases e).trans (X.ext.ks b o e), X.ext.sub, X.ext.new, fun b hb => by rw [hsb.2 b fun z => X.cp (z ▸ hb)]; exact X.ext.pw b hb⟩, X.rest.trans Rest.of, [D], ⟨D, vs, rfl, rfl, ?_, hr.mono (fun _ e => e) fun b o hb e => (hsb.2 b fun z => X.cp (z ▸ hb)).trans e⟩, by simp, fun b hb => ?_⟩⟩
  · change (let G : Prop := _; G)
    intro G
    obtain ⟨o, n, ho, r⟩ := hl
    subst G
    exact ⟨o, n, (hsb.2 D hDC).trans ho, r⟩
  · rw [List.mem_singleton.mp hb]
    change (let G : Prop := _; G)
    intro G
    obtain ⟨o, n, ho, r⟩ := hl
    subst G
    exact ⟨hD, hDp, by show (h'.get? D).isSome = true; rw [hsb.2 D hDC, ho]; rfl⟩

theorem Ex1.comp {x : Str} {px spos : Pos} (K : Capt c scope cl σ capt) (hi : Itr c σ iter ds) (hsz : ds.length ≤ sizeLine) (ht : TgtShape target) (out : Nat → List D) (h0 : out 0 = [])
    (turn : ∀ (C : Nat) i d, ds[i]? = some d → ∃ σ' b, Sub capt σ' ∧ Tgt { c with env := cEnv scope cl C c.env } target d capt σ' ∧ Ifs { c with env := cEnv scope cl C c.env } σ' ifs b ∧
      (b = true → ∃ r, Ev { c with env := cEnv scope cl C c.env } σ' elt r ∧ out (i + 1) = out i ++ [r]) ∧ (b = false → out (i + 1) = out i))
    (hw : c.env.kindOf x = some .local) (hp : Puts x (.lst (out ds.length)) σ σ') (hsw : swapsWith (.ListComp elt [⟨target, iter, ifs, 0⟩] scope pos) (some (.Name x px)) spos.line c.env = pure true := by rfl)
    (hs : ∀ x, foldedSetIterable iter c.env x = pure x := by intro _; rfl) : Ex1 c σ (.Assign [.Name x px] (.ListComp elt [⟨target, iter, ifs, 0⟩] scope pos) spos) (.nxt σ') := fun A g P s ρ ω rm S => by
  rw [exec_Assign_Name_used _ _ _ _ hsw]
  refine wpAny_bind (wpAny_standAt (wpAny_bind ?_))
  rw [arm_evalThenUse_ListComp]
  refine wpAny_bind (wpAny_mono (comp_list (Q := fun _ s' => XP c g P s (.nxt σ') .next s') K hi hsz ht out h0 turn (some (PySem.assign (Expr.Name x px) c.env)) rm S (fun D C P' s' X ⟨vs, hl, hr⟩ hD hDp hDC => ?_) hs) (fun _ s' hq => wpAny_pure (wpAny_pure hq)) fun _ _ e => e)
  have S' := S.ext X.ext
  have N : NewEnt c.w g c.env P' s'.heap σ ω x (.ref D) (.lst (out ds.length)) [D] := NewEnt.fresh S X.ext.ks ⟨D, vs, rfl, rfl, hl, hr⟩ (by simp) fun b hb => by
    rw [List.mem_singleton.mp hb]
    change (let G : Prop := _; G)
    intro G
    obtain ⟨o, n, ho, r⟩ := hl
    subst G
    exact ⟨hD, hDp, by rw [ho]; rfl⟩
  show wpAny _ A (PySem.assign (Expr.Name x px) c.env (.ref D)) _ _ _
  refine wpAny_assign_Name (S'.store N hp (.inl hw) fun h' tk S2 kp same => ?_)
  obtain ⟨m, hm⟩ := X.ns
  obtain ⟨lo, hlo⟩ : ∃ o, s.heap.get? c.env.locals = some o := by obtain ⟨m, o, _, _, ho, _⟩ := S.ns; exact ⟨o, ho⟩
  have hCL : C ≠ c.env.locals := fun z => by rw [← z, X.cn] at hlo; cases hlo
  have hCc : ∀ y a, c.env.cells.lookup y = some a → C ≠ a := fun y a ha z => by
    change (let G : Prop := _; G)
    intro G
    obtain ⟨⟨u, o, ho, _⟩, _⟩ := S.cells y a ha
    subst G
    rw [← z, X.cn] at ho; cases ho
  refine ⟨m, hm.at' fun o e => (same C hCL fun y a ha _ => hCc y a ha).trans e, fun h'' hsb => ?_⟩
  refine ⟨P', (XS.of_ext S.ks X.ext X.rest).trans ⟨fun _ e => e, fun _ e => .inl e, fun b o hb e => (hsb.2 b fun z => X.cp (z ▸ hb)).trans (kp b o hb e), Rest.of⟩, rfl, _, _, S2.off (wr := [C]) (fun b o hb e => (hsb.2 b fun z => hb (by rw [z]; exact .head _)).trans e) (fun b hb => ?_) fun b hb => ?_⟩
  · rw [List.mem_singleton.mp hb]
    refine ⟨X.cp, hCL, hCc, fun y e hy hm => ?_⟩
    rcases hp y e hy with ⟨rfl, rfl⟩ | ⟨hne, hmy⟩
    · simp only [upO, if_true] at hm
      exact hDC (List.mem_singleton.mp hm).symm
    · simp only [upO, if_neg hne] at hm
      have := (S.own y e hmy C hm).2.2.2.2
      rw [X.cn] at this; cases this
  · rw [List.mem_singleton.mp hb]
    exact none_back S.ks X.cn

theorem EvR.compD (K : Capt c scope cl σ capt) (hi : Itr c σ iter ds) (hsz : ds.length ≤ sizeLine) (ht : TgtShape target) (out : Nat → List (Int × D)) (h0 : out 0 = [])
    (turn : ∀ (C : Nat) i d, ds[i]? = some d → ∃ σ' b, Sub capt σ' ∧ Tgt { c with env := cEnv scope cl C c.env } target d capt σ' ∧ Ifs { c with env := cEnv scope cl C c.env } σ' ifs b ∧
      (b = true → ∃ n r, Ev { c with env := cEnv scope cl C c.env } σ' kx (.int n) ∧ Ev { c with env := cEnv scope cl C c.env } σ' vx r ∧ out (i + 1) = dput (out i) n r) ∧ (b = false → out (i + 1) = out i))
    (hs : ∀ x, foldedSetIterable iter c.env x = pure x := by intro _; rfl) : Ev c σ (.DictComp kx vx [⟨target, iter, ifs, 0⟩] scope pos) (.dct (out ds.length)) := fun A g P s ρ ω rm S => by
  rw [arm_eval_DictComp]
  refine comp_dict K hi hsz ht out h0 turn none rm S (fun D C P' s' X ⟨kvs, hl, hr⟩ hD3 hD hDp hDC => ?_) hs
  obtain ⟨m, hm⟩ := X.ns
  obtain ⟨o, ho, _⟩ := Heap.dictOf_iff.mp hl
  refine ⟨m, hm, fun h' hsb => ⟨fun b => P' b ∨ b = D, ⟨fun b o e => (hsb.2 b fun z => by rw [z, X.cn] at e; cases e).trans (X.ext.ks b o e), fun b hb => .inl (X.ext.sub b hb), fun b hb => hb.elim (X.ext.new b) fun z => .inr (z ▸ hD), fun b hb => ?_⟩, X.rest.trans Rest.of, ?_⟩⟩
  · rcases hb with hb | rfl
    · rw [hsb.2 b fun z => X.cp (z ▸ hb)]; exact X.ext.pw b hb
    · rw [hsb.2 b hDC, ho]; rfl
  · refine DictOf.keep (hl.at fun o e => (hsb.2 D hDC).trans e) (hr.mono (fun _ e => e) fun b o hb e => (hsb.2 b fun z => X.cp (z ▸ hb)).trans e) ?_
    have h3 : sysModules ≤ 3 := by decide
    simp only [beq_eq_false_iff_ne, ne_eq]
    exact fun e => Nat.lt_irrefl _ (Nat.lt_of_lt_of_le hD3 (e ▸ h3))
end
end Mine
end

section
open PySem PySem.W PySem.W.X PyProof.Rows
set_option Elab.async false
set_option maxRecDepth 100000
set_option linter.unusedVariables false
namespace Mine

section
variable {w : World} {A : Around} {c : Code} {fs : List Frame} {P : End → Shared → Prop} {s : Shared}
theorem sx_wrap {α : Type} {m : Sem α} {K : α → Sem Fin} {H : Value → Sem Fin} {gd : Bool → Bool} {lv : List Value → List Value} (h : wpAny (model prg w) (A.over c fs) m (fun a s' => SegX (model prg w) A c (K a) fs s' P) (fun x s' => SegX (model prg w) A c (H x) fs s' P) s) :
    SegX (model prg w) A c (m.wrap K H gd lv) fs s P := by
  rintro Γ p rfl hΓ
  change (let G : Prop := _; G)
  intro G
  obtain ⟨e, s', hr, hq⟩ := runs_wrap_of_wp (Φ := fun e s' => e.quiet = true ∧ P e s') K H gd lv m (h (Γ.over fs) p (hΓ.over fs)) (fun a p' s' h' => h' Γ p' rfl hΓ) (fun x p' s' h' => h' Γ p' rfl hΓ)
  subst G
  exact ⟨e, s', hr, hq⟩
theorem sx_bind {α β : Type} {m : Sem α} {F : α → Sem β} {K : β → Sem Fin} {H : Value → Sem Fin} {gd : Bool → Bool} {lv : List Value → List Value}
    (h : wpAny (model prg w) (A.over c fs) m (fun a s' => SegX (model prg w) A c ((F a).wrap K H gd lv) fs s' P) (fun x s' => SegX (model prg w) A c (H x) fs s' P) s) : SegX (model prg w) A c ((m >>= F).wrap K H gd lv) fs s P := by
  rw [Sem.bind_eq_wrap', Sem.wrap_wrap]; exact sx_wrap h
theorem sx_call {c' : Code} {hd : Option Value} {g : Bool} {l : List Value} {k : Result → Sem Fin} (x : ∀ p, SegX (model prg w) A c' ((model prg w).den c') (.ret k hd g l c p [] :: fs) s P) : SegX (model prg w) A c (.call c' hd g l k) fs s P := by
  rintro Γ p rfl hΓ
  change (let G : Prop := _; G)
  intro G
  obtain ⟨e, s', hr, hq⟩ := x p (Γ.goto c') p rfl (hΓ.goto c')
  subst G
  exact ⟨e, s', runs_call_seg hr, hq⟩
theorem sx_again {c' : Code} (hq : c'.quiet = true) (x : SegX (model prg w) A c' ((model prg w).den c') fs s P) : SegX (model prg w) A c (.pure (.again c')) fs s P := by
  rintro Γ p rfl hΓ
  change (let G : Prop := _; G)
  intro G
  obtain ⟨e, s', hr, hq'⟩ := x (Γ.goto c') p rfl (hΓ.goto c')
  subst G
  exact ⟨e, s', Runs.head (c₁ := c') (fun _ _ y => .again hq y) hr, hq'⟩
theorem sx_pop {r : Result} {k : Result → Sem Fin} {hd : Option Value} {g : Bool} {l : List Value} {c₁ : Code} {p₁ : Pos} {kp : List Value} (x : SegX (model prg w) A c₁ (k r) fs s P) : SegX (model prg w) A c (leafOf r) (.ret k hd g l c₁ p₁ kp :: fs) s P := by
  rintro Γ p rfl hΓ
  change (let G : Prop := _; G)
  intro G
  obtain ⟨e, s', hr, hq⟩ := x (Γ.goto c₁) p₁ rfl (hΓ.goto c₁)
  subst G
  exact ⟨e, s', Runs.pop r hr, hq⟩
theorem sx_end {r : Result} (x : P (.ret r) s) : SegX (model prg w) A c (leafOf r) [] s P := by
  rintro Γ p rfl _
  exact ⟨.ret r, s, Runs.leaf r, rfl, x⟩
theorem sx_yield {v : Value} {g : Bool} {l : List Value} {k : Resume → Sem Fin} (hfs : splitAtGen fs = none) (hg : g = false) (hfg : fs.any Frame.guarded = false) (x : ∀ p, P (.susp v g l k c p fs) s) : SegX (model prg w) A c (.yield v g l k) fs s P := by
  rintro Γ p rfl _
  exact ⟨_, s, Runs.yield' fs hfs, by simp [End.quiet, hg, hfg], x p⟩
variable {env : Env} {K : Flow → Sem Fin} {H : Value → Sem Fin} {gd : Bool → Bool} {lv : List Value → List Value}
theorem sx_cons {st : Stmt} {rest : List Stmt} (h : SegX (model prg w) A c ((exec st env).wrap (fun f => match f with | .next => (execs rest env).wrap K H gd lv | f => K f) H gd lv) fs s P) :
    SegX (model prg w) A c ((execs (st :: rest) env).wrap K H gd lv) fs s P := by rw [execs_cons_wrap]; exact h
theorem sx_nil (h : SegX (model prg w) A c (K .next) fs s P) : SegX (model prg w) A c ((execs [] env).wrap K H gd lv) fs s P := h

theorem sx_Yield {e : Expr} {ypos pos : Pos} (hfs : splitAtGen fs = none) (hgd : gd false = false) (hfg : fs.any Frame.guarded = false)
    (h : wpAny (model prg w) (A.over c fs) (eval e env) (fun v s' => ∀ k' l' p', (∀ s'' P'', SegX (model prg w) A c (K .next) fs s'' P'' → SegX (model prg w) A c (k' (.send .none)) fs s'' P'') → P (.susp v (gd false) l' k' c p' fs) s')
      (fun x s' => SegX (model prg w) A c (H x) fs s' P) s) (hco : env.scope.isCoroutine = false := by rfl) (hi : interactive env = false := by rfl) :
    SegX (model prg w) A c ((exec (.Expr (.Yield (some e) ypos) pos) env).wrap K H gd lv) fs s P := by
  rw [exec_Expr env _ pos hi rfl]
  show SegX (model prg w) A c (.at pos fun _ => ((eval e env >>= fun v => (standAt ypos >>= fun _ => yieldOut env v)) >>= fun x =>
    dropValue (.Yield (some e) ypos) pos x).wrap K H gd lv) fs s P
  have hy : ∀ v, yieldOut env v = yieldValue v := fun v => by simp only [yieldOut, hco, Bool.false_eq_true, if_false]
  simp only [hy]
  refine sx_wrap (m := standAt pos) (H := .raise) (gd := id) (lv := id) (wpAny_standAt ?_)
  rw [Sem.bind_eq_wrap', Sem.bind_eq_wrap', Sem.wrap_wrap, Sem.wrap_wrap]
  refine sx_wrap (wpAny_mono h (fun v s' h' => ?_) fun _ _ x => x)
  refine sx_wrap (m := standAt ypos) (H := .raise) (gd := id) (lv := id) (wpAny_standAt ?_)
  exact sx_yield hfs hgd hfg fun p => h' _ _ _ fun s'' P'' hx => hx
end
end Mine
end

section
open PySem PySem.W PySem.W.X PyProof.Rows
set_option Elab.async false
set_option maxRecDepth 100000
set_option linter.unusedVariables false
namespace Mine

section
variable {w : World} {A : Around} {c : Code} {fs : List Frame} {P : End → Shared → Prop} {s : Shared} {env : Env} {K : Flow → Sem Fin} {H : Value → Sem Fin} {gd : Bool → Bool} {lv : List Value → List Value}
theorem sx_If {test : Expr} {body orelse : List Stmt} {pos : Pos}
    (h : wpAny (model prg w) (A.over c fs) (isTrue test env (eval test env)) (fun b s' => SegX (model prg w) A c ((execs (if b = true then body else orelse) env).wrap K H gd lv) fs s' P) NoE s) :
    SegX (model prg w) A c ((exec (.If test body orelse pos) env).wrap K H gd lv) fs s P := by
  rw [arm_exec_If]
  refine sx_bind (wpAny_standAt ?_)
  refine sx_bind (wpAny_mono h (fun b s' hb => ?_) fun _ _ x => x.elim)
  cases b <;> exact hb
theorem sx_st {st : Stmt} {rest : List Stmt} (h : wpAny (model prg w) (A.over c fs) (exec st env) (fun f s' => f = .next ∧ SegX (model prg w) A c ((execs rest env).wrap K H gd lv) fs s' P) NoE s) :
    SegX (model prg w) A c ((execs (st :: rest) env).wrap K H gd lv) fs s P := by
  refine sx_cons (sx_wrap (wpAny_mono h (fun f s' hf => ?_) fun _ _ x => x.elim))
  obtain ⟨rfl, hf⟩ := hf
  exact hf
theorem sx_For {target iter : Expr} {body orelse : List Stmt} {pos : Pos}
    (h : wpAny (model prg w) (A.over c fs) (eval iter env) (fun x s₁ => wpAny (model prg w) (A.over c fs) (pyIter x) (fun it s₂ => ∀ k l p, (∀ f s'' P'', SegX (model prg w) A c (K f) fs s'' P'' → SegX (model prg w) A c (k (.ok f)) fs s'' P'') →
      SegX (model prg w) A (.forLoop target it body orelse env) ((model prg w).den (.forLoop target it body orelse env)) (.ret k none (gd false) l c p [] :: fs) s₂ P) NoE s₁) NoE s)
    (hs : ∀ x, foldedSetIterable iter env x = pure x := by intro _; rfl) : SegX (model prg w) A c ((exec (.For target iter body orelse pos) env).wrap K H gd lv) fs s P := by
  rw [arm_exec_For]
  refine sx_bind (wpAny_standAt ?_)
  refine sx_bind (wpAny_mono h (fun x s₁ h₁ => ?_) fun _ _ x => x.elim)
  refine sx_bind (wpAny_of_eq (hs x) ?_)
  refine sx_bind (wpAny_standAt ?_)
  refine sx_bind (wpAny_holding (wpAny_mono h₁ (fun it s₂ h₂ => ?_) fun _ _ x => x.elim))
  exact sx_call fun p => h₂ _ _ _ fun f s'' P'' hx => hx
theorem sx_forLoop {target : Expr} {it : Value} {body : List Stmt}
    (h : wpAny (model prg w) (A.over (.forLoop target it body [] env) fs) (pyNext it) (fun r s₁ => match r with
      | none => SegX (model prg w) A (.block [] env) (leafOf (.ok .next)) fs s₁ P
      | some v => wpAny (model prg w) (A.over (.forLoop target it body [] env) fs) (letOwnedTupleGo target it v) (fun _ s₁' => wpAny (model prg w) (A.over (.forLoop target it body [] env) fs) (assign target env v) (fun _ s₂ =>
          ∀ K' H', (∀ s'' P'', SegX (model prg w) A (.forLoop target it body [] env) ((model prg w).den (.forLoop target it body [] env)) fs s'' P'' → SegX (model prg w) A (.forLoop target it body [] env) (K' .next) fs s'' P'') →
            SegX (model prg w) A (.forLoop target it body [] env) ((execs body env).wrap K' H' id id) fs s₂ P) NoE s₁') NoE s₁) NoE s) :
    SegX (model prg w) A (.forLoop target it body [] env) ((model prg w).den (.forLoop target it body [] env)) fs s P := by
  show SegX (model prg w) A _ ((forTurn target it body [] env).onRaise (fun x => do noteFrame x env; theTreesLotGoes x)) fs s P
  unfold forTurn
  rw [Sem.onRaise_eq_wrap]
  refine sx_bind (wpAny_standAt ?_)
  refine sx_bind (wpAny_onRaise (wpAny_mono h (fun r s₁ h₁ => ?_) fun _ _ x => x.elim))
  cases r with
  | none => exact sx_again rfl h₁
  | some v =>
    refine sx_bind (wpAny_mono h₁ (fun _ s₁' h₁' => ?_) fun _ _ x => x.elim)
    refine sx_bind (wpAny_mono h₁' (fun _ s₂ h₂ => ?_) fun _ _ x => x.elim)
    rw [Sem.bind_eq_wrap', Sem.wrap_wrap]
    exact h₂ _ _ fun s'' P'' hx => sx_again rfl hx
theorem sx_func {body : List Stmt}
    (h : ∀ H', SegX (model prg w) A (.func body env) ((execs body env).wrap (fun f => leafOf (.ok (.ret (match f with | .ret v => v | _ => .none)))) H' id id) fs s P) :
    SegX (model prg w) A (.func body env) ((model prg w).den (.func body env)) fs s P := by
  show SegX (model prg w) A _ (.point [] fun _ => ((execs body env).onRaise (leaving env)) >>= _) fs s P
  refine sx_wrap (m := point) (H := .raise) (gd := id) (lv := fun _ => []) (wpAny_point ?_)
  rw [Sem.onRaise_eq_wrap, Sem.bind_eq_wrap', Sem.wrap_wrap]
  refine s_eq prg w A _ fs P s _ _ (Sem.wrap_congr (execs body env) _ _ (K' := fun f => leafOf (.ok (.ret (match f with | .ret v => v | _ => .none)))) (fun f => by cases f <;> rfl) fun e => rfl) ?_
  exact h _
end
end Mine
end

section
open PySem PySem.W PySem.W.X PyProof.Rows
set_option Elab.async false
set_option maxRecDepth 100000
set_option linter.unusedVariables false
namespace Mine

inductive Tk where
  | ch (c : Nat)
  | es (c : Nat)
noncomputable def Tk.cps : Tk → List Nat
  | .ch c => [c]
  | .es c => [92, c]
noncomputable def Tk.flag : Tk → Bool
  | .ch _ => false
  | .es _ => true
noncomputable def Tk.str (u : Tk) : Str := ⟨u.cps.toArray⟩
noncomputable def Tk.ok : Tk → Prop
  | .ch c => c ≠ 92
  | .es _ => True

noncomputable def Imm : D → Prop
  | .none => True
  | .bool _ => True
  | .int _ => True
  | .str _ => True
  | _ => False
theorem Imm.rp {w : World} {P P' : Addr → Prop} {h h' : Heap} {v : Value} {d : D} (i : Imm d) (r : Rp w P h v d) : Rp w P' h' v d := by
  cases r with
  | none => exact .none
  | bool b => exact .bool b
  | int a t => exact .int a t
  | str a t => exact .str a t
  | _ => exact i.elim
theorem Sto.imm {w : World} {g : Heap} {env : Env} {P : Addr → Prop} {h : Heap} {σ : List (Str × Ent)} {ρ : Str → Value} {ω : Str → List Addr} (S : Sto w g env P h σ ρ ω) (hσ : ∀ y ∈ σ, ∃ d, y.2 = .dat d ∧ Imm d) {P' : Addr → Prop} (hp : PW P' h) (hl : ¬ P' env.locals) (hc : env.cells = []) : Sto w g env P' h σ ρ ω := by
  have no : ∀ y a, env.cells.lookup y = some a → False := fun y a e => by rw [hc] at e; cases e
  refine ⟨S.base, S.ks, hp, S.fn, S.gl, S.bl, S.ns, S.lg, hl, fun y a e => (no y a e).elim, S.capart, fun y en hy => ?_, fun y en hy b hb => ?_, S.apart, S.nodup⟩
  · obtain ⟨d, e, hi⟩ := hσ _ hy
    obtain ⟨h1, h2⟩ := S.vals y en hy
    cases e
    exact ⟨h1, h2.1, hi.rp h2.2⟩
  · obtain ⟨d, e, hi⟩ := hσ _ hy
    obtain ⟨h1, h2⟩ := S.vals y en hy
    cases e
    rw [h2.1] at hb; cases hb

structure GP where
  w : World
  g : Heap
  env : Env
  e : Addr
  it : Addr
  x : Str
  t : Tok
  Le : env.locals ≠ e
  Li : env.locals ≠ it
  ei : e ≠ it
  ge : g.get? e = none
  gi : g.get? it = none
  cl : env.cells = []

section
variable (G : GP)
noncomputable def GP.own : List Addr := [G.env.locals, G.e, G.it]
noncomputable def GP.sig (b : Bool) : List (Str × Ent) := [("addr", .dat (.str G.x)), ("escape", .dat (.bool b))]
noncomputable def GP.St (i : Nat) (h : Heap) : Prop := (∃ old, IsEnum h G.e G.it i old) ∧ h.IsStrIter G.it "str_ascii_iterator" G.x G.t i
noncomputable def GP.H (b : Bool) (i : Nat) (h : Heap) : Prop := (∃ ρ ω, Sto G.w G.g G.env (fun _ => False) h (G.sig b) ρ ω) ∧ G.St i h
noncomputable def GP.kept (s s' : Shared) : Prop := Rest true s s' ∧ ∀ b o, b ∉ G.own → s.heap.get? b = some o → s'.heap.get? b = some o
theorem GP.kept.refl (s : Shared) : G.kept s s := ⟨Rest.refl _ _, fun _ _ _ e => e⟩
theorem GP.kept.trans {s s' s'' : Shared} (x : G.kept s s') (y : G.kept s' s'') : G.kept s s'' := ⟨x.1.trans y.1, fun b o hb e => y.2 b o hb (x.2 b o hb e)⟩
noncomputable def GP.Yv (s s' : Shared) (v : Value) (u : Tk) : Prop := ∃ P', (∀ b, P' b → s.heap.get? b = none) ∧ PW P' s'.heap ∧ (∀ b, P' b → b ∉ G.own) ∧ ∃ p, Rp G.w P' s'.heap v (.tup [.int p, .str u.str])

theorem GP.H.frame {b : Bool} {i : Nat} {h h' : Heap} (x : G.H b i h) (kg : Ks G.g h') (k : ∀ a ∈ G.own, ∀ o, h.get? a = some o → h'.get? a = some o) : G.H b i h' := by
  change (let G : Prop := _; G)
  intro G
  obtain ⟨⟨ρ, ω, S⟩, ⟨old, e1⟩, o, e2, e3, e4⟩ := x
  subst G
  have no : ∀ y a, G.env.cells.lookup y = some a → False := fun y a e => by rw [G.cl] at e; cases e
  obtain ⟨m, hm⟩ := S.ns
  have kL : ∀ o, h.get? G.env.locals = some o → h'.get? G.env.locals = some o := fun o e => k _ (.head _) o e
  refine ⟨⟨ρ, ω, S.base, kg, fun _ h => h.elim, S.fn, S.gl, S.bl, ⟨m, hm.at' kL⟩, S.lg, fun h => h, fun y a e => (no y a e).elim, S.capart, fun y en hy => ?_, fun y en hy b hb => ?_, S.apart, S.nodup⟩, ⟨old, k _ (.tail _ (.head _)) _ e1⟩, o, k _ (.tail _ (.tail _ (.head _))) _ e2, e3, e4⟩
  · obtain ⟨h1, h2⟩ := S.vals y en hy
    have hd : ∃ d, en = .dat d ∧ Imm d := by
      rcases List.mem_cons.mp hy with e | hy
      · cases e; exact ⟨_, rfl, trivial⟩
      · rcases List.mem_cons.mp hy with e | hy
        · cases e; exact ⟨_, rfl, trivial⟩
        · cases hy
    obtain ⟨d, rfl, hi⟩ := hd
    refine ⟨?_, h2.1, hi.rp h2.2⟩
    cases h1 with
    | loc q n e => exact .loc q (n.at' kL) e
    | cell q e i => exact (no _ _ e).elim
  · obtain ⟨h1, h2⟩ := S.vals y en hy
    have hd : ∃ d, en = .dat d := by
      rcases List.mem_cons.mp hy with e | hy
      · cases e; exact ⟨_, rfl⟩
      · rcases List.mem_cons.mp hy with e | hy
        · cases e; exact ⟨_, rfl⟩
        · cases hy
    obtain ⟨d, rfl⟩ := hd
    rw [h2.1] at hb; cases hb
theorem GP.H.some {b : Bool} {i : Nat} {h : Heap} (x : G.H b i h) : ∀ a ∈ G.own, ∃ o, h.get? a = some o := by
  change (let G : Prop := _; G)
  intro G
  obtain ⟨⟨ρ, ω, S⟩, ⟨old, e1⟩, o, e2, e3, e4⟩ := x
  subst G
  change (let G : Prop := _; G)
  intro G
  obtain ⟨m, o', _, _, ho, _⟩ := S.ns
  subst G
  intro a ha
  simp only [GP.own, List.mem_cons, List.not_mem_nil, or_false] at ha
  rcases ha with rfl | rfl | rfl
  · exact ⟨_, ho⟩
  · exact ⟨_, e1⟩
  · exact ⟨_, e2⟩

noncomputable def Wk (gs : GenState) (c : Code) (t : Sem Fin) (fs : List Frame) : Prop := (gs = .fresh c ∧ t = denote table c ∧ fs = []) ∨ ∃ k l p cl, gs = .suspended k l c p fs cl ∧ t = k (.send .none)

noncomputable def GP.Rdy (A : Around) : List Tk → Bool → Nat → GenState → Prop
  | [], b, i, gs => ∀ s, G.H b i s.heap → ∃ c t fs, Wk gs c t fs ∧ SegX (model prg G.w) A c t fs s fun e s' => G.kept s s' ∧ e = .ret (.ok (.ret .none))
  | u :: us, b, i, gs => ∀ s, G.H b i s.heap → ∃ c t fs, Wk gs c t fs ∧ SegX (model prg G.w) A c t fs s fun e s' => G.kept s s' ∧ ∃ v, e.result = .yielded v ∧ G.Yv s s' v u ∧ G.H u.flag (i + u.cps.length) s'.heap ∧
      GP.Rdy A us u.flag (i + u.cps.length) e.genState
noncomputable def GP.Post (A : Around) (us : List Tk) (i : Nat) (s : Shared) : End → Shared → Prop := fun e s' => G.kept s s' ∧ match us with
  | [] => e = .ret (.ok (.ret .none))
  | u :: us => ∃ v, e.result = .yielded v ∧ G.Yv s s' v u ∧ G.H u.flag (i + u.cps.length) s'.heap ∧ G.Rdy A us u.flag (i + u.cps.length) e.genState
theorem GP.rdy {A : Around} {us : List Tk} {b : Bool} {i : Nat} {gs : GenState} (h : ∀ s, G.H b i s.heap → ∃ c t fs, Wk gs c t fs ∧ SegX (model prg G.w) A c t fs s (G.Post A us i s)) : G.Rdy A us b i gs := by
  cases us with
  | nil => exact h
  | cons u us => exact h
theorem GP.Rdy.go {A : Around} {us : List Tk} {b : Bool} {i : Nat} {gs : GenState} (h : G.Rdy A us b i gs) : ∀ s, G.H b i s.heap → ∃ c t fs, Wk gs c t fs ∧ SegX (model prg G.w) A c t fs s (G.Post A us i s) := by
  cases us with
  | nil => exact h
  | cons u us => exact h
theorem GP.Post.back {A : Around} {us : List Tk} {i : Nat} {s s₀ : Shared} {e : End} {s' : Shared} (k : G.kept s₀ s) (hs : ∀ a ∈ G.own, ∃ o, s.heap.get? a = some o) (x : G.Post A us i s e s') : G.Post A us i s₀ e s' := by
  refine ⟨GP.kept.trans G k x.1, ?_⟩
  cases us with
  | nil => exact x.2
  | cons u us =>
    change (let G : Prop := _; G)
    intro G
    obtain ⟨v, h1, ⟨P', h2, h3⟩, h4⟩ := x.2
    subst G
    refine ⟨v, h1, ⟨P', fun b hb => ?_, h3⟩, h4⟩
    have h5 := h2 b hb
    cases q : s₀.heap.get? b with
    | none => rfl
    | some o =>
      by_cases hm : b ∈ G.own
      · obtain ⟨o', ho⟩ := hs b hm; rw [ho] at h5; cases h5
      · rw [k.2 b o hm q] at h5; cases h5
end

section
variable {G : GP} {A : Around} {fs : List Frame} {PE : End → Shared → Prop} {body : List Stmt} {k : Nat}
noncomputable def tgE (p1 p2 p : Pos) (k : Nat) : Expr := .Tuple [.Name "pos" p1, .Name "ch" p2] k p
theorem GP.turn {b : Bool} {i ch : Nat} {s : Shared} {elts : List Expr} {ek : Nat} {ep : Pos} {p1 p2 : Pos} (hel : elts = ([("pos", p1), ("ch", p2)] : List (Str × Pos)).map fun y => Expr.Name y.1 y.2)
    (hk1 : G.env.kindOf "pos" = some .local) (hk2 : G.env.kindOf "ch" = some .local) (rm : Rm k (A.over (.forLoop (.Tuple elts ek ep) (.ref G.e) body [] G.env) fs))
    (H : G.H b i s.heap) (hx : G.x.cps[i]? = some ch)
    (cont : ∀ s₂ ρ ω, G.kept s s₂ → Sto G.w G.g G.env (fun _ => False) s₂.heap [("ch", .dat (.str ⟨#[ch]⟩)), ("pos", .dat (.int i)), ("addr", .dat (.str G.x)), ("escape", .dat (.bool b))] ρ ω → G.St (i + 1) s₂.heap → ∀ K' H',
      (∀ s'' P'', SegX (model prg G.w) A (.forLoop (.Tuple elts ek ep) (.ref G.e) body [] G.env) ((model prg G.w).den (.forLoop (.Tuple elts ek ep) (.ref G.e) body [] G.env)) fs s'' P'' → SegX (model prg G.w) A (.forLoop (.Tuple elts ek ep) (.ref G.e) body [] G.env) (K' .next) fs s'' P'') →
        SegX (model prg G.w) A (.forLoop (.Tuple elts ek ep) (.ref G.e) body [] G.env) ((execs body G.env).wrap K' H' id id) fs s₂ PE) :
    SegX (model prg G.w) A (.forLoop (.Tuple elts ek ep) (.ref G.e) body [] G.env) ((model prg G.w).den (.forLoop (.Tuple elts ek ep) (.ref G.e) body [] G.env)) fs s PE := by
  change (let G : Prop := _; G)
  intro G
  obtain ⟨⟨ρ, ω, S⟩, hst⟩ := H
  subst G
  have hi : i < G.x.cps.size := (Array.getElem?_eq_some_iff.mp hx).1
  have W := WalksT.enumerateD (prog := prg) (w := G.w) (Draws.strAscii (A := (A.over (.forLoop (.Tuple elts ek ep) (.ref G.e) body [] G.env) fs).in1) rm.1 G.it G.x G.t) G.e G.ei (by simp [G.ei]) (by simp)
  refine sx_forLoop (W.item i s _ _ hi hst fun T vals h' tk hPt hTs hT hMid hk => ?_)
  change (let G : Prop := _; G)
  intro G
  obtain ⟨tt, xv, ⟨c', u, hc', rfl⟩, rfl⟩ := hPt
  subst G
  rw [hx] at hc'; cases hc'
  have dt : ∀ y en, (y, en) ∈ G.sig b → ω y = [] := fun y en hy => by
    have := (S.vals y en hy).2
    rcases List.mem_cons.mp hy with e | hy
    · cases e; exact this.1
    · rcases List.mem_cons.mp hy with e | hy
      · cases e; exact this.1
      · cases hy
  have no : ∀ y a, G.env.cells.lookup y = some a → False := fun y a e => by rw [G.cl] at e; cases e
  have offs : ∀ a ∈ [G.e, G.it], Off G.env (fun _ => False) (G.sig b) ω a := fun a ha => by
    refine ⟨fun h => h, ?_, fun y c hc => (no y c hc).elim, fun y en hy => by rw [dt y en hy]; exact fun h => nomatch h⟩
    simp only [List.mem_cons, List.not_mem_nil, or_false] at ha
    rcases ha with rfl | rfl
    · exact Ne.symm G.Le
    · exact Ne.symm G.Li
  have gg : ∀ a ∈ [G.e, G.it], G.g.get? a = none := fun a ha => by
    simp only [List.mem_cons, List.not_mem_nil, or_false] at ha
    rcases ha with rfl | rfl
    · exact G.ge
    · exact G.gi
  have S1 : Sto G.w G.g G.env (fun _ => False) h' (G.sig b) ρ ω := S.off hk offs gg
  have hTw := W.apart i T h' hMid
  refine W.go elts ek ep i T { s with heap := h', toks := tk } _ _ hMid fun h2 st2 kk2 => ?_
  have S2 : Sto G.w G.g G.env (fun _ => False) h2 (G.sig b) ρ ω := S1.off kk2 offs gg
  change (let G : Prop := _; G)
  intro G
  obtain ⟨oT, hoT, hcT, nT, hdT⟩ := hT
  subst G
  have isT : IsTup h2 T #[.int i tt, .str ⟨#[ch]⟩ u] := ⟨oT, kk2 T oT hTw hoT, hcT, nT, hdT⟩
  subst hel
  refine assign_Tuple_tuple rm.1 isT (by rfl) (by rfl) fun h3 hx3 => ?_
  have ks3 : Ks h2 h3 := fun b o e => hx3 b o (Nat.ne_of_lt (Heap.lt_size e)) e
  have S3 : Sto G.w G.g G.env (fun _ => False) h3 (G.sig b) ρ ω := S2.ext (Ext.of_ks S2.pw ks3)
  refine assign_names (c := ⟨G.w, true, k, G.env⟩) (s := { s with heap := h3, toks := tk }) (ds := [.int i, .str ⟨#[ch]⟩]) (fun y hy => ?_) (.cons Puts.new (.cons Puts.new .nil)) S3 (.cons (.int _ _) (.cons (.str _ _) .nil)) fun h4 tk4 ρ4 ω4 S4 kp same own => ?_
  · simp only [List.mem_cons, List.not_mem_nil, or_false] at hy
    rcases hy with rfl | rfl
    · exact .inl hk1
    · exact .inl hk2
  have k4 : ∀ a o, a ≠ G.env.locals → h3.get? a = some o → h4.get? a = some o := fun a o ha e => (same a ha fun y c hc _ => (no y c hc).elim).trans e
  refine cont { s with heap := h4, toks := tk4 } ρ4 ω4 ⟨Rest.of, fun a o ha e => ?_⟩ S4 ?_
  · simp only [GP.own, List.mem_cons, List.not_mem_nil, or_false, not_or] at ha
    have hn : a ∉ [G.e, G.it] := by simp [ha]
    exact k4 a o ha.1 (ks3 a o (kk2 a o hn (hk a o hn e)))
  · change (let G : Prop := _; G)
    intro G
    obtain ⟨⟨old, e1⟩, o, e2, e3, e4⟩ := st2
    subst G
    exact ⟨⟨old, k4 _ _ (Ne.symm G.Le) (ks3 _ _ (by exact_mod_cast e1))⟩, o, k4 _ _ (Ne.symm G.Li) (ks3 _ _ e2), e3, e4⟩
end
end Mine
end

section
open PySem PySem.W PySem.W.X PyProof.Rows
set_option Elab.async false
set_option maxRecDepth 100000
set_option linter.unusedVariables false
namespace Mine

noncomputable def gTg : Expr := match ((bodyAt 6)[2]? : Option Stmt) with
  | some (Stmt.For t _ _ _ _) => t
  | _ => .Constant .none 0 ⟨0, 0, 0, 0⟩
noncomputable def gBody : List Stmt := match ((bodyAt 6)[2]? : Option Stmt) with
  | some (Stmt.For _ _ b _ _) => b
  | _ => []

structure K6 (G : GP) : Prop where
  pos : G.env.kindOf "pos" = some .local
  ch : G.env.kindOf "ch" = some .local
  esc : G.env.kindOf "escape" = some .local
  co : G.env.scope.isCoroutine = false
  int : interactive G.env = false

theorem Tst.go {c : Cx} {σ : List (Str × Ent)} {e : Expr} {b : Bool} (h : Tst c σ e b) {A : Around} {g : Heap} {P : Addr → Prop} {s : Shared} {ρ : Str → Value} {ω : Str → List Addr} (rm : Rm c.k A) (S : Sto c.w g c.env P s.heap σ ρ ω) : wpAny (model prg c.w) A (isTrue e c.env (eval e c.env)) (Pst c.q P s fun _ b' _ => b' = b) NoE s := h A g P s ρ ω rm S
theorem EvR.go {c : Cx} {σ : List (Str × Ent)} {e : Expr} {r : Res} (h : EvR c σ e r) {A : Around} {g : Heap} {P : Addr → Prop} {s : Shared} {ρ : Str → Value} {ω : Str → List Addr} (rm : Rm c.k A) (S : Sto c.w g c.env P s.heap σ ρ ω) : wpAny (model prg c.w) A (eval e c.env) (Pst c.q P s fun P' v h' => ResOK c.w s.heap P' v h' r) NoE s := h A g P s ρ ω rm S
section
variable {G : GP} {A : Around} {fs : List Frame} {k : Nat}
theorem GP.no (G : GP) : ∀ y a, G.env.cells.lookup y = some a → False := fun y a e => by rw [G.cl] at e; cases e
theorem GP.kept.ext {s s' : Shared} {P P' : Addr → Prop} (x : Ext P P' s.heap s'.heap) (y : Rest true s s') : G.kept s s' := ⟨y, fun b o _ e => x.ks b o e⟩
theorem GP.set {B : Around} {b' : Bool} {σ : List (Str × Ent)} {P : Addr → Prop} {s : Shared} {ρ : Str → Value} {ω : Str → List Addr} {p p' p'' : Pos} {ck : Nat} (K : K6 G) (S : Sto G.w G.g G.env P s.heap σ ρ ω) :
    wpAny (model prg G.w) B (exec (.Assign [.Name "escape" p'] (.Constant (.bool b') ck p'') p) G.env) (fun f s' => f = .next ∧ G.kept s s' ∧ (∃ ρ' ω', Sto G.w G.g G.env P s'.heap (("escape", .dat (.bool b')) :: σ.filter fun y => y.1 != ("escape" : Str)) ρ' ω') ∧
      ∀ a o, a ≠ G.env.locals → s.heap.get? a = some o → s'.heap.get? a = some o) NoE s := by
  refine wpAny_Assign_Name (wpAny_Constant_bool ?_) (by rfl)
  refine S.store (NewEnt.dat (.bool b')) Puts.new (.inl K.esc) fun h' tk S' kp same => ?_
  have k4 : ∀ a o, a ≠ G.env.locals → s.heap.get? a = some o → h'.get? a = some o := fun a o ha e => (same a ha fun y c hc _ => (G.no y c hc).elim).trans e
  refine ⟨rfl, ⟨Rest.of, fun a o ha e => k4 a o (fun z => ha (by rw [z]; exact .head _)) e⟩, ⟨_, _, S'⟩, k4⟩

theorem GP.H.of {b : Bool} {i : Nat} {h : Heap} {P : Addr → Prop} {σ : List (Str × Ent)} {ρ : Str → Value} {ω : Str → List Addr} (S : Sto G.w G.g G.env P h σ ρ ω) (hs : Sub (G.sig b) σ) (st : G.St i h) : G.H b i h := by
  refine ⟨⟨ρ, ω, (S.sub hs).imm (fun y hy => ?_) (fun _ h => h.elim) (fun h => h) G.cl⟩, st⟩
  rcases List.mem_cons.mp hy with e | hy
  · cases e; exact ⟨_, rfl, trivial⟩
  · rcases List.mem_cons.mp hy with e | hy
    · cases e; exact ⟨_, rfl, trivial⟩
    · cases hy
theorem GP.St.keep {i : Nat} {h h' : Heap} (x : G.St i h) (k : ∀ a o, a ≠ G.env.locals → h.get? a = some o → h'.get? a = some o) : G.St i h' := by
  change (let G : Prop := _; G)
  intro G
  obtain ⟨⟨old, e1⟩, o, e2, e3, e4⟩ := x
  subst G
  exact ⟨⟨old, k _ _ (Ne.symm G.Le) e1⟩, o, k _ _ (Ne.symm G.Li) e2, e3, e4⟩
theorem GP.St.ks {i : Nat} {h h' : Heap} (x : G.St i h) (k : Ks h h') : G.St i h' := x.keep fun a o _ e => k a o e

theorem own_some {i : Nat} {h : Heap} {P : Addr → Prop} {σ : List (Str × Ent)} {ρ : Str → Value} {ω : Str → List Addr} (S : Sto G.w G.g G.env P h σ ρ ω) (st : G.St i h) : ∀ a ∈ G.own, ∃ o, h.get? a = some o := by
  change (let G : Prop := _; G)
  intro G
  obtain ⟨⟨old, e1⟩, o, e2, e3, e4⟩ := st
  subst G
  change (let G : Prop := _; G)
  intro G
  obtain ⟨m, o', _, _, ho, _⟩ := S.ns
  subst G
  intro a ha
  simp only [GP.own, List.mem_cons, List.not_mem_nil, or_false] at ha
  rcases ha with rfl | rfl | rfl
  · exact ⟨_, ho⟩
  · exact ⟨_, e1⟩
  · exact ⟨_, e2⟩
theorem fresh_back {s s₂ : Shared} {i : Nat} {P : Addr → Prop} {σ : List (Str × Ent)} {ρ : Str → Value} {ω : Str → List Addr} (k : G.kept s s₂) (S : Sto G.w G.g G.env P s₂.heap σ ρ ω) (st : G.St i s₂.heap) {b : Addr} (hb : s₂.heap.get? b = none) : s.heap.get? b = none := by
  cases q : s.heap.get? b with
  | none => rfl
  | some o =>
    by_cases hm : b ∈ G.own
    · obtain ⟨o', ho⟩ := own_some S st b hm; rw [ho] at hb; cases hb
    · rw [k.2 b o hm q] at hb; cases hb
theorem GP.loop {A : Around} {fs : List Frame} {k : Nat} (K : K6 G) (rm : Rm k (A.over (.forLoop gTg (.ref G.e) gBody [] G.env) fs)) (hfs : splitAtGen fs = none) (hfg : fs.any Frame.guarded = false)
    (hend : ∀ s'' P ρ ω, Sto G.w G.g G.env P s''.heap (G.sig false) ρ ω → SegX (model prg G.w) A (.block [] G.env) (leafOf (.ok .next)) fs s'' (fun e s₃ => G.kept s'' s₃ ∧ e = .ret (.ok (.ret .none)))) :
    ∀ (us : List Tk) (pre : List Nat) (s : Shared), G.x.cps.toList = pre ++ us.flatMap Tk.cps → (∀ u ∈ us, u.ok) → G.x.cps.size < 16777216 → G.H false pre.length s.heap →
      SegX (model prg G.w) A (.forLoop gTg (.ref G.e) gBody [] G.env) ((model prg G.w).den (.forLoop gTg (.ref G.e) gBody [] G.env)) fs s (G.Post A us pre.length s)
  | [], pre, s, hx, _, _, H => by
    change (let G : Prop := _; G)
    intro G
    obtain ⟨⟨ρ, ω, S⟩, hst⟩ := H
    subst G
    have hn : pre.length = G.x.cps.size := by
      rw [← Array.length_toList, hx]; simp
    have W := WalksT.enumerateD (prog := prg) (w := G.w) (Draws.strAscii (A := (A.over (.forLoop gTg (.ref G.e) gBody [] G.env) fs).in1) rm.1 G.it G.x G.t) G.e G.ei (by simp [G.ei]) (by simp)
    refine sx_forLoop (W.done s _ _ (hn ▸ hst) fun h' tk hk => ?_)
    have dt : ∀ y en, (y, en) ∈ G.sig false → ω y = [] := fun y en hy => by
      have := (S.vals y en hy).2
      rcases List.mem_cons.mp hy with e | hy
      · cases e; exact this.1
      · rcases List.mem_cons.mp hy with e | hy
        · cases e; exact this.1
        · cases hy
    have S1 : Sto G.w G.g G.env (fun _ => False) h' (G.sig false) ρ ω := S.off hk (fun a ha => by
      refine ⟨fun h => h, ?_, fun y c hc => (G.no y c hc).elim, fun y en hy => by rw [dt y en hy]; exact fun h => nomatch h⟩
      simp only [List.mem_cons, List.not_mem_nil, or_false] at ha
      rcases ha with rfl | rfl
      · exact Ne.symm G.Le
      · exact Ne.symm G.Li) fun a ha => by
      simp only [List.mem_cons, List.not_mem_nil, or_false] at ha
      rcases ha with rfl | rfl
      · exact G.ge
      · exact G.gi
    refine (hend { s with heap := h', toks := tk } _ ρ ω S1).mono fun e s₃ ⟨h1, h2⟩ => ⟨GP.kept.trans G ⟨Rest.of, fun b o hb e => ?_⟩ h1, h2⟩
    simp only [GP.own, List.mem_cons, List.not_mem_nil, or_false, not_or] at hb
    exact hk b o (by simp [hb]) e
  | .ch c :: us, pre, s, hx, hok, hsz, H => by
    have hc : G.x.cps[pre.length]? = some c := by
      rw [← Array.getElem?_toList, hx]; simp [Tk.cps]
    refine GP.turn (b := false) (ch := c) (by rfl) K.pos K.ch rm H hc fun s₂ ρ ω hkp S st K' H' hK' => ?_
    refine sx_cons (sx_If ?_)
    refine wpAny_mono (Tst.go (c := ⟨G.w, true, k, G.env⟩) (Tst.val Ev.name Tru.bool) rm S) (fun b s₃ zz => ?_) fun _ _ x => x
    change (let G : Prop := _; G)
    intro G
    obtain ⟨P₃, x₃, y₃, z₃⟩ := zz
    subst G
    subst z₃
    rw [if_neg Bool.false_ne_true]
    refine sx_cons (sx_If ?_)
    have S₃ := S.ext x₃
    refine wpAny_mono (Tst.go (c := ⟨G.w, true, k, G.env⟩) (Tst.cmp Ev.name Ev.str Cmp.eqs) rm S₃) (fun b s₄ zz => ?_) fun _ _ x => x
    change (let G : Prop := _; G)
    intro G
    obtain ⟨P₄, x₄, y₄, z₄⟩ := zz
    subst G
    have hne : (((⟨#[c]⟩ : Str) == ("\\" : Str))) = false := by
      have h1 := hok _ (.head _)
      simp only [beq_eq_false_iff_ne, ne_eq]
      intro e
      have e2 : (⟨#[c]⟩ : Str) = ⟨#[92]⟩ := e.trans (by rfl)
      injection e2 with e2
      simp at e2
      exact h1 e2
    rw [hne] at z₄
    subst z₄
    rw [if_neg Bool.false_ne_true]
    have S₄ := S₃.ext x₄
    refine sx_cons (sx_Yield hfs rfl hfg ?_ K.co K.int)
    refine wpAny_mono (EvR.go (c := ⟨G.w, true, k, G.env⟩) (Ev.tuple (EvL.cons Ev.name (EvL.cons Ev.name EvL.nil))) rm S₄) (fun v s₅ zz => ?_) fun _ _ x => x.elim
    change (let G : Prop := _; G)
    intro G
    obtain ⟨P₅, x₅, y₅, z₅⟩ := zz
    subst G
    intro k' l' p' hk'
    have xx := (x₃.trans x₄).trans x₅
    have st5 : G.St (pre.length + 1) s₅.heap := st.ks xx.ks
    have S₅ := S₄.ext x₅
    have hx' : G.x.cps.toList = (pre ++ [c]) ++ us.flatMap Tk.cps := by rw [hx]; simp [Tk.cps]
    have hlen : (pre ++ [c]).length = pre.length + 1 := by simp
    refine ⟨GP.kept.trans G hkp (GP.kept.ext xx ((y₃.trans y₄).trans y₅)), v, rfl, ⟨P₅, fun b hb => ?_, x₅.pw, fun b hb => ?_, _, z₅⟩, GP.H.of S₅ (Sub.cons (by rfl) (Sub.cons (by rfl) Sub.nil)) st5, GP.rdy G fun s₆ H₆ => ⟨_, _, _, .inr ⟨k', l', p', _, rfl, rfl⟩, hk' _ _ ?_⟩⟩
    · exact fresh_back hkp S st ((xx.new b hb).elim (fun h => h.elim) id)
    · exact fun hm => by
        obtain ⟨o, ho⟩ := own_some S st b hm
        rw [(xx.new b hb).elim (fun h => h.elim) id] at ho; cases ho
    · refine sx_nil (hK' _ _ ?_)
      have := GP.loop K rm hfs hfg hend us (pre ++ [c]) s₆ hx' (fun u hu => hok u (.tail _ hu)) hsz (by rw [hlen]; exact H₆)
      rw [hlen] at this
      exact this
  | .es c :: us, pre, s, hx, hok, hsz, H => by
    have hc : G.x.cps[pre.length]? = some 92 := by
      rw [← Array.getElem?_toList, hx]; simp [Tk.cps]
    have hc2 : G.x.cps[pre.length + 1]? = some c := by
      rw [← Array.getElem?_toList, hx]; simp [Tk.cps]
    refine GP.turn (b := false) (ch := 92) (by rfl) K.pos K.ch rm H hc fun s₂ ρ ω hkp S st K' H' hK' => ?_
    refine sx_cons (sx_If ?_)
    refine wpAny_mono (Tst.go (c := ⟨G.w, true, k, G.env⟩) (Tst.val Ev.name Tru.bool) rm S) (fun b s₃ zz => ?_) fun _ _ x => x
    change (let G : Prop := _; G)
    intro G
    obtain ⟨P₃, x₃, y₃, z₃⟩ := zz
    subst G
    subst z₃
    rw [if_neg Bool.false_ne_true]
    refine sx_cons (sx_If ?_)
    have S₃ := S.ext x₃
    refine wpAny_mono (Tst.go (c := ⟨G.w, true, k, G.env⟩) (Tst.eq (b' := true) (Tst.cmp Ev.name Ev.str Cmp.eqs) (by rfl)) rm S₃) (fun b s₄ zz => ?_) fun _ _ x => x
    change (let G : Prop := _; G)
    intro G
    obtain ⟨P₄, x₄, y₄, z₄⟩ := zz
    subst G
    subst z₄
    rw [if_pos rfl]
    have S₄ := S₃.ext x₄
    refine sx_st (wpAny_mono (GP.set (ck := 0) K S₄) (fun f s₅ zz => ?_) fun _ _ x => x.elim)
    change (let G : Prop := _; G)
    intro G
    obtain ⟨rfl, kp₅, ⟨ρ₅, ω₅, S₅⟩, ke₅⟩ := zz
    subst G
    refine ⟨rfl, sx_nil (hK' _ _ ?_)⟩
    have st₅ : G.St (pre.length + 1) s₅.heap := (st.ks (x₃.trans x₄).ks).keep ke₅
    have H₅ : G.H true (pre.length + 1) s₅.heap := GP.H.of S₅ (Sub.cons (by rfl) (Sub.cons (by rfl) Sub.nil)) st₅
    have k₀ : G.kept s s₅ := (GP.kept.trans G hkp (GP.kept.ext (x₃.trans x₄) (y₃.trans y₄))).trans G kp₅
    refine SegX.mono ?_ fun e s' h => GP.Post.back G k₀ H₅.some h
    clear hK' H S S₃ S₄ S₅ st st₅ hkp kp₅ ke₅ k₀ x₃ x₄ y₃ y₄
    refine GP.turn (b := true) (ch := c) (by rfl) K.pos K.ch rm H₅ hc2 fun s₂ ρ ω hkp S st K' H' hK' => ?_
    refine sx_cons (sx_If ?_)
    refine wpAny_mono (Tst.go (c := ⟨G.w, true, k, G.env⟩) (Tst.val Ev.name Tru.bool) rm S) (fun b s₃ zz => ?_) fun _ _ x => x
    change (let G : Prop := _; G)
    intro G
    obtain ⟨P₃, x₃, y₃, z₃⟩ := zz
    subst G
    subst z₃
    rw [if_pos rfl]
    have S₃ := S.ext x₃
    refine sx_cons (sx_Yield hfs rfl hfg ?_ K.co K.int)
    refine wpAny_mono (EvR.go (c := ⟨G.w, true, k, G.env⟩) (Ev.tuple (EvL.cons Ev.name (EvL.cons (Ev.bin Ev.str Ev.name (Bin.adds (by show 1 + 1 ≤ _; decide))) EvL.nil))) rm S₃) (fun v s₅ zz => ?_) fun _ _ x => x.elim
    change (let G : Prop := _; G)
    intro G
    obtain ⟨P₅, x₅, y₅, z₅⟩ := zz
    subst G
    intro k' l' p' hk'
    have xx := x₃.trans x₅
    have st5 : G.St (pre.length + 1 + 1) s₅.heap := st.ks xx.ks
    have S₅ := S₃.ext x₅
    have hx' : G.x.cps.toList = (pre ++ [92, c]) ++ us.flatMap Tk.cps := by rw [hx]; simp [Tk.cps]
    have hlen : (pre ++ [92, c]).length = pre.length + 2 := by simp
    refine ⟨GP.kept.trans G hkp (GP.kept.ext xx (y₃.trans y₅)), v, rfl, ⟨P₅, fun b hb => ?_, x₅.pw, fun b hb => ?_, _, z₅⟩, GP.H.of S₅ (Sub.cons (by rfl) (Sub.cons (by rfl) Sub.nil)) st5, GP.rdy G fun s₆ H₆ => ⟨_, _, _, .inr ⟨k', l', p', _, rfl, rfl⟩, hk' _ _ ?_⟩⟩
    · exact fresh_back hkp S st ((xx.new b hb).elim (fun h => h.elim) id)
    · exact fun hm => by
        obtain ⟨o, ho⟩ := own_some S st b hm
        rw [(xx.new b hb).elim (fun h => h.elim) id] at ho; cases ho
    · change (let G : Prop := _; G)
      intro G
      obtain ⟨⟨ρ₆, ω₆, S₆⟩, st₆⟩ := H₆
      subst G
      refine sx_st (wpAny_mono (GP.set (ck := 0) K S₆) (fun f s₇ zz => ?_) fun _ _ x => x.elim)
      change (let G : Prop := _; G)
      intro G
      obtain ⟨rfl, kp₇, ⟨ρ₇, ω₇, S₇⟩, ke₇⟩ := zz
      subst G
      refine ⟨rfl, sx_nil (hK' _ _ ?_)⟩
      have H₇ : G.H false (pre.length + 2) s₇.heap := GP.H.of S₇ (Sub.cons (by rfl) (Sub.cons (by rfl) Sub.nil)) (st₆.keep ke₇)
      have := GP.loop K rm hfs hfg hend us (pre ++ [92, c]) s₇ hx' (fun u hu => hok u (.tail _ hu)) hsz (by rw [hlen]; exact H₇)
      rw [hlen] at this
      exact this.mono fun e s' h => GP.Post.back G kp₇ H₇.some h
end
end Mine
end

section
open PySem PySem.W PySem.W.X PyProof.Rows
set_option Elab.async false
set_option maxRecDepth 100000
set_option linter.unusedVariables false
namespace Mine

theorem sx_quiet {M : Model} {A : Around} {c : Code} {t : Sem Fin} {fs : List Frame} {s : Shared} {P : End → Shared → Prop} (x : SegX M A c t fs s P) : SegX M A c t fs s (fun e s' => e.quiet = true ∧ P e s') := fun Γ p hc hΓ => by
  change (let G : Prop := _; G)
  intro G
  obtain ⟨e, s', hr, hq, hp⟩ := x Γ p hc hΓ
  subst G
  exact ⟨e, s', hr, hq, hq, hp⟩

theorem gen_next {w : World} {A : Around} {E : Value → Shared → Prop} {s : Shared} {a : Addr} {g : Nat} {gs : GenState} {c : Code} {t : Sem Fin} {fs : List Frame} {Q : Option Value → Shared → Prop} (hh : A.handled = none)
    (hl : s.heap.NoLimit) (hroom : A.depth < recursionLimit) (hg : s.heap.IsGen a g) (hgs : s.gens[g]? = some gs) (hw : Wk gs c t fs)
    (X : SegX (model prg w) A.in1 c t fs (s.setGen g .running) (fun e s₁ => (∃ v, e.result = .yielded v ∧ (e.genState.bare = true → Q (some v) (s₁.setGen g e.genState))) ∨
      (e = .ret (.ok (.ret .none)) ∧ ∀ h', (∀ b o, s₁.heap.get? b = some o → h'.get? b = some o) → Q none { s₁.setGen g .finished with heap := h' }))) :
    wpAny (model prg w) A (pyNext (.ref a)) Q E s := by
  unfold pyNext
  refine wpAny_bind (wpAny_attempt (wpAny_callSpecial?_slot (name := Str.ofString "__next__") hg.typeIs slot_gen_next
    (wpAny_call_entry slot_gen_next hg.typeIs entry_gen_next ?_ (args_gen_next _))))
  show wpAny _ _ (Builtin.Generator.genWake (.ref a) (.send .none)) _ _ s
  unfold Builtin.Generator.genWake
  refine wpAny_bind (wpAny_holding (wpAny_genNumber hg (wpAny_bind (wpAny_genState hgs ?_))))
  have hgs' : (gs = .fresh c ∧ Resume.send Value.none = .send .none ∧ t = denote table c ∧ fs = []) ∨ (∃ k₀ l₀ p₀ cl, gs = .suspended k₀ l₀ c p₀ fs cl ∧ t = k₀ (.send .none)) := by
    rcases hw with ⟨h1, h2, h3⟩ | h
    · exact .inl ⟨h1, rfl, h2, h3⟩
    · exact .inr h
  rcases hw with ⟨rfl, rfl, rfl⟩ | ⟨k₀, l₀, p₀, cl, rfl, rfl⟩
  all_goals
    refine wpAny_bind (wpAny_roomToWake hl hroom ?_)
    show wpAny _ _ (.resume g (.send .none) [] _) _ _ s
    refine wake_any _ prg w hgs hgs' (fun Γ => Γ.In A.in1) (fun _ h => h) (PySem.W.X.SegX.mono (sx_quiet X) fun e s₁ hqx => ?_)
    obtain ⟨hq, hx⟩ := hqx
    show wpAny _ A.in1 _ _ _ _
    rcases hx with ⟨v, hv, hQ⟩ | ⟨rfl, hQ⟩
    · rw [hv]
      exact wpAny_pure ⟨v, rfl, wpAny_pure (hQ (End.bare_of_quiet hq))⟩
    · show wpAny _ _ (newExc (.type "StopIteration") [] >>= _) _ _ _
      refine wpAny_bind ?_
      simp only [newExc, newTuple]
      refine wpAny_bind (wpAny_newObj_type ?_ (by size_fits))
      refine wpAny_bind (m := firstArgMember _ _) (wpAny_of_eq (a := Value.none) (by first | rfl | (simp only [firstArgMember]; rfl)) ?_)
      refine wpAny_newObj_type ?_ (by size_fits)
      simp only [raiseNew]
      refine wpAny_bind (wpAny_bind (wpAny_handled ?_))
      rw [show A.in1.handled = none from hh]
      refine wpAny_throw ?_
      refine wpAny_bind (wpAny_isInstance (T := "StopIteration") (b := true) ⟨_, Heap.get?_push_size _ rfl, rfl⟩ isSubtype_stop ?_)
      exact wpAny_pure (hQ _ fun b o hb => Heap.get?_push_of_some _ (Heap.get?_push_of_some _ hb))
end Mine
end

section
open PySem PySem.W PySem.W.X PyProof.Rows
set_option Elab.async false
set_option maxRecDepth 100000
set_option linter.unusedVariables false
namespace Mine

inductive GSt (w : World) (g : Heap) (A : Around) (L fa : Addr) (qn : Str) (cd : Value) : List Tk → GenState → Heap → List Addr → Prop
  | fresh {us : List Tk} {h : Heap} {x : Str} {ρ : Str → Value} {ω : Str → List Addr} : x.cps.toList = us.flatMap Tk.cps → (∀ u ∈ us, u.ok) → x.cps.size < 16777216 → x.cps.all (· < 128) = true →
      Sto w g (fenv 6 L fa qn cd) (fun _ => False) h [("addr", .dat (.str x))] ρ ω → GSt w g A L fa qn cd us (.fresh (.func (bodyAt 6) (fenv 6 L fa qn cd))) h [L]
  | run {G : GP} {b : Bool} {i : Nat} {us : List Tk} {gs : GenState} {h : Heap} : G.w = w → G.g = g → G.env = fenv 6 L fa qn cd → G.H b i h → G.Rdy A us b i gs → GSt w g A L fa qn cd us gs h G.own

section
variable {w : World} {g : Heap} {A : Around} {L fa : Addr} {qn : Str} {cd : Value} {us : List Tk} {gs : GenState} {h h' : Heap} {own : List Addr}
theorem GSt.alive (x : GSt w g A L fa qn cd us gs h own) : ∀ a ∈ own, (h.get? a).isSome = true ∧ g.get? a = none := by
  intro a ha
  cases x with
  | fresh h1 h2 h3 h4 S =>
    rw [List.mem_singleton.mp ha]
    change (let G : Prop := _; G)
    intro G
    obtain ⟨m, o, _, _, ho, _⟩ := S.ns
    subst G
    exact ⟨by show (h.get? (fenv 6 L fa qn cd).locals).isSome = true; rw [ho]; rfl, S.lg⟩
  | run e1 e2 e3 H R =>
    rename_i G b i
    obtain ⟨o, ho⟩ := GP.H.some G H a ha
    refine ⟨by rw [ho]; rfl, ?_⟩
    change (let G : Prop := _; G)
    intro G
    obtain ⟨⟨ρ, ω, S⟩, _⟩ := H
    subst G
    rw [← e2]
    simp only [GP.own, List.mem_cons, List.not_mem_nil, or_false] at ha
    rcases ha with rfl | rfl | rfl
    · exact S.lg
    · exact G.ge
    · exact G.gi
theorem GSt.frame (x : GSt w g A L fa qn cd us gs h own) (kg : Ks g h') (k : ∀ a ∈ own, ∀ o, h.get? a = some o → h'.get? a = some o) : GSt w g A L fa qn cd us gs h' own := by
  cases x with
  | fresh h1 h2 h3 h4 S =>
    rename_i x ρ ω
    have no : ∀ y a, (fenv 6 L fa qn cd).cells.lookup y = some a → False := fun y a e => by rw [show (fenv 6 L fa qn cd).cells = [] by rfl] at e; cases e
    obtain ⟨m, hm⟩ := S.ns
    have kL : ∀ o, h.get? L = some o → h'.get? L = some o := fun o e => k _ (.head _) o e
    refine .fresh (ρ := ρ) (ω := ω) h1 h2 h3 h4 ⟨S.base, kg, fun _ h => h.elim, S.fn, S.gl, S.bl, ⟨m, hm.at' kL⟩, S.lg, fun h => h, fun y a e => (no y a e).elim, S.capart, fun y en hy => ?_, fun y en hy b hb => ?_, S.apart, S.nodup⟩
    · obtain ⟨q1, q2⟩ := S.vals y en hy
      rcases List.mem_cons.mp hy with e | hy
      · cases e
        refine ⟨?_, q2.1, Imm.rp (d := .str x) trivial q2.2⟩
        cases q1 with
        | loc q n e => exact .loc q (n.at' kL) e
        | cell q e i => exact (no _ _ e).elim
      · cases hy
    · obtain ⟨q1, q2⟩ := S.vals y en hy
      rcases List.mem_cons.mp hy with e | hy
      · cases e; rw [q2.1] at hb; cases hb
      · cases hy
  | run e1 e2 e3 H R => exact .run e1 e2 e3 (H.frame (h' := h') _ (by rw [e2]; exact kg) k) R

noncomputable def GStep (w : World) (g : Heap) (A : Around) (L fa : Addr) (qn : Str) (cd : Value) (us : List Tk) (own : List Addr) (s : Shared) (e : End) (s' : Shared) : Prop :=
  Rest true s s' ∧ (∀ b o, b ∉ own → s.heap.get? b = some o → s'.heap.get? b = some o) ∧ match us with
  | [] => e = .ret (.ok (.ret .none))
  | u :: us => ∃ v own', e.result = .yielded v ∧ (∃ P', (∀ b, P' b → s.heap.get? b = none) ∧ PW P' s'.heap ∧ (∀ b, P' b → b ∉ own') ∧ ∃ p, Rp w P' s'.heap v (.tup [.int p, .str u.str])) ∧ GSt w g A L fa qn cd us e.genState s'.heap own' ∧
      ∀ b ∈ own', b ∈ own ∨ s.heap.get? b = none

theorem gset {k : Nat} {env : Env} {P : Addr → Prop} {s : Shared} {σ : List (Str × Ent)} {ρ : Str → Value} {ω : Str → List Addr} {x : Str} {e : Expr} {d : D} {p p' : Pos} (S : Sto w g env P s.heap σ ρ ω) (rm : Rm k A) (hk : env.kindOf x = some .local) (hc : env.cells = []) (he : Ev ⟨w, true, k, env⟩ σ e d)
    (hs : swapsWith e (some (.Name x p')) p.line env = pure false := by rfl) : wpAny (model prg w) A (exec (.Assign [.Name x p'] e p) env) (fun f s' => f = .next ∧ Rest true s s' ∧ (∀ b o, b ≠ env.locals → s.heap.get? b = some o → s'.heap.get? b = some o) ∧
      ∃ P' ρ' ω', Sto w g env P' s'.heap ((x, .dat d) :: σ.filter fun y => y.1 != x) ρ' ω') NoE s := by
  refine wpAny_Assign_Name (wpAny_mono (he.go rm S) (fun v s₁ zz => Pst.elim zz fun P₁ x₁ y₁ z₁ => ?_) fun _ _ x => x) hs
  refine (S.ext x₁).store (NewEnt.dat z₁) Puts.new (.inl hk) fun h' tk S' kp same => ?_
  exact ⟨rfl, y₁.trans Rest.of, fun b o hb e => (same b hb fun y c hc' _ => by rw [hc] at hc'; cases hc').trans (x₁.ks b o e), _, _, _, S'⟩

theorem GSt.step {k : Nat} {s : Shared} (X : GSt w g A.in1 L fa qn cd us gs s.heap own) (rm : Rm (k + 1) A) (hb6 : fa = 57) : ∃ c t fs, Wk gs c t fs ∧ SegX (model prg w) A.in1 c t fs s (GStep w g A.in1 L fa qn cd us own s) := by
  generalize hh : s.heap = h0 at X
  cases X with
  | run e1 e2 e3 H R =>
    rename_i G b i
    subst hh e1 e2
    change (let G : Prop := _; G)
    intro G
    obtain ⟨c, t, fs, hw, hx⟩ := R.go _ s H
    subst G
    refine ⟨c, t, fs, hw, hx.mono fun e s' ⟨⟨h1, h2⟩, h3⟩ => ⟨h1, h2, ?_⟩⟩
    cases us with
    | nil => exact h3
    | cons u us =>
      change (let G : Prop := _; G)
      intro G
      obtain ⟨v, q1, ⟨P', q2, q3, q4, q5⟩, q6, q7⟩ := h3
      subst G
      exact ⟨v, G.own, q1, ⟨P', q2, q3, q4, q5⟩, .run rfl rfl e3 q6 q7, fun b hb => .inl hb⟩
  | fresh hx hok hsz hasc S =>
    rename_i x ρ ω
    subst hh
    refine ⟨_, _, _, .inl ⟨rfl, rfl, rfl⟩, ?_⟩
    refine sx_func fun H' => ?_
    have rm1 : Rm k (A.in1.over (.func (bodyAt 6) (fenv 6 L fa qn cd)) []) := ⟨rm.1, by have := rm.2.1; show A.depth + 0 + 1 + k < _; (first | lia | omega), by have := rm.2.2; show A.units + 1 + 0 + 3 + 8 * k + 200 < _; (first | lia | omega)⟩
    refine sx_st (wpAny_mono (gset (k := k) S rm1 (by rfl) (by rfl) Ev.int) (fun f s₁ zz => ?_) fun _ _ x => x.elim)
    change (let G : Prop := _; G)
    intro G
    obtain ⟨rfl, y₁, k₁, P₁, ρ₁, ω₁, S₁⟩ := zz
    subst G
    refine ⟨rfl, sx_st (wpAny_mono (gset (k := k) S₁ rm1 (by rfl) (by rfl) Ev.bool) (fun f s₂ zz => ?_) fun _ _ x => x.elim)⟩
    change (let G : Prop := _; G)
    intro G
    obtain ⟨rfl, y₂, k₂, P₂, ρ₂, ω₂, S₂⟩ := zz
    subst G
    refine ⟨rfl, sx_cons (sx_For ?_)⟩
    refine wpAny_Call_Name_kw (name_builtin (c := ⟨w, true, k, fenv 6 L fa qn cd⟩) S₂ (by rfl) (by decide) (v := .type "enumerate") (by decide +kernel) ?_ (by decide) (by decide))
    refine PySem.callWith_type rfl (Calls.evalArgs_plain (Calls.spliced_cons (wpAny_mono (EvR.go (c := ⟨w, true, k, fenv 6 L fa qn cd⟩) (Ev.name (d := .str x)) rm1 S₂) (fun v s₃ zz => Calls.spliced_nil ?_) fun _ _ x => x)))
    change (let G : Prop := _; G)
    intro G
    obtain ⟨P₃, x₃, y₃, z₃⟩ := zz
    subst G
    obtain ⟨t, rfl⟩ := Rp.inv z₃
    have S₃ := S₂.ext x₃
    have hty : strIterType x = "str_ascii_iterator" := by unfold strIterType; rw [if_pos hasc]
    refine call_enumerate_str fun h' he hit hz hks => ?_
    rw [hty] at hit
    refine wpAny_pyIter_enum he ?_
    intro kk ll pp hkk
    have L3 : L < s₃.heap.objs.size := by
      change (let G : Prop := _; G)
      intro G
      obtain ⟨m, o, _, _, ho, _⟩ := S₃.ns
      subst G
      exact Heap.lt_size ho
    have old : ∀ b o, b ≠ L → s.heap.get? b = some o → s₃.heap.get? b = some o := fun b o hb e => x₃.ks b o (k₂ b o hb (k₁ b o hb e))
    have fr : ∀ b, s₃.heap.objs.size ≤ b → s.heap.get? b = none := fun b hb => by
      cases q : s.heap.get? b with
      | none => rfl
      | some o =>
        by_cases hbL : b = L
        · exact absurd L3 (Nat.not_lt.mpr (hbL ▸ hb))
        · exact absurd (Heap.lt_size (old b o hbL q)) (Nat.not_lt.mpr hb)
    have gfr : ∀ b, s₃.heap.objs.size ≤ b → g.get? b = none := fun b hb => none_back S₃.ks (none_of_lt hb)
    let G : GP := ⟨w, g, fenv 6 L fa qn cd, s₃.heap.objs.size + 1, s₃.heap.objs.size, x, t, Nat.ne_of_lt (Nat.lt_succ_of_lt L3), Nat.ne_of_lt L3, Nat.succ_ne_self _, gfr _ (Nat.le_succ _), gfr _ (Nat.le_refl _), by rfl⟩
    have K : K6 G := ⟨by rfl, by rfl, by rfl, by rfl, by rfl⟩
    have S₄ : Sto G.w G.g G.env P₃ h' _ ρ₂ ω₂ := S₃.ext (Ext.of_ks S₃.pw hks)
    have H₄ : G.H false 0 h' := GP.H.of S₄ (Sub.cons (by rfl) (Sub.cons (by rfl) Sub.nil)) ⟨⟨_, he⟩, hit⟩
    refine PySem.W.X.SegX.mono (GP.loop (k := k) K ?_ (by rfl) (by rfl) ?_ us [] _ hx hok hsz H₄) fun e s' hp => ?_
    · exact ⟨rm.1, by have := rm.2.1; show A.depth + 1 + k < _; (first | lia | omega), by have := rm.2.2; show A.units + 4 + 8 * k + 200 < _; (first | lia | omega)⟩
    · intro s₅ P₅ ρ₅ ω₅ S₅
      refine sx_pop (hkk _ _ _ ?_)
      refine sx_cons (sx_If ?_)
      have rm2 : Rm k (A.in1.over (.func (bodyAt 6) (fenv 6 L fa qn cd)) []) := rm1
      refine wpAny_mono (Tst.go (c := ⟨w, true, k, fenv 6 L fa qn cd⟩) (σ := G.sig false) (Tst.val Ev.name Tru.bool) rm2 S₅) (fun b s₆ zz => ?_) fun _ _ x => x
      change (let G : Prop := _; G)
      intro G
      obtain ⟨P₆, x₆, y₆, z₆⟩ := zz
      subst G
      subst z₆
      rw [if_neg Bool.false_ne_true]
      exact sx_nil (sx_nil (sx_end ⟨⟨y₆, fun b o _ e => x₆.ks b o e⟩, rfl⟩))
    · obtain ⟨⟨h1, h2⟩, h3⟩ := hp
      have hown : ∀ b, b ∈ G.own → b ∈ [L] ∨ s.heap.get? b = none := fun b hb => by
        simp only [GP.own, List.mem_cons, List.not_mem_nil, or_false] at hb
        rcases hb with rfl | rfl | rfl
        · exact .inl (.head _)
        · exact .inr (fr _ (Nat.le_succ _))
        · exact .inr (fr _ (Nat.le_refl _))
      refine ⟨((y₁.trans y₂).trans y₃).trans ((Rest.of (h := h') (t := s₃.toks)).trans h1), fun b o hb e => h2 b o (fun hm => ?_) (hks b o (old b o (fun z => hb (by rw [z]; exact .head _)) e)), ?_⟩
      · rcases hown b hm with q | q
        · exact hb q
        · rw [q] at e; cases e
      · cases us with
        | nil => exact h3
        | cons u us =>
          change (let G : Prop := _; G)
          intro G
          obtain ⟨v, q1, ⟨P', q2, q3, q4, q5⟩, q6, q7⟩ := h3
          subst G
          refine ⟨v, G.own, q1, ⟨P', fun b hb => ?_, q3, q4, q5⟩, .run rfl rfl rfl q6 q7, hown⟩
          have := q2 b hb
          cases q : s.heap.get? b with
          | none => rfl
          | some o =>
            by_cases hbL : b = L
            · exact absurd (by rw [hbL]; exact .head _) (q4 b hb)
            · rw [hks b o (old b o hbL q)] at this; cases this
end
end Mine
end

section
open PySem PySem.W PySem.W.X PyProof.Rows
set_option Elab.async false
set_option maxRecDepth 100000
set_option linter.unusedVariables false
namespace Mine

section
variable {w : World} {g : Heap} {env : Env} {P P' : Addr → Prop} {h : Heap} {σ : List (Str × Ent)} {ρ : Str → Value} {ω : Str → List Addr}
theorem Sto.addP (S : Sto w g env P h σ ρ ω) (hs : ∀ b, P b → P' b) (hn : ∀ b, P' b → P b ∨ Off env P σ ω b) (hp : PW P' h) : Sto w g env P' h σ ρ ω := by
  refine ⟨S.base, S.ks, hp, S.fn, S.gl, S.bl, S.ns, S.lg, fun hl => (hn _ hl).elim S.lp fun o => o.l rfl, fun x c hc => ⟨(S.cells x c hc).1, (S.cells x c hc).2.1, fun hl => ⟨((S.cells x c hc).2.2 hl).1, fun hP => (hn _ hP).elim ((S.cells x c hc).2.2 hl).2 fun o => o.c x c hc rfl⟩⟩, S.capart, fun x e hx => ⟨(S.vals x e hx).1, (S.vals x e hx).2.mono hs (fun _ _ _ e => e) fun _ _ => rfl⟩, fun x e hx a ha => ?_, S.apart, S.nodup⟩
  obtain ⟨h1, h2⟩ := S.own x e hx a ha
  exact ⟨fun hP => (hn _ hP).elim h1 fun o => o.o x e hx ha, h2⟩
theorem Sto.off_fresh (S : Sto w g env P h σ ρ ω) {b : Addr} (hb : h.get? b = none) : Off env P σ ω b := by
  refine ⟨fun hp => ?_, fun e => ?_, fun y a ha e => ?_, fun x e hx hm => ?_⟩
  · have := S.pw b hp; rw [hb] at this; cases this
  · obtain ⟨m, o, _, _, ho, _⟩ := S.ns; rw [e, ho] at hb; cases hb
  · obtain ⟨⟨u, o, ho, _⟩, _⟩ := S.cells y a ha; rw [e, ho] at hb; cases hb
  · have := (S.own x e hx b hm).2.2.2.2; rw [hb] at this; cases this
end

theorem setGen_push (a : Array GenState) (x y : GenState) : (a.push x).setIfInBounds a.size y = a.push y := by
  apply Array.ext'
  simp [Array.setIfInBounds]
theorem gens_push_get (a : Array GenState) (x : GenState) : (a.push x)[a.size]? = some x := by simp

theorem call_gen {gb : Heap} {c : Cx} {A : Around} {s : Shared} {x : Str} {t : Tok} {Q : Value → Shared → Prop} {us : List Tk} (rm : Rm (c.k + 1) A) (Bg : Base c.w gb) (kg : Ks gb s.heap) (hx : x.cps.toList = us.flatMap Tk.cps) (hok : ∀ u ∈ us, u.ok) (hsz : x.cps.size < 16777216) (hasc : x.cps.all (· < 128) = true)
    (h : ∀ h' tk L qn cd a, Ks s.heap h' → GSt c.w gb A.in1 L 57 qn cd us (.fresh (.func (bodyAt 6) (fenv 6 L 57 qn cd))) h' [L] → h'.IsGen a s.gens.size → s.heap.get? a = none → s.heap.get? L = none → a ≠ L → Q (.ref a) { s with heap := h', toks := tk, gens := s.gens.push (.fresh (.func (bodyAt 6) (fenv 6 L 57 qn cd))) }) :
    wpAny (model prg c.w) A (call (.ref 57) [.str x t]) Q NoE s := by
  have B := Bg.ks kg
  change (let G : Prop := _; G)
  intro G
  obtain ⟨ob, fd, ho, e1, e2, e3, e4, e5, e6, e7, e8, e9, e10⟩ := (B.fns "_iter_escaped_chars" 57 6 (by decide)).ex
  subst G
  refine wpAny_call ?_
  refine codeAny_call_generator (fd := fd) (body := bodyAt 6) (by have := rm.2.1; (first | lia | omega)) ho e1 (by rw [e4]; rfl) (by rw [e4]; rfl) e3 e8 ?_
  have hb : bindArgs fd ⟨[Value.str x t], []⟩ = pure [(("addr" : Str), Value.str x t)] := by
    obtain ⟨⟩ := fd
    subst e2 e9 e10
    rfl
  rw [hb]
  refine wpAny_pure ?_
  rw [e6]
  refine wpAny_newFunctionEnv_cells (by rw [e4]; rfl) (fun y hy => by
    rw [List.mem_singleton.mp hy, e4]; exact .inl (by rfl)) fun env he s' y => ?_
  subst he
  have henv : newEnv fd.scope s.heap.objs.size fd.globals (cellsFrom (s.heap.objs.size + 1) fd.scope.names []) (fd.qualname ++ ".<locals>.") (some 57) fd.code none fd.builtins = fenv 6 s.heap.objs.size 57 (fd.qualname ++ ".<locals>.") fd.code := by
    unfold newEnv fenv
    rw [e4, e5, e7]
  rw [henv] at y ⊢
  change (let G : Prop := _; G)
  intro G
  obtain ⟨⟨⟨h₁, tk, rfl⟩, yns, ykeep, yfresh⟩, ycell, yapart, yabove⟩ := y
  subst G
  refine ⟨B.nolimit.keeps ykeep, ?_⟩
  have hL : s.heap.objs.size < h₁.objs.size := yns.lt
  have kk : Ks s.heap (h₁.push { cls := .type "generator", data := .fields #[.int s.gens.size 0, .str fd.name tk, .str fd.qualname (tk + 1)] }) := fun b o e => Heap.get?_push_of_some _ (ykeep b o e)
  refine h _ _ s.heap.objs.size _ _ h₁.objs.size kk ?_ ⟨_, _, _, Heap.get?_push_size _ rfl, rfl, rfl, rfl⟩ (none_back ykeep (none_of_lt (Nat.le_refl _))) (none_of_lt (Nat.le_refl _)) (Nat.ne_of_gt hL)
  refine .fresh (x := x) (ρ := fun _ => .str x t) (ω := fun _ => []) hx hok hsz hasc ?_
  have no : ∀ y a, (fenv 6 s.heap.objs.size 57 (fd.qualname ++ ".<locals>.") fd.code).cells.lookup y = some a → False := fun y a e => by rw [show (fenv 6 s.heap.objs.size 57 (fd.qualname ++ ".<locals>.") fd.code).cells = [] by rfl] at e; cases e
  refine ⟨Bg, kg.trans kk, fun _ h => h.elim, by rfl, rfl, rfl, ⟨_, yns.push _⟩, none_back kg (none_of_lt (Nat.le_refl _)), fun h => h, fun y a e => (no y a e).elim, fun y z a e => (no y a e).elim, fun y en hy => ?_, fun _ _ _ _ h => (nomatch h), fun _ _ _ _ _ _ _ _ h => (nomatch h), fun _ _ _ => List.nodup_nil⟩
  rcases List.mem_cons.mp hy with e | hy
  · cases e
    exact ⟨.loc (by rfl) (yns.push _) (by rfl), rfl, .str x t⟩
  · cases hy
end Mine
end

section
open PySem PySem.W PySem.W.X PyProof.Rows
set_option Elab.async false
set_option maxRecDepth 100000
set_option linter.unusedVariables false
namespace Mine

section
variable {c : Cx} {σ : List (Str × Ent)} {e : Expr} {x : Str} {body : List Stmt} {p p' p'' tp : Pos} {elts : List Expr} {ek : Nat}

theorem Ex1.forG (us : List Tk) (Inv : Nat → List (Str × Ent)) (stop : Option (Nat × D)) (xs : List (Str × Pos)) (hel : elts = xs.map fun y => Expr.Name y.1 y.2) (hw : ∀ y ∈ xs, Wr c.env y.1) (hq : c.q = false) (hk1 : 1 ≤ c.k)
    (he : Ev c σ e (.str x)) (hx : x.cps.toList = us.flatMap Tk.cps) (hok : ∀ u ∈ us, u.ok) (hsz : x.cps.size < 16777216) (hasc : x.cps.all (· < 128) = true)
    (hk : c.env.kindOf "_iter_escaped_chars" = some .globalImplicit) (h0 : Sub (Inv 0) σ)
    (turn : ∀ i u (n : Int), us[i]? = some u → (∀ m dd, stop = some (m, dd) → i < m) → ∃ σ', PutsL (xs.map (·.1)) [.int n, .str u.str] (Inv i) σ' ∧ Ex { c with q := true } σ' body (.nxt (Inv (i + 1))))
    (last : ∀ m dd, stop = some (m, dd) → ∃ u, us[m]? = some u ∧ ∀ n : Int, ∃ σ', PutsL (xs.map (·.1)) [.int n, .str u.str] (Inv m) σ' ∧ Ex { c with q := true } σ' body (.ret dd))
    (hstar : starEach [e] c.env = [(false, eval e c.env)] := by rfl) :
    Ex1 c σ (.For (.Tuple elts ek tp) (.Call (.Name "_iter_escaped_chars" p') [e] [] p'') body [] p) (outOf Inv us.length stop) := by
  intro A g P s ρ ω rm S
  obtain ⟨kk, hkk⟩ : ∃ j, c.k = j + 1 := ⟨c.k - 1, by (first | lia | omega)⟩
  have rm' : Rm (kk + 1) A := by rw [← hkk]; exact rm
  refine wpAny_For (wpAny_Call_Name_kw (name_global S hk (a := 57) (i := 6) (by decide) ?_ (by decide))) (by intro v; rfl)
  change (let G : Prop := _; G)
  intro G
  obtain ⟨ob, fd, ho, h1, _⟩ := (S.base_now.fns "_iter_escaped_chars" 57 6 (by decide)).ex
  subst G
  rw [hstar]
  refine Calls.callWith_function (o := ob) (fd := fd) (Calls.evalArgs_plain (Calls.spliced_cons (wpAny_mono (he A g P s ρ ω rm S) (fun v s₁ zz => Pst.elim zz fun P₁ x₁ y₁ z₁ => Calls.spliced_nil ⟨⟨x₁.ks _ _ ho, h1⟩, ?_⟩) fun _ _ x => x)))
  obtain ⟨t, rfl⟩ := Rp.inv z₁
  have S₁ := S.ext x₁
  refine call_gen (c := { c with k := kk }) (us := us) rm' S.base S₁.ks hx hok hsz hasc fun h' tk L qn cd a kh hG hIG ha hL haL => ?_
  refine wpAny_pyIter_gen hIG ?_
  have S₂ : Sto c.w g c.env P₁ h' σ ρ ω := S₁.ext (Ext.of_ks S₁.pw kh)
  have offa : Off c.env P₁ σ ω a := S₁.off_fresh ha
  have offL : Off c.env P₁ σ ω L := S₁.off_fresh hL
  have mlen : ∀ m dd, stop = some (m, dd) → m < us.length := fun m dd h => by
    obtain ⟨u, hu, _⟩ := last m dd h
    exact (List.getElem?_eq_some_iff.mp hu).1
  have osub : ∀ {b}, Off c.env P₁ σ ω b → Off c.env P₁ (Inv 0) ω b := fun o => ⟨o.p, o.l, o.c, fun x e hx => o.o x e (h0 x e hx)⟩
  -- the loop
  refine codeAny_forLoop_any (fun n s' => ∃ i Pi ρi ωi gs own, i ≤ us.length ∧ n = us.length + 1 - i ∧ (∀ m dd, stop = some (m, dd) → i ≤ m) ∧ Sto c.w g c.env Pi s'.heap (Inv i) ρi ωi ∧ (∀ b, P₁ b → Pi b) ∧ (∀ b, Pi b → P₁ b ∨ g.get? b = none) ∧ Kp P₁ s₁.heap s'.heap ∧
      s'.drawn = s₁.drawn ∧ s'.os = s₁.os ∧ s'.gens = s₁.gens.push gs ∧ gs.bare = true ∧ GSt c.w g A.in1 L 57 qn cd (us.drop i) gs s'.heap own ∧ (∀ b ∈ own, Off c.env Pi (Inv i) ωi b) ∧ s'.heap.IsGen a s₁.gens.size ∧ Off c.env Pi (Inv i) ωi a ∧ a ∉ own) ?_ (us.length + 1)
    ⟨0, P₁, ρ, ω, _, [L], Nat.zero_le _, rfl, fun _ _ _ => Nat.zero_le _, S₂.sub h0, fun _ h => h, fun _ h => .inl h, fun b o hb e => kh b o e, rfl, rfl, rfl, rfl, hG, fun b hb => by rw [List.mem_singleton.mp hb]; exact osub offL, hIG, osub offa, by simpa using haL⟩
  intro n s' hI0
  change (let G : Prop := _; G)
  intro G
  obtain ⟨i, Pi, ρi, ωi, gs, own, hin, rfl, hstop, Si, hsubi, hnewi, hkpi, hdr, hos, hgens, hbare, hGi, hoff, hIGi, offai, hao⟩ := hI0
  subst G
  have hGs : GSt c.w g A.in1 L 57 qn cd (us.drop i) gs (s'.setGen s₁.gens.size .running).heap own := hGi
  change (let G : Prop := _; G)
  intro G
  obtain ⟨cc, tt, fs, hwk, hsx⟩ := hGs.step rm' rfl
  subst G
  refine gen_next rm.1 Si.base_now.nolimit rm.room hIGi (by rw [hgens]; exact gens_push_get _ _) hwk (hsx.mono fun e s₂ hstep => ?_)
  obtain ⟨r1, hkeep, hm⟩ := hstep
  have gset : ∀ y, (s₂.setGen s₁.gens.size y).gens = s₁.gens.push y := fun y => by
    show s₂.gens.setIfInBounds _ _ = _
    have : s₂.gens = (s'.setGen s₁.gens.size .running).gens := r1.2.2
    rw [this]
    show (s'.gens.setIfInBounds _ _).setIfInBounds _ _ = _
    rw [hgens, setGen_push, setGen_push]
  have gown : ∀ b ∈ own, g.get? b = none := fun b hb => (hGi.alive b hb).2
  have Sa : Sto c.w g c.env Pi s₂.heap (Inv i) ρi ωi := Si.off (wr := own) hkeep hoff gown
  have kpa : Kp Pi s'.heap s₂.heap := fun b o hb e => hkeep b o (fun hm => (hoff b hm).p hb) e
  cases hu : us[i]? with
  | none =>
    have hlen : us.length ≤ i := by simpa using hu
    have hdrop : us.drop i = [] := List.drop_eq_nil_of_le hlen
    rw [hdrop] at hm
    refine .inr ⟨hm, fun h'' hk'' => wpAny_execs_nil ?_⟩
    have hst : stop = none := by
      cases q : stop with
      | none => rfl
      | some md =>
        obtain ⟨m, dd⟩ := md
        have h1 := mlen m dd q
        have h2 := hstop m dd q
        (first | lia | omega)
    subst hst
    have hie : i = us.length := Nat.le_antisymm hin hlen
    subst hie
    refine ⟨Pi, ⟨fun b hb => hsubi b (x₁.sub b hb), fun b hb => (hnewi b hb).elim (fun h => (x₁.new b h).imp id fun z => none_back S.ks z) .inr, fun b o hb e => hk'' b o (kpa b o (hsubi b (x₁.sub b hb)) (hkpi b o (x₁.sub b hb) (x₁.ks b o e))), ?_⟩, rfl, ρi, ωi, Sa.ext (Ext.of_ks Sa.pw hk'')⟩
    refine ⟨(r1.1.trans hdr).trans y₁.1, (r1.2.1.trans hos).trans y₁.2.1, ?_⟩
    rw [hq]
    show GEx false s.gens (s₂.setGen s₁.gens.size .finished).gens
    rw [gset]
    have := y₁.2.2
    rw [hq] at this
    obtain ⟨l, hl, hb⟩ := this
    exact ⟨l ++ [.finished], by rw [hl]; simp, fun x hx => by
      rcases List.mem_append.mp hx with h | h
      · exact hb x h
      · rw [List.mem_singleton.mp h]; rfl⟩
  | some u =>
    have hlt : i < us.length := (List.getElem?_eq_some_iff.mp hu).1
    have hdrop : us.drop i = u :: us.drop (i + 1) := by
      rw [List.drop_eq_getElem_cons hlt]
      rw [List.getElem?_eq_getElem hlt] at hu
      cases hu; rfl
    rw [hdrop] at hm
    change (let G : Prop := _; G)
    intro G
    obtain ⟨v, own', hres, ⟨P', hP1, hP2, hP3, pn, hrp⟩, hG', hown'⟩ := hm
    subst G
    replace hP1 : ∀ b, P' b → s'.heap.get? b = none := hP1
    replace hown' : ∀ b ∈ own', b ∈ own ∨ s'.heap.get? b = none := hown'
    refine .inl ⟨v, hres, fun hbare' => ?_⟩
    change (let G : Prop := _; G)
    intro G
    obtain ⟨oa, nm, qn', hoa, hca, hda, hsl⟩ := id hIGi
    subst G
    have hoa2 : s₂.heap.get? a = some oa := hkeep a oa hao hoa
    refine let_go (T := "generator") (s := s₂.setGen s₁.gens.size e.genState) hoa2 hca hda (by decide) ?_
    have fr : ∀ b, s'.heap.get? b = none → Off c.env Pi (Inv i) ωi b := fun b hb => Si.off_fresh hb
    have Sb : Sto c.w g c.env (fun b => Pi b ∨ P' b) s₂.heap (Inv i) ρi ωi := Sa.addP (fun b h => .inl h) (fun b hb => hb.imp id fun h => fr b (hP1 b h)) fun b hb => hb.elim (Sa.pw b) (hP2 b)
    have hh : ∃ σ' o, PutsL (xs.map (·.1)) [.int pn, .str u.str] (Inv i) σ' ∧ Ex { c with q := true } σ' body o ∧ (o = .nxt (Inv (i + 1)) ∧ (∀ m dd, stop = some (m, dd) → i + 1 ≤ m) ∨ ∃ dd, stop = some (i, dd) ∧ o = .ret dd) := by
      by_cases hm : ∃ dd, stop = some (i, dd)
      · obtain ⟨dd, hm⟩ := hm
        obtain ⟨u', hu', hl⟩ := last i dd hm
        rw [hu] at hu'; cases hu'
        obtain ⟨σ', h1, h2⟩ := hl pn
        exact ⟨σ', _, h1, h2, .inr ⟨dd, hm, rfl⟩⟩
      · have hlt' : ∀ m dd, stop = some (m, dd) → i < m := fun m dd h => Nat.lt_of_le_of_ne (hstop m dd h) fun e => hm ⟨dd, e ▸ h⟩
        obtain ⟨σ', h1, h2⟩ := turn i u pn hu hlt'
        exact ⟨σ', _, h1, h2, .inl ⟨rfl, hlt'⟩⟩
    change (let G : Prop := _; G)
    intro G
    obtain ⟨σ', o, hput, hex, ho⟩ := hh
    subst G
    refine wpAny_mono (E := NoE) ?_ (fun _ _ h => h) fun _ _ x => x.elim
    refine (Tgt.tup xs hel hw hput : Tgt c (.Tuple elts ek tp) (.tup [.int pn, .str u.str]) (Inv i) σ') A g _ (s₂.setGen s₁.gens.size e.genState) ρi ωi v _ rm Sb (hrp.mono (fun b h => .inr h) fun _ _ _ e => e) fun h4 tk4 ρ' ω' S4 kp4 same4 own4 => ?_
    change (let G : Prop := _; G)
    intro G
    obtain ⟨g', kg, S5, hg'⟩ := S4.hide
    subst G
    have wk : ∀ b, Off c.env Pi (Inv i) ωi b → ¬ P' b → (s₂.heap.get? b).isSome = true → h4.get? b = s₂.heap.get? b ∧ g'.get? b = s₂.heap.get? b := fun b ob hb1 hb2 => by
      have h1 := same4 b ob.l (fun y a ha _ => ob.c y a ha) hb2
      have h1' : h4.get? b = s₂.heap.get? b := h1
      refine ⟨h1', (hg' b ob.l (fun y a ha => ob.c y a ha) (fun y e hy hm => ?_) (by rw [h1']; exact hb2)).trans h1'⟩
      change (let G : Prop := _; G)
      intro G
      obtain ⟨_, e', hm', hb'⟩ := own4 y e hy b hm
      subst G
      exact ob.o y e' hm' hb'
    have ownOff : ∀ b ∈ own', Off c.env Pi (Inv i) ωi b := fun b hb => (hown' b hb).elim (hoff b) (fr b)
    have wkO : ∀ b ∈ own', h4.get? b = s₂.heap.get? b ∧ g'.get? b = s₂.heap.get? b := fun b hb => wk b (ownOff b hb) (fun h => hP3 b h hb) (hG'.alive b hb).1
    have wkA : h4.get? a = s₂.heap.get? a ∧ g'.get? a = s₂.heap.get? a := wk a offai (fun h => by rw [hP1 a h] at hoa; cases hoa) (by rw [hoa2]; rfl)
    refine wpAny_mono (hex A g' _ { (s₂.setGen s₁.gens.size e.genState) with heap := h4, toks := tk4 } ρ' ω' rm S5) (fun f s₅ z => ?_) fun _ _ x => x.elim
    obtain ⟨P5, x5, z⟩ := z
    have gnew : ∀ b, P5 b → P₁ b ∨ g.get? b = none := fun b hb => by
      rcases x5.new b hb with h | h
      · rcases h with h | h
        · exact hnewi b h
        · exact .inr (none_back Si.ks (hP1 b h))
      · exact .inr (none_back kg h)
    have kp5 : Kp P₁ s₁.heap s₅.heap := fun b o hb e => x5.kp b o (.inl (hsubi b hb)) (kp4 b o (.inl (hsubi b hb)) (kpa b o (hsubi b hb) (hkpi b o hb e)))
    have r5 : s₅.drawn = s₁.drawn ∧ s₅.os = s₁.os := ⟨(x5.rest.1.trans r1.1).trans hdr, (x5.rest.2.1.trans r1.2.1).trans hos⟩
    have g5 : s₅.gens = s₁.gens.push e.genState := Eq.trans (show s₅.gens = (s₂.setGen s₁.gens.size e.genState).gens from x5.rest.2.2) (gset _)
    rcases ho with ⟨rfl, hst⟩ | ⟨dd, hst, rfl⟩
    · change (let G : Prop := _; G)
      intro G
      obtain ⟨rfl, ρ6, ω6, S6⟩ := z
      subst G
      have some' : ∀ b, (g'.get? b).isSome = true → ¬ P' b → Off c.env Pi (Inv i) ωi b → Off c.env P5 (Inv (i + 1)) ω6 b := fun b hb hb2 ob => by
        refine ⟨fun hp => ?_, ob.l, ob.c, fun y en hy hm => ?_⟩
        · rcases x5.new b hp with h | h
          · rcases h with h | h
            · exact ob.p h
            · exact hb2 h
          · rw [h] at hb; cases hb
        · have := (S6.own y en hy b hm).2.1
          rw [this] at hb; cases hb
      have kept6 : ∀ b, g'.get? b = s₂.heap.get? b → ∀ o, s₂.heap.get? b = some o → s₅.heap.get? b = some o := fun b hb o e => S6.ks b o (hb.trans e)
      refine ⟨us.length + 1 - (i + 1), by (first | lia | omega), i + 1, P5, ρ6, ω6, e.genState, own', hlt, rfl, hst, S6.base_of S.base kg, fun b hb => x5.sub b (.inl (hsubi b hb)), gnew, kp5, r5.1, r5.2, g5, hbare', hG'.frame (S6.base_of S.base kg).ks fun b hb => kept6 b (wkO b hb).2, fun b hb => some' b (by rw [(wkO b hb).2]; exact (hG'.alive b hb).1) (fun h => hP3 b h hb) (ownOff b hb), ⟨oa, nm, qn', kept6 a wkA.2 oa hoa2, hca, hda, hsl⟩,
        some' a (by rw [wkA.2, hoa2]; rfl) (fun h => by rw [hP1 a h] at hoa; cases hoa) offai, fun hm => ?_⟩
      rcases hown' a hm with h | h
      · exact hao h
      · rw [h] at hoa; cases hoa
    · change (let G : Prop := _; G)
      intro G
      obtain ⟨v', rfl, k6, p6, r6⟩ := z
      subst G
      subst hst
      refine ⟨P5, ⟨fun b hb => x5.sub b (.inl (hsubi b (x₁.sub b hb))), fun b hb => (gnew b hb).elim (fun h => (x₁.new b h).imp id fun z => none_back S.ks z) .inr, fun b o hb e => kp5 b o (x₁.sub b hb) (x₁.ks b o e), r5.1.trans y₁.1, r5.2.trans y₁.2.1, ?_⟩, v', rfl, kg.trans k6, p6, r6⟩
      rw [hq]
      show GEx false s.gens s₅.gens
      rw [g5]
      have := y₁.2.2
      rw [hq] at this
      obtain ⟨l, hl, hb⟩ := this
      exact ⟨l ++ [e.genState], by rw [hl]; simp, fun x hx => by
        rcases List.mem_append.mp hx with h | h
        · exact hb x h
        · rw [List.mem_singleton.mp h]; exact hbare'⟩
end
end Mine
end

section
open PySem PySem.W PyProof.Rows
set_option Elab.async false
set_option maxRecDepth 100000
set_option linter.unusedVariables false
namespace Mine

noncomputable def pth (w : List Nat) : Nat := w.foldl (fun p i => p * 16 + i + 1) 0
noncomputable def wb (w : List Nat) : Array UInt8 := (w.map fun i => (66 + i).toUInt8).toArray
theorem pth_snoc (w : List Nat) (i : Nat) : pth (w ++ [i]) = pth w * 16 + i + 1 := by simp [pth, List.foldl_append]
theorem pth_nil : pth [] = 0 := rfl
theorem wb_snoc_drop (i : Nat) (v : List Nat) : wb (i :: v) = #[(66 + i).toUInt8] ++ wb v := by
  simp [wb]

theorem ok_ap : FnOk 3 ["num"] := by
  refine ⟨by rfl, by rfl, by rfl, by decide, ?_, ?_, ?_⟩
  · intro L x hx
    rcases List.mem_singleton.mp hx with rfl
    exact .inl (by rfl)
  · intro L x y a h1 h2
    cases h1
  · rintro ⟨⟩ vs rfl rfl rfl hl
    obtain ⟨v, rfl⟩ := len1 hl
    rfl

noncomputable def apB : Array UInt8 := [65, 66, 67, 68, 69, 70, 71, 72, 73, 74, 75, 76, 77, 78, 79, 80].toArray
theorem ap_pick : ∀ i : Nat, i < 15 → KBy.picked apB (some ((i : Int) + 1)) (some ((i : Int) + 1 + 1)) = #[(66 + i).toUInt8] := by
  intro i hi
  have : ∀ i : Fin 15, KBy.picked apB (some ((i.val : Int) + 1)) (some ((i.val : Int) + 1 + 1)) = #[(66 + i.val).toUInt8] := by decide +kernel
  exact this ⟨i, hi⟩
theorem ap_size (i : Nat) : (KBy.picked apB (some ((i : Int) + 1)) (some ((i : Int) + 1 + 1))).size ≤ 16 := by
  exact KBc.size_picked_le apB _ _
theorem Ex.nil' {c : Cx} {σ σ' : List (Str × Ent)} (h : Sub σ' σ) : Ex c σ [] (.nxt σ') := fun A g P s ρ ω rm S => wpAny_execs_nil ⟨P, XS.refl, rfl, ρ, ω, S.sub h⟩
theorem int2ap {w : World} {q : Bool} {k : Nat} {ws : List Nat} (hd : ∀ i ∈ ws, i < 15) (hl : ws.length ≤ 8) : Fn w q (k + 1) 43 [.int (pth ws)] (.bytes (wb ws)) :=
  Fn.intro (by decide : (("Int2AP" : Str), 43, 3) ∈ fnTab) ok_ap rfl fun L qn cd => by
    refine Ex.cons (Ex1.assign Ev.bytes (.inl (by rfl)) Puts.new) ?_
    refine Ex.cons (Ex1.assign Ev.bytes (.inl (by rfl)) Puts.new) ?_
    refine Ex.cons (Ex1.assign (Ev.callT (EvL.cons (Ev.callB (EvL.cons Ev.name EvL.nil) Bi.abs (by rfl) (by decide) (by decide +kernel)) EvL.nil) Ty.int (by rfl) (by decide) (by decide +kernel)) (.inl (by rfl)) Puts.new) ?_
    have e0 : (if (pth ws : Int) < 0 then -(pth ws : Int) else pth ws) = pth ws := by rw [if_neg (by (first | lia | omega))]
    rw [e0]
    refine Ex.cons (Ex1.while' (fun j => [("num", .dat (.int (pth (ws.take (ws.length - j))))), ("val", .dat (.bytes (wb (ws.drop (ws.length - j))))), ("AP", .dat (.bytes apB))]) ws.length none ?_ (fun i hi => ⟨?_, ?_⟩) ⟨fun _ => ?_, fun d h => nomatch h⟩) ?_
    · refine Sub.cons ?_ (Sub.cons ?_ (Sub.cons (by rfl) Sub.nil))
      · show _ = some (Ent.dat (.int _)); simp; rfl
      · show _ = some (Ent.dat (.bytes _)); simp; rfl
    · refine Tst.eq (Tst.val Ev.name Tru.int) ?_
      have hj : ws.length - i = (ws.length - i - 1) + 1 := by (first | lia | omega)
      have hlt : ws.length - i - 1 < ws.length := by (first | lia | omega)
      rw [hj, List.take_add_one, List.getElem?_eq_getElem hlt]
      rw [bne_iff_ne]
      show ((pth (ws.take _ ++ [_]) : Nat) : Int) ≠ 0
      rw [pth_snoc]
      (first | lia | omega)
    · have hj : ws.length - i = (ws.length - (i + 1)) + 1 := by (first | lia | omega)
      have hlt : ws.length - (i + 1) < ws.length := by (first | lia | omega)
      generalize hm : ws.length - (i + 1) = m at *
      rw [hj]
      have ht : ws.take (m + 1) = ws.take m ++ [ws[m]] := by rw [List.take_add_one, List.getElem?_eq_getElem hlt]; rfl
      have hdr : ws.drop m = ws[m] :: ws.drop (m + 1) := List.drop_eq_getElem_cons hlt
      have hd' : ws[m] < 15 := hd _ (List.getElem_mem hlt)
      rw [ht, hdr, pth_snoc]
      generalize ws[m] = x at *
      have e1 : (((pth (ws.take m) * 16 + x + 1 : Nat) : Int)).fdiv 16 = pth (ws.take m) := by
        rw [Int.fdiv_eq_ediv_of_nonneg _ (by decide)]; (first | lia | omega)
      have e2 : (((pth (ws.take m) * 16 + x + 1 : Nat) : Int)).fmod 16 = (x : Int) + 1 := by
        rw [Int.fmod_eq_emod_of_nonneg _ (by decide)]; (first | lia | omega)
      refine Ex.cons (Ex1.assignT (Ev.callB (EvL.cons Ev.name (EvL.cons Ev.int EvL.nil)) (Bi.divmod (by decide) (by decide)) (by rfl) (by decide) (by decide +kernel)) (Tgt.tup [("num", _), ("mod", _)] (by rfl) (fun y hy => ?_) (.cons Puts.new (.cons Puts.new .nil)))) ?_
      · simp only [List.mem_cons, List.not_mem_nil, or_false] at hy
        rcases hy with rfl | rfl <;> exact .inl (by rfl)
      rw [e1, e2]
      refine Ex.cons (Ex1.assign (Ev.bin (EvR.sliceB Ev.name (.some Ev.name) (.some (Ev.bin Ev.name Ev.int Bin.add)) (by decide)) Ev.name (Bin.addb ?_)) (.inl (by rfl)) Puts.new) ?_
      · have h1 := ap_size x
        show (KBy.picked apB _ _).size + _ ≤ _
        have := List.length_drop (i := m + 1) (l := ws)
        simp only [wb, List.size_toArray, List.length_map]
        (first | lia | omega)
      rw [ap_pick x hd', ← wb_snoc_drop]
      exact Ex.nil' (Sub.cons (by rfl) (Sub.cons (by rfl) (Sub.cons (by rfl) Sub.nil)))
    · simp only [Nat.sub_self, List.take_zero]
      exact Tst.eq (Tst.val Ev.name Tru.int) (by rfl)
    · simp only [Nat.sub_self, List.drop_zero]
      exact Ex.ret (Ex1.ret Ev.name)
end Mine
end

section
open PySem PySem.W PyProof.Rows
set_option Elab.async false
set_option maxRecDepth 100000
set_option linter.unusedVariables false
namespace Mine

noncomputable def txt (us : List Tk) : Str := ⟨(us.flatMap Tk.cps).toArray⟩
theorem txt_list (us : List Tk) : (txt us).cps.toList = us.flatMap Tk.cps := by simp [txt]
noncomputable def Tk.our (u : Tk) : Prop := u = .ch 40 ∨ u = .ch 41 ∨ u = .es 40 ∨ u = .es 41
theorem our_ok {us : List Tk} (h : ∀ u ∈ us, u.our) : ∀ u ∈ us, u.ok := fun u hu => by
  rcases h u hu with rfl | rfl | rfl | rfl <;> simp [Tk.ok]
theorem our_mem {us : List Tk} (h : ∀ u ∈ us, u.our) : ∀ c ∈ us.flatMap Tk.cps, c = 40 ∨ c = 41 ∨ c = 92 := fun c hc => by
  obtain ⟨u, hu, hc⟩ := List.mem_flatMap.mp hc
  rcases h u hu with rfl | rfl | rfl | rfl <;> (simp only [Tk.cps, List.mem_cons, List.not_mem_nil, or_false] at hc; (first | lia | omega))
theorem our_ascii {us : List Tk} (h : ∀ u ∈ us, u.our) : (txt us).cps.all (· < 128) = true := by
  rw [Array.all_eq_true']
  intro c hc
  have := our_mem h c (by rw [← txt_list]; exact hc.val)
  simp only [decide_eq_true_eq]; (first | lia | omega)
theorem our_size {us : List Tk} : (txt us).cps.size ≤ 2 * us.length := by
  show (us.flatMap Tk.cps).toArray.size ≤ _
  rw [List.size_toArray]
  induction us with
  | nil => simp
  | cons u us ih => 
    rw [List.flatMap_cons, List.length_append, List.length_cons]
    have : u.cps.length ≤ 2 := by cases u <;> simp [Tk.cps]
    (first | lia | omega)

section
variable {w : World} {q : Bool} {k : Nat}
theorem Cmp.notInS {a b : Str} {r : Bool} (h : (!(!(Builtin.Str.occurrences b a 0 b.length 1).isEmpty)) = r) : Cmp w q k .NotIn (.str a) (.str b) (.dat (.bool r)) := OpL.two fun A P s _ _ rm B hp x y => by obtain ⟨_, rfl⟩ := Rp.inv x; obtain ⟨_, rfl⟩ := Rp.inv y; exact notIn_str (by rw [h]; exact Pst.here hp (.bool _))
theorem ok_strip : FnOk 7 ["addr"] := by
  refine ⟨by rfl, by rfl, by rfl, by decide, ?_, ?_, ?_⟩
  · intro L x hx
    rcases List.mem_singleton.mp hx with rfl
    exact .inl (by rfl)
  · intro L x y a h1 h2
    cases h1
  · rintro ⟨⟩ vs rfl rfl rfl hl
    obtain ⟨v, rfl⟩ := len1 hl
    rfl
theorem strip_id {x : Str} (hx : 34 ∉ x.cps.toList) : Fn w q (k + 1) 64 [.str x] (.str x) :=
  Fn.intro (by decide : (("_strip_quoted_realnames" : Str), 64, 7) ∈ fnTab) ok_strip rfl fun L qn cd => by
    refine Ex.ret (Ex1.ifT (Tst.cmp Ev.str Ev.name (Cmp.notInS ?_)) (Ex.ret (Ex1.ret Ev.name)))
    have := StrLaws.found_one x 34
    rw [show (⟨#[34]⟩ : Str) = "\"" by rfl] at this
    rw [this]
    simp [hx]

theorem Ex.cons' {c : Cx} {σ : List (Str × Ent)} {st : Stmt} {sts : List Stmt} {o o' : Out} (h : Ex1 c σ st o') (h1 : ∀ σ₁, o' = .nxt σ₁ → Ex c σ₁ sts o) (h2 : ∀ d, o' = .ret d → o = .ret d) : Ex c σ (st :: sts) o := by
  cases o' with
  | nxt σ₁ => exact Ex.cons h (h1 _ rfl)
  | ret d => rw [h2 d rfl]; exact Ex.ret h
theorem ok_check : FnOk 8 ["addr"] := by
  refine ⟨by rfl, by rfl, by rfl, by decide, ?_, ?_, ?_⟩
  · intro L x hx
    rcases List.mem_singleton.mp hx with rfl
    exact .inl (by rfl)
  · intro L x y a h1 h2
    cases h1
  · rintro ⟨⟩ vs rfl rfl rfl hl
    obtain ⟨v, rfl⟩ := len1 hl
    rfl

noncomputable def dl : Tk → Int
  | .ch 40 => 1
  | .ch 41 => -1
  | _ => 0
noncomputable def bal (us : List Tk) : Int := (us.map dl).sum
theorem bal_snoc (us : List Tk) (u : Tk) : bal (us ++ [u]) = bal us + dl u := by simp [bal]
theorem bal_take {us : List Tk} {i : Nat} {u : Tk} (h : us[i]? = some u) : bal (us.take (i + 1)) = bal (us.take i) + dl u := by
  rw [List.take_add_one, h]; exact bal_snoc _ _

theorem check_go {us : List Tk} (ho : ∀ u ∈ us, u.our) (hl : us.length < 1000) (stop : Option Nat) (h1 : ∀ i, i ≤ us.length → (∀ m, stop = some m → i ≤ m) → 0 ≤ bal (us.take i)) (h2 : ∀ m, stop = some m → m < us.length ∧ bal (us.take (m + 1)) < 0) :
    Fn w false (k + 3) 71 [.str (txt us)] (.bool (if stop.isSome then false else bal us == 0)) :=
  Fn.intro (by decide : (("_check_parenthesis" : Str), 71, 8) ∈ fnTab) ok_check rfl fun L qn cd => by
    refine Ex.cons (Ex1.assign (Ev.callF (EvL.cons Ev.name EvL.nil) (strip_id (k := k + 1) (x := txt us) ?_) (by rfl) (by decide : (("_strip_quoted_realnames" : Str), 64, 7) ∈ fnTab)) (.inl (by rfl)) Puts.new) ?_
    · rw [txt_list]
      intro hm
      have := our_mem ho 34 hm
      (first | lia | omega)
    refine Ex.cons (Ex1.assign Ev.int (.inl (by rfl)) Puts.new) ?_
    have hs := our_size (us := us)
    have hst : (stop.map fun m => (m, D.bool false)).isSome = stop.isSome := by cases stop <;> rfl
    refine Ex.cons' (Ex1.forG us (fun i => [("opens", .dat (.int (bal (us.take i)))), ("addr", .dat (.str (txt us)))]) (stop.map fun m => (m, D.bool false)) [("pos", _), ("ch", _)] (by rfl) (fun y hy => ?_) rfl (by show 1 ≤ k + 2; (first | lia | omega))
      Ev.name (txt_list us) (our_ok ho) (by (first | lia | omega)) (our_ascii ho) (by rfl) (Sub.cons (by rfl) (Sub.cons (by rfl) Sub.nil)) (fun i u n hu hlt => ⟨_, .cons Puts.new (.cons Puts.new .nil), ?_⟩) (fun m dd hm => ?_)) ?_ ?_
    · simp only [List.mem_cons, List.not_mem_nil, or_false] at hy
      rcases hy with rfl | rfl <;> exact .inl (by rfl)
    · have hi : i < us.length := (List.getElem?_eq_some_iff.mp hu).1
      rw [bal_take hu]
      have hpos : 0 ≤ bal (us.take i) + dl u := by
        rw [← bal_take hu]
        exact h1 (i + 1) hi fun m hm => by subst hm; exact hlt m _ rfl
      rcases ho u (List.mem_of_getElem? hu) with rfl | rfl | rfl | rfl
      · exact Ex.cons (Ex1.ifT (Tst.eq (Tst.cmp Ev.name Ev.str Cmp.eqs) (by rfl)) (Ex.cons (Ex1.aug (by rfl) Ev.int Inp.add (.inl (by rfl)) Puts.new) (Ex.nil' (Sub.cons (by rfl) (Sub.cons (by rfl) Sub.nil))))) Ex.nil
      · refine Ex.cons (Ex1.ifF (Tst.eq (Tst.cmp Ev.name Ev.str Cmp.eqs) (by rfl)) (Ex.cons (Ex1.ifT (Tst.eq (Tst.cmp Ev.name Ev.str Cmp.eqs) (by rfl)) (Ex.cons (Ex1.aug (by rfl) Ev.int Inp.sub (.inl (by rfl)) Puts.new) (Ex.cons (Ex1.ifF (Tst.eq (Tst.cmp Ev.name Ev.int Cmp.lt) ?_) Ex.nil) (Ex.nil' (Sub.cons ?_ (Sub.cons (by rfl) Sub.nil)))))) Ex.nil)) Ex.nil
        · have : dl (.ch 41) = -1 := rfl
          rw [decide_eq_false_iff_not]; (first | lia | omega)
        · have : dl (.ch 41) = -1 := rfl
          rw [this, ← Int.sub_eq_add_neg]; rfl
      all_goals
        refine Ex.cons (Ex1.ifF (Tst.eq (Tst.cmp Ev.name Ev.str Cmp.eqs) (by rfl)) (Ex.cons (Ex1.ifF (Tst.eq (Tst.cmp Ev.name Ev.str Cmp.eqs) (by rfl)) Ex.nil) Ex.nil)) (Ex.nil' (Sub.cons ?_ (Sub.cons (by rfl) Sub.nil)))
        rw [show dl _ = 0 from rfl, Int.add_zero]; rfl
    · obtain ⟨m', hm', e⟩ := Option.map_eq_some_iff.mp hm
      cases e
      obtain ⟨hlt, hneg⟩ := h2 m hm'
      have hu : us[m]? = some us[m] := List.getElem?_eq_getElem hlt
      have hpos : 0 ≤ bal (us.take m) := h1 m (Nat.le_of_lt hlt) fun m' h => by rw [hm'] at h; cases h; exact Nat.le_refl _
      rw [bal_take hu] at hneg
      have hc : us[m] = .ch 41 := by
        rcases ho us[m] (List.getElem_mem hlt) with h | h | h | h
        · rw [h, show dl (.ch 40) = 1 from rfl] at hneg; (first | lia | omega)
        · exact h
        · rw [h, show dl (.es 40) = 0 from rfl] at hneg; (first | lia | omega)
        · rw [h, show dl (.es 41) = 0 from rfl] at hneg; (first | lia | omega)
      rw [hc] at hneg hu
      refine ⟨_, hu, fun n => ⟨_, .cons Puts.new (.cons Puts.new .nil), ?_⟩⟩
      refine Ex.ret (Ex1.ifF (Tst.eq (Tst.cmp Ev.name Ev.str Cmp.eqs) (by rfl)) (Ex.ret (Ex1.ifT (Tst.eq (Tst.cmp Ev.name Ev.str Cmp.eqs) (by rfl)) (Ex.cons (Ex1.aug (by rfl) Ev.int Inp.sub (.inl (by rfl)) Puts.new) (Ex.ret (Ex1.ifT (Tst.eq (Tst.cmp Ev.name Ev.int Cmp.lt) ?_) (Ex.ret (Ex1.ret Ev.bool))))))))
      rw [show dl (.ch 41) = -1 from rfl] at hneg
      rw [decide_eq_true_eq]; (first | lia | omega)
    · intro σ₁ e
      cases stop with
      | some m => cases e
      | none =>
        cases e
        dsimp only
        rw [List.take_of_length_le (Nat.le_refl _)]
        exact Ex.ret (Ex1.ret (Ev.cmp Ev.name Ev.int Cmp.eq))
    · intro d e
      cases stop with
      | none => cases e
      | some m => cases e; rfl
end
end Mine
end

section
open PySem PySem.W PyProof.Rows PySem.Builtin PySem.Builtin.Re
set_option Elab.async false
set_option maxRecDepth 100000
set_option linter.unusedVariables false
namespace Mine

noncomputable def drive : Nat → Sre.M → Option Sre.M
  | 0, _ => none
  | n + 1, m => let m := m.runFor reTurnSteps; if m.outcome.isSome then some m else drive n m
theorem wp_drive {M : Model} {A : Around} {E : Value → Shared → Prop} {Q : Sre.M → Shared → Prop} {s : Shared} {m' : Sre.M} : ∀ {n k : Nat} {m : Sre.M}, n ≤ k → drive n m = some m' → Q m' s → wpAny M A (reDrive k m) Q E s
  | 0, _, _, _, h, _ => by cases h
  | n + 1, 0, _, hk, _, _ => by (first | lia | omega)
  | n + 1, k + 1, m, hk, h, hq => by
    unfold reDrive
    unfold drive at h
    dsimp only at h ⊢
    split at h
    · rename_i hs
      rw [if_pos hs]
      cases h
      exact wpAny_pure hq
    · rename_i hs
      rw [if_neg hs]
      exact wpAny_bind (wpAny_rule (wp_drive (by (first | lia | omega)) h hq))
theorem wp_runToEnd {M : Model} {A : Around} {E : Value → Shared → Prop} {Q : Option Sre.M → Shared → Prop} {s : Shared} {m m' : Sre.M} {n : Nat} (hn : n ≤ 1000000) (h : drive n m = some m') (ho : m'.outcome = some .matched) (hq : Q (some m') s) : wpAny M A (reRunToEnd m) Q E s := by
  unfold reRunToEnd
  refine wpAny_bind (wp_drive (n := n) (Nat.le_trans hn (by decide)) h ?_)
  refine wpAny_bind ?_
  · refine wpAny_mono (Q := fun _ s' => s' = s) ?_ (fun _ s' e => ?_) fun _ _ x => x
    · refine wpAny_forIn_list _ (fun _ _ s' => s' = s) _ ?_ ?_ _ _ rfl
      · rintro i rest _ s' rfl
        split
        · refine wpAny_bind (wpAny_rule ?_)
          exact wpAny_pure rfl
        · exact wpAny_pure rfl
      · rintro _ s' rfl
        rfl
    · subst e
      rw [ho]
      exact wpAny_pure hq

end Mine
end

section
open PySem PySem.W PyProof.Rows PySem.Builtin
set_option Elab.async false
set_option maxRecDepth 100000
namespace Mine

theorem plainAttrs_re_Pattern : PlainAttrs "re.Pattern" :=
  ⟨⟨"object.__getattribute__", by rw [typeLookup_type, builtinLookup_eq_fast]; kernel_rfl, by decide +kernel⟩, by rw [typeLookup_type, builtinLookup_eq_fast]; kernel_rfl⟩
theorem owner_re_Pattern : Manifest.owners.lookup (String.ofList ['n', 'r', 'e', 't', 't', 'a', 'P', '.', 'e', 'r'].reverse) = some Manifest.sig_re_Pattern := by kernel_rfl
theorem plainAttrs_re_Match : PlainAttrs "re.Match" :=
  ⟨⟨"object.__getattribute__", by rw [typeLookup_type, builtinLookup_eq_fast]; kernel_rfl, by decide +kernel⟩, by rw [typeLookup_type, builtinLookup_eq_fast]; kernel_rfl⟩
theorem owner_re_Match : Manifest.owners.lookup (String.ofList ['h', 'c', 't', 'a', 'M', '.', 'e', 'r'].reverse) = some Manifest.sig_re_Match := by kernel_rfl
theorem plainAttrs_bytes : PlainAttrs "bytes" :=
  ⟨⟨"bytes.__getattribute__", by rw [typeLookup_type, builtinLookup_eq_fast]; kernel_rfl, by decide +kernel⟩, by rw [typeLookup_type, builtinLookup_eq_fast]; kernel_rfl⟩
theorem owner_bytes : Manifest.owners.lookup (String.ofList ['s', 'e', 't', 'y', 'b'].reverse) = some Manifest.sig_bytes := by kernel_rfl
theorem slot_re_Pattern_match : Slot "re.Pattern" "match" "re.Pattern.match" :=
  .of (owner := "re.Pattern") (n := "match") (by rw [typeLookup_type, builtinLookup_eq_fast]; kernel_rfl) (by decide +kernel) (by decide +kernel) (by decide +kernel)
    (by first | exact .inl (by decide +kernel) | exact .inr (by decide +kernel)) (by rw [isSubtype_type]; kernel_rfl)
theorem entry_re_Pattern_match : entryFor table "re.Pattern.match" = some Builtin.«re.Pattern.match» := entryFor_of_tree (by kernel_rfl)
theorem args_re_Pattern_match (a b : Value) : argsOk "re.Pattern.match" ⟨[a, b], []⟩ := by
  unfold argsOk; rw [signature?_of (id := "re.Pattern.match") (n := ['h', 'c', 't', 'a', 'm']) (o := ['n', 'r', 'e', 't', 't', 'a', 'P', '.', 'e', 'r']) (by kernel_rfl) owner_re_Pattern]; kernel_rfl
theorem type_re_Pattern_match : typeOf (.builtin "re.Pattern.match") = pure (.type "method_descriptor") := by show builtinType _ = _; rw [builtinType_eq_fast]; kernel_rfl
theorem slot_re_Match_group : Slot "re.Match" "group" "re.Match.group" :=
  .of (owner := "re.Match") (n := "group") (by rw [typeLookup_type, builtinLookup_eq_fast]; kernel_rfl) (by decide +kernel) (by decide +kernel) (by decide +kernel)
    (by first | exact .inl (by decide +kernel) | exact .inr (by decide +kernel)) (by rw [isSubtype_type]; kernel_rfl)
theorem entry_re_Match_group : entryFor table "re.Match.group" = some Builtin.«re.Match.group» := entryFor_of_tree (by kernel_rfl)
theorem args_re_Match_group (a b : Value) : argsOk "re.Match.group" ⟨[a, b], []⟩ := by
  unfold argsOk; rw [signature?_of (id := "re.Match.group") (n := ['p', 'u', 'o', 'r', 'g']) (o := ['h', 'c', 't', 'a', 'M', '.', 'e', 'r']) (by kernel_rfl) owner_re_Match]; kernel_rfl
theorem type_re_Match_group : typeOf (.builtin "re.Match.group") = pure (.type "method_descriptor") := by show builtinType _ = _; rw [builtinType_eq_fast]; kernel_rfl
theorem slot_bytes_join : Slot "bytes" "join" "bytes.join" :=
  .of (owner := "bytes") (n := "join") (by rw [typeLookup_type, builtinLookup_eq_fast]; kernel_rfl) (by decide +kernel) (by decide +kernel) (by decide +kernel)
    (by first | exact .inl (by decide +kernel) | exact .inr (by decide +kernel)) (by rw [isSubtype_type]; kernel_rfl)
theorem entry_bytes_join : entryFor table "bytes.join" = some Builtin.«bytes.join» := entryFor_of_tree (by kernel_rfl)
theorem args_bytes_join (a b : Value) : argsOk "bytes.join" ⟨[a, b], []⟩ := by
  unfold argsOk; rw [signature?_of (id := "bytes.join") (n := ['n', 'i', 'o', 'j']) (o := ['s', 'e', 't', 'y', 'b']) (by kernel_rfl) owner_bytes]; kernel_rfl
theorem type_bytes_join : typeOf (.builtin "bytes.join") = pure (.type "method_descriptor") := by show builtinType _ = _; rw [builtinType_eq_fast]; kernel_rfl
theorem slot_bytes_split : Slot "bytes" "split" "bytes.split" :=
  .of (owner := "bytes") (n := "split") (by rw [typeLookup_type, builtinLookup_eq_fast]; kernel_rfl) (by decide +kernel) (by decide +kernel) (by decide +kernel)
    (by first | exact .inl (by decide +kernel) | exact .inr (by decide +kernel)) (by rw [isSubtype_type]; kernel_rfl)
theorem entry_bytes_split : entryFor table "bytes.split" = some Builtin.«bytes.split» := entryFor_of_tree (by kernel_rfl)
theorem args_bytes_split (a : Value) : argsOk "bytes.split" ⟨[a], []⟩ := by
  unfold argsOk; rw [signature?_of (id := "bytes.split") (n := ['t', 'i', 'l', 'p', 's']) (o := ['s', 'e', 't', 'y', 'b']) (by kernel_rfl) owner_bytes]; kernel_rfl
theorem type_bytes_split : typeOf (.builtin "bytes.split") = pure (.type "method_descriptor") := by show builtinType _ = _; rw [builtinType_eq_fast]; kernel_rfl
end Mine
end

section
open PySem PySem.W PyProof.Rows PySem.Builtin PySem.Builtin.Re
set_option Elab.async false
set_option maxRecDepth 100000
set_option linter.unusedVariables false
namespace Mine
section
variable {w : World} {A : Around} {E : Value → Shared → Prop} {s : Shared} {t : Tok} {b : Array UInt8}
theorem wp_textOf {Q : Array Nat × Nat → Shared → Prop} (h : Q (b.map (·.toNat), 1) s) : wpAny (model prg w) A (reTextOf (.bytes b t)) Q E s := by
  unfold reTextOf
  refine wpAny_bind (m := asStr? (.bytes b t)) (wpAny_of_eq (a := none) rfl ?_)
  show wpAny _ _ (Bytes.bufferQuiet? "_sre" (.bytes b t) >>= _) _ _ s
  rw [KBy.quiet_eq]
  exact wpAny_bind (wpAny_pure (wpAny_pure h))
theorem wp_noColl {Q : Unit → Shared → Prop} (h : Q () s) : wpAny (model prg w) A (reNoCollectionInside (.bytes b t) 1) Q E s := by
  unfold reNoCollectionInside
  rw [if_pos (by decide)]
  rw [KBy.isInstance_eq]
  refine wpAny_bind (wpAny_pure ?_)
  exact wpAny_pure h
theorem wp_target {Q : ReTarget → Shared → Prop} (K : IsPat w s.heap) (h : Q { pattern := .ref 36, string := .bytes b t, code := reCode, text := b.map (·.toNat), kind := 1, groups := 1, pos := 0, lim := (b.map (·.toNat)).size } s) (hz : b.size < 2 ^ 62) :
    wpAny (model prg w) A (reTarget "re.Pattern.match" "match" ⟨[.ref 36, .bytes b t], []⟩) Q E s := by
  change (let G : Prop := _; G)
  intro G
  obtain ⟨pa, pb, pc, hp⟩ := K.p
  subst G
  unfold reTarget
  dsimp only
  refine wpAny_bind (wpAny_of_eq (a := [some (.bytes b t), none, none]) (by rfl) ?_)
  dsimp only
  refine wpAny_bind (wpAny_pure ?_)
  refine wpAny_bind (wpAny_pure ?_)
  refine wpAny_bind (wpAny_fieldsOf hp rfl ?_)
  refine wpAny_bind (wp_textOf ?_)
  split
  · rename_i hh; exact absurd hh Bool.false_ne_true
  split
  · rename_i hh; exact absurd hh Bool.false_ne_true
  refine wpAny_bind (wp_noColl ?_)
  refine wpAny_bind (m := reRawItems _) ?_
  · unfold reRawItems
    refine wpAny_bind ?_
    show wpAny _ _ (load 35 >>= _) _ _ s
    refine wpAny_bind (wpAny_load K.c ?_)
    refine wpAny_pure (wpAny_pure (wpAny_pure ?_))
    have e1 : Min.min (2 ^ 63 - 1 : Int).toNat (b.map (·.toNat)).size = (b.map (·.toNat)).size := by
      rw [Array.size_map]; (first | lia | omega)
    have e2 : Min.min (Int.toNat 0) (b.map (·.toNat)).size = 0 := by simp
    have e3 : Array.map (fun x => x.toNat) (Array.map reRawOf ((some (reCode.map fun (n : Nat) => Value.int (n : Int) 0)).getD #[])) = reCode := by decide +kernel
    rw [← e1] at h
    rw [← e2] at h
    rw [← e3] at h
    exact h
theorem wp_match {Q : Value → Shared → Prop} {n : Nat} {m' : Sre.M} (K : IsPat w s.heap) (hz : b.size < 2 ^ 62) (hn : n ≤ 1000000) (hd : drive n (Sre.forMatch reCode (b.map (·.toNat)) 1 0 (b.map (·.toNat)).size false false) = some m') (ho : m'.outcome = some .matched)
    {i j : Nat} (hm : m'.marks.getD 0 none = some i ∧ m'.marks.getD 1 none = some j ∧ m'.lastmark = 1 ∧ i ≤ j)
    (h : ∀ c₁ c₂ c₃ c₄, Q (.ref (s.heap.objs.size + 1)) { s with heap := (s.heap.push { cls := .type "tuple", data := .seq #[c₁, c₂, .int (i : Int) 0, .int (j : Int) 0] }).push { cls := .type "re.Match", data := .fields #[.bytes b t, .ref 36, c₃, c₄, rawInt m'.lastindex, .ref s.heap.objs.size] } }) :
    wpAny (model prg w) A (call (.builtin "re.Pattern.match") [.ref 36, .bytes b t]) Q E s := by
  change (let G : Prop := _; G)
  intro G
  obtain ⟨pa, pb, pc, hp⟩ := K.p
  subst G
  refine wpAny_call_entry slot_re_Pattern_match ⟨_, hp, rfl⟩ entry_re_Pattern_match ?_ (args_re_Pattern_match _ _)
  unfold «re.Pattern.match»
  refine wpAny_bind (wp_target K ?_ hz)
  unfold reAnswer
  refine wpAny_bind (wp_runToEnd hn hd ho ?_)
  change (let G : Prop := _; G)
  intro G
  obtain ⟨h1, h2, h3, h4⟩ := hm
  subst G
  refine wpAny_bind ?_
  unfold reNewMatch
  simp only [show List.range 1 = [0] from rfl, List.flatMap_cons, List.flatMap_nil, List.append_nil, Nat.mul_zero, Nat.zero_add, List.any_cons, List.any_nil, Bool.or_false, h1, h2, h3]
  split
  · rename_i hh
    simp at hh; (first | lia | omega)
  refine wpAny_bind (wpAny_newTuple ?_ (by show 4 ≤ sizeLine; decide))
  refine wpAny_newObj_type ?_
  refine wpAny_pure ⟨_, rfl, ?_⟩
  rw [Heap.size_push]
  exact h _ _ _ _

structure IsMatch (h : Heap) (m : Addr) (b : Array UInt8) (i j : Nat) : Prop where
  ex : ∃ sp t c₁ c₂ c₃ c₄ c₅, h.get? m = some { cls := .type "re.Match", data := .fields #[.bytes b t, .ref 36, c₁, c₂, c₃, .ref sp] } ∧ h.get? sp = some { cls := .type "tuple", data := .seq #[c₄, c₅, .int (i : Int) 0, .int (j : Int) 0] }
theorem wp_group {Q : Value → Shared → Prop} {m : Addr} {u : Tok} {i j : Nat} (K : IsPat w s.heap) (hm : IsMatch s.heap m b i j) (hz : b.size ≤ 1000)
    (h : ∀ t' k, Q (.bytes (((b.map (·.toNat)).extract i j).map (·.toUInt8)) t') { s with toks := k }) :
    wpAny (model prg w) A (call (.builtin "re.Match.group") [.ref m, .str "flags" u]) Q E s := by
  change (let G : Prop := _; G)
  intro G
  obtain ⟨sp, t, c₁, c₂, c₃, c₄, c₅, hmo, hsp⟩ := hm.ex
  subst G
  change (let G : Prop := _; G)
  intro G
  obtain ⟨pa, pb, pc, hp⟩ := K.p
  subst G
  obtain ⟨dn, hd⟩ := K.d
  refine wpAny_call_entry slot_re_Match_group ⟨_, hmo, rfl⟩ entry_re_Match_group ?_ (args_re_Match_group _ _)
  unfold «re.Match.group»
  refine wpAny_bind (wpAny_of_eq (by rfl) ?_)
  refine wpAny_bind (m := reFound (.ref m)) ?_
  unfold reFound
  refine wpAny_bind (wpAny_fieldsOf hmo rfl ?_)
  refine wpAny_bind (m := reRawItems _) ?_
  unfold reRawItems
  refine wpAny_bind ?_
  show wpAny _ _ (load sp >>= _) _ _ s
  refine wpAny_bind (wpAny_load hsp ?_)
  refine wpAny_pure (wpAny_pure (wpAny_pure ?_))
  have hM : s.heap.MapOf (strKind prg w) 33 (fun k => findBy (strKind prg w).is #[{ hash := PyData.keyHash w.params (Str.ofString "flags"), key := .str (Str.ofString "flags") 327, val := .int 1 328 }] k) :=
    ⟨_, _, _, hd, ⟨rfl, rfl, rfl⟩, rfl, fun e he => by
      rw [Array.mem_singleton.mp he]
      exact ⟨"flags", strKind_is prg w _ _, rfl⟩, fun k => rfl⟩
  have hf : findBy (strKind prg w).is #[{ hash := PyData.keyHash w.params (Str.ofString "flags"), key := .str (Str.ofString "flags") 327, val := .int 1 328 }] (Str.ofString "flags") = some (.int 1 328) := by rfl
  refine wpAny_bind (m := reGroupNumber _ _) ?_
  unfold reGroupNumber
  refine wpAny_bind (wpAny_of_eq (a := none) (by rfl) ?_)
  dsimp only
  rw [if_neg (by decide)]
  refine wpAny_bind (wpAny_specialOf (T := "str") (typeIs_str _ _ _) (r := none) (by rw [typeLookup_type, builtinLookup_eq_fast]; kernel_rfl) ?_)
  rw [if_neg (by decide)]
  refine wpAny_bind ?_
  show wpAny _ _ (fieldsOf (.ref 36)) _ _ s
  refine wpAny_fieldsOf hp rfl ?_
  show wpAny _ _ (dictGet 33 (.str (Str.ofString "flags") u) >>= _) _ _ s
  refine wpAny_bind (wpAny_dictGet_of (strKind_is prg w "flags" u) hM ?_)
  rw [hf]
  dsimp only
  refine wpAny_bind (wpAny_of_eq (a := some 1) (by rfl) ?_)
  refine wpAny_bind (wpAny_pure ?_)
  rw [if_neg (by simp)]
  refine wpAny_pure ?_
  refine wpAny_bind (m := reGroupText _ _ _) ?_
  unfold reGroupText
  dsimp only
  split
  · rename_i hh
    simp [reRawOf] at hh
    (first | lia | omega)
  · refine wpAny_bind (wp_textOf (b := b) (t := t) ?_)
    have e : (Array.map reRawOf ((some #[c₄, c₅, Value.int (i : Int) 0, Value.int (j : Int) 0]).getD #[])).getD (2 * ((some (1 : Int)).getD (-1)).toNat) (-1) = (i : Int) := by simp [reRawOf]
    have e' : (Array.map reRawOf ((some #[c₄, c₅, Value.int (i : Int) 0, Value.int (j : Int) 0]).getD #[])).getD (2 * ((some (1 : Int)).getD (-1)).toNat + 1) (-1) = (j : Int) := by simp [reRawOf]
    rw [e, e']
    unfold reSlice
    split
    · rename_i hh; exact absurd hh Bool.false_ne_true
    refine wpAny_mkBytes (wpAny_pure ⟨_, rfl, h _ _⟩) ?_
    rw [Array.size_map, Array.size_extract, Array.size_map, sizeLine_eq]
    (first | lia | omega)

theorem wp_split1 {Q : Value → Shared → Prop} (hz : b.size ≤ 1000) (hne : b.isEmpty = false) (hs : b.any Bytes.isSpace = false)
    (h : ∀ t' k, Q (.ref s.heap.objs.size) { s with heap := s.heap.push { cls := .type "list", data := .seq #[.bytes b t'] }, toks := k }) : wpAny (model prg w) A (call (.builtin "bytes.split") [.bytes b t]) Q E s := by
  refine wpAny_call_entry slot_bytes_split (PySem.W.typeIs_bytes _ _ _) entry_bytes_split ?_ (args_bytes_split _)
  show wpAny _ _ (Bytes.splitM .bytes "split" false ⟨[.bytes b t], []⟩) _ _ s
  unfold Bytes.splitM
  dsimp only
  refine wpAny_bind (wpAny_of_eq (a := [none, none]) (by rfl) ?_)
  dsimp only
  refine wpAny_bind (wpAny_pure ?_)
  refine wpAny_bind (wpAny_of_eq (a := b) (by rfl) ?_)
  refine wpAny_bind (wpAny_rule ?_)
  rw [if_pos (by rw [hne, hs]; simp)]
  refine wpAny_bind (m := Bytes.Kind.bytes.same (.bytes b t)) ?_
  unfold Bytes.Kind.same
  rw [if_pos (by rfl)]
  refine wpAny_bind (wpAny_typeOf (PySem.W.typeIs_bytes _ _ _) ?_)
  rw [if_pos (by rfl)]
  refine wpAny_pure ?_
  refine wpAny_bind (wpAny_newList ?_ (by show 1 ≤ sizeLine; decide))
  exact wpAny_pure ⟨_, rfl, h _ _⟩
theorem wp_split2 {Q : Value → Shared → Prop} {w1 w2 : List UInt8} (hz : b.size ≤ 1000) (hs : b.any Bytes.isSpace = true) (hw : Bytes.words (b.size + 1) (b.size + 1) b.toList = [w1, w2]) (h1 : w1.length ≤ 1000) (h2 : w2.length ≤ 1000)
    (h : ∀ t1 t2 k, Q (.ref s.heap.objs.size) { s with heap := s.heap.push { cls := .type "list", data := .seq #[.bytes w1.toArray t1, .bytes w2.toArray t2] }, toks := k }) : wpAny (model prg w) A (call (.builtin "bytes.split") [.bytes b t]) Q E s := by
  refine wpAny_call_entry slot_bytes_split (PySem.W.typeIs_bytes _ _ _) entry_bytes_split ?_ (args_bytes_split _)
  show wpAny _ _ (Bytes.splitM .bytes "split" false ⟨[.bytes b t], []⟩) _ _ s
  unfold Bytes.splitM
  dsimp only
  refine wpAny_bind (wpAny_of_eq (a := [none, none]) (by rfl) ?_)
  dsimp only
  refine wpAny_bind (wpAny_pure ?_)
  refine wpAny_bind (wpAny_of_eq (a := b) (by rfl) ?_)
  refine wpAny_bind (wpAny_rule ?_)
  rw [if_neg (by rw [hs]; simp)]
  rw [if_neg (by decide), if_pos (by decide), hw]
  simp only [List.mapM_cons, List.mapM_nil]
  have hs' : ∀ v : List UInt8, v.length ≤ 1000 → v.toArray.size ≤ sizeLine := fun v hv => by rw [List.size_toArray, sizeLine_eq]; (first | lia | omega)
  refine wpAny_bind (wpAny_bind ?_)
  refine wpAny_mkBytes ?_ (hs' _ h1)
  refine wpAny_bind (wpAny_bind ?_)
  refine wpAny_mkBytes ?_ (hs' _ h2)
  refine wpAny_bind (wpAny_pure (wpAny_pure (wpAny_pure ?_)))
  refine wpAny_bind (wpAny_newList ?_ (by show 2 ≤ sizeLine; decide))
  exact wpAny_pure ⟨_, rfl, h _ _ _⟩
end
end Mine
end

section
open PySem PySem.W PyProof.Rows PySem.Builtin PySem.Builtin.Re
set_option Elab.async false
set_option maxRecDepth 100000
set_option linter.unusedVariables false
namespace Mine

section
variable {c : Cx} {σ σ' : List (Str × Ent)} {e o : Expr} {d : D} {ds : List D} {r : Res} {R : Pr} {p p' ap : Pos} {name : Str} {T id : String}

noncomputable def OfT (R : Pr) (T : String) : Prop := ∀ P v (s : Shared), R P v s.heap → s.TypeIs v T ∧ ∀ a, v = .ref a → ∃ ob, s.heap.get? a = some ob ∧ ob.dict = none

noncomputable def MthO (w : World) (q : Bool) (k : Nat) (R : Pr) (id : String) (ds : List D) (r : Res) : Prop := ∀ A P s v vs, Rm k A → Base w s.heap → PW P s.heap → R P v s.heap → RpL w P s.heap vs ds → wpAny (model prg w) A (call (.builtin id) (v :: vs)) (Pst q P s fun P' v h' => ResOK w s.heap P' v h' r) NoE s

theorem Ev.meth1 (h₁ : Rcv c σ o R) (hR : Stb R) (h₂ : Ev c σ e d) (pa : PlainAttrs T) (slot : Slot T name id) (ty : typeOf (.builtin id) = pure (.type "method_descriptor")) (hT : OfT R T) (op : MthO c.w c.q c.k R id [d] r)
    (hbase : attributeBase o name c.env (eval o c.env) = eval o c.env := by rfl) (hline : (ap.endLine == p.line) = true := by rfl) (htrees : backTo p (starEach [e] c.env) = [(false, eval e c.env)] := by rfl) :
    EvR c σ (.Call (.Attribute o name ap) [e] [] p) r := fun A g P s ρ ω rm S => by
  refine wpAny_Call_method1_late hbase hline htrees (wpAny_mono (h₁ A g P s ρ ω rm S) (fun v s₁ zz => Pst.elim zz fun P₁ x₁ y₁ z₁ => ?_) fun _ _ x => x)
  obtain ⟨q1, q2⟩ := hT P₁ v s₁ z₁
  refine ⟨T, id, pa, slot, ty, q1, q2, ?_⟩
  rw [← htrees]
  refine callWith_method1 ?_ (by
    have := htrees
    cases e <;> first | rfl | (exfalso; revert this; intro h; cases h)) (by rfl)
  rw [htrees]
  refine Calls.spliced_cons (wpAny_mono (h₂ A g P₁ s₁ ρ ω rm (S.ext x₁)) (fun u s₂ zz => Pst.elim zz fun P₂ x₂ y₂ z₂ => Calls.spliced_nil ?_) fun _ _ x => x)
  exact wpAny_mono (op A P₂ s₂ v [u] rm ((S.ext x₁).ext x₂).base_now x₂.pw (hR _ _ _ _ _ x₂ z₁) (.cons z₂ .nil)) (fun v s' z => Pst.step (x₁.trans x₂) (y₁.trans y₂) z fun P' h' _ t => t.back (x₁.trans x₂).ks) fun _ _ x => x
theorem Ev.meth0 (h₁ : Rcv c σ o R) (hR : Stb R) (pa : PlainAttrs T) (slot : Slot T name id) (ty : typeOf (.builtin id) = pure (.type "method_descriptor")) (hT : OfT R T) (op : MthO c.w c.q c.k R id [] r)
    (hbase : attributeBase o name c.env (eval o c.env) = eval o c.env := by rfl) (hline : (ap.endLine == p.line) = true := by rfl) :
    EvR c σ (.Call (.Attribute o name ap) [] [] p) r := fun A g P s ρ ω rm S => by
  refine wpAny_Call_method0_late hbase hline (wpAny_mono (h₁ A g P s ρ ω rm S) (fun v s₁ zz => Pst.elim zz fun P₁ x₁ y₁ z₁ => ?_) fun _ _ x => x)
  obtain ⟨q1, q2⟩ := hT P₁ v s₁ z₁
  refine ⟨T, id, pa, slot, ty, q1, q2, callWith_method0 (env := c.env) ?_⟩
  exact wpAny_mono (op A P₁ s₁ v [] rm (S.ext x₁).base_now x₁.pw z₁ .nil) (fun v s' z => Pst.step x₁ y₁ z fun P' h' _ t => t.back x₁.ks) fun _ _ x => x

theorem OfT.bytes {w : World} {b : Array UInt8} : OfT (DatR w (.bytes b)) "bytes" := fun P v s h => by
  cases h
  exact ⟨PySem.W.typeIs_bytes _ _ _, fun a e => nomatch e⟩

noncomputable def FlagsR : Pr := fun P v h => v = .ref 36 ∧ ∃ a b c, h.get? 36 = some { cls := .type "re.Pattern", data := .fields #[a, b, .int 1 0, .ref 33, c, .ref 35, .int 1 0] }
theorem FlagsR.stb : Stb FlagsR := fun P P' h h' v x ⟨h1, a, b, c, h2⟩ => ⟨h1, a, b, c, x.ks _ _ h2⟩
theorem OfT.flags : OfT FlagsR "re.Pattern" := fun P v s ⟨h1, a, b, c, h2⟩ => by
  subst h1
  exact ⟨⟨_, h2, rfl⟩, fun x e => by cases e; exact ⟨_, h2, rfl⟩⟩
theorem Rcv.flags {f : Str} (hk : c.env.kindOf f = some .globalImplicit) (hf : f = "Flags" := by rfl) (hd : (f == ("__debug__" : Str)) = false := by decide) : Rcv c σ (.Name f p) FlagsR := fun A g P s ρ ω rm S => by
  subst hf
  change (let G : Prop := _; G)
  intro G
  obtain ⟨mg, g1, g2, g3, g4⟩ := S.base_now.glob
  subst G
  exact Calls.Name_function_global S.fn hk (Calls.loadGlobal_global (by rw [S.gl]; exact g1) g4 (Pst.here S.pw ⟨rfl, S.base_now.pat.p⟩)) hd

variable {w : World} {q : Bool} {k : Nat}
theorem MthO.match {b : Array UInt8} {n : Nat} {m' : Sre.M} (hz : b.size < 2 ^ 62) (hn : n ≤ 1000000) (hd : drive n (Sre.forMatch reCode (b.map (·.toNat)) 1 0 (b.map (·.toNat)).size false false) = some m') (ho : m'.outcome = some .matched)
    {i j : Nat} (hm : m'.marks.getD 0 none = some i ∧ m'.marks.getD 1 none = some j ∧ m'.lastmark = 1 ∧ i ≤ j) : MthO w q k FlagsR "re.Pattern.match" [.bytes b] (.own (.mat b i j)) := fun A P s v vs rm B hp hv hvs => by
  obtain ⟨rfl, _⟩ := hv
  cases hvs with | cons a r =>
  cases r
  obtain ⟨t, rfl⟩ := Rp.inv a
  refine wp_match B.pat hz hn hd ho hm fun c₁ c₂ c₃ c₄ => ?_
  have x1 := Ext.push0 (P := P) hp { cls := .type "tuple", data := .seq #[c₁, c₂, .int (i : Int) 0, .int (j : Int) 0] }
  have x2 := Ext.push0 (P := P) x1.pw { cls := .type "re.Match", data := .fields #[.bytes b t, .ref 36, c₃, c₄, rawInt m'.lastindex, .ref s.heap.objs.size] }
  have hsz := Heap.size_push s.heap { cls := .type "tuple", data := .seq #[c₁, c₂, .int (i : Int) 0, .int (j : Int) 0] }
  refine ⟨P, x1.trans x2, Rest.of, [s.heap.objs.size + 1, s.heap.objs.size], ⟨s.heap.objs.size + 1, s.heap.objs.size, t, c₃, c₄, rawInt m'.lastindex, c₁, c₂, rfl, rfl, ?_, ?_⟩, by simp, fun a ha => ?_⟩
  · rw [← hsz]; exact Heap.get?_push_size _ rfl
  · exact x2.ks _ _ (Heap.get?_push_size _ rfl)
  · simp only [List.mem_cons, List.not_mem_nil, or_false] at ha
    rcases ha with rfl | rfl
    · refine ⟨none_of_lt (Nat.le_succ _), ?_, ?_⟩
      · rw [← hsz]; exact x1.pw.not_new
      · rw [← hsz]
        show (Heap.get? _ _).isSome = true
        rw [Heap.get?_push_size _ rfl]; rfl
    · refine ⟨none_of_lt (Nat.le_refl _), hp.not_new, ?_⟩
      have := x2.ks _ _ (Heap.get?_push_size s.heap (o := { cls := .type "tuple", data := .seq #[c₁, c₂, .int (i : Int) 0, .int (j : Int) 0] }) rfl)
      show (Heap.get? _ _).isSome = true
      rw [this]; rfl
theorem OfT.mat {b : Array UInt8} {i j : Nat} : OfT (OwnR w (.mat b i j)) "re.Match" := fun P v s x => by
  change (let G : Prop := _; G)
  intro G
  obtain ⟨os, ⟨m, sp, t, c₁, c₂, c₃, c₄, c₅, e1, e2, e3, e4⟩, _⟩ := x
  subst G
  subst e1
  exact ⟨⟨_, e3, rfl⟩, fun x e => by cases e; exact ⟨_, e3, rfl⟩⟩
theorem MthO.group {b b' : Array UInt8} {i j : Nat} (hz : b.size ≤ 1000) (hb : ((b.map (·.toNat)).extract i j).map (·.toUInt8) = b') : MthO w q k (OwnR w (.mat b i j)) "re.Match.group" [.str "flags"] (.dat (.bytes b')) := fun A P s v vs rm B hp hv hvs => by
  change (let G : Prop := _; G)
  intro G
  obtain ⟨os, ⟨m, sp, t, c₁, c₂, c₃, c₄, c₅, e1, e2, e3, e4⟩, _⟩ := hv
  subst G
  subst e1
  cases hvs with | cons a r =>
  cases r; cases a
  refine wp_group B.pat ⟨_, _, _, _, _, _, _, e3, e4⟩ hz fun t' k' => ?_
  rw [hb]
  exact Pst.now hp (.bytes _ _)
theorem MthO.split1 {b : Array UInt8} (hz : b.size ≤ 1000) (hne : b.isEmpty = false) (hs : b.any Bytes.isSpace = false) : MthO w q k (DatR w (.bytes b)) "bytes.split" [] (.own (.lst [.bytes b])) := fun A P s v vs rm B hp hv hvs => by
  cases hv; cases hvs
  refine wp_split1 hz hne hs fun t' k' => ?_
  change (let G : Prop := _; G)
  intro G
  obtain ⟨P', x, y, z⟩ := own_new (q := q) (vs := [.bytes b t']) (ds := [.bytes b]) hp (.cons (.bytes _ _) .nil)
  subst G
  exact ⟨P', x, ⟨y.1, y.2.1, y.2.2⟩, z⟩
theorem MthO.split2 {b : Array UInt8} {w1 w2 : List UInt8} (hz : b.size ≤ 1000) (hs : b.any Bytes.isSpace = true) (hw : Bytes.words (b.size + 1) (b.size + 1) b.toList = [w1, w2]) (h1 : w1.length ≤ 1000) (h2 : w2.length ≤ 1000) :
    MthO w q k (DatR w (.bytes b)) "bytes.split" [] (.own (.lst [.bytes w1.toArray, .bytes w2.toArray])) := fun A P s v vs rm B hp hv hvs => by
  cases hv; cases hvs
  refine wp_split2 hz hs hw h1 h2 fun t1 t2 k' => ?_
  change (let G : Prop := _; G)
  intro G
  obtain ⟨P', x, y, z⟩ := own_new (q := q) (vs := [.bytes w1.toArray t1, .bytes w2.toArray t2]) (ds := [.bytes w1.toArray, .bytes w2.toArray]) hp (.cons (.bytes _ _) (.cons (.bytes _ _) .nil))
  subst G
  exact ⟨P', x, ⟨y.1, y.2.1, y.2.2⟩, z⟩
theorem Ty.tuple (hz : ds.length ≤ sizeLine) : Ty w q k "tuple" [.lst ds] (.dat (.tup ds)) := OpL.call1 fun A P s v rm B hp x => by
  change (let G : Prop := _; G)
  intro G
  obtain ⟨a, vs, rfl, pa, la, xa⟩ := Rp.inv x
  subst G
  refine call_tuple_list la.isList (fun h' hk => ?_) (by rw [List.size_toArray, xa.length]; exact hz)
  have x1 := Ext.of_ks hp hk
  have x2 := Ext.push (P := P) x1.pw { cls := .type "tuple", data := .seq vs.toArray } rfl
  exact ⟨_, x1.trans x2, Rest.of, .tup (.inr rfl) ⟨0, Heap.get?_push_size _ rfl⟩ ((x1.trans x2).rpl xa)⟩
theorem Tst.mat {b : Array UInt8} {i j : Nat} {x : Str} (hm : σ.lookup x = some (.mat b i j) := by rfl) (hn : (x == ("__classdict__" : Str)) = false := by decide) (hd : (x == ("__debug__" : Str)) = false := by decide) : Tst c σ (.Name x p) true := fun A g P s ρ ω rm S => by
  refine isTrue_plain (wpAny_mono (Rcv.own hm hn hd A g P s ρ ω rm S) (fun v s₁ zz => Pst.elim zz fun P₁ x₁ y₁ z₁ => ?_) fun _ _ x => x)
  obtain ⟨hT, _⟩ := OfT.mat P₁ v s₁ z₁
  change (let G : Prop := _; G)
  intro G
  obtain ⟨os, ⟨m, sp, t, c₁, c₂, c₃, c₄, c₅, e1, e2, e3, e4⟩, _⟩ := z₁
  subst G
  subst e1
  unfold truthy
  dsimp only
  refine wpAny_bind (wpAny_callSpecial?_none (name := Str.ofString "__bool__") hT (by rw [typeLookup_type, builtinLookup_eq_fast]; kernel_rfl) ?_)
  dsimp only
  refine wpAny_bind (wpAny_specialOf hT (r := none) (by rw [typeLookup_type, builtinLookup_eq_fast]; kernel_rfl) ?_)
  rw [if_pos (by rfl)]
  exact wpAny_pure ⟨P₁, x₁, y₁, rfl⟩
end

end Mine
end

section
open PySem PySem.W PyProof.Rows PySem.Builtin PySem.Builtin.Re
set_option Elab.async false
set_option maxRecDepth 100000
set_option linter.unusedVariables false
namespace Mine

theorem ok_flags : FnOk 4 ["resp"] := by
  refine ⟨by rfl, by rfl, by rfl, by decide, ?_, ?_, ?_⟩
  · intro L x hx
    rcases List.mem_singleton.mp hx with rfl
    exact .inl (by rfl)
  · intro L x y a h1 h2
    cases h1
  · rintro ⟨⟩ vs rfl rfl rfl hl
    obtain ⟨v, rfl⟩ := len1 hl
    rfl
noncomputable def names (k : Nat) : List (Array UInt8) := if k < 3 then [colB k] else [colB ((k - 2) % 3), colB ((k - 1) % 3)]
noncomputable def told (k : Nat) : Array UInt8 := match names k with
  | [a] => a
  | [a, b] => a ++ #[32] ++ b
  | _ => #[]
noncomputable def pre1 : Array UInt8 := [42, 32, 55, 32, 70, 69, 84, 67, 72, 32, 40, 70, 76, 65, 71, 83, 32, 40, 119, 104, 105, 116, 101, 41, 32, 70, 76, 65, 71, 83, 32, 40].toArray
noncomputable def suf1 : Array UInt8 := [41, 32, 85, 73, 68, 32, 49, 41].toArray
noncomputable def rb (k : Nat) : Array UInt8 := pre1 ++ told k ++ suf1
noncomputable def runM (k : Nat) : Option Sre.M := drive 60 (Sre.forMatch reCode ((rb k).map (·.toNat)) 1 0 ((rb k).map (·.toNat)).size false false)
noncomputable def okM (k : Nat) : Bool := match runM k with
  | some m => (match m.outcome with | some .matched => true | _ => false) && m.marks.getD 0 none == some 32 && m.marks.getD 1 none == some (32 + (told k).size) && m.lastmark == 1
  | none => false
theorem okM_all : ∀ k : _root_.Fin 6, okM k.val = true := by
  decide +kernel
theorem okM_some {k : Nat} (h : okM k = true) : ∃ m, runM k = some m ∧ m.outcome = some .matched ∧ m.marks.getD 0 none = some 32 ∧ m.marks.getD 1 none = some (32 + (told k).size) ∧ m.lastmark = 1 := by
  unfold okM at h
  cases hr : runM k with
  | none => rw [hr] at h; cases h
  | some m =>
    rw [hr] at h
    simp only [Bool.and_eq_true, beq_iff_eq] at h
    refine ⟨m, rfl, ?_, h.1.1.2, h.1.2, h.2⟩
    have := h.1.1.1
    split at this
    · assumption
    · cases this

noncomputable def cutK (k : Nat) : Bool := (((rb k).map (·.toNat)).extract 32 (32 + (told k).size)).map (·.toUInt8) == told k && decide ((rb k).size ≤ 1000) && decide ((told k).size ≤ 1000) && !(told k).isEmpty &&
  (if k < 3 then !(told k).any Bytes.isSpace && told k == colB k else (told k).any Bytes.isSpace && Bytes.words ((told k).size + 1) ((told k).size + 1) (told k).toList == [(colB ((k - 2) % 3)).toList, (colB ((k - 1) % 3)).toList])
theorem cut_all : ∀ k : _root_.Fin 6, cutK k.val = true := by decide +kernel

end Mine
end

section
open PySem PySem.W PyProof.Rows PySem.Builtin PySem.Builtin.Re
set_option Elab.async false
set_option maxRecDepth 100000
set_option linter.unusedVariables false
namespace Mine

theorem parse_gen {w : World} {q : Bool} {lv : Nat} {b b' : Array UInt8} {ws : List D} {m : Sre.M} {n i j : Nat} (hn : n ≤ 1000000) (hr : drive n (Sre.forMatch reCode (b.map (·.toNat)) 1 0 (b.map (·.toNat)).size false false) = some m) (h1 : m.outcome = some .matched)
    (hm : m.marks.getD 0 none = some i ∧ m.marks.getD 1 none = some j ∧ m.lastmark = 1 ∧ i ≤ j) (c2 : b.size ≤ 1000) (c1 : ((b.map (·.toNat)).extract i j).map (·.toUInt8) = b') (hs : ∀ k, MthO w q k (DatR w (.bytes b')) "bytes.split" [] (.own (.lst ws))) (hl : ws.length ≤ 10) :
    Fn w q (lv + 1) 50 [.bytes b] (.tup ws) :=
  Fn.intro (by decide : (("ParseFlags" : Str), 50, 4) ∈ fnTab) ok_flags rfl fun L qn cd => by
    have hz : b.size < 2 ^ 62 := by (first | lia | omega)
    have hl' : ws.length ≤ sizeLine := by rw [sizeLine_eq]; (first | lia | omega)
    refine Ex.cons (Ex1.assign (Ev.meth1 (Rcv.flags (by rfl)) FlagsR.stb Ev.name plainAttrs_re_Pattern slot_re_Pattern_match type_re_Pattern_match OfT.flags (MthO.match hz hn hr h1 hm)) (.inl (by rfl)) Puts.new) ?_
    refine Ex.cons (Ex1.ifF (Tst.eq (Tst.not Tst.mat) (by rfl)) Ex.nil) ?_
    refine Ex.ret (Ex1.ret (Ev.callT (EvL.cons (EvR.freeze (Ev.meth0 (EvR.rcv (Ev.meth1 Rcv.own OwnR.stb Ev.str plainAttrs_re_Match slot_re_Match_group type_re_Match_group OfT.mat (MthO.group c2 c1))) DatR.stb plainAttrs_bytes slot_bytes_split type_bytes_split OfT.bytes (hs _))) EvL.nil) (Ty.tuple hl') (by rfl) (by decide) (by decide +kernel)))

theorem parse_flags {w : World} {q : Bool} {lv k : Nat} (hk : k < 6) : Fn w q (lv + 1) 50 [.bytes (rb k)] (.tup ((names k).map .bytes)) := by
  change (let G : Prop := _; G)
  intro G
  obtain ⟨m, hr, h1, h2, h3, h4⟩ := okM_some (okM_all ⟨k, hk⟩)
  subst G
  have hc := cut_all ⟨k, hk⟩
  unfold cutK at hc
  simp only [Bool.and_eq_true, beq_iff_eq, decide_eq_true_eq, Bool.not_eq_true'] at hc
  change (let G : Prop := _; G)
  intro G
  obtain ⟨⟨⟨⟨c1, c2⟩, c3⟩, c4⟩, c5⟩ := hc
  subst G
  unfold runM at hr
  generalize rb k = b at *
  generalize told k = t at *
  have hle : 32 ≤ 32 + t.size := by (first | lia | omega)
  by_cases h : k < 3
  · rw [if_pos h] at c5
    simp only [Bool.and_eq_true, beq_iff_eq, Bool.not_eq_true'] at c5
    have hn : names k = [t] := by unfold names; rw [if_pos h, c5.2]
    rw [hn]
    exact parse_gen (by decide : 60 ≤ 1000000) hr h1 ⟨h2, h3, h4, hle⟩ c2 c1 (fun _ => MthO.split1 c3 c4 c5.1) (by simp)
  · rw [if_neg h] at c5
    simp only [Bool.and_eq_true, beq_iff_eq] at c5
    have hn : names k = [(colB ((k - 2) % 3)).toList.toArray, (colB ((k - 1) % 3)).toList.toArray] := by unfold names; rw [if_neg h]
    have hl : ∀ j, (colB j).toList.length ≤ 1000 := fun j => by
      match j with
      | 0 => decide
      | 1 => decide
      | j + 2 => show (colB 2).toList.length ≤ 1000; decide
    rw [hn]
    exact parse_gen (by decide : 60 ≤ 1000000) hr h1 ⟨h2, h3, h4, hle⟩ c2 c1 (fun _ => MthO.split2 c3 c5.1 c5.2 (hl _) (hl _)) (by simp)
end Mine
end

section
open PySem PySem.W PyProof.Rows PySem.Builtin PySem.Flt
set_option Elab.async false
set_option maxRecDepth 100000
set_option linter.unusedVariables false
namespace Mine
section
variable {w : World} {q : Bool} {k : Nat} {a b : UInt64}
theorem Bin.addf : Bin w q k .Add (.flt a) (.flt b) (.dat (.flt (Float64.add a b))) := OpL.two fun A P s _ _ rm B hp x y => by obtain ⟨_, rfl⟩ := Rp.inv x; obtain ⟨_, rfl⟩ := Rp.inv y; exact AutoFloatOps.add_0 (Pst.now hp (.flt _ _))
theorem Bin.subf : Bin w q k .Sub (.flt a) (.flt b) (.dat (.flt (Float64.sub a b))) := OpL.two fun A P s _ _ rm B hp x y => by obtain ⟨_, rfl⟩ := Rp.inv x; obtain ⟨_, rfl⟩ := Rp.inv y; exact AutoFloatOps.sub_0 (Pst.now hp (.flt _ _))
theorem Bin.divf (h : Float64.isZero b = false) : Bin w q k .Div (.flt a) (.flt b) (.dat (.flt (Float64.div a b))) := OpL.two fun A P s _ _ rm B hp x y => by obtain ⟨_, rfl⟩ := Rp.inv x; obtain ⟨_, rfl⟩ := Rp.inv y; exact AutoFloatOps.truediv_1 (by rw [h]; decide) (Pst.now hp (.flt _ _))
theorem Bin.modf (h : Float64.isZero b = false) : Bin w q k .Mod (.flt a) (.flt b) (.dat (.flt (Float64.divmod a b).2)) := OpL.two fun A P s _ _ rm B hp x y => by obtain ⟨_, rfl⟩ := Rp.inv x; obtain ⟨_, rfl⟩ := Rp.inv y; exact AutoFloatOps.mod_1 (by rw [h]; decide) (Pst.now hp (.flt _ _))
theorem Cmp.eqf : Cmp w q k .Eq (.flt a) (.flt b) (.dat (.bool (Float64.cmp a b == some .eq))) := OpL.two fun A P s _ _ rm B hp x y => by obtain ⟨_, rfl⟩ := Rp.inv x; obtain ⟨_, rfl⟩ := Rp.inv y; exact AutoFloatOps.eq_0 (Pst.here hp (.bool _))
theorem Cmp.nef : Cmp w q k .NotEq (.flt a) (.flt b) (.dat (.bool (Float64.cmp a b != some .eq))) := OpL.two fun A P s _ _ rm B hp x y => by obtain ⟨_, rfl⟩ := Rp.inv x; obtain ⟨_, rfl⟩ := Rp.inv y; exact AutoFloatOps.ne_0 (Pst.here hp (.bool _))
theorem Cmp.lef : Cmp w q k .LtE (.flt a) (.flt b) (.dat (.bool (Float64.cmp a b == some .lt || Float64.cmp a b == some .eq))) := OpL.two fun A P s _ _ rm B hp x y => by obtain ⟨_, rfl⟩ := Rp.inv x; obtain ⟨_, rfl⟩ := Rp.inv y; exact AutoFloatOps.le_0 (Pst.here hp (.bool _))
theorem Bin.divi {m n : Int} (h0 : n ≠ 0) (h : Float64.isInf (Float64.ofFrac (decide (m < 0) != decide (n < 0)) m.natAbs n.natAbs) = false) : Bin w q k .Div (.int m) (.int n) (.dat (.flt (Float64.ofFrac (decide (m < 0) != decide (n < 0)) m.natAbs n.natAbs))) := OpL.two fun A P s _ _ rm B hp x y => by
  obtain ⟨_, rfl⟩ := Rp.inv x; obtain ⟨_, rfl⟩ := Rp.inv y
  exact Flt.div_ii rm.1 (fun e => absurd e h0) (fun _ e => by rw [h] at e; cases e) fun _ _ => Pst.now hp (.flt _ _)
theorem Bin.mulfi {n : Int} (h : Float64.isInf (Float64.ofInt n) = false) : Bin w q k .Mult (.flt a) (.int n) (.dat (.flt (Float64.mul a (Float64.ofInt n)))) := OpL.two fun A P s _ _ rm B hp x y => by
  obtain ⟨_, rfl⟩ := Rp.inv x; obtain ⟨_, rfl⟩ := Rp.inv y
  exact AutoFloatOpsIf.mul_fi (by rw [if_neg (by rw [h]; decide)]; exact Pst.now hp (.flt _ _))
theorem Ty.intf {sg : Bool} {m : Nat} {e : Int} (h : Float64.decode a = .fin sg m e) : Ty w q k "int" [.flt a] (.dat (.int (Float64.truncOf sg m e))) := OpL.call1 fun A P s v rm B hp x => by
  cases x
  exact call_int_float h (Pst.now hp (.int _ _))

noncomputable def fmax3 (a b c : UInt64) : UInt64 := let m := if (Float64.cmp a b == some .lt) = true then b else a; if (Float64.cmp m c == some .lt) = true then c else m
noncomputable def fmin3 (a b c : UInt64) : UInt64 := let m := if (Float64.cmp b a == some .lt) = true then b else a; if (Float64.cmp c m == some .lt) = true then c else m
theorem OpL.call3 {f : Value} {d₁ d₂ d₃ : D} {r : Res} (h : ∀ A P s v₁ v₂ v₃, Rm k A → Base w s.heap → PW P s.heap → Rp w P s.heap v₁ d₁ → Rp w P s.heap v₂ d₂ → Rp w P s.heap v₃ d₃ → wpAny (model prg w) A (call f [v₁, v₂, v₃]) (Pst q P s fun P' v h' => ResOK w s.heap P' v h' r) NoE s) :
    OpL w q k (fun vs => call f vs) [d₁, d₂, d₃] r := fun A P s vs rm B hp x => by
  cases x with | cons a x => cases x with | cons b x => cases x with | cons c x => cases x; exact h A P s _ _ _ rm B hp a b c
theorem wp_max3 {A : Around} {E : Value → Shared → Prop} {s : Shared} {Q : Value → Shared → Prop} {x y z : UInt64} {t u v : Tok} (hh : A.handled = none)
    (h : ∀ h' tk o, (∀ c o, s.heap.get? c = some o → h'.get? c = some o) → Q (.float (fmax3 x y z) o) { s with heap := h', toks := tk }) : wpAny (model prg w) A (call (.builtin "max") [.float x t, .float y u, .float z v]) Q E s := by
  have hT : (s.heap.push { cls := .type "tuple", data := .seq #[.float x t, .float y u, .float z v] }).IsTuple s.heap.objs.size #[.float x t, .float y u, .float z v] := ⟨_, Heap.get?_push_size _ rfl, rfl, 0, rfl⟩
  refine call_max_three (wpAny_pyIter_tuple hT ?_)
  have hsz : (s.heap.push { cls := .type "tuple", data := .seq #[.float x t, .float y u, .float z v] }).objs.size = s.heap.objs.size + 1 := Heap.size_push ..
  refine ⟨_, [_, s.heap.objs.size], [_], _, _, _, _, rfl, Walks.tuple (A := A.in1) hh _ s.heap.objs.size (by rw [hsz]; exact Nat.ne_of_lt (Nat.lt_succ_self _)) #[.float x t, .float y u, .float z v],
    ⟨⟨_, Heap.get?_push_size _ rfl, rfl, rfl⟩, hT.push _⟩, fun c hc => ?_, by simp, Flt.cmpOf_gt #[.float x t, .float y u, .float z v] (by simp [NumV.float]), fun r h' tk hP hk => ?_⟩
  · show c < ((s.heap.push _).push _).objs.size
    rw [Heap.size_push, hsz]
    rcases List.mem_cons.mp hc with rfl | hc
    · rw [hsz]; exact Nat.lt_succ_self _
    · rcases List.mem_cons.mp hc with rfl | hc
      · exact Nat.lt_succ_of_lt (Nat.lt_succ_self _)
      · cases hc
  · have hold : ∀ c o, s.heap.get? c = some o → h'.get? c = some o := fun c o e => by
      refine hk c o (fun hm => ?_) (Heap.get?_push_of_some _ (Heap.get?_push_of_some _ e))
      rcases List.mem_cons.mp hm with e1 | hm
      · have := Heap.lt_size e; rw [e1, hsz] at this; exact Nat.lt_irrefl _ (Nat.lt_of_succ_lt this)
      · cases hm
    have hv : ∃ o, r = .float (fmax3 x y z) o := by
      unfold fmax3
      have e : ∀ p q : UInt64, ∀ a b, ltV (.float p a) (.float q b) = (Float64.cmp p q == some .lt) := fun _ _ _ _ => rfl
      change #[Value.float x t, Value.float y u, Value.float z v][argBest _ 2]? = some r at hP
      simp only [argBest] at hP
      by_cases c1 : (Float64.cmp x y == some .lt) = true
      · by_cases c2 : (Float64.cmp y z == some .lt) = true
        · simp [e, c1, c2] at hP ⊢; exact ⟨v, hP.symm⟩
        · simp [e, c1, c2] at hP ⊢; exact ⟨u, hP.symm⟩
      · by_cases c2 : (Float64.cmp x z == some .lt) = true
        · simp [e, c1, c2] at hP ⊢; exact ⟨v, hP.symm⟩
        · simp [e, c1, c2] at hP ⊢; exact ⟨t, hP.symm⟩
    obtain ⟨o, rfl⟩ := hv
    exact h h' tk o hold
theorem wp_min3 {A : Around} {E : Value → Shared → Prop} {s : Shared} {Q : Value → Shared → Prop} {x y z : UInt64} {t u v : Tok} (hh : A.handled = none)
    (h : ∀ h' tk o, (∀ c o, s.heap.get? c = some o → h'.get? c = some o) → Q (.float (fmin3 x y z) o) { s with heap := h', toks := tk }) : wpAny (model prg w) A (call (.builtin "min") [.float x t, .float y u, .float z v]) Q E s := by
  have hT : (s.heap.push { cls := .type "tuple", data := .seq #[.float x t, .float y u, .float z v] }).IsTuple s.heap.objs.size #[.float x t, .float y u, .float z v] := ⟨_, Heap.get?_push_size _ rfl, rfl, 0, rfl⟩
  refine call_min_three (wpAny_pyIter_tuple hT ?_)
  have hsz : (s.heap.push { cls := .type "tuple", data := .seq #[.float x t, .float y u, .float z v] }).objs.size = s.heap.objs.size + 1 := Heap.size_push ..
  refine ⟨_, [_, s.heap.objs.size], [_], _, _, _, _, rfl, Walks.tuple (A := A.in1) hh _ s.heap.objs.size (by rw [hsz]; exact Nat.ne_of_lt (Nat.lt_succ_self _)) #[.float x t, .float y u, .float z v],
    ⟨⟨_, Heap.get?_push_size _ rfl, rfl, rfl⟩, hT.push _⟩, fun c hc => ?_, by simp, Flt.cmpOf_lt #[.float x t, .float y u, .float z v] (by simp [NumV.float]), fun r h' tk hP hk => ?_⟩
  · show c < ((s.heap.push _).push _).objs.size
    rw [Heap.size_push, hsz]
    rcases List.mem_cons.mp hc with rfl | hc
    · rw [hsz]; exact Nat.lt_succ_self _
    · rcases List.mem_cons.mp hc with rfl | hc
      · exact Nat.lt_succ_of_lt (Nat.lt_succ_self _)
      · cases hc
  · have hold : ∀ c o, s.heap.get? c = some o → h'.get? c = some o := fun c o e => by
      refine hk c o (fun hm => ?_) (Heap.get?_push_of_some _ (Heap.get?_push_of_some _ e))
      rcases List.mem_cons.mp hm with e1 | hm
      · have := Heap.lt_size e; rw [e1, hsz] at this; exact Nat.lt_irrefl _ (Nat.lt_of_succ_lt this)
      · cases hm
    have hv : ∃ o, r = .float (fmin3 x y z) o := by
      unfold fmin3
      have e : ∀ p q : UInt64, ∀ a b, ltV (.float p a) (.float q b) = (Float64.cmp p q == some .lt) := fun _ _ _ _ => rfl
      change #[Value.float x t, Value.float y u, Value.float z v][argBest _ 2]? = some r at hP
      simp only [argBest] at hP
      by_cases c1 : (Float64.cmp y x == some .lt) = true
      · by_cases c2 : (Float64.cmp z y == some .lt) = true
        · simp [e, c1, c2] at hP ⊢; exact ⟨v, hP.symm⟩
        · simp [e, c1, c2] at hP ⊢; exact ⟨u, hP.symm⟩
      · by_cases c2 : (Float64.cmp z x == some .lt) = true
        · simp [e, c1, c2] at hP ⊢; exact ⟨v, hP.symm⟩
        · simp [e, c1, c2] at hP ⊢; exact ⟨t, hP.symm⟩
    obtain ⟨o, rfl⟩ := hv
    exact h h' tk o hold
theorem Bi.max3 {x y z : UInt64} : Bi w q k "max" [.flt x, .flt y, .flt z] (.dat (.flt (fmax3 x y z))) := OpL.call3 fun A P s _ _ _ rm B hp x y z => by
  obtain ⟨_, rfl⟩ := Rp.inv x; obtain ⟨_, rfl⟩ := Rp.inv y; cases z
  exact wp_max3 rm.1 fun h' tk o hk => ⟨P, Ext.of_ks hp hk, Rest.of, .flt _ _⟩
theorem Bi.min3 {x y z : UInt64} : Bi w q k "min" [.flt x, .flt y, .flt z] (.dat (.flt (fmin3 x y z))) := OpL.call3 fun A P s _ _ _ rm B hp x y z => by
  obtain ⟨_, rfl⟩ := Rp.inv x; obtain ⟨_, rfl⟩ := Rp.inv y; cases z
  exact wp_min3 rm.1 fun h' tk o hk => ⟨P, Ext.of_ks hp hk, Rest.of, .flt _ _⟩
end
end Mine
end

section
open PySem PySem.W PyProof.Rows PySem.Builtin
set_option Elab.async false
set_option maxRecDepth 100000
set_option linter.unusedVariables false
namespace Mine

theorem ok_hls : FnOk 10 ["r", "g", "b"] := by
  refine ⟨by rfl, by rfl, by rfl, by decide, ?_, ?_, ?_⟩
  · intro L x hx
    simp only [List.mem_cons, List.not_mem_nil, or_false] at hx
    rcases hx with rfl | rfl | rfl <;> exact .inl (by rfl)
  · intro L x y a h1 h2
    cases h1
  · rintro ⟨⟩ vs rfl rfl rfl hl
    change (let G : Prop := _; G)
    intro G
    obtain ⟨a, b, c, rfl⟩ := len3 hl
    subst G
    rfl
noncomputable def f0 : UInt64 := 0
noncomputable def fhalf : UInt64 := 4602678819172646912
noncomputable def f1 : UInt64 := 4607182418800017408
noncomputable def f2 : UInt64 := 4611686018427387904
noncomputable def f4 : UInt64 := 4616189618054758400
noncomputable def f6 : UInt64 := 4618441417868443648

theorem hls_gen {w : World} {q : Bool} {k : Nat} {r g b mx mn su ra l s rc gc bc h0 h : UInt64} (e1 : fmax3 r g b = mx) (e2 : fmin3 r g b = mn) (e3 : Float64.add mx mn = su) (e4 : Float64.sub mx mn = ra) (e5 : Float64.div su f2 = l) (e6 : Float64.div ra su = s)
    (e7 : Float64.div (Float64.sub mx r) ra = rc) (e8 : Float64.div (Float64.sub mx g) ra = gc) (e9 : Float64.div (Float64.sub mx b) ra = bc) (c1 : (Float64.cmp mn mx == some .eq) = false) (c2 : (Float64.cmp l fhalf == some .lt || Float64.cmp l fhalf == some .eq) = true)
    (z1 : Float64.isZero su = false) (z2 : Float64.isZero ra = false)
    (hh : ((Float64.cmp r mx == some .eq) = true ∧ Float64.sub bc gc = h0) ∨ ((Float64.cmp r mx == some .eq) = false ∧ (Float64.cmp g mx == some .eq) = true ∧ Float64.sub (Float64.add f2 rc) bc = h0) ∨
      ((Float64.cmp r mx == some .eq) = false ∧ (Float64.cmp g mx == some .eq) = false ∧ Float64.sub (Float64.add f4 gc) rc = h0)) (e10 : (Float64.divmod (Float64.div h0 f6) f1).2 = h) :
    Fn w q (k + 1) 78 [.flt r, .flt g, .flt b] (.tup [.flt h, .flt l, .flt s]) :=
  Fn.intro (by decide : (("rgb_to_hls" : Str), 78, 10) ∈ fnTab) ok_hls rfl fun L qn cd => by
    have a3 : EvL ⟨w, q, k, fenv 10 L 78 qn cd⟩ [("r", .dat (.flt r)), ("g", .dat (.flt g)), ("b", .dat (.flt b))] [.Name "r" ⟨0,0,0,0⟩] [.flt r] := EvL.cons Ev.name EvL.nil
    refine Ex.cons (Ex1.assign (Ev.callB (EvL.cons Ev.name (EvL.cons Ev.name (EvL.cons Ev.name EvL.nil))) Bi.max3 (by rfl) (by decide) (by decide +kernel)) (.inl (by rfl)) Puts.new) ?_
    refine Ex.cons (Ex1.assign (Ev.callB (EvL.cons Ev.name (EvL.cons Ev.name (EvL.cons Ev.name EvL.nil))) Bi.min3 (by rfl) (by decide) (by decide +kernel)) (.inl (by rfl)) Puts.new) ?_
    rw [e1, e2]
    refine Ex.cons (Ex1.assign (Ev.bin Ev.name Ev.name Bin.addf) (.inl (by rfl)) Puts.new) ?_
    rw [e3]
    refine Ex.cons (Ex1.assign (Ev.bin Ev.name Ev.name Bin.subf) (.inl (by rfl)) Puts.new) ?_
    rw [e4]
    refine Ex.cons (Ex1.assign (Ev.bin Ev.name (Ev.flt (b := f2)) (Bin.divf (by decide +kernel))) (.inl (by rfl)) Puts.new) ?_
    rw [e5]
    refine Ex.cons (Ex1.ifF (Tst.eq (Tst.cmp Ev.name Ev.name Cmp.eqf) c1) Ex.nil) ?_
    refine Ex.cons (Ex1.ifT (Tst.eq (Tst.cmp Ev.name (Ev.flt (b := fhalf)) Cmp.lef) c2) (Ex.cons (Ex1.assign (Ev.bin Ev.name Ev.name (Bin.divf z1)) (.inl (by rfl)) Puts.new) Ex.nil)) ?_
    rw [e6]
    refine Ex.cons (Ex1.assign (Ev.bin (Ev.bin Ev.name Ev.name Bin.subf) Ev.name (Bin.divf z2)) (.inl (by rfl)) Puts.new) ?_
    rw [e7]
    refine Ex.cons (Ex1.assign (Ev.bin (Ev.bin Ev.name Ev.name Bin.subf) Ev.name (Bin.divf z2)) (.inl (by rfl)) Puts.new) ?_
    rw [e8]
    refine Ex.cons (Ex1.assign (Ev.bin (Ev.bin Ev.name Ev.name Bin.subf) Ev.name (Bin.divf z2)) (.inl (by rfl)) Puts.new) ?_
    rw [e9]
    have fin : Ex ⟨w, q, k, fenv 10 L 78 qn cd⟩ [("h", .dat (.flt h0)), ("l", .dat (.flt l)), ("s", .dat (.flt s))] ((bodyAt 10).drop 11) (.ret (.tup [.flt h, .flt l, .flt s])) := by
      refine Ex.cons (Ex1.assign (Ev.bin (Ev.bin Ev.name (Ev.flt (b := f6)) (Bin.divf (by decide +kernel))) (Ev.flt (b := f1)) (Bin.modf (by decide +kernel))) (.inl (by rfl)) Puts.new) ?_
      rw [e10]
      exact Ex.ret (Ex1.ret (Ev.tuple (EvL.cons Ev.name (EvL.cons Ev.name (EvL.cons Ev.name EvL.nil)))))
    rcases hh with ⟨q1, q2⟩ | ⟨q1, q2, q3⟩ | ⟨q1, q2, q3⟩
    · refine Ex.cons (Ex1.ifT (Tst.eq (Tst.cmp Ev.name Ev.name Cmp.eqf) q1) (Ex.cons (Ex1.assign (Ev.bin Ev.name Ev.name Bin.subf) (.inl (by rfl)) Puts.new) Ex.nil)) ?_
      rw [q2]
      exact Ex.sub (Sub.cons (by rfl) (Sub.cons (by rfl) (Sub.cons (by rfl) Sub.nil))) fin
    · refine Ex.cons (Ex1.ifF (Tst.eq (Tst.cmp Ev.name Ev.name Cmp.eqf) q1) (Ex.cons (Ex1.ifT (Tst.eq (Tst.cmp Ev.name Ev.name Cmp.eqf) q2) (Ex.cons (Ex1.assign (Ev.bin (Ev.bin (Ev.flt (b := f2)) Ev.name Bin.addf) Ev.name Bin.subf) (.inl (by rfl)) Puts.new) Ex.nil)) Ex.nil)) ?_
      rw [q3]
      exact Ex.sub (Sub.cons (by rfl) (Sub.cons (by rfl) (Sub.cons (by rfl) Sub.nil))) fin
    · refine Ex.cons (Ex1.ifF (Tst.eq (Tst.cmp Ev.name Ev.name Cmp.eqf) q1) (Ex.cons (Ex1.ifF (Tst.eq (Tst.cmp Ev.name Ev.name Cmp.eqf) q2) (Ex.cons (Ex1.assign (Ev.bin (Ev.bin (Ev.flt (b := f4)) Ev.name Bin.addf) Ev.name Bin.subf) (.inl (by rfl)) Puts.new) Ex.nil)) Ex.nil)) ?_
      rw [q3]
      exact Ex.sub (Sub.cons (by rfl) (Sub.cons (by rfl) (Sub.cons (by rfl) Sub.nil))) fin
end Mine
end

section
open PySem PySem.W PyProof.Rows PySem.Builtin PySem.SeqAt
set_option Elab.async false
set_option maxRecDepth 100000
set_option linter.unusedVariables false
namespace Mine
section
variable {w : World} {q : Bool} {k : Nat} {c : Cx} {σ σ' : List (Str × Ent)} {e e₁ e₂ o : Expr} {d : D} {ds : List D} {r : Res} {p p' : Pos}

theorem eqAt_bytes {A : Around} {s : Shared} {b b' : Array UInt8} {t u : Tok} : EqAt A s (.bytes b t) (.bytes b' u) (b.toList == b'.toList) := by
  intro prog w E Q h
  unfold eqBool
  refine wpAny_holding ?_
  refine wpAny_ite_split (fun hab => ?_) (fun hab => ?_)
  · have e : b = b' := by have := eq_of_beq hab; injection this
    subst e
    exact wpAny_bind (wpAny_rule (wpAny_pure (by simpa using h)))
  · exact wpAny_bind (richCompare_gives (PySem.W.typeIs_bytes s b t) (PySem.W.typeIs_bytes s b' u) FB.slot_bytes_eq FB.entry_bytes_eq (FB.args_bytes_eq_2 _ _) (gives_bytes_eq b b' t u) (by simp [Made.takes]) (wpAny_truthy_bool h))

theorem OfT.lst {ds : List D} : OfT (DatR w (.lst ds)) "list" := fun P v s h => by
  change (let G : Prop := _; G)
  intro G
  obtain ⟨a, vs, rfl, pa, la, xa⟩ := Rp.inv h
  subst G
  change (let G : Prop := _; G)
  intro G
  obtain ⟨o, n, ho, hc, hdn, hd⟩ := id la
  subst G
  exact ⟨⟨o, ho, hc⟩, fun x e => by cases e; exact ⟨o, ho, hdn⟩⟩
theorem OfT.lstO {ds : List D} : OfT (OwnR w (.lst ds)) "list" := fun P v s x => by
  change (let G : Prop := _; G)
  intro G
  obtain ⟨os, ⟨a, vs, e1, e2, la, xa⟩, _⟩ := x
  subst G
  subst e1
  change (let G : Prop := _; G)
  intro G
  obtain ⟨o, n, ho, hc, hdn, hd⟩ := id la
  subst G
  exact ⟨⟨o, ho, hc⟩, fun x e => by cases e; exact ⟨o, ho, hdn⟩⟩

noncomputable def isI (x : Int) : Value → Bool
  | .int a _ => a == x
  | _ => false
noncomputable def isB (x : Array UInt8) : Value → Bool
  | .bytes a _ => a.toList == x.toList
  | _ => false
theorem RpL.mem_int {P : Addr → Prop} {h : Heap} {vs : List Value} {ns : List Int} (x : RpL w P h vs (ns.map .int)) : ∀ v ∈ vs, ∃ a t, v = .int a t := by
  induction ns generalizing vs with
  | nil => rw [RpL.nil_inv x]; exact fun v hv => nomatch hv
  | cons n ns ih =>
    change (let G : Prop := _; G)
    intro G
    obtain ⟨u, vs', rfl, a, r⟩ := RpL.cons_inv x
    subst G
    intro v hv
    rcases List.mem_cons.mp hv with rfl | hv
    · cases a; exact ⟨_, _, rfl⟩
    · exact ih r v hv
theorem RpL.mem_bytes {P : Addr → Prop} {h : Heap} {vs : List Value} {ns : List (Array UInt8)} (x : RpL w P h vs (ns.map .bytes)) : ∀ v ∈ vs, ∃ a t, v = .bytes a t := by
  induction ns generalizing vs with
  | nil => rw [RpL.nil_inv x]; exact fun v hv => nomatch hv
  | cons n ns ih =>
    change (let G : Prop := _; G)
    intro G
    obtain ⟨u, vs', rfl, a, r⟩ := RpL.cons_inv x
    subst G
    intro v hv
    rcases List.mem_cons.mp hv with rfl | hv
    · cases a; exact ⟨_, _, rfl⟩
    · exact ih r v hv
theorem RpL.at_int {P : Addr → Prop} {h : Heap} {vs : List Value} {ns : List Int} (x : RpL w P h vs (ns.map .int)) (y : Int) {j : Nat} (hj : j < vs.length) : isI y vs[j] = (ns.getD j 0 == y) := by
  obtain ⟨d, hd, rv⟩ := x.get' (List.getElem?_eq_getElem hj)
  rw [List.getElem?_map] at hd
  cases hn : ns[j]? with
  | none => rw [hn] at hd; cases hd
  | some n =>
    rw [hn] at hd
    cases hd
    rw [List.getD_eq_getElem?_getD, hn]
    generalize vs[j] = v at rv
    cases rv
    rfl
theorem RpL.at_bytes {P : Addr → Prop} {h : Heap} {vs : List Value} {ns : List (Array UInt8)} (x : RpL w P h vs (ns.map .bytes)) (y : Array UInt8) {j : Nat} (hj : j < vs.length) : isB y vs[j] = ((ns.getD j #[]).toList == y.toList) := by
  obtain ⟨d, hd, rv⟩ := x.get' (List.getElem?_eq_getElem hj)
  rw [List.getElem?_map] at hd
  cases hn : ns[j]? with
  | none => rw [hn] at hd; cases hd
  | some n =>
    rw [hn] at hd
    cases hd
    rw [List.getD_eq_getElem?_getD, hn]
    generalize vs[j] = v at rv
    cases rv
    rfl

theorem MthO.indexI {ns : List Int} {x : Int} {j : Nat} (hj : j < ns.length) (hs : ns.length < 1000) (h1 : ns.getD j 0 = x) (h2 : ∀ m, m < j → ns.getD m 0 ≠ x) : MthO w q k (DatR w (.lst (ns.map .int))) "list.index" [.int x] (.dat (.int j)) := fun A P s v vs rm B hp hv hvs => by
  cases hvs with | cons a r =>
  cases r
  obtain ⟨t, rfl⟩ := Rp.inv a
  change (let G : Prop := _; G)
  intro G
  obtain ⟨a, us, rfl, pa, la, xa⟩ := Rp.inv hv
  subst G
  change (let G : Prop := _; G)
  intro G
  obtain ⟨⟨cls, dd, data, sl⟩, n, ho, hc, hdn, hd⟩ := id la
  subst G
  simp only at hc hdn hd
  subst hc hdn hd
  have hl : us.length = ns.length := by rw [xa.length, List.length_map]
  have hju : j < us.length := by (first | lia | omega)
  refine call_meets PySem.F.slot_list_index ⟨_, ho, rfl⟩ PySem.F.entry_list_index (PySem.F.args_list_index_2 _ _) (list_indexAt a us.toArray n none sl (.int x t) (isI x) j (by simpa using hju) (by (first | lia | omega)) ?_ fun m hm hmj => ?_) ⟨ho, fun y hy => ?_, ?_⟩
  · have := xa.at_int x hju
    rw [h1] at this
    simpa using this
  · have hm' : m < us.length := by simpa using hm
    have := xa.at_int x hm'
    have h3 := h2 m hmj
    rw [beq_eq_false_iff_ne.mpr h3] at this
    simpa using this
  · obtain ⟨b, u, rfl⟩ := xa.mem_int y (by simpa using hy)
    exact EqAt.int_int b u x t
  · exact Pst.now hp (.int _ _)
theorem MthO.indexB {ns : List (Array UInt8)} {x : Array UInt8} {j : Nat} (hj : j < ns.length) (hs : ns.length < 1000) (h1 : ns.getD j #[] = x) (h2 : ∀ m, m < j → ns.getD m #[] ≠ x) : MthO w q k (DatR w (.lst (ns.map .bytes))) "list.index" [.bytes x] (.dat (.int j)) := fun A P s v vs rm B hp hv hvs => by
  cases hvs with | cons a r =>
  cases r
  obtain ⟨t, rfl⟩ := Rp.inv a
  change (let G : Prop := _; G)
  intro G
  obtain ⟨a, us, rfl, pa, la, xa⟩ := Rp.inv hv
  subst G
  change (let G : Prop := _; G)
  intro G
  obtain ⟨⟨cls, dd, data, sl⟩, n, ho, hc, hdn, hd⟩ := id la
  subst G
  simp only at hc hdn hd
  subst hc hdn hd
  have hl : us.length = ns.length := by rw [xa.length, List.length_map]
  have hju : j < us.length := by (first | lia | omega)
  refine call_meets PySem.F.slot_list_index ⟨_, ho, rfl⟩ PySem.F.entry_list_index (PySem.F.args_list_index_2 _ _) (list_indexAt a us.toArray n none sl (.bytes x t) (isB x) j (by simpa using hju) (by (first | lia | omega)) ?_ fun m hm hmj => ?_) ⟨ho, fun y hy => ?_, ?_⟩
  · have := xa.at_bytes x hju
    rw [h1] at this
    simpa using this
  · have hm' : m < us.length := by simpa using hm
    have := xa.at_bytes x hm'
    have h3 := h2 m hmj
    have h4 : ((ns.getD m #[]).toList == x.toList) = false := by
      rw [beq_eq_false_iff_ne]
      exact fun e => h3 (Array.ext' e)
    rw [h4] at this
    simpa using this
  · obtain ⟨b, u, rfl⟩ := xa.mem_bytes y (by simpa using hy)
    exact eqAt_bytes
  · exact Pst.now hp (.int _ _)
theorem count_isI {P : Addr → Prop} {h : Heap} (x : Int) {vs : List Value} {ns : List Int} (y : RpL w P h vs (ns.map .int)) : vs.countP (isI x) = ns.countP (· == x) := by
  induction ns generalizing vs with
  | nil => rw [RpL.nil_inv y]; rfl
  | cons n ns ih =>
    change (let G : Prop := _; G)
    intro G
    obtain ⟨u, vs', rfl, a, r⟩ := RpL.cons_inv y
    subst G
    cases a
    rw [List.countP_cons, List.countP_cons, ih r]; rfl
theorem MthO.countI {ns : List Int} {x : Int} : MthO w q k (OwnR w (.lst (ns.map .int))) "list.count" [.int x] (.dat (.int (ns.countP (· == x) : Nat))) := fun A P s v vs rm B hp hv hvs => by
  cases hvs with | cons a r =>
  cases r
  obtain ⟨t, rfl⟩ := Rp.inv a
  change (let G : Prop := _; G)
  intro G
  obtain ⟨os, ⟨a, us, e1, e2, la, xa⟩, _⟩ := hv
  subst G
  subst e1
  change (let G : Prop := _; G)
  intro G
  obtain ⟨⟨cls, dd, data, sl⟩, n, ho, hc, hdn, hd⟩ := id la
  subst G
  simp only at hc hdn hd
  subst hc hdn hd
  refine call_meets PySem.F.slot_list_count ⟨_, ho, rfl⟩ PySem.F.entry_list_count (PySem.F.args_list_count_2 _ _) (list_countAt a us.toArray n none sl (.int x t) (isI x)) ⟨ho, fun y hy => ?_, ?_⟩
  · obtain ⟨b, u, rfl⟩ := xa.mem_int y (by simpa using hy)
    exact EqAt.int_int b u x t
  · have : us.toArray.toList.countP (isI x) = ns.countP (· == x) := count_isI x xa
    rw [this]
    exact Pst.now hp (.int _ _)
theorem Bi.maxL {ns : List Int} {m : Int} (h1 : m ∈ ns) (h2 : ∀ a ∈ ns, a ≤ m) : Bi w q k "max" [.lst (ns.map .int)] (.dat (.int m)) := OpL.call1 fun A P s v rm B hp x => by
  change (let G : Prop := _; G)
  intro G
  obtain ⟨a, vs, rfl, pa, la, xa⟩ := Rp.inv x
  subst G
  have hi := xa.ints
  obtain ⟨xs, e⟩ := hi.allInts.items
  have hns : ns = xs.toList.map (·.1) := by
    rw [← hi.numsOf, ← nums_intItems, ← e]
  have hsz : 0 < xs.size := by
    have := List.length_pos_of_mem h1
    rw [hns, List.length_map, Array.length_toList] at this; exact this
  have hl := la.isList
  rw [e] at hl
  refine max_intList rm.1 hl hsz fun v h' tk hv hk => ?_
  obtain ⟨t, rfl⟩ := intItems_at hv
  obtain ⟨g1, g2⟩ := argBest_gt (numAt xs) (xs.size - 1)
  have hM : numAt xs (argBest (fun i j => decide (numAt xs i > numAt xs j)) (xs.size - 1)) = m := by
    apply Int.le_antisymm
    · refine h2 _ ?_
      rw [hns, numAt_eq]; exact getD_mem (by rw [List.length_map, Array.length_toList]; (first | lia | omega))
    · rw [hns] at h1
      obtain ⟨j, hj, rfl⟩ := mem_getD h1
      rw [List.length_map, Array.length_toList] at hj
      rw [← numAt_eq]; exact g2 j (by (first | lia | omega))
  rw [hM]
  exact ⟨P, Ext.of_ks hp hk, Rest.of, .int _ _⟩
end
end Mine
end

section
open PySem PySem.W PyProof.Rows PySem.Builtin
set_option Elab.async false
set_option maxRecDepth 100000
set_option linter.unusedVariables false
namespace Mine
noncomputable def fr (p : Nat) : UInt64 := Float64.ofFrac false p 4
noncomputable def cR (n : Nat) : UInt64 := fr (n % 4)
noncomputable def cG (n : Nat) : UInt64 := fr (n / 4 % 4)
noncomputable def cB (n : Nat) : UInt64 := fr (n / 16)
noncomputable def cMx (n : Nat) : UInt64 := fmax3 (cR n) (cG n) (cB n)
noncomputable def cMn (n : Nat) : UInt64 := fmin3 (cR n) (cG n) (cB n)
noncomputable def cSu (n : Nat) : UInt64 := Float64.add (cMx n) (cMn n)
noncomputable def cRa (n : Nat) : UInt64 := Float64.sub (cMx n) (cMn n)
noncomputable def cL (n : Nat) : UInt64 := Float64.div (cSu n) f2
noncomputable def cS (n : Nat) : UInt64 := Float64.div (cRa n) (cSu n)
noncomputable def cRc (n : Nat) : UInt64 := Float64.div (Float64.sub (cMx n) (cR n)) (cRa n)
noncomputable def cGc (n : Nat) : UInt64 := Float64.div (Float64.sub (cMx n) (cG n)) (cRa n)
noncomputable def cBc (n : Nat) : UInt64 := Float64.div (Float64.sub (cMx n) (cB n)) (cRa n)
noncomputable def feq (a b : UInt64) : Bool := Float64.cmp a b == some .eq
noncomputable def cH0 (n : Nat) : UInt64 := if feq (cR n) (cMx n) then Float64.sub (cBc n) (cGc n) else if feq (cG n) (cMx n) then Float64.sub (Float64.add f2 (cRc n)) (cBc n) else Float64.sub (Float64.add f4 (cGc n)) (cRc n)
noncomputable def cH (n : Nat) : UInt64 := (Float64.divmod (Float64.div (cH0 n) f6) f1).2
noncomputable def f375 : UInt64 := 4600427019358961664
noncomputable def cX (n : Nat) : UInt64 := Float64.add (Float64.mul (cH n) (Float64.ofInt 12)) fhalf
noncomputable def cV (n : Nat) : Option Int := match Float64.decode (cX n) with
  | .fin sg m e => some (Float64.truncOf sg m e)
  | _ => none
noncomputable def cP (n : Nat) : List Int := [(n : Int) % 4, (n : Int) / 4 % 4, (n : Int) / 16]
noncomputable def cIx (n : Nat) : Nat := if n % 4 ≥ n / 4 % 4 ∧ n % 4 ≥ n / 16 then 0 else if n / 4 % 4 ≥ n / 16 then 1 else 2
noncomputable def mono (n : Nat) : Bool := n == 3 || n == 12 || n == 48
noncomputable def chk (n : Nat) : Bool := !feq (cMn n) (cMx n) && (Float64.cmp (cL n) fhalf == some .lt || Float64.cmp (cL n) fhalf == some .eq) && !Float64.isZero (cSu n) && !Float64.isZero (cRa n) && feq (cS n) f1 &&
  (match cV n with | some v => ((v + 1).fdiv 4).fmod 3 == (cIx n : Int) | none => false) && (feq (cL n) f375 == mono n) && !Float64.isInf (cR n) && !Float64.isInf (cG n) && !Float64.isInf (cB n) && !Float64.isInf (Float64.ofInt 12)
noncomputable def nine : List Nat := [3, 12, 48, 6, 9, 18, 33, 24, 36]
theorem chk_nine : nine.all chk = true := by decide +kernel
end Mine
end

section
open PySem PySem.W PyProof.Rows PySem.Builtin
set_option Elab.async false
set_option maxRecDepth 100000
set_option linter.unusedVariables false
namespace Mine
theorem hls_of {w : World} {q : Bool} {k n : Nat} (h : chk n = true) : Fn w q (k + 1) 78 [.flt (cR n), .flt (cG n), .flt (cB n)] (.tup [.flt (cH n), .flt (cL n), .flt (cS n)]) := by
  unfold chk at h
  simp only [Bool.and_eq_true, Bool.not_eq_true', beq_iff_eq] at h
  change (let G : Prop := _; G)
  intro G
  obtain ⟨⟨⟨⟨⟨⟨⟨⟨⟨⟨h1, h2⟩, h3⟩, h4⟩, h5⟩, h6⟩, h7⟩, h8⟩, h9⟩, h10⟩, h11⟩ := h
  subst G
  refine hls_gen rfl rfl rfl rfl rfl rfl rfl rfl rfl h1 h2 h3 h4 (h0 := cH0 n) ?_ rfl
  unfold cH0
  cases c1 : feq (cR n) (cMx n) with
  | true => exact .inl ⟨c1, rfl⟩
  | false =>
    cases c2 : feq (cG n) (cMx n) with
    | true => exact .inr (.inl ⟨c1, c2, rfl⟩)
    | false => exact .inr (.inr ⟨c1, c2, rfl⟩)

theorem div4 {w : World} {q : Bool} {k : Nat} {m : Int} {p : Nat} (hm : m = (p : Int)) (h : Float64.isInf (fr p) = false) : Bin w q k .Div (.int m) (.int 4) (.dat (.flt (fr p))) := by
  subst hm
  have e : Float64.ofFrac (decide ((p : Int) < 0) != decide ((4 : Int) < 0)) (p : Int).natAbs (4 : Int).natAbs = fr p := by
    unfold fr
    rw [show decide ((p : Int) < 0) = false by simp]
    rfl
  have := Bin.divi (w := w) (q := q) (k := k) (m := (p : Int)) (n := 4) (by decide) (by rw [e]; exact h)
  rw [e] at this
  exact this

theorem TstA.two {c : Cx} {σ : List (Str × Ent)} {a b : Expr} (h1 : Tst c σ a false) (h2 : Tst c σ b false) : TstA c σ .Or [a, b] false := TstA.orF h1 (TstA.orF h2 TstA.orNil)

theorem ix_max (a b c j : Nat) (hj : j = if a ≥ b ∧ a ≥ c then 0 else if b ≥ c then 1 else 2) : [(a : Int), b, c].getD j 0 ∈ [(a : Int), b, c] ∧ (∀ x ∈ [(a : Int), b, c], x ≤ [(a : Int), b, c].getD j 0) ∧ ∀ m, m < j → [(a : Int), b, c].getD m 0 ≠ [(a : Int), b, c].getD j 0 := by
  split at hj
  · subst hj
    refine ⟨by simp, ?_, fun m hm => by (first | lia | omega)⟩
    simp; (first | lia | omega)
  · split at hj
    · subst hj
      refine ⟨by simp, ?_, fun m hm => ?_⟩
      · simp; (first | lia | omega)
      · match m, hm with
        | 0, _ => simp; (first | lia | omega)
    · subst hj
      refine ⟨by simp, ?_, fun m hm => ?_⟩
      · simp; (first | lia | omega)
      · match m, hm with
        | 0, _ => simp; (first | lia | omega)
        | 1, _ => simp; (first | lia | omega)

theorem seen_turn {w : World} {q : Bool} {lv L : Nat} {qn : Str} {cd : Value} {n : Nat} {found : List Int} {s x : Int} (h : chk n = true) (hn : n < 49) (hf : found[n]? = some x) (hx : 0 < x) :
    Ex ⟨w, q, lv + 1, fenv 18 L 125 qn cd⟩ [("code", .dat (.int n)), ("alike", .dat (.int s)), ("found", .dat (.lst (found.map .int)))] (match ((bodyAt 18)[1]? : Option Stmt) with | some (Stmt.For _ _ b _ _) => b | _ => [])
      (.nxt [("alike", .dat (.int (if mono n then s + x else s))), ("found", .dat (.lst (found.map .int)))]) := by
  have hh := h
  unfold chk at h
  simp only [Bool.and_eq_true, Bool.not_eq_true', beq_iff_eq] at h
  change (let G : Prop := _; G)
  intro G
  obtain ⟨⟨⟨⟨⟨⟨⟨⟨⟨⟨h1, h2⟩, h3⟩, h4⟩, h5⟩, h6⟩, h7⟩, h8⟩, h9⟩, h10⟩, h11⟩ := h
  subst G
  have hfd : (found.map D.int)[(n : Int).toNat]? = some (.int x) := by simp [hf]
  have it : ∀ σ', List.lookup ("found" : Str) σ' = some (Ent.dat (.lst (found.map .int))) → List.lookup ("code" : Str) σ' = some (Ent.dat (.int (n : Int))) → ∀ p1 p2 p3, Ev ⟨w, q, lv + 1, fenv 18 L 125 qn cd⟩ σ' (.Subscript (.Name "found" p1) (.Name "code" p2) p3) (.int x) := fun σ' e1 e2 p1 p2 p3 =>
    Ev.item (EvR.rcv (Ev.name e1)) DatR.stb (Ev.name e2) (ItemOp.lst (by (first | lia | omega)) (by (first | lia | omega)) hfd)
  refine Ex.cons (Ex1.ifT (Tst.eq (Tst.cmp (it _ (by rfl) (by rfl) _ _ _) Ev.int Cmp.gt) (by simpa using hx)) ?_) Ex.nil
  have e1 : (n : Int).fmod 4 = (n % 4 : Nat) := by rw [Int.fmod_eq_emod_of_nonneg _ (by decide)]; (first | lia | omega)
  have e2 : ((n : Int).fdiv 4).fmod 4 = (n / 4 % 4 : Nat) := by rw [Int.fdiv_eq_ediv_of_nonneg _ (by decide), Int.fmod_eq_emod_of_nonneg _ (by decide)]; (first | lia | omega)
  have e3 : (n : Int).fdiv 16 = (n / 16 : Nat) := by rw [Int.fdiv_eq_ediv_of_nonneg _ (by decide)]; (first | lia | omega)
  refine Ex.cons (Ex1.assign (EvR.freeze (EvR.list (EvL.cons (Ev.bin Ev.name Ev.int (Bin.mod (by decide))) (EvL.cons (Ev.bin (Ev.bin Ev.name Ev.int (Bin.div (by decide) (by decide))) Ev.int (Bin.mod (by decide))) (EvL.cons (Ev.bin Ev.name Ev.int (Bin.div (by decide) (by decide))) EvL.nil))))) (.inl (by rfl)) Puts.new) ?_
  rw [e1, e2, e3]
  have pt : ∀ (j : Int) (v : Nat), 0 ≤ j → j < 3 → ([D.int (n % 4 : Nat), D.int (n / 4 % 4 : Nat), D.int (n / 16 : Nat)])[j.toNat]? = some (.int v) → ∀ σ', List.lookup ("parts" : Str) σ' = some (Ent.dat (.lst [D.int (n % 4 : Nat), D.int (n / 4 % 4 : Nat), D.int (n / 16 : Nat)])) → ∀ p1 kk p2 p3, Ev ⟨w, q, lv + 1, fenv 18 L 125 qn cd⟩ σ' (.Subscript (.Name "parts" p1) (.Constant (.int j) kk p2) p3) (.int v) :=
    fun j v hj0 hj1 hv σ' e1 p1 kk p2 p3 => Ev.item (EvR.rcv (Ev.name e1)) DatR.stb Ev.int (ItemOp.lst hj0 (by (first | lia | omega)) hv)
  refine Ex.cons (Ex1.assignT (Ev.callF (EvL.cons (Ev.bin (pt 0 (n % 4) (by decide) (by decide) rfl _ (by rfl) _ _ _ _) Ev.int (div4 rfl h8)) (EvL.cons (Ev.bin (pt 1 (n / 4 % 4) (by decide) (by decide) rfl _ (by rfl) _ _ _ _) Ev.int (div4 rfl h9)) (EvL.cons (Ev.bin (pt 2 (n / 16) (by decide) (by decide) rfl _ (by rfl) _ _ _ _) Ev.int (div4 rfl h10)) EvL.nil)))
    (hls_of hh) (by rfl) (by decide : (("rgb_to_hls" : Str), 78, 10) ∈ fnTab)) (Tgt.tup [("hue", _), ("level", _), ("share", _)] (by rfl) (fun y hy => ?_) (.cons Puts.new (.cons Puts.new (.cons Puts.new .nil))))) ?_
  · simp only [List.mem_cons, List.not_mem_nil, or_false] at hy
    rcases hy with rfl | rfl | rfl <;> exact .inl (by rfl)
  obtain ⟨v, hv, hv2⟩ : ∃ v, cV n = some v ∧ ((v + 1).fdiv 4).fmod 3 = (cIx n : Int) := by
    cases hc : cV n with
    | none => rw [hc] at h6; cases h6
    | some v => rw [hc] at h6; exact ⟨v, rfl, by simpa using h6⟩
  obtain ⟨sg, m, e, hd, hve⟩ : ∃ sg m e, Float64.decode (cX n) = .fin sg m e ∧ Float64.truncOf sg m e = v := by
    unfold cV at hv
    split at hv
    · rename_i sg m e hd
      cases hv
      exact ⟨sg, m, e, hd, rfl⟩
    · cases hv
  have t1 : (Float64.cmp (cS n) f1 != some .eq) = false := by
    have : (Float64.cmp (cS n) f1 == some .eq) = true := h5
    rw [bne, this]; rfl
  have hix : cIx n < 3 := by unfold cIx; split <;> (try split) <;> (first | lia | omega)
  let ns : List Int := [(n % 4 : Nat), (n / 4 % 4 : Nat), (n / 16 : Nat)]
  obtain ⟨hg1, hg2, hlt⟩ := ix_max (n % 4) (n / 4 % 4) (n / 16) (cIx n) rfl
  have hg : ns.getD (cIx n) 0 ∈ ns ∧ ∀ a ∈ ns, a ≤ ns.getD (cIx n) 0 := ⟨hg1, hg2⟩
  have hc12 : Float64.isInf (Float64.ofInt 12) = false := h11
  refine Ex.cons (Ex1.ifF (Tst.all (TstA.two (Tst.eq (Tst.cmp Ev.name (Ev.flt (b := f1)) Cmp.nef) t1) (Tst.eq (Tst.cmp (Ev.bin (Ev.bin (Ev.bin (Ev.callT (EvL.cons (Ev.bin (Ev.bin Ev.name Ev.int (Bin.mulfi hc12)) (Ev.flt (b := fhalf)) Bin.addf) EvL.nil) (Ty.intf (a := cX n) hd) (by rfl) (by decide) (by decide +kernel)) Ev.int Bin.add) Ev.int (Bin.div (by decide) (by decide))) Ev.int (Bin.mod (by decide)))
    (Ev.meth1 (EvR.rcv (Ev.name (d := .lst (ns.map .int)))) DatR.stb (Ev.callB (EvL.cons (Ev.name (d := .lst (ns.map .int))) EvL.nil) (Bi.maxL hg.1 hg.2) (by rfl) (by decide) (by decide +kernel)) PySem.F.plainAttrs_list PySem.F.slot_list_index PySem.F.type_list_index OfT.lst (MthO.indexI hix (by show 3 < 1000; decide) rfl hlt)) Cmp.ne) ?_))) Ex.nil) ?_
  · rw [hve, hv2]; simp
  by_cases hm : mono n = true
  · rw [hm] at h7
    rw [hm, if_pos rfl]
    refine Ex.cons (Ex1.ifT (Tst.eq (Tst.cmp Ev.name (Ev.flt (b := f375)) Cmp.eqf) h7) (Ex.cons (Ex1.assign (Ev.bin Ev.name (it _ (by rfl) (by rfl) _ _ _) Bin.add) (.inl (by rfl)) Puts.new) Ex.nil)) (Ex.nil' (Sub.cons (by rfl) (Sub.cons (by rfl) Sub.nil)))
  · have hm' : mono n = false := by simpa using hm
    rw [hm'] at h7
    rw [hm', if_neg (by decide)]
    refine Ex.cons (Ex1.ifF (Tst.eq (Tst.cmp Ev.name (Ev.flt (b := f375)) Cmp.eqf) h7) Ex.nil) (Ex.nil' (Sub.cons (by rfl) (Sub.cons (by rfl) Sub.nil)))
end Mine
end

section
open PySem PySem.W PyProof.Rows PySem.Builtin
set_option Elab.async false
set_option maxRecDepth 100000
set_option linter.unusedVariables false
namespace Mine
theorem ok_seen : FnOk 18 ["found"] := by
  refine ⟨by rfl, by rfl, by rfl, by decide, ?_, ?_, ?_⟩
  · intro L x hx
    rcases List.mem_singleton.mp hx with rfl
    exact .inl (by rfl)
  · intro L x y a h1 h2
    cases h1
  · rintro ⟨⟩ vs rfl rfl rfl hl
    obtain ⟨v, rfl⟩ := len1 hl
    rfl
noncomputable def seenS (found : List Int) : Nat → Int
  | 0 => 0
  | i + 1 => if mono i then seenS found i + found.getD i 0 else seenS found i
theorem seen_fn {w : World} {q : Bool} {k : Nat} {found : List Int} (hl : found.length = 49) (h0 : ∀ n, 0 ≤ found.getD n 0) (h9 : ∀ n, 0 < found.getD n 0 → n ∈ nine) : Fn w q (k + 2) 125 [.lst (found.map .int)] (.int (seenS found 49)) :=
  Fn.intro (by decide : (("_law_seen" : Str), 125, 18) ∈ fnTab) ok_seen rfl fun L qn cd => by
    refine Ex.cons (Ex1.assign Ev.int (.inl (by rfl)) Puts.new) ?_
    refine Ex.cons (Ex1.for' (fun i => [("alike", .dat (.int (seenS found i))), ("found", .dat (.lst (found.map .int)))]) none (Itr.range (n := 49) Ev.int (by rfl) (by decide) (by decide)) (.inl (by rfl)) (Sub.cons (by rfl) (Sub.cons (by rfl) Sub.nil))
      (fun i d hd _ => ?_) (fun m dd h => nomatch h)) ?_
    · obtain ⟨hi, rfl⟩ := intsTo_get hd
      have hi' : i < 49 := hi
      refine ⟨_, Puts.new, ?_⟩
      have hf : found[i]? = some (found.getD i 0) := by
        rw [List.getD_eq_getElem?_getD, List.getElem?_eq_getElem (by (first | lia | omega))]; rfl
      by_cases hx : 0 < found.getD i 0
      · have hc := List.all_eq_true.mp chk_nine i (h9 i hx)
        have := seen_turn (w := w) (q := q) (lv := k) (L := L) (qn := qn) (cd := cd) (s := seenS found i) hc hi' hf hx
        show Ex _ _ _ (.nxt [("alike", .dat (.int (if mono i then seenS found i + found.getD i 0 else seenS found i))), ("found", .dat (.lst (found.map .int)))])
        exact this
      · have hz : found.getD i 0 = 0 := by have := h0 i; (first | lia | omega)
        have hs : seenS found (i + 1) = seenS found i := by
          show (if mono i then seenS found i + found.getD i 0 else seenS found i) = _
          rw [hz]; split <;> (first | lia | omega)
        rw [hs]
        have hfd : (found.map D.int)[(i : Int).toNat]? = some (.int 0) := by
          rw [Int.toNat_natCast, List.getElem?_map, hf, hz]; rfl
        refine Ex.cons (Ex1.ifF (Tst.eq (Tst.cmp (Ev.item (EvR.rcv Ev.name) DatR.stb Ev.name (ItemOp.lst (by (first | lia | omega)) (by (first | lia | omega)) hfd)) Ev.int Cmp.gt) (by decide)) Ex.nil) (Ex.nil' (Sub.cons (by rfl) (Sub.cons (by rfl) Sub.nil)))
    · exact Ex.ret (Ex1.ret (Ev.name (d := .int (seenS found 49))))
end Mine
end

section
open PySem PySem.W PyProof.Rows PySem.Builtin
set_option Elab.async false
set_option maxRecDepth 100000
set_option linter.unusedVariables false
namespace Mine
theorem ok_mixes : FnOk 17 ["ties"] := by
  refine ⟨by rfl, by rfl, by rfl, by decide, ?_, ?_, ?_⟩
  · intro L x hx
    rcases List.mem_singleton.mp hx with rfl
    exact .inl (by rfl)
  · intro L x y a h1 h2
    cases h1
  · rintro ⟨⟩ vs rfl rfl rfl hl
    obtain ⟨v, rfl⟩ := len1 hl
    rfl
noncomputable def wt : Nat → Nat
  | 0 => 1
  | 1 => 4
  | _ => 16
noncomputable def code3 (t : Nat → Nat → Nat) (i j k : Nat) : Nat := wt (t i j) + wt (t i k) + wt (t j k)
noncomputable def bump (f : List Int) (c : Nat) : List Int := f.set c (f.getD c 0 + 1)
noncomputable def m3 (t : Nat → Nat → Nat) (i j : Nat) (f : List Int) : Nat → List Int
  | 0 => f
  | k + 1 => bump (m3 t i j f k) (code3 t i j k)
noncomputable def m2 (t : Nat → Nat → Nat) (i : Nat) (f : List Int) : Nat → List Int
  | 0 => f
  | j + 1 => m3 t i j (m2 t i f j) j
noncomputable def m1 (t : Nat → Nat → Nat) : Nat → List Int
  | 0 => List.replicate 49 0
  | i + 1 => m2 t i (m1 t i) i
theorem m3_len (t : Nat → Nat → Nat) (i j : Nat) (f : List Int) : ∀ k, (m3 t i j f k).length = f.length
  | 0 => rfl
  | k + 1 => by rw [m3, bump, List.length_set, m3_len t i j f k]
theorem m2_len (t : Nat → Nat → Nat) (i : Nat) (f : List Int) : ∀ j, (m2 t i f j).length = f.length
  | 0 => rfl
  | j + 1 => by rw [m2, m3_len, m2_len t i f j]
theorem m1_len (t : Nat → Nat → Nat) : ∀ i, (m1 t i).length = 49
  | 0 => by simp [m1]
  | i + 1 => by rw [m1, m2_len, m1_len t i]
noncomputable def tiesD (t : Nat → Nat → Nat) (n : Nat) : List D := (List.range n).map fun i => .lst ((List.range i).map fun j => .int (t i j))
theorem tiesD_get {t : Nat → Nat → Nat} {n i : Nat} (h : i < n) : (tiesD t n)[i]? = some (.lst ((List.range i).map fun j => .int (t i j))) := by
  simp [tiesD, h]
theorem row_get {t : Nat → Nat → Nat} {i j : Nat} (h : j < i) : ((List.range i).map fun j => D.int (t i j))[j]? = some (.int (t i j)) := by
  simp [h]
theorem wt_get {v : Nat} (h : v < 3) : ([D.int 1, D.int 4, D.int 16])[((v : Nat) : Int).toNat]? = some (.int (wt v)) := by
  match v, h with
  | 0, _ => rfl
  | 1, _ => rfl
  | 2, _ => rfl
theorem wt_le (v : Nat) : wt v ≤ 16 := by
  match v with
  | 0 => decide
  | 1 => decide
  | v + 2 => exact Nat.le_refl 16

theorem map_bump (f : List Int) (c : Nat) (v : Int) (h : v = f.getD c 0 + 1) : (f.map D.int).set c (.int v) = (bump f c).map D.int := by
  rw [bump, List.map_set, h]

section
variable {w : World} {q : Bool} {k L : Nat} {qn : Str} {cd : Value} {t : Nat → Nat → Nat} {n : Nat}
theorem ev_wt {σ : List (Str × Ent)} {x y : Str} {a b : Nat} {p1 p2 p3 p4 p5 p6 p7 p8 p9 p10 : Pos} {k1 k2 k3 : Nat} {c : Cx} (ht : ∀ i j, t i j < 3) (hn : n < 1000) (ha : a < n) (hb : b < a) (e0 : List.lookup ("ties" : Str) σ = some (.dat (.lst (tiesD t n)))) (e1 : σ.lookup x = some (.dat (.int a))) (e2 : σ.lookup y = some (.dat (.int b)))
    (hx1 : (x == ("__classdict__" : Str)) = false) (hx2 : (x == ("__debug__" : Str)) = false) (hy1 : (y == ("__classdict__" : Str)) = false) (hy2 : (y == ("__debug__" : Str)) = false) :
    Ev c σ (.Subscript (.List [.Constant (.int 1) k1 p1, .Constant (.int 4) k2 p2, .Constant (.int 16) k3 p3] p4) (.Subscript (.Subscript (.Name "ties" p5) (.Name x p6) p7) (.Name y p8) p9) p10) (.int (wt (t a b))) := by
  have r1 : Ev c σ (.Subscript (.Name "ties" p5) (.Name x p6) p7) (.lst ((List.range a).map fun j => .int (t a j))) :=
    Ev.item (EvR.rcv (Ev.name e0)) DatR.stb (Ev.name e1 hx1 hx2) (ItemOp.lst (by (first | lia | omega)) (by (first | lia | omega)) (by rw [Int.toNat_natCast]; exact tiesD_get ha))
  have r2 : Ev c σ (.Subscript (.Subscript (.Name "ties" p5) (.Name x p6) p7) (.Name y p8) p9) (.int (t a b)) :=
    Ev.item (EvR.rcv r1) DatR.stb (Ev.name e2 hy1 hy2) (ItemOp.lst (by (first | lia | omega)) (by (first | lia | omega)) (by rw [Int.toNat_natCast]; exact row_get hb))
  have := ht a b
  exact Ev.item (EvR.rcv (EvR.freeze (EvR.list (EvL.cons Ev.int (EvL.cons Ev.int (EvL.cons Ev.int EvL.nil)))))) DatR.stb r2 (ItemOp.lst (by (first | lia | omega)) (by (first | lia | omega)) (wt_get (ht a b)))
end

theorem mixes_fn {w : World} {q : Bool} {k : Nat} {t : Nat → Nat → Nat} {n : Nat} (ht : ∀ i j, t i j < 3) (hn : n < 1000) : Fn w q (k + 1) 118 [.lst (tiesD t n)] (.lst ((m1 t n).map .int)) :=
  Fn.intro (by decide : (("_law_mixes" : Str), 118, 17) ∈ fnTab) ok_mixes rfl fun L qn cd => by
    have hlen : (tiesD t n).length = n := by simp [tiesD]
    refine Ex.cons (Ex1.assign (EvR.mull Ev.int Ev.int (by decide) (by decide)) (.inl (by rfl)) Puts.new) ?_
    refine Ex.cons (Ex1.for' (fun i => [("found", .lst ((m1 t i).map .int)), ("ties", .dat (.lst (tiesD t n)))]) none (Itr.range (n := n) (EvR.eq (Ev.callB (EvL.cons Ev.name EvL.nil) (Bi.lenL (by rw [hlen]; (first | lia | omega))) (by rfl) (by decide) (by decide +kernel)) (by rw [hlen])) (by rfl) (by (first | lia | omega)) (by (first | lia | omega))) (.inl (by rfl)) (Sub.cons (by rfl) (Sub.cons (by rfl) Sub.nil))
      (fun i d hd _ => ?_) (fun m dd h => nomatch h)) ?_
    · obtain ⟨hi, rfl⟩ := intsTo_get hd
      have hi' : i < n := by simpa using hi
      refine ⟨_, Puts.new, Ex.cons (Ex1.for' (fun j => [("found", .lst ((m2 t i (m1 t i) j).map .int)), ("i", .dat (.int i)), ("ties", .dat (.lst (tiesD t n)))]) none (Itr.range (n := i) Ev.name (by rfl) (by (first | lia | omega)) (by (first | lia | omega))) (.inl (by rfl)) (Sub.cons (by rfl) (Sub.cons (by rfl) (Sub.cons (by rfl) Sub.nil)))
        (fun j d hd _ => ?_) (fun m dd h => nomatch h)) (Ex.nil' (Sub.cons ?_ (Sub.cons (by rfl) Sub.nil)))⟩
      · obtain ⟨hj, rfl⟩ := intsTo_get hd
        have hj' : j < i := by simpa using hj
        refine ⟨_, Puts.new, Ex.cons (Ex1.assign (ev_wt ht hn hi' hj' (by rfl) (by rfl) (by rfl) (by decide) (by decide) (by decide) (by decide)) (.inl (by rfl)) Puts.new) ?_⟩
        refine Ex.cons (Ex1.for' (fun l => [("found", .lst ((m3 t i j (m2 t i (m1 t i) j) l).map .int)), ("near", .dat (.int (wt (t i j)))), ("j", .dat (.int j)), ("i", .dat (.int i)), ("ties", .dat (.lst (tiesD t n)))]) none (Itr.range (n := j) Ev.name (by rfl) (by (first | lia | omega)) (by (first | lia | omega))) (.inl (by rfl)) (Sub.cons (by rfl) (Sub.cons (by rfl) (Sub.cons (by rfl) (Sub.cons (by rfl) (Sub.cons (by rfl) Sub.nil)))))
          (fun l d hd _ => ?_) (fun m dd h => nomatch h)) (Ex.nil' (Sub.cons ?_ (Sub.cons (by rfl) (Sub.cons (by rfl) Sub.nil))))
        · obtain ⟨hl, rfl⟩ := intsTo_get hd
          have hl' : l < j := by simpa using hl
          refine ⟨_, Puts.new, ?_⟩
          refine Ex.cons (Ex1.assign (Ev.bin (Ev.bin Ev.name (ev_wt ht hn hi' (by (first | lia | omega) : l < i) (by rfl) (by rfl) (by rfl) (by decide) (by decide) (by decide) (by decide)) Bin.add) (ev_wt ht hn (by (first | lia | omega) : j < n) hl' (by rfl) (by rfl) (by rfl) (by decide) (by decide) (by decide) (by decide)) Bin.add) (.inl (by rfl)) Puts.new) ?_
          have ec : (wt (t i j) : Int) + (wt (t i l) : Int) + (wt (t j l) : Int) = (code3 t i j l : Nat) := by unfold code3; (first | lia | omega)
          rw [ec]
          have h48 : code3 t i j l ≤ 48 := by have := wt_le (t i j); have := wt_le (t i l); have := wt_le (t j l); unfold code3; (first | lia | omega)
          have hF : (m3 t i j (m2 t i (m1 t i) j) l).length = 49 := by rw [m3_len, m2_len, m1_len]
          have hget : ((m3 t i j (m2 t i (m1 t i) j) l).map D.int)[((code3 t i j l : Nat) : Int).toNat]? = some (.int ((m3 t i j (m2 t i (m1 t i) j) l).getD (code3 t i j l) 0)) := by
            rw [Int.toNat_natCast, List.getElem?_map, List.getD_eq_getElem?_getD, List.getElem?_eq_getElem (by (first | lia | omega))]; rfl
          have hset := map_bump (m3 t i j (m2 t i (m1 t i) j) l) (code3 t i j l) _ rfl
          show Ex _ _ _ (.nxt [("found", .lst ((bump (m3 t i j (m2 t i (m1 t i) j) l) (code3 t i j l)).map .int)), ("near", .dat (.int (wt (t i j)))), ("j", .dat (.int j)), ("i", .dat (.int i)), ("ties", .dat (.lst (tiesD t n)))])
          rw [← hset]
          generalize m3 t i j (m2 t i (m1 t i) j) l = F at *
          generalize code3 t i j l = cc at *
          refine Ex.cons (Ex1.setL (ds := F.map .int) (Ev.bin (Ev.item Rcv.own OwnR.stb Ev.name (ItemOp.lstO (by (first | lia | omega)) (by (first | lia | omega)) hget)) Ev.int Bin.add) Ev.name (by rfl) (by (first | lia | omega)) (by rw [List.length_map, Int.toNat_natCast]; (first | lia | omega)) (by (first | lia | omega)) Puts.new) ?_
          rw [Int.toNat_natCast]
          exact Ex.nil' (Sub.cons (by rfl) (Sub.cons (by rfl) (Sub.cons (by rfl) (Sub.cons (by rfl) (Sub.cons (by rfl) Sub.nil)))))
        · show _ = some (Ent.lst (List.map D.int (m3 t i j (m2 t i (m1 t i) j) j)))
          rw [show ((intsTo (j : Int).toNat).length) = j by rw [intsTo_length]; simp]
          rfl
      · show _ = some (Ent.lst (List.map D.int (m2 t i (m1 t i) i)))
        rw [show ((intsTo (i : Int).toNat).length) = i by rw [intsTo_length]; simp]
        rfl
    · show Ex _ [("found", Ent.lst (List.map D.int (m1 t (intsTo (n : Int).toNat).length))), ("ties", .dat (.lst (tiesD t n)))] _ _
      rw [show ((intsTo (n : Int).toNat).length) = n by rw [intsTo_length]; simp]
      exact Ex.frz (x := "found") (ds := (m1 t n).map .int) (by rfl) Puts.new (Ex.ret (Ex1.ret Ev.name))
end Mine
end

section
open PySem PySem.W PyProof.Rows PySem.Builtin
set_option Elab.async false
set_option maxRecDepth 100000
set_option linter.unusedVariables false
namespace Mine
theorem cf_apart (i : Nat) : ∀ L x y a, (cellsFrom L (scopeAt i).names []).lookup x = some a → (cellsFrom L (scopeAt i).names []).lookup y = some a → x = y := fun L x y a h1 h2 =>
  name_of_addr (cf_pair _ _ [] List.Pairwise.nil (fun _ h => nomatch h)) (mem_of_lookup h1) (mem_of_lookup h2)
theorem ok_unlike : FnOk 20 ["ties"] := by
  refine ⟨by rfl, by rfl, by rfl, by decide, ?_, cf_apart 20, ?_⟩
  · intro L x hx
    rcases List.mem_singleton.mp hx with rfl
    exact .inr ⟨by rfl, by rfl⟩
  · rintro ⟨⟩ vs rfl rfl rfl hl
    obtain ⟨v, rfl⟩ := len1 hl
    rfl
noncomputable def metL (t : Nat → Nat → Nat) (i j : Nat) : List Int := ((List.range j).filter (· != i)).map fun j => ((if j < i then t i j else t j i : Nat) : Int)
theorem metL_succ {t : Nat → Nat → Nat} {i j : Nat} : metL t i (j + 1) = if j = i then metL t i j else metL t i j ++ [((if j < i then t i j else t j i : Nat) : Int)] := by
  unfold metL
  rw [List.range_succ, List.filter_append]
  by_cases h : j = i
  · simp [h]
  · simp [h]
noncomputable def unS (t : Nat → Nat → Nat) (n : Nat) : Nat → Int
  | 0 => 0
  | i + 1 => unS t n i + ((metL t i n).countP (· == 0) : Nat) * ((metL t i n).countP (· == 1) : Nat) + ((metL t i n).countP (· == 2) : Nat) * (((metL t i n).countP (· == 0) : Nat) + ((metL t i n).countP (· == 1) : Nat))

theorem bits_small {x : Nat} (h : x < 1000000) : Builtin.Int.intBits (x : Int) ≤ 64 := PySem.intBits_le_64 (by (first | lia | omega)) (by (first | lia | omega))
theorem unlike_fn {w : World} {q : Bool} {k : Nat} {t : Nat → Nat → Nat} {n : Nat} (ht : ∀ i j, t i j < 3) (hn : n < 1000) : Fn w q (k + 1) 135 [.lst (tiesD t n)] (.int (unS t n n)) :=
  Fn.intro (by decide : (("_law_unlike" : Str), 135, 20) ∈ fnTab) ok_unlike rfl fun L qn cd => by
    have hlen : (tiesD t n).length = n := by simp [tiesD]
    refine Ex.cons (Ex1.assign Ev.int (.inl (by rfl)) Puts.new) ?_
    refine Ex.cons (Ex1.for' (fun i => [("pairs", .dat (.int (unS t n i))), ("ties", .dat (.lst (tiesD t n)))]) none (Itr.range (n := n) (EvR.eq (Ev.callB (EvL.cons Ev.name EvL.nil) (Bi.lenL (by rw [hlen]; (first | lia | omega))) (by rfl) (by decide) (by decide +kernel)) (by rw [hlen])) (by rfl) (by (first | lia | omega)) (by (first | lia | omega))) (.inr ⟨by rfl, _, by rfl, Nat.lt_succ_of_lt (Nat.lt_succ_self L)⟩) (Sub.cons (by rfl) (Sub.cons (by rfl) Sub.nil))
      (fun i d hd _ => ?_) (fun m dd h => nomatch h)) ?_
    · obtain ⟨hi, rfl⟩ := intsTo_get hd
      have hi' : i < n := by simpa using hi
      refine ⟨_, Puts.new, ?_⟩
      refine Ex.cons (Ex1.comp (cl := [("ties", L + 1), ("i", L + 1 + 1)]) (capt := [("i", .dat (.int i)), ("ties", .dat (.lst (tiesD t n)))]) ?K
        (Itr.range (n := n) (EvR.eq (Ev.callB (EvL.cons Ev.name EvL.nil) (Bi.lenL (by rw [hlen]; (first | lia | omega))) (by rfl) (by decide) (by decide +kernel)) (by rw [hlen])) (by rfl) (by (first | lia | omega)) (by (first | lia | omega))) ?_ (.inl ⟨_, _, rfl⟩) (fun j => (metL t i j).map .int) (by rfl) (fun C j d hd => ?_) (by rfl) Puts.new) ?_
      case K =>
        refine ⟨rfl, rfl, by decide, ⟨rfl, rfl, trivial⟩, ?_, Sub.cons (by rfl) (Sub.cons (by rfl) Sub.nil), fun C y hy => ?_⟩
        · show (["ties", "i"] : List Str).Nodup; decide
        · simp only [List.map_cons, List.map_nil, List.mem_cons, List.not_mem_nil, or_false] at hy
          rcases hy with rfl | rfl
          · exact ⟨.inl (by rfl), .inl (by rfl), _, by rfl, by rfl⟩
          · exact ⟨.inl (by rfl), .inl (by rfl), _, by rfl, by rfl⟩
      · rw [intsTo_length, sizeLine_eq]; simp; (first | lia | omega)
      · obtain ⟨hj, rfl⟩ := intsTo_get hd
        have hj' : j < n := by simpa using hj
        refine ⟨_, decide (j ≠ i), ?_, Tgt.name (.inl (by rfl)) Puts.new, Ifs.one (Tst.eq (Tst.cmp Ev.name Ev.name Cmp.ne) ?_), fun h => ?_, fun h => ?_⟩
        · exact Sub.cons (by rfl) (Sub.cons (by rfl) Sub.nil)
        · by_cases h : j = i
          · subst h; simp
          · have : ((j : Int) ≠ i) := by (first | lia | omega)
            rw [decide_eq_true h, bne_iff_ne]; exact this
        · have hne : j ≠ i := by simpa using h
          refine ⟨.int ((if j < i then t i j else t j i : Nat) : Int), ?_, ?_⟩
          · by_cases hlt : j < i
            · rw [if_pos hlt]
              exact Ev.iteT (Tst.eq (Tst.cmp Ev.name Ev.name Cmp.lt) (by simpa using hlt)) (Ev.item (EvR.rcv (Ev.item (EvR.rcv Ev.name) DatR.stb Ev.name (ItemOp.lst (by (first | lia | omega)) (by (first | lia | omega)) (by rw [Int.toNat_natCast]; exact tiesD_get hi')))) DatR.stb Ev.name (ItemOp.lst (by (first | lia | omega)) (by (first | lia | omega)) (by rw [Int.toNat_natCast]; exact row_get hlt)))
            · rw [if_neg hlt]
              exact Ev.iteF (Tst.eq (Tst.cmp Ev.name Ev.name Cmp.lt) (by simpa using hlt)) (Ev.item (EvR.rcv (Ev.item (EvR.rcv Ev.name) DatR.stb Ev.name (ItemOp.lst (by (first | lia | omega)) (by (first | lia | omega)) (by rw [Int.toNat_natCast]; exact tiesD_get hj')))) DatR.stb Ev.name (ItemOp.lst (by (first | lia | omega)) (by (first | lia | omega)) (by rw [Int.toNat_natCast]; exact row_get (by (first | lia | omega) : i < j))))
          · rw [metL_succ, if_neg hne, List.map_append]; rfl
        · have he : j = i := by simpa using h
          rw [metL_succ, if_pos he]
      · have el : (intsTo (n : Int).toNat).length = n := by rw [intsTo_length]; simp
        rw [el]
        have cnt : ∀ (x : Int) σ', List.lookup ("met" : Str) σ' = some (Ent.lst ((metL t i n).map .int)) → ∀ p1 p2 kk p3, (p2.endLine == p3.line) = true → ∀ p4, EvR ⟨w, q, k, fenv 20 L 135 qn cd⟩ σ' (.Call (.Attribute (.Name "met" p1) "count" p2) [.Constant (.int x) kk p4] [] p3) (.dat (.int ((metL t i n).countP (· == x) : Nat))) := fun x σ' e p1 p2 kk p3 hl p4 =>
          Ev.meth1 (Rcv.own e) OwnR.stb Ev.int PySem.F.plainAttrs_list PySem.F.slot_list_count PySem.F.type_list_count OfT.lstO MthO.countI rfl hl rfl
        have hb : ∀ x : Int, Builtin.Int.intBits ((metL t i n).countP (· == x) : Nat) ≤ 64 := fun x => by
          have h1 : (metL t i n).countP (· == x) ≤ (metL t i n).length := List.countP_le_length
          have h2 : (metL t i n).length ≤ n := by
            unfold metL
            rw [List.length_map]
            exact Nat.le_trans (List.length_filter_le _ _) (by simp)
          exact bits_small (by (first | lia | omega))
        refine Ex.cons (Ex1.assign (Ev.bin (Ev.bin Ev.name (Ev.bin (cnt 0 _ (by rfl) _ _ _ _ (by rfl) _) (cnt 1 _ (by rfl) _ _ _ _ (by rfl) _) (Bin.mul (hb 0))) Bin.add) (Ev.bin (cnt 2 _ (by rfl) _ _ _ _ (by rfl) _) (Ev.bin (cnt 0 _ (by rfl) _ _ _ _ (by rfl) _) (cnt 1 _ (by rfl) _ _ _ _ (by rfl) _) Bin.add) (Bin.mul (hb 2))) Bin.add) (.inl (by rfl)) Puts.new) ?_
        exact Ex.nil' (Sub.cons (by rfl) (Sub.cons (by rfl) Sub.nil))
    · have el : (intsTo (n : Int).toNat).length = n := by rw [intsTo_length]; simp
      show Ex _ [("pairs", Ent.dat (.int (unS t n (intsTo (n : Int).toNat).length))), ("ties", .dat (.lst (tiesD t n)))] _ _
      rw [el]
      exact Ex.ret (Ex1.ret Ev.name)
end Mine
end

section
open PySem PySem.W PyProof.Rows PySem.Builtin PySem.SeqAt
set_option Elab.async false
set_option maxRecDepth 100000
set_option linter.unusedVariables false
namespace Mine
theorem isI_any {w : World} {P : Addr → Prop} {h : Heap} (x : Int) {vs : List Value} {ns : List Int} (y : RpL w P h vs (ns.map .int)) : vs.any (isI x) = ns.any (· == x) := by
  induction ns generalizing vs with
  | nil => rw [RpL.nil_inv y]; rfl
  | cons n ns ih =>
    change (let G : Prop := _; G)
    intro G
    obtain ⟨u, vs', rfl, a, r⟩ := RpL.cons_inv y
    subst G
    cases a
    rw [List.any_cons, List.any_cons, ih r]; rfl
theorem Cmp.inTup {w : World} {q : Bool} {k : Nat} {ns : List Int} {x : Int} : Cmp w q k .In (.int x) (.tup (ns.map .int)) (.dat (.bool (ns.any (· == x)))) := OpL.two fun A P s _ _ rm B hp a b => by
  obtain ⟨t, rfl⟩ := Rp.inv a
  change (let G : Prop := _; G)
  intro G
  obtain ⟨l, vs, rfl, pa, la, xa⟩ := Rp.inv b
  subst G
  refine in_tupleAt (isI x) la.isTup (fun y hy => ?_) ?_
  · obtain ⟨b, u, rfl⟩ := xa.mem_int y (by simpa using hy)
    exact EqAt.int_int b u x t
  · rw [show vs.toArray.any (isI x) = ns.any (· == x) by rw [List.any_toArray]; exact isI_any x xa]
    exact Pst.here hp (.bool _)
theorem ok_tie : FnOk 16 ["nodes", "one", "other"] := by
  refine ⟨by rfl, by rfl, by rfl, by decide, ?_, cf_apart 16, ?_⟩
  · intro L x hx
    simp only [List.mem_cons, List.not_mem_nil, or_false] at hx
    rcases hx with rfl | rfl | rfl <;> exact .inl (by rfl)
  · rintro ⟨⟩ vs rfl rfl rfl hl
    change (let G : Prop := _; G)
    intro G
    obtain ⟨a, b, c, rfl⟩ := len3 hl
    subst G
    rfl
noncomputable def tone (k i j : Nat) : Nat := if k < 3 then k else if i - j = 1 ∨ i - j = 4 then (k - 2) % 3 else (k - 1) % 3
theorem wb_item {w : World} {q : Bool} {k : Nat} {u : List Nat} {i x : Nat} (hu : u[i]? = some x) (hx : x < 15) (hl : u.length ≤ 8) : ItemOp w q k (DatR w (.bytes (wb u))) (.int i) (.dat (.int (66 + x : Nat))) := by
  have hi : i < u.length := (List.getElem?_eq_some_iff.mp hu).1
  have h := ItemOp.bytes (w := w) (q := q) (k := k) (b := u.map fun i => (66 + i).toUInt8) (i := (i : Int)) (by rw [List.length_map]; (first | lia | omega)) (by (first | lia | omega)) (by rw [List.length_map]; (first | lia | omega))
  have e : (((u.map fun i => (66 + i).toUInt8).getD ((i : Int).toNat) 0).toNat : Int) = (66 + x : Nat) := by
    rw [Int.toNat_natCast, List.getD_eq_getElem?_getD, List.getElem?_map, hu]
    show (((66 + x).toUInt8).toNat : Int) = _
    have : ((66 + x).toUInt8).toNat = 66 + x := by
      simp [Nat.toUInt8, UInt8.toNat_ofNat']; (first | lia | omega)
    rw [this]
  rw [e] at h
  exact h
theorem pth_take_lt {p : List Nat} (hp : ∀ x ∈ p, x < 15) : ∀ m, pth (p.take m) < 16 ^ m
  | 0 => by simp [pth]
  | m + 1 => by
    have ih := pth_take_lt hp m
    rw [List.take_add_one]
    cases h : p[m]? with
    | none => simp only [Option.toList_none, List.append_nil]; rw [Nat.pow_succ]; (first | lia | omega)
    | some x =>
      have := hp x (List.mem_of_getElem? h)
      simp only [Option.toList_some]
      rw [pth_snoc, Nat.pow_succ]; (first | lia | omega)
theorem colB_index {w : World} {q : Bool} {k m : Nat} (hm : m < 3) : MthO w q k (DatR w (.lst [.bytes (colB 0), .bytes (colB 1), .bytes (colB 2)])) "list.index" [.bytes (colB m)] (.dat (.int m)) := by
  have : ∀ m : _root_.Fin 3, ([colB 0, colB 1, colB 2].getD m.val #[] = colB m.val) ∧ ∀ l : _root_.Fin 3, l.val < m.val → [colB 0, colB 1, colB 2].getD l.val #[] ≠ colB m.val := by decide +kernel
  obtain ⟨h1, h2⟩ := this ⟨m, hm⟩
  exact MthO.indexB (ns := [colB 0, colB 1, colB 2]) (by show m < 3; exact hm) (by decide) h1 fun l hl => h2 ⟨l, by (first | lia | omega)⟩ hl
theorem tie_fn {w : World} {q : Bool} {k : Nat} {es : List (Int × D)} {p u v : List Nat} {i j kd : Nat} (hp : ∀ x ∈ p, x < 15) (hi : i < 5) (hj : j < i) (hl1 : (p ++ i :: u).length ≤ 8) (hl2 : (p ++ j :: v).length ≤ 8) (hk : kd < 6) (hk2 : kd < 3 → i < 2) (hn : dget es (pth p) = some (.tup ((names kd).map .bytes))) :
    Fn w q (k + 1) 111 [.dct es, .bytes (wb (p ++ i :: u)), .bytes (wb (p ++ j :: v))] (.int (tone kd i j)) :=
  Fn.intro (by decide : (("_law_tie" : Str), 111, 16) ∈ fnTab) ok_tie rfl fun L qn cd => by
    have hg : ∀ (r : List Nat) (m x : Nat), m < p.length → p[m]? = some x → (p ++ r)[m]? = some x := fun r m x hm hx => by rw [List.getElem?_append_left hm]; exact hx
    have hpl : p.length ≤ 8 := by simp at hl1; (first | lia | omega)
    refine Ex.cons (Ex1.assign Ev.int (.inl (by rfl)) Puts.new) ?_
    refine Ex.cons (Ex1.assign Ev.int (.inl (by rfl)) Puts.new) ?_
    refine Ex.cons (Ex1.while' (fun m => [("path", .dat (.int (pth (p.take m)))), ("k", .dat (.int m)), ("nodes", .dat (.dct es)), ("one", .dat (.bytes (wb (p ++ i :: u)))), ("other", .dat (.bytes (wb (p ++ j :: v))))]) p.length none
      (Sub.cons (by rfl) (Sub.cons (by rfl) (Sub.cons (by rfl) (Sub.cons (by rfl) (Sub.cons (by rfl) Sub.nil))))) (fun m hm => ?_) ⟨fun _ => ?_, fun d h => nomatch h⟩) ?_
    · have hx : p[m]? = some p[m] := List.getElem?_eq_getElem hm
      have hlt : p[m] < 15 := hp _ (List.getElem_mem hm)
      refine ⟨Tst.eq (Tst.cmp (Ev.item (EvR.rcv Ev.name) DatR.stb Ev.name (wb_item (hg _ m _ hm hx) hlt hl1)) (Ev.item (EvR.rcv Ev.name) DatR.stb Ev.name (wb_item (hg _ m _ hm hx) hlt hl2)) Cmp.eq) (by simp), ?_⟩
      have hsmall : Builtin.Int.intBits (16 : Int) ≤ 64 := by decide
      refine Ex.cons (Ex1.assign (Ev.bin (Ev.bin (Ev.bin Ev.name Ev.int (Bin.mul ?_)) (Ev.item (EvR.rcv Ev.name) DatR.stb Ev.name (wb_item (hg _ m _ hm hx) hlt hl1)) Bin.add) Ev.int Bin.sub) (.inl (by rfl)) Puts.new) ?_
      · have h1 := pth_take_lt hp m
        have h2 : 16 ^ m ≤ 16 ^ 8 := Nat.pow_le_pow_right (by decide) (by (first | lia | omega))
        exact PySem.intBits_le_64 (by (first | lia | omega)) (by (first | lia | omega))
      refine Ex.cons (Ex1.assign (Ev.bin Ev.name Ev.int Bin.add) (.inl (by rfl)) Puts.new) ?_
      have e : (pth (p.take m) : Int) * 16 + (66 + p[m] : Nat) - 65 = (pth (p.take (m + 1)) : Nat) := by
        rw [List.take_add_one, hx]
        show _ = ((pth (p.take m ++ [p[m]]) : Nat) : Int)
        rw [pth_snoc]; (first | lia | omega)
      rw [e]
      exact Ex.nil' (Sub.cons (by rfl) (Sub.cons (by rfl) (Sub.cons (by rfl) (Sub.cons (by rfl) (Sub.cons (by rfl) Sub.nil)))))
    · have h1 : (p ++ i :: u)[p.length]? = some i := by simp
      have h2 : (p ++ j :: v)[p.length]? = some j := by simp
      refine Tst.eq (Tst.cmp (Ev.item (EvR.rcv Ev.name) DatR.stb Ev.name (wb_item h1 (by (first | lia | omega)) hl1)) (Ev.item (EvR.rcv Ev.name) DatR.stb Ev.name (wb_item h2 (by (first | lia | omega)) hl2)) Cmp.eq) ?_
      rw [beq_eq_false_iff_ne]; (first | lia | omega)
    · have h1 : (p ++ i :: u)[p.length]? = some i := by simp
      have h2 : (p ++ j :: v)[p.length]? = some j := by simp
      rw [List.take_of_length_le (Nat.le_refl _)]
      refine Ex.cons (Ex1.assign (Ev.item (EvR.rcv Ev.name) DatR.stb Ev.name (ItemOp.dct hn)) (.inl (by rfl)) Puts.new) ?_
      have hts : ∀ σ', List.lookup ("one" : Str) σ' = some (Ent.dat (.bytes (wb (p ++ i :: u)))) → List.lookup ("other" : Str) σ' = some (Ent.dat (.bytes (wb (p ++ j :: v)))) → List.lookup ("k" : Str) σ' = some (Ent.dat (.int p.length)) →
          ∀ p1 p2 p3 p4 p5 p6 p7 p8 p9 p10 p11 p12 p13 k1 k2 k3, Tst ⟨w, q, k, fenv 16 L 111 qn cd⟩ σ' (.Compare (.Call (.Name "abs" p1) [.BinOp (.Subscript (.Name "one" p2) (.Name "k" p3) p4) .Sub (.Subscript (.Name "other" p5) (.Name "k" p6) p7) p8] [] p9) [.In] [.Tuple [.Constant (.int 1) k1 p10, .Constant (.int 4) k2 p11] k3 p12] p13) (decide (i - j = 1 ∨ i - j = 4)) := fun σ' e1 e2 e3 p1 p2 p3 p4 p5 p6 p7 p8 p9 p10 p11 p12 p13 k1 k2 k3 => by
        refine Tst.eq (Tst.cmp (Ev.callB (EvL.cons (Ev.bin (Ev.item (EvR.rcv (Ev.name e1)) DatR.stb (Ev.name e3) (wb_item h1 (by (first | lia | omega)) hl1)) (Ev.item (EvR.rcv (Ev.name e2)) DatR.stb (Ev.name e3) (wb_item h2 (by (first | lia | omega)) hl2)) Bin.sub) EvL.nil) Bi.abs (by rfl) (by decide) (by decide +kernel)) (Ev.tuple (EvL.cons Ev.int (EvL.cons Ev.int EvL.nil)) (by decide)) (Cmp.inTup (ns := [1, 4]))) ?_
        have e : (if ((66 + i : Nat) : Int) - (66 + j : Nat) < 0 then -(((66 + i : Nat) : Int) - (66 + j : Nat)) else ((66 + i : Nat) : Int) - (66 + j : Nat)) = (i - j : Nat) := by
          rw [if_neg (by (first | lia | omega))]; (first | lia | omega)
        rw [e]
        simp only [List.any_cons, List.any_nil, Bool.or_false]
        by_cases c1 : i - j = 1
        · simp [c1]
        · by_cases c4 : i - j = 4
          · simp [c4]
          · have q1 : ((1 : Int) == (i - j : Nat)) = false := by rw [beq_eq_false_iff_ne]; (first | lia | omega)
            have q4 : ((4 : Int) == (i - j : Nat)) = false := by rw [beq_eq_false_iff_ne]; (first | lia | omega)
            rw [q1, q4]; simp [c1, c4]
      have ht : tone kd i j < 3 := by unfold tone; split <;> (try split) <;> (first | lia | omega)
      have fin : ∀ σ', List.lookup ("name" : Str) σ' = some (Ent.dat (.bytes (colB (tone kd i j)))) → ∀ p1 p2 p3 p4 p5 p6 p7 p8 k1 k2 k3, (p5.endLine == p7.line) = true → Ex ⟨w, q, k, fenv 16 L 111 qn cd⟩ σ' [.Return (some (.Call (.Attribute (.List [.Constant (.bytes [114, 101, 100]) k1 p1, .Constant (.bytes [103, 114, 101, 101, 110]) k2 p2, .Constant (.bytes [98, 108, 117, 101]) k3 p3] p4) "index" p5) [.Name "name" p6] [] p7)) p8] (.ret (.int (tone kd i j))) := fun σ' e p1 p2 p3 p4 p5 p6 p7 p8 k1 k2 k3 hl => by
        refine Ex.ret (Ex1.ret (Ev.meth1 (EvR.rcv (EvR.freeze (EvR.list (EvL.cons Ev.bytes (EvL.cons Ev.bytes (EvL.cons Ev.bytes EvL.nil)))))) DatR.stb (Ev.name e) PySem.F.plainAttrs_list PySem.F.slot_list_index PySem.F.type_list_index OfT.lst (colB_index ht) rfl hl rfl))
      by_cases hc : i - j = 1 ∨ i - j = 4
      · have hget : ((names kd).map D.bytes)[(0 : Int).toNat]? = some (.bytes (colB (tone kd i j))) := by
          unfold names tone
          by_cases h3 : kd < 3
          · rw [if_pos h3, if_pos h3]; rfl
          · rw [if_neg h3, if_neg h3, if_pos hc]; rfl
        exact Ex.cons (Ex1.assign (Ev.iteT (Tst.eq (hts _ (by rfl) (by rfl) (by rfl) _ _ _ _ _ _ _ _ _ _ _ _ _ _ _ _) (by simpa using hc)) (Ev.item (EvR.rcv Ev.name) DatR.stb Ev.int (ItemOp.tup (by decide) (by decide) hget))) (.inl (by rfl)) Puts.new) (fin _ (by rfl) _ _ _ _ _ _ _ _ _ _ _ (by rfl))
      · have h3 : ¬ kd < 3 := fun h => by have := hk2 h; (first | lia | omega)
        have hget : ((names kd).map D.bytes)[(1 : Int).toNat]? = some (.bytes (colB (tone kd i j))) := by
          unfold names tone
          rw [if_neg h3, if_neg h3, if_neg hc]; rfl
        exact Ex.cons (Ex1.assign (Ev.iteF (Tst.eq (hts _ (by rfl) (by rfl) (by rfl) _ _ _ _ _ _ _ _ _ _ _ _ _ _ _ _) (by simpa using hc)) (Ev.item (EvR.rcv Ev.name) DatR.stb Ev.int (ItemOp.tup (by decide) (by decide) hget))) (.inl (by rfl)) Puts.new) (fin _ (by rfl) _ _ _ _ _ _ _ _ _ _ _ (by rfl))
end Mine
end

section
open PySem PySem.W PyProof.Rows PySem.Builtin PySem.SeqAt
set_option Elab.async false
set_option maxRecDepth 100000
set_option linter.unusedVariables false
namespace Mine
section
variable {w : World} {q : Bool} {k : Nat}
theorem isB_any {P : Addr → Prop} {h : Heap} (x : Array UInt8) {vs : List Value} {ns : List (Array UInt8)} (y : RpL w P h vs (ns.map .bytes)) : vs.any (isB x) = ns.any (fun b => b.toList == x.toList) := by
  induction ns generalizing vs with
  | nil => rw [RpL.nil_inv y]; rfl
  | cons n ns ih =>
    change (let G : Prop := _; G)
    intro G
    obtain ⟨u, vs', rfl, a, r⟩ := RpL.cons_inv y
    subst G
    cases a
    rw [List.any_cons, List.any_cons, ih r]; rfl
theorem Cmp.inTupB {ns : List (Array UInt8)} {x : Array UInt8} : Cmp w q k .In (.bytes x) (.tup (ns.map .bytes)) (.dat (.bool (ns.any fun b => b.toList == x.toList))) := OpL.two fun A P s _ _ rm B hp a b => by
  obtain ⟨t, rfl⟩ := Rp.inv a
  change (let G : Prop := _; G)
  intro G
  obtain ⟨l, vs, rfl, pa, la, xa⟩ := Rp.inv b
  subst G
  refine in_tupleAt (isB x) la.isTup (fun y hy => ?_) ?_
  · obtain ⟨b, u, rfl⟩ := xa.mem_bytes y (by simpa using hy)
    exact eqAt_bytes
  · rw [show vs.toArray.any (isB x) = ns.any (fun b => b.toList == x.toList) by rw [List.any_toArray]; exact isB_any x xa]
    exact Pst.here hp (.bool _)
theorem Cmp.neNil {ds : List D} : Cmp w q k .NotEq (.lst ds) (.lst []) (.dat (.bool (!ds.isEmpty))) := OpL.two fun A P s _ _ rm B hp a b => by
  change (let G : Prop := _; G)
  intro G
  obtain ⟨l, vs, rfl, pa, la, xa⟩ := Rp.inv a
  subst G
  change (let G : Prop := _; G)
  intro G
  obtain ⟨m, us, rfl, pb, lb, xb⟩ := Rp.inv b
  subst G
  have hl := xa.length
  have hm := xb.length
  have hu : A.units < cLine := by have := rm.units; (first | lia | omega)
  show wpAny _ A (richCompare .NotEq (.ref l) (.ref m)) _ _ s
  cases ds with
  | nil =>
    have e1 : vs = [] := List.eq_nil_of_length_eq_zero hl
    have e2 : us = [] := List.eq_nil_of_length_eq_zero hm
    subst e1 e2
    exact RcNeAt.lists (e := fun _ => true) la.isList lb.isList rfl hu (fun j h1 => by cases h1) prg w NoE _ (Pst.here hp (.bool _))
  | cons d ds =>
    refine RcNeAt.lists_lengths la.isList lb.isList ?_ hu prg w NoE _ (Pst.here hp (.bool _))
    rw [List.size_toArray, List.size_toArray, hl, hm]; rfl
theorem Cmp.neSame {ns : List (Array UInt8)} : Cmp w q k .NotEq (.lst (ns.map .bytes)) (.lst (ns.map .bytes)) (.dat (.bool false)) := OpL.two fun A P s _ _ rm B hp a b => by
  change (let G : Prop := _; G)
  intro G
  obtain ⟨l, vs, rfl, pa, la, xa⟩ := Rp.inv a
  subst G
  change (let G : Prop := _; G)
  intro G
  obtain ⟨m, us, rfl, pb, lb, xb⟩ := Rp.inv b
  subst G
  have hl := xa.length
  have hm := xb.length
  have hu : A.units < cLine := by have := rm.units; (first | lia | omega)
  show wpAny _ A (richCompare .NotEq (.ref l) (.ref m)) _ _ s
  have hall : (!(List.range vs.toArray.size).all fun _ => true) = false := by simp
  refine RcNeAt.lists (e := fun _ => true) la.isList lb.isList (by rw [List.size_toArray, List.size_toArray]; (first | lia | omega)) hu (fun j h1 h2 => ?_) prg w NoE _ (by rw [hall]; exact Pst.here hp (.bool _))
  have j1 : j < vs.length := by simpa using h1
  have j2 : j < us.length := by simpa using h2
  obtain ⟨d, hd, r1⟩ := xa.get' (List.getElem?_eq_getElem j1)
  obtain ⟨d', hd', r2⟩ := xb.get' (List.getElem?_eq_getElem j2)
  rw [hd] at hd'; cases hd'
  rw [List.getElem?_map] at hd
  cases hn : ns[j]? with
  | none => rw [hn] at hd; cases hd
  | some n =>
    rw [hn] at hd
    cases hd
    simp only [List.getElem_toArray]
    generalize vs[j] = v at *
    generalize us[j] = u at *
    obtain ⟨t1, rfl⟩ := Rp.inv r1
    obtain ⟨t2, rfl⟩ := Rp.inv r2
    have := eqAt_bytes (A := A.in1) (s := s) (b := n) (b' := n) (t := t1) (u := t2)
    simpa using this
theorem Cmp.isNotB {a b : Bool} : Cmp w q k .IsNot (.bool a) (.bool b) (.dat (.bool (!(a == b)))) := OpL.two fun A P s _ _ rm B hp x y => by
  obtain ⟨_, rfl⟩ := Rp.inv x; obtain ⟨_, rfl⟩ := Rp.inv y
  refine wpAny_isNot_plain rfl ?_
  have : (!(Value.bool a == Value.bool b)) = !(a == b) := by cases a <;> cases b <;> rfl
  rw [this]
  exact Pst.here hp (.bool _)
theorem Cmp.eqB {a b : Bool} : Cmp w q k .Eq (.bool a) (.bool b) (.dat (.bool (a == b))) := OpL.two fun A P s _ _ rm B hp x y => by
  obtain ⟨_, rfl⟩ := Rp.inv x; obtain ⟨_, rfl⟩ := Rp.inv y
  exact RcAt.bool_bool a b prg w NoE _ (Pst.here hp (.bool _))
theorem ItemOp.paren {i : Nat} (hi : i < 2) : ItemOp w q k (DatR w (.str "()")) (.int i) (.dat (.str ⟨#[40 + i]⟩)) := fun A P s v₁ v₂ rm B hp x y => by
  obtain ⟨_, rfl⟩ := Rp.inv x; obtain ⟨_, rfl⟩ := Rp.inv y
  match i, hi with
  | 0, _ => exact ⟨⟨_, _, typeIs_str _ _ _, PySem.F.slot_str_getitem.lookup⟩, PySem.P.getItem_str (by decide) (by rfl) (Pst.now hp (.str _ _))⟩
  | 1, _ => exact ⟨⟨_, _, typeIs_str _ _ _, PySem.F.slot_str_getitem.lookup⟩, PySem.P.getItem_str (by decide) (by rfl) (Pst.now hp (.str _ _))⟩
end
end Mine
end

section
open PySem PySem.W PyProof.Rows PySem.Builtin PySem.SeqAt
set_option Elab.async false
set_option maxRecDepth 100000
set_option linter.unusedVariables false
namespace Mine
section
variable {w : World} {A : Around} {E : Value → Shared → Prop} {s : Shared} {t : Tok} {b : Array UInt8}
theorem buf_eq {id : String} {full : Bool} : Bytes.buffer? id (.bytes b t) full = pure (some b) := by
  unfold Bytes.buffer?
  rw [KBy.special_eq KBy.look_buffer, KBy.own_buffer, KBy.own_release]
  kernel_rfl
theorem take_eq {id : String} {fl : Int} : Bytes.takeBufferQuiet? id (.bytes b t) fl = pure (some (b, none)) := by
  unfold Bytes.takeBufferQuiet? Bytes.takeBuffer?
  rw [KBy.special_eq KBy.look_buffer, KBy.own_buffer]
  simp only [buf_eq]
  kernel_rfl
theorem wp_join1 {Q : Value → Shared → Prop} {a : Addr} {x : Array UInt8} {u : Tok} (ha : PTup s.heap a [.bytes x u]) (h : Q (.bytes x u) s) : wpAny (model prg w) A (call (.builtin "bytes.join") [.bytes b t, .ref a]) Q E s := by
  obtain ⟨n, ho⟩ := ha
  refine wpAny_call_entry slot_bytes_join (PySem.W.typeIs_bytes _ _ _) entry_bytes_join ?_ (args_bytes_join _ _)
  show wpAny _ _ (Bytes.joinM .bytes ⟨[.bytes b t, .ref a], []⟩) _ _ s
  unfold Bytes.joinM
  dsimp only
  refine wpAny_bind (wpAny_of_eq (a := (.bytes b t, .ref a)) (by rfl) ?_)
  dsimp only
  rw [if_pos (by rfl)]
  refine wpAny_bind (m := Bytes.joinItems (.ref a)) ?_
  unfold Bytes.joinItems
  refine wpAny_bind (wpAny_typeOf (T := "tuple") ⟨_, ho, rfl⟩ ?_)
  rw [if_pos (by rfl)]
  refine wpAny_pure ?_
  show wpAny _ _ (seqItems? (.ref a) >>= _) _ _ s
  refine wpAny_bind ?_
  show wpAny _ _ (load a >>= _) _ _ s
  refine wpAny_bind (wpAny_load ho (wpAny_pure ?_))
  dsimp only
  rw [if_pos (by rfl)]
  refine wpAny_bind (wpAny_typeOf (PySem.W.typeIs_bytes _ _ _) ?_)
  rw [if_pos (by rfl)]
  exact wpAny_bind (wpAny_rule (wpAny_pure ⟨_, rfl, h⟩))
theorem wp_join2 {Q : Value → Shared → Prop} {a : Addr} {x y : Array UInt8} {u v : Tok} (ha : PTup s.heap a [.bytes x u, .bytes y v]) (hz : x.size + y.size + b.size ≤ 1000) (h : ∀ t' k, Q (.bytes (x ++ b ++ y) t') { s with toks := k }) : wpAny (model prg w) A (call (.builtin "bytes.join") [.bytes b t, .ref a]) Q E s := by
  obtain ⟨n, ho⟩ := ha
  refine wpAny_call_entry slot_bytes_join (PySem.W.typeIs_bytes _ _ _) entry_bytes_join ?_ (args_bytes_join _ _)
  show wpAny _ _ (Bytes.joinM .bytes ⟨[.bytes b t, .ref a], []⟩) _ _ s
  unfold Bytes.joinM
  dsimp only
  refine wpAny_bind (wpAny_of_eq (a := (.bytes b t, .ref a)) (by rfl) ?_)
  dsimp only
  rw [if_pos (by rfl)]
  refine wpAny_bind (m := Bytes.joinItems (.ref a)) ?_
  unfold Bytes.joinItems
  refine wpAny_bind (wpAny_typeOf (T := "tuple") ⟨_, ho, rfl⟩ ?_)
  rw [if_pos (by rfl)]
  refine wpAny_pure ?_
  show wpAny _ _ (seqItems? (.ref a) >>= _) _ _ s
  refine wpAny_bind ?_
  show wpAny _ _ (load a >>= _) _ _ s
  refine wpAny_bind (wpAny_load ho (wpAny_pure ?_))
  dsimp only
  rw [if_pos (by rfl)]
  change wpAny _ _ (forIn _ _ _ >>= _) _ _ s
  rw [Std.Legacy.Range.forIn_eq_forIn_range']
  have hr : List.range' ([:(#[Value.bytes x u, Value.bytes y v] : Array Value).size] : Std.Legacy.Range).start ([:(#[Value.bytes x u, Value.bytes y v] : Array Value).size] : Std.Legacy.Range).size ([:(#[Value.bytes x u, Value.bytes y v] : Array Value).size] : Std.Legacy.Range).step = [0, 1] := by simp [Std.Legacy.Range.size, List.range']
  rw [hr]
  have hsi : ∀ (Q' : Option (Array Value) → Shared → Prop), Q' (some #[.bytes x u, .bytes y v]) s → wpAny (model prg w) A.in1 (seqItems? (.ref a)) Q' E s := fun Q' hq => by
    show wpAny _ _ (load a >>= _) _ _ s
    exact wpAny_bind (wpAny_load ho (wpAny_pure hq))
  refine wpAny_bind ?_
  rw [List.forIn_cons]
  refine wpAny_bind ?_
  refine wpAny_bind (hsi _ ?_)
  dsimp only
  rw [if_neg (by exact Bool.false_ne_true)]
  refine wpAny_bind (wpAny_holding (wpAny_of_eq (take_eq (b := x) (t := u)) ?_))
  dsimp only
  refine wpAny_bind (hsi _ ?_)
  dsimp only
  rw [if_neg (by exact Bool.false_ne_true)]
  refine wpAny_pure ?_
  dsimp only
  rw [List.forIn_cons]
  refine wpAny_bind ?_
  refine wpAny_bind (hsi _ ?_)
  dsimp only
  rw [if_neg (by exact Bool.false_ne_true)]
  refine wpAny_bind (wpAny_holding (wpAny_of_eq (take_eq (b := y) (t := v)) ?_))
  dsimp only
  refine wpAny_bind (hsi _ ?_)
  dsimp only
  rw [if_neg (by exact Bool.false_ne_true)]
  refine wpAny_pure ?_
  dsimp only
  rw [List.forIn_nil]
  refine wpAny_pure ?_
  refine wpAny_bind (wpAny_of_eq (a := b) (by rfl) ?_)
  have hsz : Array.foldl (fun x1 x2 => x1 + x2.size) (b.size * 1) #[x, y] ≤ 16777216 := by
    show b.size * 1 + x.size + y.size ≤ _
    (first | lia | omega)
  rw [if_neg (by
    show ¬ (Bytes.tooLong (Array.foldl (fun x1 x2 => x1 + x2.size) (b.size * 1) #[x, y])) = true
    rw [KBy.tooLong_not hsz]; decide)]
  have hj : Bytes.joined b [x, y] = x ++ b ++ y := by
    show ((#[] ++ x) ++ b) ++ y = _
    rw [Array.empty_append]
  refine wpAny_bind (m := Bytes.Kind.bytes.new _) ?_
  show wpAny _ _ (mkBytes (Bytes.joined b [x, y])) _ _ s
  rw [hj]
  refine wpAny_mkBytes ?_ (by rw [Array.size_append, Array.size_append, sizeLine_eq]; (first | lia | omega))
  refine wpAny_bind (wpAny_holding (wpAny_point ?_))
  have lg : ∀ (x y z : Value) (Q' : Unit → Shared → Prop) (s' : Shared), Q' () s' → wpAny (model prg w) A.in1 (Bytes.joinLetGo [(x, none), (y, none)] [z]) Q' E s' := fun x y z Q' s' hq => by
    unfold Bytes.joinLetGo
    dsimp only
    refine wpAny_bind (wpAny_letGo ?_)
    unfold Bytes.joinLetGo
    dsimp only
    refine wpAny_bind (wpAny_letGo ?_)
    unfold Bytes.joinLetGo
    exact wpAny_pure hq
  refine wpAny_bind ?_
  exact lg _ _ _ _ _ (wpAny_pure ⟨_, rfl, h _ _⟩)
end
theorem MthO.join {w : World} {q : Bool} {k m : Nat} (hm : m < 6) : MthO w q k (DatR w (.bytes #[32])) "bytes.join" [.tup ((names m).map .bytes)] (.dat (.bytes (told m))) := fun A P s v vs rm B hp hv hvs => by
  cases hv
  cases hvs with | cons a r =>
  cases r
  change (let G : Prop := _; G)
  intro G
  obtain ⟨l, us, rfl, pa, la, xa⟩ := Rp.inv a
  subst G
  have hb : ∀ j, (colB j).size ≤ 5 := fun j => by
    match j with
    | 0 => decide
    | 1 => decide
    | j + 2 => show (colB 2).size ≤ 5; decide
  by_cases h3 : m < 3
  · have hn : names m = [colB m] := by unfold names; rw [if_pos h3]
    have ht : told m = colB m := by unfold told; rw [hn]
    rw [hn] at xa
    rw [ht]
    cases xa with | cons a r =>
    cases r
    obtain ⟨t1, rfl⟩ := Rp.inv a
    exact wp_join1 la (Pst.here hp (.bytes _ _))
  · have hn : names m = [colB ((m - 2) % 3), colB ((m - 1) % 3)] := by unfold names; rw [if_neg h3]
    have ht : told m = colB ((m - 2) % 3) ++ #[32] ++ colB ((m - 1) % 3) := by unfold told; rw [hn]
    rw [hn] at xa
    rw [ht]
    cases xa with | cons a r =>
    cases r with | cons a2 r =>
    cases r
    obtain ⟨t1, rfl⟩ := Rp.inv a
    obtain ⟨t2, rfl⟩ := Rp.inv a2
    exact wp_join2 la (by have h1 := hb ((m - 2) % 3); have h2 := hb ((m - 1) % 3); show _ + _ + 1 ≤ 1000; (first | lia | omega)) fun t' k' => Pst.now hp (.bytes _ _)
end Mine
end

section
open PySem PySem.W PyProof.Rows PySem.Builtin
set_option Elab.async false
set_option maxRecDepth 100000
set_option linter.unusedVariables false
namespace Mine
mutual
inductive T where
  | leaf
  | node (k : Nat) (cs : TL)
inductive TL where
  | nil
  | cons (t : T) (r : TL)
end
noncomputable def sz (k : Nat) : Nat := if k < 3 then 2 else 5
noncomputable def TL.len : TL → Nat
  | .nil => 0
  | .cons _ r => r.len + 1
mutual
noncomputable def T.ht : T → Nat
  | .leaf => 0
  | .node _ cs => cs.ht + 1
noncomputable def TL.ht : TL → Nat
  | .nil => 0
  | .cons t r => max t.ht r.ht
end
mutual
noncomputable def T.wf : T → Prop
  | .leaf => True
  | .node k cs => k < 6 ∧ cs.len = sz k ∧ cs.wf
noncomputable def TL.wf : TL → Prop
  | .nil => True
  | .cons t r => t.wf ∧ r.wf
end
mutual
noncomputable def T.tok : T → Nat → List Tk
  | .leaf, d => [.es (40 + d % 2)]
  | .node _ cs, _ => .ch 40 :: (cs.tok 0 ++ [.ch 41])
noncomputable def TL.tok : TL → Nat → List Tk
  | .nil, _ => []
  | .cons t r, i => t.tok (i + 1) ++ r.tok (i + 1)
end
mutual
noncomputable def T.reps : T → List Nat
  | .leaf => []
  | .node k cs => cs.reps ++ [k]
noncomputable def TL.reps : TL → List Nat
  | .nil => []
  | .cons t r => t.reps ++ r.reps
end
mutual
noncomputable def T.lvs : T → List Nat → List (List Nat)
  | .leaf, w => [w]
  | .node _ cs, w => cs.lvs w 0
noncomputable def TL.lvs : TL → List Nat → Nat → List (List Nat)
  | .nil, _, _ => []
  | .cons t r, w, i => t.lvs (w ++ [i]) ++ r.lvs w (i + 1)
end
mutual
noncomputable def T.nds : T → List Nat → List (List Nat × Nat)
  | .leaf, _ => []
  | .node k cs, w => cs.nds w 0 ++ [(w, k)]
noncomputable def TL.nds : TL → List Nat → Nat → List (List Nat × Nat)
  | .nil, _, _ => []
  | .cons t r, w, i => t.nds (w ++ [i]) ++ r.nds w (i + 1)
end
mutual
noncomputable def T.In (es : List (Int × D)) : T → List Nat → Prop
  | .leaf, w => dget es (pth w) = none
  | .node k cs, w => dget es (pth w) = some (.int k) ∧ TL.In es cs w 0
noncomputable def TL.In (es : List (Int × D)) : TL → List Nat → Nat → Prop
  | .nil, _, _ => True
  | .cons t r, w, i => T.In es t (w ++ [i]) ∧ TL.In es r w (i + 1)
end
noncomputable def TL.get? : TL → Nat → Option T
  | .nil, _ => none
  | .cons t _, 0 => some t
  | .cons _ r, n + 1 => r.get? n
noncomputable def TL.tokTo : TL → Nat → Nat → List Tk
  | _, _, 0 => []
  | .nil, _, _ => []
  | .cons t r, i, j + 1 => t.tok (i + 1) ++ r.tokTo (i + 1) j
noncomputable def TL.repsTo : TL → Nat → List Nat
  | _, 0 => []
  | .nil, _ => []
  | .cons t r, j + 1 => t.reps ++ r.repsTo j
theorem TL.tokTo_len : ∀ (cs : TL) (i : Nat), cs.tokTo i cs.len = cs.tok i
  | .nil, i => by simp [TL.len, TL.tokTo, TL.tok]
  | .cons t r, i => by rw [TL.len, TL.tokTo, TL.tok, TL.tokTo_len r]
theorem TL.repsTo_len : ∀ (cs : TL), cs.repsTo cs.len = cs.reps
  | .nil => by simp [TL.len, TL.repsTo, TL.reps]
  | .cons t r => by rw [TL.len, TL.repsTo, TL.reps, TL.repsTo_len r]
theorem TL.tokTo_succ : ∀ (cs : TL) (i j : Nat) (t : T), cs.get? j = some t → cs.tokTo i (j + 1) = cs.tokTo i j ++ t.tok (i + j + 1)
  | .nil, _, _, _, h => by cases h
  | .cons t r, i, 0, u, h => by
    cases h
    simp [TL.tokTo]
  | .cons t r, i, j + 1, u, h => by
    have := TL.tokTo_succ r (i + 1) j u h
    rw [TL.tokTo, this, TL.tokTo]
    rw [show i + 1 + j + 1 = i + (j + 1) + 1 by (first | lia | omega), List.append_assoc]
theorem TL.repsTo_succ : ∀ (cs : TL) (j : Nat) (t : T), cs.get? j = some t → cs.repsTo (j + 1) = cs.repsTo j ++ t.reps
  | .nil, _, _, h => by cases h
  | .cons t r, 0, u, h => by
    cases h
    simp [TL.repsTo]
  | .cons t r, j + 1, u, h => by
    have := TL.repsTo_succ r j u h
    rw [TL.repsTo, this, TL.repsTo, List.append_assoc]
theorem TL.get_some : ∀ (cs : TL) (j : Nat), j < cs.len → ∃ t, cs.get? j = some t
  | .nil, j, h => by simp [TL.len] at h
  | .cons t r, 0, _ => ⟨t, rfl⟩
  | .cons t r, j + 1, h => TL.get_some r j (by simpa [TL.len] using h)
theorem TL.get_in {es : List (Int × D)} {w : List Nat} : ∀ (cs : TL) (i j : Nat) (t : T), TL.In es cs w i → cs.get? j = some t → T.In es t (w ++ [i + j])
  | .nil, _, _, _, _, h => by cases h
  | .cons t r, i, 0, u, hi, h => by cases h; exact hi.1
  | .cons t r, i, j + 1, u, hi, h => by
    have := TL.get_in r (i + 1) j u hi.2 h
    rwa [show i + 1 + j = i + (j + 1) by (first | lia | omega)] at this
theorem TL.get_wf : ∀ (cs : TL) (j : Nat) (t : T), cs.wf → cs.get? j = some t → t.wf
  | .nil, _, _, _, h => by cases h
  | .cons t r, 0, u, hw, h => by cases h; exact hw.1
  | .cons t r, j + 1, u, hw, h => TL.get_wf r j u hw.2 h
theorem TL.get_ht : ∀ (cs : TL) (j : Nat) (t : T), cs.get? j = some t → t.ht ≤ cs.ht
  | .nil, _, _, h => by cases h
  | .cons t r, 0, u, h => by cases h; exact Nat.le_max_left _ _
  | .cons t r, j + 1, u, h => Nat.le_trans (TL.get_ht r j u h) (Nat.le_max_right _ _)
end Mine
end

section
open PySem PySem.W PyProof.Rows PySem.Builtin
set_option Elab.async false
set_option maxRecDepth 100000
set_option linter.unusedVariables false
namespace Mine
theorem ok_write : FnOk 14 ["kinds", "path"] := by
  refine ⟨by rfl, by rfl, by rfl, by decide, ?_, cf_apart 14, ?_⟩
  · intro L x hx
    simp only [List.mem_cons, List.not_mem_nil, or_false] at hx
    rcases hx with rfl | rfl <;> exact .inl (by rfl)
  · rintro ⟨⟩ vs rfl rfl rfl hl
    obtain ⟨a, b, rfl⟩ := len2 hl
    rfl
theorem txt_app (a b : List Tk) : (txt a ++ txt b : Str) = txt (a ++ b) := by
  show Str.mk _ = Str.mk _
  congr 1
  simp [txt]
noncomputable def repD (t : List Nat) : List D := t.map fun k => .bytes (rb k)
theorem write_leaf {w : World} {q : Bool} {k : Nat} {es : List (Int × D)} {ws : List Nat} {d : Nat} (h : dget es (pth ws) = none) (hd : pth ws % 2 = d % 2) : Fn w q (k + 1) 97 [.dct es, .int (pth ws)] (.tup [.str (txt (T.leaf.tok d)), .lst (repD T.leaf.reps)]) :=
  Fn.intro (by decide : (("_law_write" : Str), 97, 14) ∈ fnTab) ok_write rfl fun L qn cd => by
    have e : (pth ws : Int).fmod 2 = (pth ws % 2 : Nat) := by rw [Int.fmod_eq_emod_of_nonneg _ (by decide)]; (first | lia | omega)
    have hi : pth ws % 2 < 2 := Nat.mod_lt _ (by decide)
    refine Ex.ret (Ex1.ifT (Tst.eq (Tst.cmp Ev.name Ev.name Cmp.notInD) (by rw [h]; rfl)) (Ex.ret (Ex1.ret ?_)))
    have e2 : ((("\\" : Str) ++ (⟨#[40 + pth ws % 2]⟩ : Str) : Str)) = txt (T.leaf.tok d) := by
      rw [hd]; rfl
    rw [← e2]
    have it : ∀ p1 p2 p3 p4 p5 k1 k2, Ev ⟨w, q, k, fenv 14 L 97 qn cd⟩ [("kinds", .dat (.dct es)), ("path", .dat (.int (pth ws)))] (.Subscript (.Constant (.str "()") k1 p1) (.BinOp (.Name "path" p2) .Mod (.Constant (.int 2) k2 p3) p4) p5) (.str ⟨#[40 + pth ws % 2]⟩) := fun p1 p2 p3 p4 p5 k1 k2 => by
      have hb := Ev.bin (c := ⟨w, q, k, fenv 14 L 97 qn cd⟩) (σ := [("kinds", .dat (.dct es)), ("path", .dat (.int (pth ws)))]) (p := p4) (Ev.name (x := "path") (p := p2)) (Ev.int (i := 2) (k := k2) (p := p3)) (Bin.mod (by decide))
      rw [e] at hb
      exact Ev.item (EvR.rcv Ev.str) DatR.stb hb (ItemOp.paren hi)
    exact Ev.tuple (EvL.cons (Ev.bin Ev.str (it _ _ _ _ _ _ _) (Bin.adds (by show 1 + 1 ≤ _; decide))) (EvL.cons (EvR.freeze (EvR.list EvL.nil)) EvL.nil))
end Mine
end

section
open PySem PySem.W PyProof.Rows PySem.Builtin
set_option Elab.async false
set_option maxRecDepth 100000
set_option linter.unusedVariables false
set_option maxHeartbeats 1000000
namespace Mine
mutual
noncomputable def T.cnt : T → Nat
  | .leaf => 1
  | .node _ cs => cs.cnt + 2
noncomputable def TL.cnt : TL → Nat
  | .nil => 0
  | .cons t r => t.cnt + r.cnt
end
mutual
theorem T.tok_len : ∀ (t : T) (d : Nat), (t.tok d).length = t.cnt
  | .leaf, d => rfl
  | .node _ cs, d => by rw [T.tok, T.cnt]; simp [TL.tok_len cs 0]
theorem TL.tok_len : ∀ (cs : TL) (i : Nat), (cs.tok i).length = cs.cnt
  | .nil, i => rfl
  | .cons t r, i => by rw [TL.tok, TL.cnt, List.length_append, T.tok_len t, TL.tok_len r]
end
mutual
theorem T.reps_len : ∀ (t : T), t.reps.length ≤ t.cnt
  | .leaf => by simp [T.reps]
  | .node _ cs => by rw [T.reps, T.cnt, List.length_append]; have := TL.reps_len cs; simp; (first | lia | omega)
theorem TL.reps_len : ∀ (cs : TL), cs.reps.length ≤ cs.cnt
  | .nil => by simp [TL.reps]
  | .cons t r => by rw [TL.reps, TL.cnt, List.length_append]; have := T.reps_len t; have := TL.reps_len r; (first | lia | omega)
end
theorem TL.to_len : ∀ (cs : TL) (i j : Nat) (t : T), cs.get? j = some t → (cs.tokTo i j).length + t.cnt ≤ cs.cnt ∧ (cs.repsTo j).length + t.cnt ≤ cs.cnt
  | .nil, _, _, _, h => by cases h
  | .cons t r, i, 0, u, h => by
    cases h
    simp [TL.tokTo, TL.repsTo, TL.cnt]
  | .cons t r, i, j + 1, u, h => by
    have := TL.to_len r (i + 1) j u h
    have h2 := T.reps_len t
    simp only [TL.tokTo, TL.repsTo, TL.cnt, List.length_append, T.tok_len]
    (first | lia | omega)
theorem txt_size (us : List Tk) : (txt us).length ≤ 2 * us.length := our_size
theorem Fn.le {w : World} {q : Bool} {k j : Nat} {a : Addr} {ds : List D} {d : D} (h : Fn w q k a ds d) (hk : k ≤ j) : Fn w q j a ds d := fun A P s vs rm => h A P s vs (rm.le hk)

theorem names_fn {w : World} {q : Bool} {k m : Nat} (hm : m < 6) : Fn w q (k + 1) 90 [.int m] (.tup ((names m).map .bytes)) := by
  unfold names
  by_cases h : m < 3
  · rw [if_pos h]; exact names_lt h
  · rw [if_neg h]; exact names_ge (by (first | lia | omega)) hm
theorem told_size {m : Nat} (hm : m < 6) : (told m).size ≤ 20 := by
  have : ∀ m : _root_.Fin 6, (told m.val).size ≤ 20 := by decide +kernel
  exact this ⟨m, hm⟩
theorem pth_lt {p : List Nat} (hp : ∀ x ∈ p, x < 15) : pth p < 16 ^ p.length := by
  have := pth_take_lt hp p.length
  rwa [List.take_of_length_le (Nat.le_refl _)] at this

theorem write_fn {w : World} {q : Bool} {es : List (Int × D)} : ∀ (n : Nat) (t : T) (u : List Nat) (d : Nat), t.ht ≤ n → T.In es t u → t.wf → pth u % 2 = d % 2 → (∀ x ∈ u, x < 15) → u.length + n ≤ 9 → t.cnt < 1000 →
    Fn w q (n + 1) 97 [.dct es, .int (pth u)] (.tup [.str (txt (t.tok d)), .lst (repD t.reps)])
  | n, .leaf, u, d, _, hin, _, hd, _, _, _ => write_leaf hin hd
  | 0, .node kd cs, u, d, hh, _, _, _, _, _, _ => by simp [T.ht] at hh
  | n + 1, .node kd cs, u, d, hh, hin, hwf, hd, hu, hl, hc => by
    have hcs : cs.ht ≤ n := by rw [T.ht] at hh; (first | lia | omega)
    obtain ⟨hin0, hinr⟩ := hin
    change (let G : Prop := _; G)
    intro G
    obtain ⟨hkd, hlen, hwfc⟩ := hwf
    subst G
    rw [T.cnt] at hc
    refine Fn.intro (by decide : (("_law_write" : Str), 97, 14) ∈ fnTab) ok_write rfl fun L qn cd => ?_
    have hb16 : Builtin.Int.intBits (pth u : Int) ≤ 64 := by
      have h1 := pth_lt hu
      have h2 : 16 ^ u.length ≤ 16 ^ 8 := Nat.pow_le_pow_right (by decide) (by (first | lia | omega))
      exact PySem.intBits_le_64 (by (first | lia | omega)) (by (first | lia | omega))
    refine Ex.cons (Ex1.ifF (Tst.eq (Tst.cmp Ev.name Ev.name Cmp.notInD) (by rw [hin0]; rfl)) Ex.nil) ?_
    refine Ex.cons (Ex1.assign Ev.str (.inl (by rfl)) Puts.new) ?_
    refine Ex.cons (Ex1.assign (EvR.freeze (EvR.list EvL.nil)) (.inl (by rfl)) Puts.new) ?_
    have szb : sz kd ≤ 5 := by unfold sz; split <;> (first | lia | omega)
    have el : (intsTo ((sz kd : Nat) : Int).toNat).length = sz kd := by rw [intsTo_length]; simp
    refine Ex.cons (Ex1.for' (ds := intsTo ((sz kd : Nat) : Int).toNat) (fun j => [("text", .dat (.str (txt (.ch 40 :: cs.tokTo 0 j)))), ("replies", .dat (.lst (repD (cs.repsTo j)))), ("kinds", .dat (.dct es)), ("path", .dat (.int (pth u)))]) none (Itr.range (n := ((sz kd : Nat) : Int)) ?IT (by rfl) (by (first | lia | omega)) (by (first | lia | omega))) (.inl (by rfl)) ?S0
      (fun i d hd _ => ?_) (fun m dd h => nomatch h)) ?_
    case IT =>
      by_cases h3 : kd < 3
      · have e : sz kd = 2 := by unfold sz; rw [if_pos h3]
        rw [e]
        exact Ev.iteT (Tst.eq (Tst.cmp (Ev.item (EvR.rcv Ev.name) DatR.stb Ev.name (ItemOp.dct hin0)) Ev.int Cmp.lt) (by rw [decide_eq_true_iff]; (first | lia | omega))) Ev.int
      · have e : sz kd = 5 := by unfold sz; rw [if_neg h3]
        rw [e]
        exact Ev.iteF (Tst.eq (Tst.cmp (Ev.item (EvR.rcv Ev.name) DatR.stb Ev.name (ItemOp.dct hin0)) Ev.int Cmp.lt) (by rw [decide_eq_false_iff_not]; (first | lia | omega))) Ev.int
    case S0 =>
      refine Sub.cons ?_ (Sub.cons ?_ (Sub.cons (by rfl) (Sub.cons (by rfl) Sub.nil)))
      · cases cs <;> rfl
      · cases cs <;> rfl
    · obtain ⟨hi, rfl⟩ := intsTo_get hd
      have hi' : i < cs.len := by rw [hlen]; simpa using hi
      obtain ⟨t, ht⟩ := TL.get_some cs i hi'
      have hti := TL.get_in cs 0 i t hinr ht
      rw [Nat.zero_add] at hti
      have hcn := TL.to_len cs 0 i t ht
      have hp1 : (pth u : Int) * 16 + i + 1 = (pth (u ++ [i]) : Nat) := by rw [pth_snoc]; (first | lia | omega)
      have hrec := write_fn (w := w) (q := q) (es := es) n t (u ++ [i]) (i + 1) (Nat.le_trans (TL.get_ht cs i t ht) hcs) hti (TL.get_wf cs i t hwfc ht) (by rw [pth_snoc]; (first | lia | omega))
        (fun x hx => by rcases List.mem_append.mp hx with h | h; exact hu x h; rw [List.mem_singleton.mp h]; (first | lia | omega)) (by simp; (first | lia | omega)) (by (first | lia | omega))
      rw [← hp1] at hrec
      refine ⟨_, Puts.new, ?_⟩
      refine Ex.cons (Ex1.assignT (Ev.callF (EvL.cons Ev.name (EvL.cons (Ev.bin (Ev.bin (Ev.bin Ev.name Ev.int (Bin.mul hb16)) Ev.name Bin.add) Ev.int Bin.add) EvL.nil)) hrec (by rfl) (by decide : (("_law_write" : Str), 97, 14) ∈ fnTab)) (Tgt.tup [("inner", _), ("more", _)] (by rfl) (fun y hy => ?_) (.cons Puts.new (.cons Puts.new .nil)))) ?_
      · simp only [List.mem_cons, List.not_mem_nil, or_false] at hy
        rcases hy with rfl | rfl <;> exact .inl (by rfl)
      refine Ex.cons (Ex1.assign (Ev.bin Ev.name Ev.name (Bin.adds ?_)) (.inl (by rfl)) Puts.new) ?_
      · have h1 := txt_size (.ch 40 :: cs.tokTo 0 i)
        have h2 := txt_size (t.tok (i + 1))
        rw [T.tok_len] at h2
        rw [List.length_cons] at h1
        rw [sizeLine_eq]; (first | lia | omega)
      refine Ex.cons (Ex1.assign (Ev.bin Ev.name Ev.name (Bin.addl ?_)) (.inl (by rfl)) Puts.new) ?_
      · have h1 := T.reps_len t
        simp only [repD, List.length_map]
        rw [sizeLine_eq]; (first | lia | omega)
      refine Ex.frz (x := "replies") (ds := repD (cs.repsTo i) ++ repD t.reps) (by rfl) Puts.new ?_
      refine Ex.nil' (Sub.cons ?_ (Sub.cons ?_ (Sub.cons (by rfl) (Sub.cons (by rfl) Sub.nil))))
      · rw [TL.tokTo_succ cs 0 i t ht, Nat.zero_add, ← List.cons_append, ← txt_app]; rfl
      · rw [TL.repsTo_succ cs i t ht]; unfold repD; rw [List.map_append]; rfl
    · show Ex _ [("text", Ent.dat (.str (txt (.ch 40 :: cs.tokTo 0 (intsTo ((sz kd : Nat) : Int).toNat).length)))), ("replies", .dat (.lst (repD (cs.repsTo (intsTo ((sz kd : Nat) : Int).toNat).length)))), ("kinds", .dat (.dct es)), ("path", .dat (.int (pth u)))] _ _
      rw [el, ← hlen, TL.tokTo_len, TL.repsTo_len]
      have hnm := names_fn (w := w) (q := q) (k := n) hkd
      refine Ex.cons (Ex1.assign (Ev.meth1 (EvR.rcv Ev.bytes) DatR.stb (Ev.callF (EvL.cons (Ev.item (EvR.rcv Ev.name) DatR.stb Ev.name (ItemOp.dct hin0)) EvL.nil) hnm (by rfl) mem_names) plainAttrs_bytes slot_bytes_join type_bytes_join OfT.bytes (MthO.join hkd) rfl (by rfl) rfl) (.inl (by rfl)) Puts.new) ?_
      have ht1 : (txt (.ch 40 :: cs.tok 0)).length ≤ 2 * (cs.cnt + 1) := by
        have := txt_size (.ch 40 :: cs.tok 0)
        rwa [List.length_cons, TL.tok_len] at this
      have ht2 : (repD cs.reps).length ≤ cs.cnt := by rw [repD, List.length_map]; exact TL.reps_len cs
      have hts := told_size hkd
      have e1 : (txt ((T.node kd cs).tok d)) = (txt (.ch 40 :: cs.tok 0) ++ (")" : Str) : Str) := by
        rw [T.tok, ← List.cons_append, ← txt_app]; rfl
      have e2 : repD ((T.node kd cs).reps) = repD cs.reps ++ [.bytes (rb kd)] := by
        rw [T.reps]; unfold repD; rw [List.map_append]; rfl
      rw [e1, e2]
      refine Ex.ret (Ex1.ret (Ev.tuple (EvL.cons (Ev.bin Ev.name Ev.str (Bin.adds ?_)) (EvL.cons (EvR.freeze (Ev.bin Ev.name (EvR.freeze (EvR.list (EvL.cons (Ev.bin (Ev.bin Ev.bytes Ev.name (Bin.addb ?_)) Ev.bytes (Bin.addb ?_)) EvL.nil))) (Bin.addl ?_))) EvL.nil))))
      · rw [sizeLine_eq]; show _ + 1 ≤ _; (first | lia | omega)
      · show 32 + _ ≤ _; (first | lia | omega)
      · rw [Array.size_append]; show 32 + _ + 8 ≤ _; (first | lia | omega)
      · rw [sizeLine_eq]; show _ + 1 ≤ _; (first | lia | omega)
end Mine
end

section
open PySem PySem.W PyProof.Rows PySem.Builtin
set_option Elab.async false
set_option maxRecDepth 100000
set_option linter.unusedVariables false
set_option maxHeartbeats 1000000
namespace Mine
theorem ok_twice : FnOk 21 ["nodes"] := by
  refine ⟨by rfl, by rfl, by rfl, by decide, ?_, cf_apart 21, ?_⟩
  · intro L x hx
    rcases List.mem_singleton.mp hx with rfl
    exact .inr ⟨by rfl, by rfl⟩
  · rintro ⟨⟩ vs rfl rfl rfl hl
    obtain ⟨v, rfl⟩ := len1 hl
    rfl
noncomputable def inB (a : List (Array UInt8)) (b : Array UInt8) : Bool := a.any fun x => x.toList == b.toList
noncomputable def shr (a b : Nat) : List (Array UInt8) := (names a).filter (inB (names b))
theorem pth_up (p : List Nat) (h : ∀ x ∈ p, x < 15) {m : Nat} (hm : m < p.length) : (pth (p.take (m + 1)) : Int).fdiv 16 = pth (p.take m) := by
  have hx : p[m]? = some p[m] := List.getElem?_eq_getElem hm
  have := h _ (List.getElem_mem hm)
  rw [List.take_add_one, hx]
  show ((pth (p.take m ++ [p[m]]) : Nat) : Int).fdiv 16 = _
  rw [pth_snoc, Int.fdiv_eq_ediv_of_nonneg _ (by decide)]; (first | lia | omega)
theorem least {p : Nat → Prop} (dec : ∀ m, Decidable (p m)) : ∀ {n : Nat}, (∃ m, m < n ∧ p m) → ∃ m, m < n ∧ p m ∧ ∀ j, j < m → ¬ p j
  | 0, ⟨m, h, _⟩ => absurd h (Nat.not_lt_zero _)
  | n + 1, ⟨m, h, hp⟩ => by
    by_cases hx : ∃ m, m < n ∧ p m
    · obtain ⟨j, h1, h2⟩ := least dec hx
      exact ⟨j, Nat.lt_succ_of_lt h1, h2⟩
    · refine ⟨m, h, hp, fun j hj hpj => hx ⟨j, by (first | lia | omega), hpj⟩⟩
theorem shr_nil {a b : Nat} {ds : List D} (h : ds.length = ((names a).map D.bytes).length) : ((((names a).take ds.length).filter (inB (names b))).map D.bytes).isEmpty = (shr a b).isEmpty := by
  rw [h, List.length_map, List.take_of_length_le (Nat.le_refl _), List.isEmpty_map]; rfl
theorem twice_fn {w : World} {q : Bool} {k : Nat} {es : List (Int × D)} {ws : List (List Nat)} {kd : List Nat → Nat} (hes : es.map (fun e => D.int e.1) = ws.map fun u => D.int (pth u)) (hd : ∀ u ∈ ws, ∀ x ∈ u, x < 15)
    (hg : ∀ u ∈ ws, ∀ m, m ≤ u.length → dget es (pth (u.take m)) = some (.tup ((names (kd (u.take m))).map .bytes))) {r : Bool} (hr : r = decide (∃ u ∈ ws, ∃ m, m < u.length ∧ (shr (kd u) (kd (u.take m))).isEmpty = false)) :
    Fn w q (k + 1) 140 [.dct es] (.bool r) :=
  Fn.intro (by decide : (("_law_twice" : Str), 140, 21) ∈ fnTab) ok_twice rfl fun L qn cd => by
    let hit : List Nat → Nat → Prop := fun u m => m < u.length ∧ (shr (kd u) (kd (u.take m))).isEmpty = false
    have gt : ∀ (u : List Nat) j, j < u.length → (0 : Int) < pth (u.take (u.length - j)) := fun u j hj => by
      have h1 : u.length - j = (u.length - j - 1) + 1 := by (first | lia | omega)
      have hlt : u.length - j - 1 < u.length := by (first | lia | omega)
      rw [h1, List.take_add_one, List.getElem?_eq_getElem hlt]
      show (0 : Int) < ((pth (u.take _ ++ [_]) : Nat) : Int)
      rw [pth_snoc]; (first | lia | omega)
    have up : ∀ u ∈ ws, ∀ j, j < u.length → (pth (u.take (u.length - j)) : Int).fdiv 16 = pth (u.take (u.length - (j + 1))) := fun u hu j hj => by
      have h1 : u.length - j = (u.length - (j + 1)) + 1 := by (first | lia | omega)
      rw [h1]; exact pth_up u (hd u hu) (by (first | lia | omega))
    have full : ∀ u ∈ ws, dget es (pth u) = some (.tup ((names (kd u)).map .bytes)) := fun u hu => by
      have := hg u hu u.length (Nat.le_refl _)
      rwa [List.take_of_length_le (Nat.le_refl _)] at this
    have wa : ∀ c : Cx, c.env = fenv 21 L 140 qn cd → Wr c.env "above" := fun c hc => by
      rw [hc]
      exact .inr ⟨by rfl, _, by rfl, Nat.lt_succ_of_lt (Nat.lt_succ_self L)⟩
    have miss : ∀ u ∈ ws, (∀ m, ¬ hit u m) → ∀ i : Nat, ∃ σ', Puts "path" (.dat (.int (pth u))) [("nodes", Ent.dat (.dct es))] σ' ∧ Ex ⟨w, q, k, fenv 21 L 140 qn cd⟩ σ' (match (bodyAt 21) with | [.For _ _ b _ _, _] => b | _ => []) (.nxt [("nodes", Ent.dat (.dct es))]) := fun u hu hno i => by
      have e0 : ∀ m, m < u.length → (shr (kd u) (kd (u.take m))).isEmpty = true := fun m hm => by
        cases hh : (shr (kd u) (kd (u.take m))).isEmpty with
        | true => rfl
        | false => exact absurd ⟨hm, hh⟩ (hno m)
      refine ⟨_, Puts.new, ?_⟩
      refine Ex.cons (Ex1.assign Ev.name (wa _ rfl) Puts.new) ?_
      refine Ex.cons (Ex1.while' (fun j => [("above", .dat (.int (pth (u.take (u.length - j))))), ("path", .dat (.int (pth u))), ("nodes", .dat (.dct es))]) u.length none ?_ (fun j hj => ⟨Tst.eq (Tst.cmp Ev.name Ev.int Cmp.gt) ?_, ?_⟩) ⟨fun _ => Tst.eq (Tst.cmp Ev.name Ev.int Cmp.gt) ?_, fun d h => nomatch h⟩) (Ex.nil' (Sub.cons (by rfl) Sub.nil))
      · refine Sub.cons ?_ (Sub.cons (by rfl) (Sub.cons (by rfl) Sub.nil))
        rw [Nat.sub_zero, List.take_of_length_le (Nat.le_refl _)]; rfl
      · rw [decide_eq_true_eq]; exact gt u j hj
      · refine Ex.cons (Ex1.assign (Ev.bin Ev.name Ev.int (Bin.div (by decide) (by decide))) (wa _ rfl) Puts.new) ?_
        rw [up u hu j hj]
        refine Ex.cons (Ex1.ifF ?_ Ex.nil) (Ex.nil' (Sub.cons (by rfl) (Sub.cons (by rfl) (Sub.cons (by rfl) Sub.nil))))
        refine Tst.eq (Tst.cmp (EvR.freeze (EvR.comp (cl := [("nodes", L + 1), ("above", L + 1 + 1)]) (capt := [("nodes", .dat (.dct es)), ("above", .dat (.int (pth (u.take (u.length - (j + 1))))))]) ?K (Itr.tup (Ev.item (EvR.rcv Ev.name) DatR.stb Ev.name (ItemOp.dct (full u hu)))) ?sz (.inl ⟨_, _, rfl⟩) (fun i => (((names (kd u)).take i).filter (inB (names (kd (u.take (u.length - (j + 1))))))).map .bytes) (by rfl) (fun C i d hd => ?turn))) (EvR.freeze (EvR.list EvL.nil)) Cmp.neNil) ?eq
        case K =>
          refine ⟨rfl, rfl, by decide, ⟨rfl, rfl, trivial⟩, ?_, Sub.cons (by rfl) (Sub.cons (by rfl) Sub.nil), fun C y hy => ?_⟩
          · show (["nodes", "above"] : List Str).Nodup; decide
          · simp only [List.map_cons, List.map_nil, List.mem_cons, List.not_mem_nil, or_false] at hy
            rcases hy with rfl | rfl
            · exact ⟨.inl (by rfl), .inl (by rfl), _, by rfl, by rfl⟩
            · exact ⟨.inl (by rfl), .inl (by rfl), _, by rfl, by rfl⟩
        case sz =>
          rw [List.length_map, sizeLine_eq]; have : (names (kd u)).length ≤ 2 := by
            unfold names; split <;> simp
          (first | lia | omega)
        case turn =>
          obtain ⟨x, hx, rfl⟩ : ∃ x, (names (kd u))[i]? = some x ∧ d = .bytes x := by
            rw [List.getElem?_map] at hd
            obtain ⟨x, h1, h2⟩ := Option.map_eq_some_iff.mp hd
            exact ⟨x, h1, h2.symm⟩
          have hf : ((names (kd u)).take (i + 1)).filter (inB (names (kd (u.take (u.length - (j + 1)))))) = ((names (kd u)).take i).filter (inB (names (kd (u.take (u.length - (j + 1)))))) ++ if inB (names (kd (u.take (u.length - (j + 1))))) x then [x] else [] := by
            rw [List.take_add_one, hx, List.filter_append]
            congr 1
            show List.filter _ [x] = _
            rw [List.filter_cons, List.filter_nil]
          refine ⟨_, inB (names (kd (u.take (u.length - (j + 1))))) x, Sub.cons (by rfl) (Sub.cons (by rfl) Sub.nil), Tgt.name (.inl (by rfl)) Puts.new, Ifs.one (Tst.cmp Ev.name (Ev.item (EvR.rcv Ev.name) DatR.stb Ev.name (ItemOp.dct (hg u hu _ (by (first | lia | omega))))) Cmp.inTupB), fun h => ⟨_, Ev.name, ?_⟩, fun h => ?_⟩
          · rw [hf, if_pos h, List.map_append]; rfl
          · rw [hf, if_neg (by rw [h]; exact Bool.false_ne_true), List.append_nil]
        case eq =>
          rw [shr_nil rfl, e0 _ (by (first | lia | omega))]; rfl
      · rw [Nat.sub_self]; rfl
    have found : ∀ u ∈ ws, (∃ m, hit u m) → ∃ σ', Puts "path" (.dat (.int (pth u))) [("nodes", Ent.dat (.dct es))] σ' ∧ Ex ⟨w, q, k, fenv 21 L 140 qn cd⟩ σ' (match (bodyAt 21) with | [.For _ _ b _ _, _] => b | _ => []) (.ret (.bool true)) := fun u hu hex => by
      obtain ⟨j, hj, hhit, hmin⟩ := least (p := fun j => hit u (u.length - (j + 1))) (fun _ => instDecidableAnd) (n := u.length) (by
        obtain ⟨m, h1, h2⟩ := hex
        refine ⟨u.length - (m + 1), by (first | lia | omega), ?_⟩
        have e : u.length - (u.length - (m + 1) + 1) = m := by (first | lia | omega)
        rw [e]; exact ⟨h1, h2⟩)
      have e0 : ∀ i, i < j → (shr (kd u) (kd (u.take (u.length - (i + 1))))).isEmpty = true := fun i hi => by
        cases hh : (shr (kd u) (kd (u.take (u.length - (i + 1))))).isEmpty with
        | true => rfl
        | false => exact absurd ⟨by (first | lia | omega), hh⟩ (hmin i hi)
      refine ⟨_, Puts.new, ?_⟩
      refine Ex.cons (Ex1.assign Ev.name (wa _ rfl) Puts.new) ?_
      refine Ex.ret (Ex1.while' (fun j => [("above", .dat (.int (pth (u.take (u.length - j))))), ("path", .dat (.int (pth u))), ("nodes", .dat (.dct es))]) j (some (.bool true)) ?_ (fun z hi => ⟨Tst.eq (Tst.cmp Ev.name Ev.int Cmp.gt) ?_, ?_⟩) ⟨fun h => (nomatch h), fun d h => ?_⟩)
      · refine Sub.cons ?_ (Sub.cons (by rfl) (Sub.cons (by rfl) Sub.nil))
        rw [Nat.sub_zero, List.take_of_length_le (Nat.le_refl _)]; rfl
      · rw [decide_eq_true_eq]; exact gt u z (by (first | lia | omega))
      · refine Ex.cons (Ex1.assign (Ev.bin Ev.name Ev.int (Bin.div (by decide) (by decide))) (wa _ rfl) Puts.new) ?_
        rw [up u hu z (by (first | lia | omega))]
        refine Ex.cons (Ex1.ifF ?_ Ex.nil) (Ex.nil' (Sub.cons (by rfl) (Sub.cons (by rfl) (Sub.cons (by rfl) Sub.nil))))
        refine Tst.eq (Tst.cmp (EvR.freeze (EvR.comp (cl := [("nodes", L + 1), ("above", L + 1 + 1)]) (capt := [("nodes", .dat (.dct es)), ("above", .dat (.int (pth (u.take (u.length - (z + 1))))))]) ?K (Itr.tup (Ev.item (EvR.rcv Ev.name) DatR.stb Ev.name (ItemOp.dct (full u hu)))) ?sz (.inl ⟨_, _, rfl⟩) (fun i => (((names (kd u)).take i).filter (inB (names (kd (u.take (u.length - (z + 1))))))).map .bytes) (by rfl) (fun C i d hd => ?turn))) (EvR.freeze (EvR.list EvL.nil)) Cmp.neNil) ?eq
        case K =>
          refine ⟨rfl, rfl, by decide, ⟨rfl, rfl, trivial⟩, ?_, Sub.cons (by rfl) (Sub.cons (by rfl) Sub.nil), fun C y hy => ?_⟩
          · show (["nodes", "above"] : List Str).Nodup; decide
          · simp only [List.map_cons, List.map_nil, List.mem_cons, List.not_mem_nil, or_false] at hy
            rcases hy with rfl | rfl
            · exact ⟨.inl (by rfl), .inl (by rfl), _, by rfl, by rfl⟩
            · exact ⟨.inl (by rfl), .inl (by rfl), _, by rfl, by rfl⟩
        case sz =>
          rw [List.length_map, sizeLine_eq]; have : (names (kd u)).length ≤ 2 := by
            unfold names; split <;> simp
          (first | lia | omega)
        case turn =>
          obtain ⟨x, hx, rfl⟩ : ∃ x, (names (kd u))[i]? = some x ∧ d = .bytes x := by
            rw [List.getElem?_map] at hd
            obtain ⟨x, h1, h2⟩ := Option.map_eq_some_iff.mp hd
            exact ⟨x, h1, h2.symm⟩
          have hf : ((names (kd u)).take (i + 1)).filter (inB (names (kd (u.take (u.length - (z + 1)))))) = ((names (kd u)).take i).filter (inB (names (kd (u.take (u.length - (z + 1)))))) ++ if inB (names (kd (u.take (u.length - (z + 1))))) x then [x] else [] := by
            rw [List.take_add_one, hx, List.filter_append]
            congr 1
            show List.filter _ [x] = _
            rw [List.filter_cons, List.filter_nil]
          refine ⟨_, inB (names (kd (u.take (u.length - (z + 1))))) x, Sub.cons (by rfl) (Sub.cons (by rfl) Sub.nil), Tgt.name (.inl (by rfl)) Puts.new, Ifs.one (Tst.cmp Ev.name (Ev.item (EvR.rcv Ev.name) DatR.stb Ev.name (ItemOp.dct (hg u hu _ (by (first | lia | omega))))) Cmp.inTupB), fun h => ⟨_, Ev.name, ?_⟩, fun h => ?_⟩
          · rw [hf, if_pos h, List.map_append]; rfl
          · rw [hf, if_neg (by rw [h]; exact Bool.false_ne_true), List.append_nil]
        case eq =>
          rw [shr_nil rfl, e0 _ hi]; rfl
      · cases h
        refine ⟨Tst.eq (Tst.cmp Ev.name Ev.int Cmp.gt) ?_, ?_⟩
        · rw [decide_eq_true_eq]; exact gt u j hj
        refine Ex.cons (Ex1.assign (Ev.bin Ev.name Ev.int (Bin.div (by decide) (by decide))) (wa _ rfl) Puts.new) ?_
        rw [up u hu j hj]
        refine Ex.ret (Ex1.ifT ?_ (Ex.ret (Ex1.ret Ev.bool)))
        refine Tst.eq (Tst.cmp (EvR.freeze (EvR.comp (cl := [("nodes", L + 1), ("above", L + 1 + 1)]) (capt := [("nodes", .dat (.dct es)), ("above", .dat (.int (pth (u.take (u.length - (j + 1))))))]) ?K (Itr.tup (Ev.item (EvR.rcv Ev.name) DatR.stb Ev.name (ItemOp.dct (full u hu)))) ?sz (.inl ⟨_, _, rfl⟩) (fun i => (((names (kd u)).take i).filter (inB (names (kd (u.take (u.length - (j + 1))))))).map .bytes) (by rfl) (fun C i d hd => ?turn))) (EvR.freeze (EvR.list EvL.nil)) Cmp.neNil) ?eq
        case K =>
          refine ⟨rfl, rfl, by decide, ⟨rfl, rfl, trivial⟩, ?_, Sub.cons (by rfl) (Sub.cons (by rfl) Sub.nil), fun C y hy => ?_⟩
          · show (["nodes", "above"] : List Str).Nodup; decide
          · simp only [List.map_cons, List.map_nil, List.mem_cons, List.not_mem_nil, or_false] at hy
            rcases hy with rfl | rfl
            · exact ⟨.inl (by rfl), .inl (by rfl), _, by rfl, by rfl⟩
            · exact ⟨.inl (by rfl), .inl (by rfl), _, by rfl, by rfl⟩
        case sz =>
          rw [List.length_map, sizeLine_eq]; have : (names (kd u)).length ≤ 2 := by
            unfold names; split <;> simp
          (first | lia | omega)
        case turn =>
          obtain ⟨x, hx, rfl⟩ : ∃ x, (names (kd u))[i]? = some x ∧ d = .bytes x := by
            rw [List.getElem?_map] at hd
            obtain ⟨x, h1, h2⟩ := Option.map_eq_some_iff.mp hd
            exact ⟨x, h1, h2.symm⟩
          have hf : ((names (kd u)).take (i + 1)).filter (inB (names (kd (u.take (u.length - (j + 1)))))) = ((names (kd u)).take i).filter (inB (names (kd (u.take (u.length - (j + 1)))))) ++ if inB (names (kd (u.take (u.length - (j + 1))))) x then [x] else [] := by
            rw [List.take_add_one, hx, List.filter_append]
            congr 1
            show List.filter _ [x] = _
            rw [List.filter_cons, List.filter_nil]
          refine ⟨_, inB (names (kd (u.take (u.length - (j + 1))))) x, Sub.cons (by rfl) (Sub.cons (by rfl) Sub.nil), Tgt.name (.inl (by rfl)) Puts.new, Ifs.one (Tst.cmp Ev.name (Ev.item (EvR.rcv Ev.name) DatR.stb Ev.name (ItemOp.dct (hg u hu _ (by (first | lia | omega))))) Cmp.inTupB), fun h => ⟨_, Ev.name, ?_⟩, fun h => ?_⟩
          · rw [hf, if_pos h, List.map_append]; rfl
          · rw [hf, if_neg (by rw [h]; exact Bool.false_ne_true), List.append_nil]
        case eq =>
          rw [shr_nil rfl, hhit.2]; rfl
    have hget : ∀ i d, (es.map fun e => D.int e.1)[i]? = some d → ∃ u, ws[i]? = some u ∧ d = D.int (pth u) := fun i d h => by
      rw [hes, List.getElem?_map] at h
      obtain ⟨u, h1, h2⟩ := Option.map_eq_some_iff.mp h
      exact ⟨u, h1, h2.symm⟩
    have hlen : (es.map fun e => D.int e.1).length = ws.length := by rw [hes, List.length_map]
    have mem : ∀ {i u}, ws[i]? = some u → u ∈ ws := fun h => List.mem_of_getElem? h
    by_cases h : ∃ i, i < ws.length ∧ ∃ u, ws[i]? = some u ∧ ∃ m, hit u m
    · change (let G : Prop := _; G)
      intro G
      obtain ⟨i, hi, ⟨u, hu, hex⟩, hmin⟩ := least (fun _ => Classical.propDecidable _) h
      subst G
      have ht : r = true := by rw [hr, decide_eq_true_eq]; exact ⟨u, mem hu, hex⟩
      rw [ht]
      refine Ex.ret (Ex1.for' (fun _ => [("nodes", .dat (.dct es))]) (some (i, .bool true)) (Itr.dct Ev.name) (.inl (by rfl)) (Sub.cons (by rfl) Sub.nil) (fun i' d hd hlt => ?_) (fun m dd hm => ?_))
      · obtain ⟨v, hv, rfl⟩ := hget i' d hd
        have := miss v (mem hv) (fun m hm => hmin i' (hlt _ _ rfl) ⟨v, hv, m, hm⟩) i'
        exact this
      · cases hm
        exact ⟨_, by rw [hes, List.getElem?_map, hu]; rfl, found u (mem hu) hex⟩
    · have hf : r = false := by
        rw [hr, decide_eq_false_iff_not]
        rintro ⟨u, hu, hex⟩
        obtain ⟨i, hi, e⟩ := List.getElem_of_mem hu
        exact h ⟨i, hi, u, by rw [List.getElem?_eq_getElem hi, e], hex⟩
      rw [hf]
      refine Ex.cons (Ex1.for' (fun _ => [("nodes", .dat (.dct es))]) none (Itr.dct Ev.name) (.inl (by rfl)) (Sub.cons (by rfl) Sub.nil) (fun i' d hd hlt => ?_) (fun m dd hm => nomatch hm)) (Ex.ret (Ex1.ret Ev.bool))
      obtain ⟨v, hv, rfl⟩ := hget i' d hd
      exact miss v (mem hv) (fun m hm => h ⟨i', (List.getElem?_eq_some_iff.mp hv).1, v, hv, m, hm⟩) i'
end Mine
end

section
open PySem PySem.W PyProof.Rows PySem.Builtin PySem.SeqAt
set_option Elab.async false
set_option maxRecDepth 100000
set_option linter.unusedVariables false
namespace Mine

theorem Pil.snoc {h : Heap} {a : Addr} {p c : Int} {t t' : Nat} (la : PLst h a [.int p t, .int c t']) : ∀ {as : List Addr} {xs : List (Int × Int)}, Pil h as xs → Pil h (as ++ [a]) (xs ++ [(p, c)])
  | _, _, .nil => .cons la .nil
  | _, _, .cons x r => .cons x (Pil.snoc la r)
theorem Pil.split {h : Heap} {p c : Int} {xs : List (Int × Int)} : ∀ {as : List Addr}, Pil h as (xs ++ [(p, c)]) → ∃ as' a t t', as = as' ++ [a] ∧ Pil h as' xs ∧ PLst h a [.int p t, .int c t'] := by
  induction xs with
  | nil =>
    intro as x
    rw [List.nil_append] at x
    cases x with
    | cons x r =>
      cases r
      exact ⟨[], _, _, _, rfl, .nil, x⟩
  | cons y xs ih =>
    intro as z
    rw [List.cons_append] at z
    obtain ⟨y1, y2⟩ := y
    cases z with
    | cons x r =>
      change (let G : Prop := _; G)
      intro G
      obtain ⟨as', a, t, t', rfl, h1, h2⟩ := ih r
      subst G
      exact ⟨_ :: as', a, t, t', rfl, .cons x h1, h2⟩
theorem Pil.length {h : Heap} : ∀ {as : List Addr} {xs : List (Int × Int)}, Pil h as xs → as.length = xs.length
  | _, _, .nil => rfl
  | _, _, .cons _ r => congrArg (· + 1) r.length
theorem PLst.some {h : Heap} {a : Addr} {vs : List Value} (x : PLst h a vs) : (h.get? a).isSome = true := by obtain ⟨o, n, ho, _⟩ := x; rw [ho]; rfl
theorem Pil.some {h : Heap} : ∀ {as : List Addr} {xs : List (Int × Int)}, Pil h as xs → ∀ a ∈ as, (h.get? a).isSome = true
  | _, _, .cons x r, a, ha => by
    rcases List.mem_cons.mp ha with rfl | ha
    · exact PLst.some x
    · exact Pil.some r a ha

section
variable {w : World} {g : Heap} {env : Env} {P : Addr → Prop} {h h' : Heap} {σ σ' : List (Str × Ent)} {ρ : Str → Value} {ω : Str → List Addr} {x : Str}
theorem Sto.remake {e en : Ent} {a : Addr} {os : List Addr} (S : Sto w g env P h σ ρ ω) (hm : (x, e) ∈ σ) (ha : a ∈ ω x) (hs : Heap.SameBut a h h') (hn : EntOK w P h' (ρ x) en os) (hp : Puts x en σ σ') (nd : os.Nodup) (hi : (h'.get? a).isSome = true)
    (hos : ∀ b ∈ os, b ∈ ω x ∨ (¬ P b ∧ g.get? b = none ∧ b ≠ env.locals ∧ (∀ y c, env.cells.lookup y = some c → b ≠ c) ∧ (∀ y e, (y, e) ∈ σ → b ∉ ω y) ∧ (h'.get? b).isSome = true)) : Sto w g env P h' σ' ρ (upO ω x os) := by
  change (let G : Prop := _; G)
  intro G
  obtain ⟨a1, a2, a3, a4, a5⟩ := S.own x e hm a ha
  subst G
  have kp : Kp P h h' := fun b o hb e => (hs.2 b fun z => a1 (z ▸ hb)).trans e
  obtain ⟨m, hm'⟩ := S.ns
  have ex : ∀ y e', (y, e') ∈ σ' → y ≠ x → (y, e') ∈ σ := fun y e' hy hne => by
    rcases hp y e' hy with ⟨rfl, _⟩ | ⟨_, h⟩
    · exact absurd rfl hne
    · exact h
  refine ⟨S.base, fun b o e => (hs.2 b fun z => ?_).trans (S.ks b o e), fun b hb => ?_, S.fn, S.gl, S.bl, ⟨m, hm'.sameBut hs (Ne.symm a3)⟩, S.lg, S.lp, fun y c hc => ?_, S.capart, fun y e' hy => ?_, fun y e' hy b hb => ?_, fun y e' z e'' hy hz hne b hb => ?_, fun y e' hy => ?_⟩
  · rw [z, a2] at e; cases e
  · rw [hs.2 b fun z => a1 (z ▸ hb)]; exact S.pw b hb
  · obtain ⟨⟨v, hv⟩, h2⟩ := S.cells y c hc
    exact ⟨⟨v, hv.sameBut hs (Ne.symm (a4 y c hc))⟩, h2⟩
  · have bk : ∀ {v}, Bnd env h y v → Bnd env h' y v := fun b => by
      cases b with
      | loc q n e => exact .loc q (n.sameBut hs (Ne.symm a3)) e
      | cell q e i => exact .cell q e (i.sameBut hs (Ne.symm (a4 _ _ e)))
    rcases hp y e' hy with ⟨rfl, rfl⟩ | ⟨hne, hy'⟩
    · exact ⟨bk (S.vals _ _ hm).1, by simp only [upO, if_true]; exact hn⟩
    · obtain ⟨h1, h2⟩ := S.vals y e' hy'
      simp only [upO, if_neg hne]
      exact ⟨bk h1, h2.mono (fun _ e => e) kp fun b hb => hs.2 b fun z => S.apart y e' x e hy' hm hne b hb (z ▸ ha)⟩
  · by_cases hne : y = x
    · subst hne
      simp only [upO, if_true] at hb
      rcases hos b hb with h1 | ⟨h1, h2, h3, h4, h5, h6⟩
      · change (let G : Prop := _; G)
        intro G
        obtain ⟨q1, q2, q3, q4, q5⟩ := S.own y e hm b h1
        subst G
        refine ⟨q1, q2, q3, q4, ?_⟩
        by_cases hba : b = a
        · rw [hba]; exact hi
        · rw [hs.2 b hba]; exact q5
      · exact ⟨h1, h2, h3, h4, h6⟩
    · simp only [upO, if_neg hne] at hb
      change (let G : Prop := _; G)
      intro G
      obtain ⟨h1, h2, h3, h4, h5⟩ := S.own y e' (ex y e' hy hne) b hb
      subst G
      refine ⟨h1, h2, h3, h4, ?_⟩
      by_cases hba : b = a
      · rw [hba]; exact hi
      · rw [hs.2 b hba]; exact h5
  · by_cases hny : y = x
    · subst hny
      simp only [upO, if_true] at hb
      have hnz : z ≠ y := fun e => hne e.symm
      simp only [upO, if_neg hnz]
      rcases hos b hb with h1 | ⟨_, _, _, _, h5, _⟩
      · exact S.apart y e z e'' hm (ex z e'' hz hnz) hne b h1
      · exact h5 z e'' (ex z e'' hz hnz)
    · simp only [upO, if_neg hny] at hb
      by_cases hnz : z = x
      · subst hnz
        simp only [upO, if_true]
        intro hbo
        rcases hos b hbo with h1 | ⟨_, _, _, _, h5, _⟩
        · exact S.apart y e' z e (ex y e' hy hny) hm hny b hb h1
        · exact h5 y e' (ex y e' hy hny) hb
      · simp only [upO, if_neg hnz]
        exact S.apart y e' z e'' (ex y e' hy hny) (ex z e'' hz hnz) hne b hb
  · by_cases hny : y = x
    · subst hny; simp only [upO, if_true]; exact nd
    · simp only [upO, if_neg hny]; exact S.nodup y e' (ex y e' hy hny)
end

noncomputable def PairR (p c : Int) : Pr := fun P v h => ∃ a t t', v = .ref a ∧ PLst h a [.int p t, .int c t']
theorem PairR.stb {p c : Int} : Stb (PairR p c) := fun P P' h h' v x ⟨a, t, t', e, ⟨o, n, ho, r⟩⟩ => ⟨a, t, t', e, ⟨o, n, x.ks _ _ ho, r⟩⟩

section
variable {c : Cx} {σ σ' σ'' : List (Str × Ent)} {x : Str} {p p' p'' p₁ p₂ p₃ p₄ : Pos} {k₁ k₂ : Nat} {e : Expr} {d : D} {ds : List D} {es : List (Int × D)} {i : Int} {o : Out} {xs : List (Int × Int)} {a b : Int}

theorem Ex.pil0 {sts : List Stmt} (hm : σ.lookup x = some (.lst [])) (hp : Puts x (.pil []) σ σ') (h : Ex c σ' sts o) : Ex c σ sts o := fun A g P s ρ ω rm S => by
  have hm := mem_of_lookup hm
  change (let G : Prop := _; G)
  intro G
  obtain ⟨l, vs, e1, e2, e3, e4⟩ := (S.vals x _ hm).2
  subst G
  cases e4
  refine h A g P s ρ ω rm (S.mut hm (a := l) (by rw [e2]; exact .head _) (Heap.SameBut.refl ..) (PLst.some e3) ?_ hp)
  exact ⟨l, [], e1, e2, e3, .nil⟩

theorem Tst.pilNe (hm : σ.lookup x = some (.pil xs)) (hn : (x == ("__classdict__" : Str)) = false := by decide) (hd : (x == ("__debug__" : Str)) = false := by decide) (hb : behindInMarks .NotEq (.List [] p₂) = false := by rfl) :
    Tst c σ (.Compare (.Name x p₁) [.NotEq] [.List [] p₂] p) (!xs.isEmpty) := fun A g P s ρ ω rm S => by
  have hm := mem_of_lookup hm
  change (let G : Prop := _; G)
  intro G
  obtain ⟨l, as, e1, e2, e3, e4⟩ := (S.vals x _ hm).2
  subst G
  refine wpAny_isTrue_Compare1 (wpAny_Name (S.load (S.vals x _ hm).1 hn ?_) hd) hb
  refine wpAny_mono ((EvR.list (p := p₂) EvL.nil : EvR c σ _ _) A g P s ρ ω rm S) (fun v₂ s₂ zz => Pst.elim zz fun P₂ x₂ y₂ z₂ => ?_) fun _ _ x => x
  change (let G : Prop := _; G)
  intro G
  obtain ⟨os, ⟨m, us, rfl, rfl, lm, rm'⟩, _⟩ := z₂
  subst G
  cases rm'
  rw [e1]
  have hu : A.units < cLine := by have := rm.units; (first | lia | omega)
  have ll : PLst s₂.heap l (as.map Value.ref) := by obtain ⟨o, n, ho, r⟩ := e3; exact ⟨o, n, x₂.ks _ _ ho, r⟩
  have hl := e4.length
  show wpAny _ A (richCompare .NotEq (.ref l) (.ref m)) _ _ s₂
  cases xs with
  | nil =>
    have e1 : as = [] := List.eq_nil_of_length_eq_zero hl
    subst e1
    exact RcNeAt.lists (e := fun _ => true) ll.isList lm.isList rfl hu (fun j h1 => by cases h1) prg c.w NoE _ (wpAny_truthy_bool ⟨P₂, x₂, y₂, rfl⟩)
  | cons d ds =>
    refine RcNeAt.lists_lengths ll.isList lm.isList ?_ hu prg c.w NoE _ (wpAny_truthy_bool ⟨P₂, x₂, y₂, rfl⟩)
    rw [List.size_toArray, List.size_toArray, List.length_map, hl]; rfl

theorem Rcv.pilTop (hm : σ.lookup x = some (.pil (xs ++ [(a, b)]))) (hz : xs.length < 2 ^ 60) (hn : (x == ("__classdict__" : Str)) = false := by decide) (hd : (x == ("__debug__" : Str)) = false := by decide) :
    Rcv c σ (.Subscript (.Name x p₁) (.UnaryOp .USub (.Constant (.int 1) k₁ p₂) p₃) p) (PairR a b) := fun A g P s ρ ω rm S => by
  have hm := mem_of_lookup hm
  change (let G : Prop := _; G)
  intro G
  obtain ⟨l, as, e1, e2, e3, e4⟩ := (S.vals x _ hm).2
  subst G
  change (let G : Prop := _; G)
  intro G
  obtain ⟨as', y, t, t', rfl, f1, f2⟩ := e4.split
  subst G
  have hl := f1.length
  refine Subscript_ (wpAny_Name (S.load (S.vals x _ hm).1 hn ?_) hd)
  refine UnaryOp_ (wpAny_Constant_int (neg_int ?_))
  rw [e1]
  refine tail_any (T := "list") (id := "list.__getitem__") (ops := [.ref l, .int (-1) _]) e3.isList.typeIs slot_list_getitem.lookup (wpAny_getItem_list_neg e3.isList (by decide) ?_ (by decide) (x := .ref y) ?_ ?_) (by rfl)
  · rw [List.size_toArray, List.length_map, List.length_append, List.length_singleton]; (first | lia | omega)
  · have : ((-1 : Int) + ((List.map Value.ref (as' ++ [y])).toArray.size : Int)).toNat = as'.length := by
      rw [List.size_toArray, List.length_map, List.length_append, List.length_singleton]; (first | lia | omega)
    rw [this]; simp
  · exact Pst.now S.pw ⟨y, t, t', rfl, f2⟩
variable {w : World} {q : Bool} {k : Nat}
theorem ItemOp.pair0 : ItemOp w q k (PairR a b) (.int 0) (.dat (.int a)) := fun A P s v₁ v₂ rm B hp x y => by
  change (let G : Prop := _; G)
  intro G
  obtain ⟨l, t, t', rfl, la⟩ := x
  subst G
  obtain ⟨_, rfl⟩ := Rp.inv y
  exact ⟨⟨_, _, la.isList.typeIs, slot_list_getitem.lookup⟩, wpAny_getItem_list la.isList (by decide) (by decide) (x := .int a t) rfl (Pst.here hp (.int _ _))⟩
theorem ItemOp.pair1 : ItemOp w q k (PairR a b) (.int 1) (.dat (.int b)) := fun A P s v₁ v₂ rm B hp x y => by
  change (let G : Prop := _; G)
  intro G
  obtain ⟨l, t, t', rfl, la⟩ := x
  subst G
  obtain ⟨_, rfl⟩ := Rp.inv y
  exact ⟨⟨_, _, la.isList.typeIs, slot_list_getitem.lookup⟩, wpAny_getItem_list la.isList (by decide) (by decide) (x := .int b t') rfl (Pst.here hp (.int _ _))⟩
end
end Mine
end

section
open PySem PySem.W PyProof.Rows PySem.Builtin PySem.SeqAt
set_option Elab.async false
set_option maxRecDepth 100000
set_option linter.unusedVariables false
namespace Mine
section
variable {c : Cx} {σ σ' σ'' : List (Str × Ent)} {x y : Str} {p p' p'' p₁ p₂ p₃ p₄ p₅ p₆ : Pos} {k₁ k₂ : Nat} {e e₁ e₂ val : Expr} {d : D} {ds : List D} {es : List (Int × D)} {i : Int} {o : Out} {xs : List (Int × Int)} {a b : Int}

theorem pop_plain {A : Around} {w : World} {s : Shared} {l : Addr} {vs : List Value} {y : Value} {Q : Value → Shared → Prop} {E : Value → Shared → Prop} (hl : PLst s.heap l (vs ++ [y])) (hz : vs.length + 1 ≤ sizeLine)
    (hQ : ∀ h', PLst h' l vs → Heap.SameBut l s.heap h' → Q y { s with heap := h' }) : wpAny (model prg w) A (call (.builtin "list.pop") [.ref l]) Q E s := by
  change (let G : Prop := _; G)
  intro G
  obtain ⟨o, n, ho, hc, hdn, hd⟩ := id hl
  subst G
  have hsz : (vs ++ [y]).toArray.size = vs.length + 1 := by simp
  have hy : (vs ++ [y]).toArray[(vs ++ [y]).toArray.size - 1]? = some y := by rw [hsz]; simp
  have he : (vs ++ [y]).toArray.eraseIdxIfInBounds ((vs ++ [y]).toArray.size - 1) = vs.toArray := by
    rw [hsz]
    apply Array.ext'
    simp [Array.eraseIdxIfInBounds, List.eraseIdx_append_of_length_le]
  obtain ⟨n', hd'⟩ := Obj.data_mapSeq hd (fun xs => xs.eraseIdxIfInBounds ((vs ++ [y]).toArray.size - 1))
  refine wpAny_call_entry PySem.F.slot_list_pop hl.isList.typeIs PySem.F.entry_list_pop ?_ (PySem.F.args_list_pop_1 _)
  have hk : seqIndex? (-1) (vs ++ [y]).toArray.size = some ((vs ++ [y]).toArray.size - 1) := by
    rw [PySem.seqIndex_neg (by (first | lia | omega)) (by (first | lia | omega))]; congr 1; (first | lia | omega)
  have fin : PLst (s.heap.update l (Obj.mapSeq fun xs => xs.eraseIdxIfInBounds ((vs ++ [y]).toArray.size - 1))) l vs := by
    rw [he] at hd'
    refine ⟨_, n', Heap.get?_update_self _ ho (Obj.isFreed_of_seq hd'), (Obj.cls_mapSeq ..).trans hc, ?_, hd'⟩
    change (let G : Prop := _; G)
    intro G
    obtain ⟨oc, od, dt, sl⟩ := o
    subst G
    cases dt <;> exact hdn
  have hQ := hQ _ fin (Heap.SameBut.update ..)
  have hz1 : (vs ++ [y]).toArray.size ≤ sizeLine := by rw [hsz]; exact hz
  have hz' : ((vs ++ [y]).toArray.eraseIdxIfInBounds ((vs ++ [y]).toArray.size - 1)).size ≤ sizeLine + 1 := by rw [he, List.size_toArray]; (first | lia | omega)
  clear fin he hd' hl
  generalize (vs ++ [y]).toArray = items at *
  have hpos : 0 < items.size := by (first | lia | omega)
  have hne : ¬ items.isEmpty = true := by
    intro he; have : items.size = 0 := by simpa using he
    (first | lia | omega)
  change (let G : Prop := _; G)
  intro G
  obtain ⟨cls, dd, data, sl⟩ := o
  subst G
  simp only at hc hdn hd
  subst hc hdn hd
  change (let G : Prop := _; G)
  intro G
  obtain ⟨hp, g, d, tk, os⟩ := s
  subst G
  wp_walk using wpAny_loadPart' ho
  simp only [hk, hy, Option.bind_some, Option.map_some]
  wp_walk using (wpAny_updateSeq ho rfl (hz := hz1) (_hz' := hz')), wpAny_loadPart' ho
  exact ⟨_, rfl, hQ⟩

theorem Ev.lenDO (hm : σ.lookup x = some (.dct es)) (hk : c.env.kindOf "len" = some .globalImplicit) (hz : es.length < 2 ^ 62) (hn : (x == ("__classdict__" : Str)) = false := by decide) (hd : (x == ("__debug__" : Str)) = false := by decide)
    (he : starEach [.Name x p₁] c.env = [(false, PySem.eval (.Name x p₁) c.env)] := by rfl) : Ev c σ (.Call (.Name "len" p') [.Name x p₁] [] p) (.int es.length) := fun A g P s ρ ω rm S => by
  have hm := mem_of_lookup hm
  change (let G : Prop := _; G)
  intro G
  obtain ⟨l, kvs, e1, e2, e0, e3, e4⟩ := (S.vals x _ hm).2
  subst G
  refine wpAny_Call_Name_kw (name_builtin S hk (by decide) (by decide +kernel : bootBuiltins "len" = some (.builtin "len")) ?_ (by decide) (by decide))
  rw [he]
  refine Calls.callWith_builtin (by rfl) (Calls.evalArgs_plain (Calls.spliced_cons (wpAny_Name (S.load (S.vals x _ hm).1 hn (Calls.spliced_nil ?_)) hd)))
  rw [e1]
  refine call_len_dict e0 e3 (by rw [e4.length]; (first | lia | omega)) ?_
  rw [e4.length]
  exact Pst.now S.pw (.int _ _)

theorem Pil.set_top {h h' : Heap} {as : List Addr} {t : Addr} (nd : (as ++ [t]).Nodup) (hs : Heap.SameBut t h h') (x : Pil h as xs) : Pil h' as xs :=
  x.mono fun a ha => hs.2 a fun e => by
    have := (List.nodup_append.mp nd).2.2 a ha t (.head _)
    exact this e

theorem Ex1.pilSet (hv : Ev c σ val (.int i)) (hm : σ.lookup x = some (.pil (xs ++ [(a, b)]))) (hz : xs.length < 2 ^ 60) (hp : Puts x (.pil (xs ++ [(a, i)])) σ σ')
    (hs : swapsWith val (some (.Subscript (.Subscript (.Name x p₁) (.UnaryOp .USub (.Constant (.int 1) k₁ p₂) p₃) p₄) (.Constant (.int 1) k₂ p₅) p₆)) p.line c.env = pure false := by rfl) (hn : (x == ("__classdict__" : Str)) = false := by decide) (hd : (x == ("__debug__" : Str)) = false := by decide) :
    Ex1 c σ (.Assign [.Subscript (.Subscript (.Name x p₁) (.UnaryOp .USub (.Constant (.int 1) k₁ p₂) p₃) p₄) (.Constant (.int 1) k₂ p₅) p₆] val p) (.nxt σ') := fun A g P s ρ ω rm S => by
  have hm' := mem_of_lookup hm
  refine wpAny_Assign_Subscript (wpAny_mono (hv A g P s ρ ω rm S) (fun v s₁ zz => Pst.elim zz fun P₁ x₁ y₁ z₁ => ?_) fun _ _ x => x) hs
  have S₁ := S.ext x₁
  change (let G : Prop := _; G)
  intro G
  obtain ⟨l, as, e1, e2, e3, e4⟩ := (S₁.vals x _ hm').2
  subst G
  change (let G : Prop := _; G)
  intro G
  obtain ⟨as', y, t, t', rfl, f1, f2⟩ := e4.split
  subst G
  have hl := f1.length
  have nd := S₁.nodup x _ hm'
  rw [e2] at nd
  have ndt : (as' ++ [y]).Nodup := (List.nodup_cons.mp nd).2
  have hly : l ≠ y := fun e => (List.nodup_cons.mp nd).1 (by rw [e]; simp)
  have hyo : y ∈ ω x := by rw [e2]; simp
  refine Subscript_ (wpAny_Name (S₁.load (S₁.vals x _ hm').1 hn ?_) hd)
  refine UnaryOp_ (wpAny_Constant_int (neg_int ?_))
  rw [e1]
  refine tail_any (T := "list") (id := "list.__getitem__") (ops := [.ref l, .int (-1) _]) e3.isList.typeIs slot_list_getitem.lookup (wpAny_getItem_list_neg e3.isList (by decide) ?_ (by decide) (x := .ref y) ?_ ?_) (by rfl)
  · rw [List.size_toArray, List.length_map, List.length_append, List.length_singleton]; (first | lia | omega)
  · have : ((-1 : Int) + ((List.map Value.ref (as' ++ [y])).toArray.size : Int)).toNat = as'.length := by
      rw [List.size_toArray, List.length_map, List.length_append, List.length_singleton]; (first | lia | omega)
    rw [this]; simp
  refine wpAny_Constant_int ?_
  refine set_plain f2 (by decide) (by show (1 : Int) < (2 : Nat); decide) (by decide) fun h' hl' hsb => ?_
  obtain ⟨u, rfl⟩ := Rp.inv z₁
  have hl2 : PLst h' y [.int a t, .int i u] := hl'
  have kp : Kp P₁ s₁.heap h' := fun b o hb e => (hsb.2 b fun z => (S₁.own x _ hm' y hyo).1 (z ▸ hb)).trans e
  refine ⟨P₁, (XS.of_ext S.ks x₁ y₁).trans ⟨fun _ e => e, fun _ e => .inl e, kp, Rest.of⟩, rfl, ρ, ω, ?_⟩
  refine S₁.mut (en := .pil (xs ++ [(a, i)])) hm' (a := y) hyo hsb (PLst.some hl2) ⟨l, as' ++ [y], e1, e2, ?_, ?_⟩ hp
  · change (let G : Prop := _; G)
    intro G
    obtain ⟨o, n, ho, r⟩ := e3
    subst G
    exact ⟨o, n, (hsb.2 l hly).trans ho, r⟩
  · exact Pil.snoc hl2 (Pil.set_top ndt hsb f1)

theorem Ex1.pilPush {ap : Pos} (hel : EvL c σ [e₁, e₂] [.int a, .int b]) (hm : σ.lookup x = some (.pil xs)) (hz : xs.length ≤ 1000) (hp : Puts x (.pil (xs ++ [(a, b)])) σ σ')
    (hi : interactive c.env = false := by rfl) (hs : swapsWith (.Call (.Attribute (.Name x p'') "append" ap) [.List [e₁, e₂] p₁] [] p') none p.line c.env = pure false := by rfl)
    (hbase : attributeBase (.Name x p'') "append" c.env (PySem.eval (.Name x p'') c.env) = PySem.eval (.Name x p'') c.env := by rfl)
    (hfew : ((backTo p' (starEach [.List [e₁, e₂] p₁] c.env)).all (fun x => !x.1) && (backToKw p' (keywordEach [] c.env)).all (fun x => x.1.isSome)
      && decide (([.List [e₁, e₂] p₁] : List Expr).length + ([] : List Keyword).length + (if ([] : List Keyword).isEmpty then 0 else 1) < 30)) = true := by rfl)
    (hline : (ap.endLine == p'.line) = true := by rfl) (htrees : backTo p' (starEach [.List [e₁, e₂] p₁] c.env) = [(false, PySem.eval (.List [e₁, e₂] p₁) c.env)] := by rfl)
    (hn : (x == ("__classdict__" : Str)) = false := by decide) (hd : (x == ("__debug__" : Str)) = false := by decide) : Ex1 c σ (.Expr (.Call (.Attribute (.Name x p'') "append" ap) [.List [e₁, e₂] p₁] [] p') p) (.nxt σ') := fun A g P s ρ ω rm S => by
  have hm' := mem_of_lookup hm
  change (let G : Prop := _; G)
  intro G
  obtain ⟨l, as, e1, e2, e3, e4⟩ := (S.vals x _ hm').2
  subst G
  refine wpAny_Expr (wpAny_Call_append hbase hfew hline htrees (wpAny_Name (S.load (S.vals x _ hm').1 hn ⟨l, (as.map Value.ref).toArray, e1, e3, ?_⟩) hd)) hi hs
  refine wpAny_mono ((EvR.list (p := p₁) hel : EvR c σ _ _) A g P s ρ ω rm S) (fun v s₁ zz => Pst.elim zz fun P₁ x₁ y₁ z₁ => ?_) fun _ _ x => x
  have S₁ := S.ext x₁
  change (let G : Prop := _; G)
  intro G
  obtain ⟨os, ⟨y, us, rfl, rfl, ly, ry⟩, _, hf⟩ := z₁
  subst G
  change (let G : Prop := _; G)
  intro G
  obtain ⟨f1, f2, f3⟩ := hf y (.head _)
  subst G
  obtain ⟨t, t', rfl⟩ : ∃ t t', us = [.int a t, .int b t'] := by
    cases ry with | cons r1 r => cases r with | cons r2 r => cases r; cases r1; cases r2; exact ⟨_, _, rfl⟩
  have e3' : PLst s₁.heap l (as.map Value.ref) := by obtain ⟨o, n, ho, r⟩ := e3; exact ⟨o, n, x₁.ks _ _ ho, r⟩
  have hlen := e4.length
  have hlo : l ∈ ω x := by rw [e2]; exact .head _
  refine list_append_plainL (hsz := by rw [List.size_toArray, List.length_map, sizeLine_eq]; (first | lia | omega)) e3' fun h' hl hsb => ?_
  have kp : Kp P₁ s₁.heap h' := fun b o hb e => (hsb.2 b fun z => (S₁.own x _ hm' l hlo).1 (z ▸ hb)).trans e
  have hyn : ∀ z e, (z, e) ∈ σ → y ∉ ω z := fun z e hz hy => by
    have := (S.own z e hz y hy).2.2.2.2
    rw [f1] at this; cases this
  have hyl : y ≠ l := fun e => hyn x _ hm' (e ▸ hlo)
  have hy' : h'.get? y = s₁.heap.get? y := hsb.2 y hyl
  have hl1 : PLst h' l ((as ++ [y]).map Value.ref) := by
    rw [List.push_toArray] at hl
    rw [List.map_append]; exact hl
  refine ⟨P₁, (XS.of_ext S.ks x₁ y₁).trans ⟨fun _ e => e, fun _ e => .inl e, kp, Rest.of⟩, rfl, ρ, _, S₁.remake (en := .pil (xs ++ [(a, b)])) (os := l :: (as ++ [y])) hm' hlo hsb ⟨l, as ++ [y], e1, rfl, hl1, ?_⟩ hp ?_ (PLst.some hl1) fun z hz => ?_⟩
  · refine Pil.snoc (t := t) (t' := t') ?_ ((e4.mono fun z hz => some_of_ks x₁.ks (e4.some z hz)).mono fun z hz => hsb.2 z ?_)
    · change (let G : Prop := _; G)
      intro G
      obtain ⟨o, n, ho, r⟩ := ly
      subst G
      exact ⟨o, n, hy'.trans ho, r⟩
    · have := S.nodup x _ hm'
      rw [e2] at this
      exact fun e => (List.nodup_cons.mp this).1 (e ▸ hz)
  · have := S.nodup x _ hm'
    rw [e2] at this
    obtain ⟨n1, n2⟩ := List.nodup_cons.mp this
    refine List.nodup_cons.mpr ⟨fun h => ?_, List.nodup_append.mpr ⟨n2, by simp, fun u hu v hv e => ?_⟩⟩
    · rcases List.mem_append.mp h with h | h
      · exact n1 h
      · exact hyl (List.mem_singleton.mp h).symm
    · rw [List.mem_singleton.mp hv] at e
      exact hyn x _ hm' (by rw [e2, ← e]; exact .tail _ hu)
  · rcases List.mem_cons.mp hz with rfl | hz
    · exact .inl hlo
    · rcases List.mem_append.mp hz with hz | hz
      · exact .inl (by rw [e2]; exact .tail _ hz)
      · rw [List.mem_singleton.mp hz]
        refine .inr ⟨f2, none_back S.ks f1, fun e => ?_, fun z cc hc e => ?_, hyn, by rw [hy']; exact f3⟩
        · change (let G : Prop := _; G)
          intro G
          obtain ⟨m, o, _, _, ho, _⟩ := S.ns
          subst G
          rw [e, ho] at f1; cases f1
        · change (let G : Prop := _; G)
          intro G
          obtain ⟨⟨u, o, ho, _⟩, _⟩ := S.cells z cc hc
          subst G
          rw [e, ho] at f1; cases f1
end
end Mine
end

section
open PySem PySem.W PyProof.Rows PySem.Builtin PySem.SeqAt
set_option Elab.async false
set_option maxRecDepth 100000
set_option linter.unusedVariables false
namespace Mine
section
variable {c : Cx} {σ σ₁ σ' : List (Str × Ent)} {x y : Str} {p p₁ p₂ p₃ p₄ p₅ p₆ : Pos} {k₁ k₂ : Nat} {val : Expr} {d : D} {es : List (Int × D)} {xs : List (Int × Int)} {a b : Int}

theorem Ex1.popSet {ap : Pos} (hv : Ev c σ val d) (hx : σ.lookup x = some (.pil (xs ++ [(a, b)]))) (hy : σ.lookup y = some (.dct es)) (hz : xs.length < 1000) (hze : es.length ≤ sizeLine) (hp₁ : Puts x (.pil xs) σ σ₁) (hy₁ : σ₁.lookup y = some (.dct es)) (hp : Puts y (.dct (dput es a d)) σ₁ σ')
    (hs : swapsWith val (some (.Subscript (.Name y p₁) (.Subscript (.Call (.Attribute (.Name x p₂) "pop" ap) [] [] p₃) (.Constant (.int 0) k₁ p₄) p₅) p₆)) p.line c.env = pure false := by rfl)
    (hbase : attributeBase (.Name x p₂) "pop" c.env (PySem.eval (.Name x p₂) c.env) = PySem.eval (.Name x p₂) c.env := by rfl) (hline : (ap.endLine == p₃.line) = true := by rfl)
    (hn : (x == ("__classdict__" : Str)) = false := by decide) (hd : (x == ("__debug__" : Str)) = false := by decide) (hn' : (y == ("__classdict__" : Str)) = false := by decide) (hd' : (y == ("__debug__" : Str)) = false := by decide) :
    Ex1 c σ (.Assign [.Subscript (.Name y p₁) (.Subscript (.Call (.Attribute (.Name x p₂) "pop" ap) [] [] p₃) (.Constant (.int 0) k₁ p₄) p₅) p₆] val p) (.nxt σ') := fun A g P s ρ ω rm S => by
  have hmx := mem_of_lookup hx
  have hmy := mem_of_lookup hy
  have hmy₁ := mem_of_lookup hy₁
  refine wpAny_Assign_Subscript (wpAny_mono (hv A g P s ρ ω rm S) (fun v s₁ zz => Pst.elim zz fun P₁ x₁ y₁ z₁ => ?_) fun _ _ x => x) hs
  have S₁ := S.ext x₁
  refine wpAny_Name (S₁.load (S₁.vals y _ hmy).1 hn' ?_) hd'
  change (let G : Prop := _; G)
  intro G
  obtain ⟨l, as, e1, e2, e3, e4⟩ := (S₁.vals x _ hmx).2
  subst G
  change (let G : Prop := _; G)
  intro G
  obtain ⟨as', u, t, t', rfl, f1, f2⟩ := e4.split
  subst G
  have hlen := f1.length
  have nd := S₁.nodup x _ hmx
  rw [e2] at nd
  have ndt : (as' ++ [u]).Nodup := (List.nodup_cons.mp nd).2
  have hlu : u ≠ l := fun e => (List.nodup_cons.mp nd).1 (by rw [← e]; simp)
  have hlo : l ∈ ω x := by rw [e2]; exact .head _
  refine Subscript_ (wpAny_Call_method0_late hbase hline (wpAny_Name (S₁.load (S₁.vals x _ hmx).1 hn ?_) hd))
  rw [e1]
  have hob : ∃ ob, s₁.heap.get? l = some ob ∧ ob.dict = none := by obtain ⟨o, n, ho, hc, hdn, _⟩ := id e3; exact ⟨o, ho, hdn⟩
  refine ⟨"list", "list.pop", PySem.F.plainAttrs_list, PySem.F.slot_list_pop, PySem.F.type_list_pop, e3.isList.typeIs, fun q e => by cases e; exact hob, callWith_method0 (env := c.env) ?_⟩
  rw [List.map_append, List.map_singleton] at e3
  refine pop_plain e3 (by rw [List.length_map, sizeLine_eq]; (first | lia | omega)) fun h' hl hsb => ?_
  have kp : Kp P₁ s₁.heap h' := fun b o hb e => (hsb.2 b fun z => (S₁.own x _ hmx l hlo).1 (z ▸ hb)).trans e
  have hls : ∀ z ∈ as', z ≠ l := fun z hz e => (List.nodup_cons.mp nd).1 (by rw [← e]; simp [hz])
  have S₂ : Sto c.w g c.env P₁ h' σ₁ ρ (upO ω x (l :: as')) := by
    refine S₁.remake (en := .pil xs) (os := l :: as') hmx hlo hsb ⟨l, as', e1, rfl, hl, f1.mono fun z hz => hsb.2 z (hls z hz)⟩ hp₁ ?_ (PLst.some hl) fun z hz => .inl ?_
    · exact List.nodup_cons.mpr ⟨fun h => (List.nodup_cons.mp nd).1 (by simp [h]), (List.nodup_append.mp ndt).1⟩
    · rw [e2]
      rcases List.mem_cons.mp hz with rfl | hz
      · exact .head _
      · exact .tail _ (List.mem_append_left _ hz)
  have f3 : PLst h' u [.int a t, .int b t'] := by obtain ⟨o, n, ho, r⟩ := f2; exact ⟨o, n, (hsb.2 u hlu).trans ho, r⟩
  refine wpAny_Constant_int ?_
  refine tail_any (T := "list") (id := "list.__getitem__") (ops := [.ref u, .int 0 _]) f3.isList.typeIs slot_list_getitem.lookup (wpAny_getItem_list f3.isList (by decide) (by decide) (x := .int a t) rfl ?_) (by rfl)
  have hρy : ∃ m kvs, ρ y = .ref m ∧ (upO ω x (l :: as')) y = [m] ∧ (m == sysModules) = false ∧ h'.DictOf (intKind prg c.w) m kvs ∧ RpE c.w P₁ h' kvs es := by
    exact (S₂.vals y _ hmy₁).2
  change (let G : Prop := _; G)
  intro G
  obtain ⟨m, kvs, g1, g2, g0, g3, g4⟩ := hρy
  subst G
  rw [g1]
  refine wpAny_setItem_pairs (hsz := by rw [g4.length]; exact hze) (intKind_is prg c.w a t) g3 fun h'' hl'' hsb'' => ?_
  have hmo : m ∈ (upO ω x (l :: as')) y := by rw [g2]; exact .head _
  have kp2 : Kp P₁ h' h'' := fun b o hb e => (hsb''.2 b fun z => (S₂.own y _ hmy₁ m hmo).1 (z ▸ hb)).trans e
  refine ⟨P₁, ((XS.of_ext S.ks x₁ y₁).trans ⟨fun _ e => e, fun _ e => .inl e, kp, Rest.of (t := s₁.toks)⟩).trans ⟨fun _ e => e, fun _ e => .inl e, kp2, Rest.of⟩, rfl, ρ, upO ω x (l :: as'), ?_⟩
  obtain ⟨o, ho, _⟩ := Heap.dictOf_iff.mp hl''
  exact S₂.mut (en := .dct (dput es a d)) hmy₁ (a := m) hmo hsb'' (by rw [ho]; rfl) ⟨m, _, g1, g2, g0, hl'', (g4.mono (fun _ e => e) kp2).put a ((z₁.mono (fun _ e => e) kp).mono (fun _ e => e) kp2)⟩ hp
end
end Mine
end

section
open PySem PySem.W PyProof.Rows PySem.Builtin PySem.SeqAt
set_option Elab.async false
set_option maxRecDepth 100000
set_option linter.unusedVariables false
set_option maxHeartbeats 1000000
namespace Mine
structure RS where
  nodes : List (List Nat × Nat)
  words : List (List Nat)
  st : List (List Nat × Nat)
noncomputable def nextW : List (List Nat × Nat) → List Nat
  | [] => []
  | (w, c) :: _ => w ++ [c]
noncomputable def bumpS : List (List Nat × Nat) → List (List Nat × Nat)
  | [] => []
  | (w, c) :: r => (w, c + 1) :: r
noncomputable def stp (rs : List Nat) : Tk → RS → RS
  | .ch 41, S => match S.st with
    | [] => S
    | (w, _) :: r => ⟨S.nodes ++ [(w, rs.getD S.nodes.length 0)], S.words, r⟩
  | .ch 40, S => ⟨S.nodes, S.words, (nextW S.st, 0) :: bumpS S.st⟩
  | _, S => ⟨S.nodes, S.words ++ [nextW S.st], bumpS S.st⟩
noncomputable def GoodX (rs : List Nat) : Tk → RS → Prop
  | .ch 41, S => S.st ≠ [] ∧ S.nodes.length < rs.length ∧ ∀ x ∈ S.st.head?, ∀ n ∈ S.nodes, pth n.1 ≠ pth x.1
  | _, S => (∀ x ∈ nextW S.st, x < 15) ∧ (nextW S.st).length ≤ 8
noncomputable def Good (rs : List Nat) (u : Tk) (S : RS) : Prop :=
  S.nodes.length < 1000 ∧ S.words.length < 1000 ∧ S.st.length < 1000 ∧ GoodX rs u S
noncomputable def runs (rs : List Nat) (us : List Tk) (S : RS) : RS := us.foldl (fun S u => stp rs u S) S
noncomputable def goods (rs : List Nat) : List Tk → RS → Prop
  | [], _ => True
  | u :: us, S => Good rs u S ∧ goods rs us (stp rs u S)
theorem runs_append (rs : List Nat) (us vs : List Tk) (S : RS) : runs rs (us ++ vs) S = runs rs vs (runs rs us S) := by simp [runs]
theorem goods_append (rs : List Nat) : ∀ (us vs : List Tk) (S : RS), goods rs (us ++ vs) S ↔ goods rs us S ∧ goods rs vs (runs rs us S)
  | [], vs, S => by simp [goods, runs]
  | u :: us, vs, S => by
    show Good rs u S ∧ goods rs (us ++ vs) _ ↔ (Good rs u S ∧ goods rs us _) ∧ _
    rw [goods_append rs us vs, and_assoc]; rfl
theorem goods_at (rs : List Nat) : ∀ (us : List Tk) (S : RS) (i : Nat) (u : Tk), goods rs us S → us[i]? = some u → Good rs u (runs rs (us.take i) S) ∧ runs rs (us.take (i + 1)) S = stp rs u (runs rs (us.take i) S)
  | [], _, _, _, _, h => by cases h
  | v :: us, S, 0, u, hg, h => by cases h; exact ⟨hg.1, rfl⟩
  | v :: us, S, i + 1, u, hg, h => goods_at rs us (stp rs v S) i u hg.2 h

noncomputable def pilD : List (List Nat × Nat) → List (Int × Int)
  | [] => []
  | (w, c) :: r => pilD r ++ [((pth w : Int), (c : Int))]
theorem pilD_len : ∀ (st : List (List Nat × Nat)), (pilD st).length = st.length
  | [] => rfl
  | (w, c) :: r => by rw [pilD, List.length_append, pilD_len r]; rfl
noncomputable def nodesD (ns : List (List Nat × Nat)) : List (Int × D) := ns.map fun n => ((pth n.1 : Int), .tup ((names n.2).map .bytes))
noncomputable def wordsD (ws : List (List Nat)) : List D := ws.map fun w => .bytes (wb w)
theorem dput_new {es : List (Int × D)} {k : Int} {d : D} (h : ∀ e ∈ es, e.1 ≠ k) : dput es k d = es ++ [(k, d)] := by
  unfold dput
  rw [if_neg]
  rw [List.any_eq_true]
  rintro ⟨e, he, hk⟩
  exact h e he (by simpa using hk)
noncomputable def InvR (rs : List Nat) (S : RS) : List (Str × Ent) := [("nodes", .dct (nodesD S.nodes)), ("words", .lst (wordsD S.words)), ("piles", .pil (pilD S.st)), ("replies", .dat (.lst (repD rs)))]

theorem ok_read : FnOk 15 ["text", "replies"] := by
  refine ⟨by rfl, by rfl, by rfl, by decide, ?_, cf_apart 15, ?_⟩
  · intro L x hx
    simp only [List.mem_cons, List.not_mem_nil, or_false] at hx
    rcases hx with rfl | rfl <;> exact .inl (by rfl)
  · rintro ⟨⟩ vs rfl rfl rfl hl
    obtain ⟨a, b, rfl⟩ := len2 hl
    rfl

theorem read_fn {w : World} {k : Nat} {us : List Tk} {rs : List Nat} (ho : ∀ u ∈ us, u.our) (hl : us.length < 1000) (hrs : ∀ r ∈ rs, r < 6) (hg : goods rs us ⟨[], [], []⟩) (hend : (runs rs us ⟨[], [], []⟩).nodes.length < 1000) :
    Fn w false (k + 2) 104 [.str (txt us), .lst (repD rs)] (.tup [.dct (nodesD (runs rs us ⟨[], [], []⟩).nodes), .lst (wordsD (runs rs us ⟨[], [], []⟩).words)]) :=
  Fn.intro (by decide : (("_law_read" : Str), 104, 15) ∈ fnTab) ok_read rfl fun L qn cd => by
    refine Ex.cons (Ex1.assign EvR.dict0 (.inl (by rfl)) Puts.new) ?_
    refine Ex.cons (Ex1.assign (EvR.list EvL.nil) (.inl (by rfl)) Puts.new) ?_
    refine Ex.cons (Ex1.assign (EvR.list EvL.nil) (.inl (by rfl)) Puts.new) ?_
    refine Ex.pil0 (x := "piles") (by rfl) Puts.new ?_
    have hs := our_size (us := us)
    refine Ex.cons (Ex1.forG us (fun i => InvR rs (runs rs (us.take i) ⟨[], [], []⟩)) none [("spot", _), ("unit", _)] (by rfl) (fun y hy => ?_) rfl (by show 1 ≤ k + 1; (first | lia | omega))
      Ev.name (txt_list us) (our_ok ho) (by (first | lia | omega)) (our_ascii ho) (by rfl) (Sub.cons (by rfl) (Sub.cons (by rfl) (Sub.cons (by rfl) (Sub.cons (by rfl) Sub.nil)))) (fun i u n hu hlt => ⟨_, .cons Puts.new (.cons Puts.new .nil), ?_⟩) (fun m dd hm => nomatch hm)) ?_
    · simp only [List.mem_cons, List.not_mem_nil, or_false] at hy
      rcases hy with rfl | rfl <;> exact .inl (by rfl)
    · obtain ⟨hgd, hst⟩ := goods_at rs us _ i u hg hu
      rw [hst]
      generalize runs rs (us.take i) ⟨[], [], []⟩ = S at *
      obtain ⟨nodes, words, st⟩ := S
      change (let G : Prop := _; G)
      intro G
      obtain ⟨g1, g2, g3, g4⟩ := hgd
      subst G
      simp only at g1 g2 g3
      have hnl : (nodesD nodes).length = nodes.length := by simp [nodesD]
      have hwl : (wordsD words).length = words.length := by simp [wordsD]
      have hpl := pilD_len st
      have wstep : ∀ v : List Nat, wordsD words ++ [.bytes (wb v)] = wordsD (words ++ [v]) := fun v => by simp [wordsD]
      rcases ho u (List.mem_of_getElem? hu) with rfl | rfl | rfl | rfl
      · obtain ⟨q1, q2⟩ := g4
        cases st with
        | nil =>
          refine Ex.cons (Ex1.ifF (Tst.eq (Tst.cmp Ev.name Ev.str Cmp.eqs) (by rfl)) (Ex.cons (Ex1.assign Ev.int (.inl (by rfl)) Puts.new) (Ex.cons (Ex1.ifF (Tst.pilNe (x := "piles") (xs := []) (by rfl)) Ex.nil) (Ex.cons (Ex1.ifT (Tst.eq (Tst.cmp Ev.name Ev.str Cmp.eqs) (by rfl)) (Ex.cons (Ex1.pilPush (x := "piles") (xs := []) (EvL.cons Ev.name (EvL.cons Ev.int EvL.nil)) (by rfl) (by decide) Puts.new) Ex.nil)) Ex.nil)))) ?_
          exact Ex.nil' (Sub.cons (by rfl) (Sub.cons (by rfl) (Sub.cons (by rfl) (Sub.cons (by rfl) Sub.nil))))
        | cons x r =>
          obtain ⟨wd, cn⟩ := x
          have hw15 : ∀ x ∈ wd, x < 15 := fun x hx => q1 x (List.mem_append_left _ hx)
          have hwl8 : wd.length ≤ 7 := by simp [nextW] at q2; (first | lia | omega)
          have hb16 : Builtin.Int.intBits (pth wd : Int) ≤ 64 := by
            have h1 := pth_lt hw15
            have h2 : 16 ^ wd.length ≤ 16 ^ 8 := Nat.pow_le_pow_right (by decide) (by (first | lia | omega))
            exact PySem.intBits_le_64 (by (first | lia | omega)) (by (first | lia | omega))
          have hrl := pilD_len r
          have e16 : (pth wd : Int) * 16 + ((cn : Int) + 1) = (pth (wd ++ [cn]) : Nat) := by rw [pth_snoc]; (first | lia | omega)
          show Ex _ [("unit", .dat (.str (Tk.ch 40).str)), ("spot", .dat (.int n)), ("nodes", .dct (nodesD nodes)), ("words", .lst (wordsD words)), ("piles", .pil (pilD r ++ [((pth wd : Int), (cn : Int))])), ("replies", .dat (.lst (repD rs)))] _
            (.nxt [("nodes", .dct (nodesD nodes)), ("words", .lst (wordsD words)), ("piles", .pil ((pilD r ++ [((pth wd : Int), (cn : Int) + 1)]) ++ [((pth (wd ++ [cn]) : Int), 0)])), ("replies", .dat (.lst (repD rs)))])
          rw [← e16]
          generalize nodesD nodes = es at *
          generalize wordsD words = ws at *
          generalize pilD r = xs at *
          generalize repD rs = rd at *
          simp only [List.length_cons] at g3
          refine Ex.cons (Ex1.ifF (Tst.eq (Tst.cmp Ev.name Ev.str Cmp.eqs) (by rfl)) (Ex.cons (Ex1.assign Ev.int (.inl (by rfl)) Puts.new) (Ex.cons (Ex1.ifT (Tst.eq (Tst.pilNe (x := "piles") (xs := xs ++ [((pth wd : Int), (cn : Int))]) (by rfl)) (by simp))
            (Ex.cons (Ex1.pilSet (x := "piles") (xs := xs) (Ev.bin (Ev.item (Rcv.pilTop (x := "piles") (xs := xs) (a := (pth wd : Int)) (b := (cn : Int)) (by rfl) (by (first | lia | omega))) PairR.stb Ev.int ItemOp.pair1) Ev.int Bin.add) (by rfl) (by (first | lia | omega)) Puts.new)
              (Ex.cons (Ex1.assign (Ev.bin (Ev.bin (Ev.item (Rcv.pilTop (x := "piles") (xs := xs) (a := (pth wd : Int)) (b := (cn : Int) + 1) (by rfl) (by (first | lia | omega))) PairR.stb Ev.int ItemOp.pair0) Ev.int (Bin.mul hb16)) (Ev.item (Rcv.pilTop (x := "piles") (xs := xs) (a := (pth wd : Int)) (b := (cn : Int) + 1) (by rfl) (by (first | lia | omega))) PairR.stb Ev.int ItemOp.pair1) Bin.add) (.inl (by rfl)) Puts.new) Ex.nil)))
            (Ex.cons (Ex1.ifT (Tst.eq (Tst.cmp Ev.name Ev.str Cmp.eqs) (by rfl)) (Ex.cons (Ex1.pilPush (x := "piles") (xs := xs ++ [((pth wd : Int), (cn : Int) + 1)]) (EvL.cons Ev.name (EvL.cons Ev.int EvL.nil)) (by rfl) (by rw [List.length_append, hrl]; show _ + 1 ≤ _; (first | lia | omega)) Puts.new) Ex.nil)) Ex.nil)))) ?_
          exact Ex.nil' (Sub.cons (by rfl) (Sub.cons (by rfl) (Sub.cons (by rfl) (Sub.cons (by rfl) Sub.nil))))
      · obtain ⟨q1, q2, q3⟩ := g4
        cases st with
        | nil => exact absurd rfl q1
        | cons x r =>
          obtain ⟨wd, cn⟩ := x
          have q3 := q3 (wd, cn) rfl
          simp only at q2 q3
          have hrk : rs[nodes.length]? = some (rs.getD nodes.length 0) := by
            rw [List.getD_eq_getElem?_getD, List.getElem?_eq_getElem q2]; rfl
          show Ex _ _ _ (.nxt (InvR rs ⟨nodes ++ [(wd, rs.getD nodes.length 0)], words, r⟩))
          generalize rs.getD nodes.length 0 = kk at *
          have hkk : kk < 6 := hrs _ (List.mem_of_getElem? hrk)
          have hput : dput (nodesD nodes) (pth wd) (.tup ((names kk).map .bytes)) = nodesD (nodes ++ [(wd, kk)]) := by
            rw [dput_new]
            · unfold nodesD; rw [List.map_append]; rfl
            · intro e he
              obtain ⟨n, hn, rfl⟩ := List.mem_map.mp he
              have := q3 n hn
              simp only; (first | lia | omega)
          have hri : (repD rs)[((nodesD nodes).length : Int).toNat]? = some (.bytes (rb kk)) := by
            rw [hnl, Int.toNat_natCast]
            unfold repD
            rw [List.getElem?_map, hrk]; rfl
          have hpil : pilD ((wd, cn) :: r) = pilD r ++ [((pth wd : Int), (cn : Int))] := rfl
          have hrl := pilD_len r
          show Ex _ [("unit", .dat (.str (Tk.ch 41).str)), ("spot", .dat (.int n)), ("nodes", .dct (nodesD nodes)), ("words", .lst (wordsD words)), ("piles", .pil (pilD ((wd, cn) :: r))), ("replies", .dat (.lst (repD rs)))] _ _
          rw [hpil]
          have fin : InvR rs ⟨nodes ++ [(wd, kk)], words, r⟩ = ([("nodes", .dct (dput (nodesD nodes) (pth wd) (.tup ((names kk).map .bytes)))), ("words", .lst (wordsD words)), ("piles", .pil (pilD r)), ("replies", .dat (.lst (repD rs)))] : List (Str × Ent)) := by rw [hput]; rfl
          rw [fin]
          clear fin hput q3 hst hpil
          generalize nodesD nodes = es at *
          generalize wordsD words = ws at *
          generalize pilD r = xs at *
          generalize repD rs = rd at *
          refine Ex.cons (Ex1.ifT (Tst.eq (Tst.cmp Ev.name Ev.str Cmp.eqs) (by rfl)) (Ex.cons (Ex1.popSet (x := "piles") (y := "nodes") (xs := xs) (Ev.callF (EvL.cons (Ev.item (EvR.rcv Ev.name) DatR.stb (Ev.lenDO (x := "nodes") (es := es) (by rfl) (by rfl) (by (first | lia | omega))) (ItemOp.lst (by (first | lia | omega)) (by (first | lia | omega)) hri)) EvL.nil) (parse_flags (lv := k) hkk) (by rfl) (by decide : (("ParseFlags" : Str), 50, 4) ∈ fnTab)) (by rfl) (by rfl) (by simp only [List.length_cons] at g3; (first | lia | omega)) (by rw [sizeLine_eq]; (first | lia | omega)) Puts.new (by rfl) Puts.new) Ex.nil)) ?_
          exact Ex.nil' (Sub.cons (by rfl) (Sub.cons (by rfl) (Sub.cons (by rfl) (Sub.cons (by rfl) Sub.nil))))
      · obtain ⟨q1, q2⟩ := g4
        cases st with
        | nil =>
          refine Ex.cons (Ex1.ifF (Tst.eq (Tst.cmp Ev.name Ev.str Cmp.eqs) (by rfl)) (Ex.cons (Ex1.assign Ev.int (.inl (by rfl)) Puts.new) (Ex.cons (Ex1.ifF (Tst.pilNe (x := "piles") (xs := []) (by rfl)) Ex.nil) (Ex.cons (Ex1.ifF (Tst.eq (Tst.cmp Ev.name Ev.str Cmp.eqs) (by rfl)) (Ex.cons (Ex1.append (Ev.callF (EvL.cons Ev.name EvL.nil) (int2ap (k := k) (ws := []) (by simp) (by simp)) (by rfl) (by decide : (("Int2AP" : Str), 43, 3) ∈ fnTab)) (by rfl) (by rw [hwl, sizeLine_eq]; (first | lia | omega)) Puts.new) Ex.nil)) Ex.nil)))) ?_
          exact Ex.nil' (Sub.cons (by rfl) (Sub.cons (by show _ = some (Ent.lst (wordsD (words ++ [[]]))); rw [← wstep]; rfl) (Sub.cons (by rfl) (Sub.cons (by rfl) Sub.nil))))
        | cons x r =>
          obtain ⟨wd, cn⟩ := x
          have hw15 : ∀ x ∈ wd, x < 15 := fun x hx => q1 x (List.mem_append_left _ hx)
          have hwl8 : wd.length ≤ 7 := by simp [nextW] at q2; (first | lia | omega)
          have hb16 : Builtin.Int.intBits (pth wd : Int) ≤ 64 := by
            have h1 := pth_lt hw15
            have h2 : 16 ^ wd.length ≤ 16 ^ 8 := Nat.pow_le_pow_right (by decide) (by (first | lia | omega))
            exact PySem.intBits_le_64 (by (first | lia | omega)) (by (first | lia | omega))
          have hrl := pilD_len r
          have e16 : (pth wd : Int) * 16 + ((cn : Int) + 1) = (pth (wd ++ [cn]) : Nat) := by rw [pth_snoc]; (first | lia | omega)
          show Ex _ [("unit", .dat (.str (Tk.es 40).str)), ("spot", .dat (.int n)), ("nodes", .dct (nodesD nodes)), ("words", .lst (wordsD words)), ("piles", .pil (pilD r ++ [((pth wd : Int), (cn : Int))])), ("replies", .dat (.lst (repD rs)))] _
            (.nxt [("nodes", .dct (nodesD nodes)), ("words", .lst (wordsD (words ++ [wd ++ [cn]]))), ("piles", .pil (pilD r ++ [((pth wd : Int), (cn : Int) + 1)])), ("replies", .dat (.lst (repD rs)))])
          have hap := int2ap (w := w) (q := true) (k := k) (ws := wd ++ [cn]) q1 q2
          rw [← e16] at hap
          rw [← wstep]
          generalize nodesD nodes = es at *
          generalize wordsD words = ws at *
          generalize pilD r = xs at *
          generalize repD rs = rd at *
          simp only [List.length_cons] at g3
          refine Ex.cons (Ex1.ifF (Tst.eq (Tst.cmp Ev.name Ev.str Cmp.eqs) (by rfl)) (Ex.cons (Ex1.assign Ev.int (.inl (by rfl)) Puts.new) (Ex.cons (Ex1.ifT (Tst.eq (Tst.pilNe (x := "piles") (xs := xs ++ [((pth wd : Int), (cn : Int))]) (by rfl)) (by simp))
            (Ex.cons (Ex1.pilSet (x := "piles") (xs := xs) (Ev.bin (Ev.item (Rcv.pilTop (x := "piles") (xs := xs) (a := (pth wd : Int)) (b := (cn : Int)) (by rfl) (by (first | lia | omega))) PairR.stb Ev.int ItemOp.pair1) Ev.int Bin.add) (by rfl) (by (first | lia | omega)) Puts.new)
              (Ex.cons (Ex1.assign (Ev.bin (Ev.bin (Ev.item (Rcv.pilTop (x := "piles") (xs := xs) (a := (pth wd : Int)) (b := (cn : Int) + 1) (by rfl) (by (first | lia | omega))) PairR.stb Ev.int ItemOp.pair0) Ev.int (Bin.mul hb16)) (Ev.item (Rcv.pilTop (x := "piles") (xs := xs) (a := (pth wd : Int)) (b := (cn : Int) + 1) (by rfl) (by (first | lia | omega))) PairR.stb Ev.int ItemOp.pair1) Bin.add) (.inl (by rfl)) Puts.new) Ex.nil)))
            (Ex.cons (Ex1.ifF (Tst.eq (Tst.cmp Ev.name Ev.str Cmp.eqs) (by rfl)) (Ex.cons (Ex1.append (Ev.callF (EvL.cons Ev.name EvL.nil) hap (by rfl) (by decide : (("Int2AP" : Str), 43, 3) ∈ fnTab)) (by rfl) (by rw [hwl, sizeLine_eq]; (first | lia | omega)) Puts.new) Ex.nil)) Ex.nil)))) ?_
          exact Ex.nil' (Sub.cons (by rfl) (Sub.cons (by rfl) (Sub.cons (by rfl) (Sub.cons (by rfl) Sub.nil))))
      · obtain ⟨q1, q2⟩ := g4
        cases st with
        | nil =>
          refine Ex.cons (Ex1.ifF (Tst.eq (Tst.cmp Ev.name Ev.str Cmp.eqs) (by rfl)) (Ex.cons (Ex1.assign Ev.int (.inl (by rfl)) Puts.new) (Ex.cons (Ex1.ifF (Tst.pilNe (x := "piles") (xs := []) (by rfl)) Ex.nil) (Ex.cons (Ex1.ifF (Tst.eq (Tst.cmp Ev.name Ev.str Cmp.eqs) (by rfl)) (Ex.cons (Ex1.append (Ev.callF (EvL.cons Ev.name EvL.nil) (int2ap (k := k) (ws := []) (by simp) (by simp)) (by rfl) (by decide : (("Int2AP" : Str), 43, 3) ∈ fnTab)) (by rfl) (by rw [hwl, sizeLine_eq]; (first | lia | omega)) Puts.new) Ex.nil)) Ex.nil)))) ?_
          exact Ex.nil' (Sub.cons (by rfl) (Sub.cons (by show _ = some (Ent.lst (wordsD (words ++ [[]]))); rw [← wstep]; rfl) (Sub.cons (by rfl) (Sub.cons (by rfl) Sub.nil))))
        | cons x r =>
          obtain ⟨wd, cn⟩ := x
          have hw15 : ∀ x ∈ wd, x < 15 := fun x hx => q1 x (List.mem_append_left _ hx)
          have hwl8 : wd.length ≤ 7 := by simp [nextW] at q2; (first | lia | omega)
          have hb16 : Builtin.Int.intBits (pth wd : Int) ≤ 64 := by
            have h1 := pth_lt hw15
            have h2 : 16 ^ wd.length ≤ 16 ^ 8 := Nat.pow_le_pow_right (by decide) (by (first | lia | omega))
            exact PySem.intBits_le_64 (by (first | lia | omega)) (by (first | lia | omega))
          have hrl := pilD_len r
          have e16 : (pth wd : Int) * 16 + ((cn : Int) + 1) = (pth (wd ++ [cn]) : Nat) := by rw [pth_snoc]; (first | lia | omega)
          show Ex _ [("unit", .dat (.str (Tk.es 41).str)), ("spot", .dat (.int n)), ("nodes", .dct (nodesD nodes)), ("words", .lst (wordsD words)), ("piles", .pil (pilD r ++ [((pth wd : Int), (cn : Int))])), ("replies", .dat (.lst (repD rs)))] _
            (.nxt [("nodes", .dct (nodesD nodes)), ("words", .lst (wordsD (words ++ [wd ++ [cn]]))), ("piles", .pil (pilD r ++ [((pth wd : Int), (cn : Int) + 1)])), ("replies", .dat (.lst (repD rs)))])
          have hap := int2ap (w := w) (q := true) (k := k) (ws := wd ++ [cn]) q1 q2
          rw [← e16] at hap
          rw [← wstep]
          generalize nodesD nodes = es at *
          generalize wordsD words = ws at *
          generalize pilD r = xs at *
          generalize repD rs = rd at *
          simp only [List.length_cons] at g3
          refine Ex.cons (Ex1.ifF (Tst.eq (Tst.cmp Ev.name Ev.str Cmp.eqs) (by rfl)) (Ex.cons (Ex1.assign Ev.int (.inl (by rfl)) Puts.new) (Ex.cons (Ex1.ifT (Tst.eq (Tst.pilNe (x := "piles") (xs := xs ++ [((pth wd : Int), (cn : Int))]) (by rfl)) (by simp))
            (Ex.cons (Ex1.pilSet (x := "piles") (xs := xs) (Ev.bin (Ev.item (Rcv.pilTop (x := "piles") (xs := xs) (a := (pth wd : Int)) (b := (cn : Int)) (by rfl) (by (first | lia | omega))) PairR.stb Ev.int ItemOp.pair1) Ev.int Bin.add) (by rfl) (by (first | lia | omega)) Puts.new)
              (Ex.cons (Ex1.assign (Ev.bin (Ev.bin (Ev.item (Rcv.pilTop (x := "piles") (xs := xs) (a := (pth wd : Int)) (b := (cn : Int) + 1) (by rfl) (by (first | lia | omega))) PairR.stb Ev.int ItemOp.pair0) Ev.int (Bin.mul hb16)) (Ev.item (Rcv.pilTop (x := "piles") (xs := xs) (a := (pth wd : Int)) (b := (cn : Int) + 1) (by rfl) (by (first | lia | omega))) PairR.stb Ev.int ItemOp.pair1) Bin.add) (.inl (by rfl)) Puts.new) Ex.nil)))
            (Ex.cons (Ex1.ifF (Tst.eq (Tst.cmp Ev.name Ev.str Cmp.eqs) (by rfl)) (Ex.cons (Ex1.append (Ev.callF (EvL.cons Ev.name EvL.nil) hap (by rfl) (by decide : (("Int2AP" : Str), 43, 3) ∈ fnTab)) (by rfl) (by rw [hwl, sizeLine_eq]; (first | lia | omega)) Puts.new) Ex.nil)) Ex.nil)))) ?_
          exact Ex.nil' (Sub.cons (by rfl) (Sub.cons (by rfl) (Sub.cons (by rfl) (Sub.cons (by rfl) Sub.nil))))
    · show Ex _ (InvR rs (runs rs (us.take us.length) ⟨[], [], []⟩)) _ _
      rw [List.take_of_length_le (Nat.le_refl _)]
      generalize runs rs us ⟨[], [], []⟩ = S at *
      refine Ex.frz (x := "words") (ds := wordsD S.words) (by rfl) Puts.new ?_
      refine Ex.frzD (x := "nodes") (es := nodesD S.nodes) (by rfl) Puts.new ?_
      exact Ex.ret (Ex1.ret (Ev.tuple (EvL.cons Ev.name (EvL.cons Ev.name EvL.nil))))
end Mine
end

section
open PySem PySem.W PyProof.Rows PySem.Builtin PySem.SeqAt
set_option Elab.async false
set_option maxRecDepth 100000
set_option linter.unusedVariables false
namespace Mine

theorem sortedHeap_ks {h : Heap} {a : Addr} {vs : List Value} {out : Array Value} {b : Addr} {o : Obj} (hb : h.get? b = some o) (hne : b ≠ a) : (sortedHeap h a vs out).get? b = some o :=
  (sortedHeap_old hne (Heap.lt_size hb)).trans hb
theorem ints_of_keys {w : World} : ∀ {kvs : List (Int × Value)} {vs : List Value}, vs.length = kvs.length → (∀ (j : Nat) v, vs[j]? = some v → ∃ k x, kvs[j]? = some (k, x) ∧ (intKind prg w).is k v = true) → IntsAre vs (kvs.map (·.1))
  | [], [], _, _ => .nil
  | [], _ :: _, h, _ => by cases h
  | _ :: _, [], h, _ => by cases h
  | kv :: kvs, v :: vs, h, hv => by
    change (let G : Prop := _; G)
    intro G
    obtain ⟨k, x, e, hk⟩ := hv 0 v rfl
    subst G
    cases e
    obtain ⟨t, rfl⟩ := Value.isInt_shape hk
    exact .cons _ _ (ints_of_keys (by simpa using h) fun j v hj => hv (j + 1) v hj)

theorem sorted_rev_dict {A : Around} {w : World} {s : Shared} {d : Addr} {kvs : List (Int × Value)} {Q : Value → Shared → Prop} {E : Value → Shared → Prop} (hh : A.handled = none) (lo : (d == sysModules) = false) (hm : s.heap.DictOf (intKind prg w) d kvs) (h64 : kvs.length < 64)
    (h : ∀ h' tk a vs ns, Ks s.heap h' → s.heap.get? a = none → PLst h' a vs → IntsAre vs ns → ns.Perm (kvs.map (·.1)) → ns.Pairwise (· ≥ ·) → Q (.ref a) { s with heap := h', toks := tk }) :
    wpAny (model prg w) A (call (.builtin "sorted") [.ref d] [(Str.ofString "reverse", .bool true)]) Q E s := by
  obtain ⟨ep, hat⟩ := hm.dictAt
  refine call_function_entry_kw kind_sorted plain_sorted entry_sorted (args_sorted_rev _ _) ?_
  unfold Builtin.«sorted»
  refine wpAny_bind (m := checkCount "sorted" 1 1 _) (wpAny_pure ?_)
  refine wpAny_bind (kdu_collect (A := A.in1) (kdl_dict (knd := intKind prg w) (kvs := kvs) (ep := ep) lo) hh hat (by rw [sizeLine_eq]; (first | lia | omega)) fun h₁ tk acc hk hacc => ?_)
  have hl : acc.toList.length = kvs.length := by rw [Array.length_toList]; exact hacc.1
  have hI : IntsAre acc.toList (kvs.map (·.1)) := ints_of_keys hl fun j v e => hacc.2 j v (by rw [← Array.getElem?_toList]; exact e)
  generalize acc.toList = vs at *
  refine wpAny_bind (wpAny_newList ?_ (by rw [hl, sizeLine_eq]; (first | lia | omega)))
  show wpAny _ A.in1 _ _ _ { s with heap := h₁.push (seqObj "list" vs.toArray 0), toks := tk }
  have hoL : (h₁.push (seqObj "list" vs.toArray 0)).get? h₁.objs.size = some (seqObj "list" vs.toArray 0) := Heap.get?_push_size _ rfl
  refine wpAny_bind (wpAny_holding (wpAny_call_entry_kw slot_list_sort ⟨_, hoL, rfl⟩ entry_list_sort (list_sort_tree_rev hoL hI (by (first | lia | omega)) fun out ns' a1 a2 a3 => ⟨_, rfl, ?_⟩) (args_list_sort_rev _ _)))
  obtain ⟨e, he⟩ := sortedHeap_at (out := out) hoL
  refine wpAny_pure ⟨_, rfl, h _ tk h₁.objs.size out.toList ns' (fun b o hb => ?_) ?_ ⟨_, e, he, rfl, rfl, rfl⟩ a1 a2 a3⟩
  · have h1 := hk b o hb
    exact sortedHeap_ks (Heap.get?_push_of_some _ h1) (Nat.ne_of_lt (Heap.lt_size h1))
  · exact none_back hk (none_of_lt (Nat.le_refl _))

theorem RpL.ofInts {w : World} {P : Addr → Prop} {h : Heap} : ∀ {vs : List Value} {ns : List Int}, IntsAre vs ns → RpL w P h vs (ns.map .int)
  | _, _, .nil => .nil
  | _, _, .cons _ _ r => .cons (.int _ _) (RpL.ofInts r)

noncomputable def Falling (es : List (Int × D)) (ns : List Int) : Prop := ns.Perm (es.map (·.1)) ∧ ns.Pairwise (· ≥ ·)
theorem Falling.uniq {es : List (Int × D)} {ns ms : List Int} (x : Falling es ns) (y : Falling es ms) : ns = ms :=
  (x.1.trans y.1.symm).eq_of_pairwise (fun a b _ _ h1 h2 => Int.le_antisymm h2 h1) x.2 y.2
section
variable {c : Cx} {σ : List (Str × Ent)} {e : Expr} {es : List (Int × D)} {ns : List Int} {p p₁ p₂ p₃ p₄ : Pos} {k₁ : Nat}
theorem Ev.sortedRev (he : Ev c σ e (.dct es)) (hz : es.length < 64) (hns : Falling es ns) (hk : c.env.kindOf "sorted" = some .globalImplicit)
    (hs : starEach [e] c.env = [(false, PySem.eval e c.env)] := by rfl) :
    EvR c σ (.Call (.Name "sorted" p₁) [e] [⟨some "reverse", .Constant (.bool true) k₁ p₃, p₂⟩] p) (.own (.lst (ns.map .int))) := fun A g P s ρ ω rm S => by
  refine wpAny_Call_Name_kw (name_builtin S hk (by decide) (by decide +kernel : bootBuiltins "sorted" = some (.builtin "sorted")) ?_ (by decide) (by decide))
  refine callWith_kw ?_ (by rw [hs]; rfl) (by rw [hs]; rfl)
  rw [hs]
  refine Calls.spliced_cons (wpAny_mono (he A g P s ρ ω rm S) (fun v s₁ zz => Pst.elim zz fun P₁ x₁ y₁ z₁ => Calls.spliced_nil ?_) fun _ _ x => x)
  refine kws_cons (wpAny_Constant_bool (kws_nil ?_))
  change (let G : Prop := _; G)
  intro G
  obtain ⟨a, kvs, rfl, pa, lo, la, xa⟩ := Rp.inv z₁
  subst G
  have hkeys := RpE.keys xa
  refine sorted_rev_dict rm.1 lo la (by rw [xa.length]; exact hz) fun h' tk b vs ms hk' hb hp hi hperm hpw => ?_
  have hms : ms = ns := Falling.uniq (es := es) ⟨hkeys ▸ hperm, hpw⟩ hns
  subst hms
  have x₂ := Ext.of_ks x₁.pw hk'
  refine ⟨P₁, x₁.trans x₂, y₁.trans Rest.of, [b], ⟨b, vs, rfl, rfl, hp, RpL.ofInts hi⟩, by simp, fun z hz => ?_⟩
  rw [List.mem_singleton.mp hz]
  exact ⟨none_back x₁.ks hb, fun hpb => (by have := x₁.pw b hpb; rw [hb] at this; cases this), PLst.some hp⟩
end
end Mine
end

section
open PySem PySem.W PyProof.Rows PySem.Builtin PySem.SeqAt
set_option Elab.async false
set_option maxRecDepth 100000
set_option linter.unusedVariables false
namespace Mine
section
variable {c : Cx} {σ : List (Str × Ent)} {e e' : Expr} {x : Str} {es : List (Int × D)} {d : D} {i : Int} {p p₁ ap : Pos}
theorem Ev.getO (hm : σ.lookup x = some (.dct es)) (h₁ : Ev c σ e (.int i)) (h₂ : Ev c σ e' d) (hl : (ap.endLine == p.line) = true) (htrees : backTo p (starEach [e, e'] c.env) = [(false, PySem.eval e c.env), (false, PySem.eval e' c.env)] := by rfl)
    (hbase : attributeBase (.Name x p₁) "get" c.env (PySem.eval (.Name x p₁) c.env) = PySem.eval (.Name x p₁) c.env := by rfl)
    (hn : (x == ("__classdict__" : Str)) = false := by decide) (hd : (x == ("__debug__" : Str)) = false := by decide) :
    Ev c σ (.Call (.Attribute (.Name x p₁) "get" ap) [e, e'] [] p) ((dget es i).getD d) := fun A g P s ρ ω rm S => by
  have hm' := mem_of_lookup hm
  change (let G : Prop := _; G)
  intro G
  obtain ⟨l, kvs, e1, e2, e0, e3, e4⟩ := (S.vals x _ hm').2
  subst G
  refine wpAny_Call_method2_late hbase hl htrees (wpAny_Name (S.load (S.vals x _ hm').1 hn ?_) hd)
  rw [e1]
  refine ⟨"dict", "dict.get", F.plainAttrs_dict, F.slot_dict_get, F.type_dict_get, e3.typeIs, e3.mapOf.noDict, wpAny_dict_get2 (K := Int) (knd := intKind prg c.w) e0 ?_⟩
  refine wpAny_mono (h₁ A g P s ρ ω rm S) (fun v s₁ zz => Pst.elim zz fun P₁ x₁ y₁ z₁ => wpAny_mono (h₂ A g P₁ s₁ ρ ω rm (S.ext x₁)) (fun u s₂ zz => Pst.elim zz fun P₂ x₂ y₂ z₂ => ?_) fun _ _ x => x) fun _ _ x => x
  obtain ⟨t, rfl⟩ := Rp.inv z₁
  change (let G : Prop := _; G)
  intro G
  obtain ⟨l', kvs', f1, f2, f0, f3, f4⟩ := (((S.ext x₁).ext x₂).vals x _ hm').2
  subst G
  rw [e1] at f1; cases f1
  refine ⟨i, _, intKind_is prg c.w i t, f3.mapOf, P₂, x₁.trans x₂, (y₁.trans y₂).trans Rest.of, ?_⟩
  rcases f4.get i with ⟨h1, h2⟩ | ⟨d', v', h1, h2, h3⟩
  · rw [h1, h2]; exact z₂
  · rw [h1, h2]; exact h3
end

noncomputable def base5 (bel : List (List Int)) : List Int := (List.range 5).map fun k => (bel.map fun one => one.getD k 0).sum
noncomputable def upd5 (kd : Nat) (bel : List (List Int)) (i j : Nat) (t : List Int) : List Int :=
  let a := bel.getD i []
  let b := bel.getD j []
  let n := 1 + tone kd i j
  let t1 := t.set n (t.getD n 0 + a.getD 0 0 * b.getD 0 0)
  t1.set 4 (t1.getD 4 0 + a.getD 0 0 * b.getD n 0 + b.getD 0 0 * a.getD n 0)
noncomputable def tot2 (kd : Nat) (bel : List (List Int)) (i : Nat) (t : List Int) : Nat → List Int
  | 0 => t
  | j + 1 => upd5 kd bel i j (tot2 kd bel i t j)
noncomputable def tot1 (kd : Nat) (bel : List (List Int)) : Nat → List Int
  | 0 => base5 bel
  | i + 1 => tot2 kd bel i (tot1 kd bel i) i
theorem upd5_len {kd : Nat} {bel : List (List Int)} {i j : Nat} {t : List Int} : (upd5 kd bel i j t).length = t.length := by simp [upd5]
theorem tot2_len {kd : Nat} {bel : List (List Int)} {i : Nat} {t : List Int} : ∀ j, (tot2 kd bel i t j).length = t.length
  | 0 => rfl
  | j + 1 => by rw [tot2, upd5_len, tot2_len j]
theorem tot1_len {kd : Nat} {bel : List (List Int)} : ∀ i, (tot1 kd bel i).length = 5
  | 0 => by simp [tot1, base5]
  | i + 1 => by rw [tot1, tot2_len, tot1_len i]
noncomputable def one5 : List Int := [1, 0, 0, 0, 0]
theorem tone_lt (kd i j : Nat) (h : kd < 6) : tone kd i j < 3 := by unfold tone; split <;> (try split) <;> (first | lia | omega)
end Mine
end

section
open PySem PySem.W PyProof.Rows PySem.Builtin PySem.SeqAt
set_option Elab.async false
set_option maxRecDepth 100000
set_option linter.unusedVariables false
set_option maxHeartbeats 2000000
namespace Mine
theorem ok_sums : FnOk 19 ["kinds"] := by
  refine ⟨by rfl, by rfl, by rfl, by decide, ?_, cf_apart 19, ?_⟩
  · intro L x hx
    rcases List.mem_singleton.mp hx with rfl
    exact .inl (by rfl)
  · rintro ⟨⟩ vs rfl rfl rfl hl
    obtain ⟨v, rfl⟩ := len1 hl
    rfl

noncomputable def vD (v : List Int) : D := .lst (v.map .int)
noncomputable def belL (ns : List Int) (f : Int → List Int) (p : Int) (n : Nat) : List (List Int) := (List.range n).map fun (i : Nat) => if p * 16 + (i : Int) + 1 ∈ ns then f (p * 16 + (i : Int) + 1) else one5
noncomputable def sumsD (f : Int → List Int) (ns : List Int) : List (Int × D) := ns.map fun p => (p, vD (f p))
theorem ite_iff {α : Type} {P Q : Prop} [Decidable P] [Decidable Q] {a b : α} (h : P ↔ Q) : (if P then a else b) = if Q then a else b := by
  by_cases hp : P
  · rw [if_pos hp, if_pos (h.mp hp)]
  · rw [if_neg hp, if_neg fun hq => hp (h.mpr hq)]
theorem sz_le (kd : Nat) : sz kd ≤ 5 := by unfold sz; split <;> (first | lia | omega)
theorem dget_sums {f : Int → List Int} {x : Int} : ∀ {ns : List Int}, dget (sumsD f ns) x = if x ∈ ns then some (vD (f x)) else none
  | [] => by simp [sumsD, dget]
  | a :: ns => by
    have ih := dget_sums (f := f) (x := x) (ns := ns)
    unfold dget sumsD at *
    rw [List.map_cons, List.find?_cons]
    by_cases h : a = x
    · subst h; simp
    · rw [show decide ((a, vD (f a)).1 = x) = false by simpa using h]
      simp only [List.mem_cons]
      exact ih.trans (ite_iff ⟨.inr, fun e => e.resolve_left fun q => h q.symm⟩)
theorem sums_put {f : Int → List Int} {x : Int} {ns : List Int} (h : x ∉ ns) : dput (sumsD f ns) x (vD (f x)) = sumsD f (ns ++ [x]) := by
  rw [dput_new]
  · simp [sumsD]
  · intro e he
    obtain ⟨n, hn, rfl⟩ := List.mem_map.mp he
    exact fun q => h (q ▸ hn)
theorem getD_map {v : List Int} {i : Nat} (h : i < v.length) : (v.map D.int)[i]? = some (.int (v.getD i 0)) := by
  rw [List.getElem?_map, List.getD_eq_getElem?_getD, List.getElem?_eq_getElem h]; rfl

theorem sums_fn {w : World} {q : Bool} {k : Nat} {es : List (Int × D)} {ns : List Int} {kd : Int → Nat} {f : Int → List Int} (hf : Falling es ns) (hz : es.length < 64) (hnd : ns.Nodup) (hk : ∀ p ∈ ns, dget es p = some (.int (kd p)) ∧ kd p < 6)
    (hb : ∀ p ∈ ns, 0 ≤ p ∧ p < 1152921504606846976) (hv : ∀ p ∈ ns, f p = tot1 (kd p) (belL ns f p (sz (kd p))) (sz (kd p))) (hs : ∀ p ∈ ns, 0 ≤ (f p).getD 0 0 ∧ (f p).getD 0 0 < 1000000) (h0 : 0 ∈ ns) :
    Fn w q (k + 1) 130 [.dct es] (vD (f 0)) :=
  Fn.intro (by decide : (("_law_sums" : Str), 130, 19) ∈ fnTab) ok_sums rfl fun L qn cd => by
    have hlt : L < L + 1 := Nat.lt_succ_self L
    have hnl : ns.length < 64 := by have := hf.1.length_eq; rw [List.length_map] at this; (first | lia | omega)
    refine Ex.cons (Ex1.assign EvR.dict0 (.inr ⟨by rfl, _, by rfl, hlt⟩) Puts.new) ?_
    refine Ex.cons (Ex1.for' (ds := ns.map .int) (fun m => [("sums", .dct (sumsD f (ns.take m))), ("kinds", .dat (.dct es))]) none (Itr.lst (EvR.freeze (Ev.sortedRev Ev.name hz hf (by rfl)))) (.inr ⟨by rfl, _, by rfl, Nat.lt_succ_of_lt hlt⟩) (Sub.cons (by rfl) (Sub.cons (by rfl) Sub.nil))
      (fun m d hd _ => ?_) (fun m dd h => nomatch h)) ?_
    · have hm : m < ns.length := by simpa using (List.getElem?_eq_some_iff.mp hd).1
      have hd' : d = .int ns[m] := by rw [List.getElem?_map, List.getElem?_eq_getElem hm] at hd; cases hd; rfl
      subst hd'
      have hmem : ns[m] ∈ ns := List.getElem_mem hm
      have htk : ns.take (m + 1) = ns.take m ++ [ns[m]] := by rw [List.take_add_one, List.getElem?_eq_getElem hm]; rfl
      have hnin : ns[m] ∉ ns.take m := fun h => by
        obtain ⟨j, hj, e⟩ := List.mem_iff_getElem.mp h
        rw [List.getElem_take] at e
        have hjm : j < m := by simp at hj; (first | lia | omega)
        exact List.pairwise_iff_getElem.mp hnd j m (Nat.lt_trans hjm hm) hm hjm e
      have hbelow : ∀ x, ns[m] < x → (x ∈ ns.take m ↔ x ∈ ns) := fun x hx => ⟨List.mem_of_mem_take, fun h => by
        obtain ⟨j, hj, e⟩ := List.mem_iff_getElem.mp h
        have hjm : j < m := by
          rcases Nat.lt_trichotomy j m with h | h | h
          · exact h
          · subst h; (first | lia | omega)
          · have := List.pairwise_iff_getElem.mp hf.2 m j hm hj h
            (first | lia | omega)
        rw [← e]
        exact List.mem_iff_getElem.mpr ⟨j, by simp; (first | lia | omega), by simp⟩⟩
      obtain ⟨hk1, hk2⟩ := hk _ hmem
      obtain ⟨hb1, hb2⟩ := hb _ hmem
      have hv1 := hv _ hmem
      rw [htk, ← sums_put hnin]
      generalize ns[m] = p at *
      generalize hkd : kd p = kk at *
      have hb16 : Builtin.Int.intBits p ≤ 64 := PySem.intBits_le_64 (by (first | lia | omega)) (by (first | lia | omega))
      refine ⟨_, Puts.new, ?_⟩
      refine Ex.cons (Ex1.assign (Ev.item (EvR.rcv Ev.name) DatR.stb Ev.name (ItemOp.dct hk1)) (.inl (by rfl)) Puts.new) ?_
      have szb := sz_le kk
      have el : (intsTo ((sz kk : Nat) : Int).toNat).length = sz kk := by rw [intsTo_length]; simp
      refine Ex.cons (Ex1.assign (r := .own (.lst ((belL ns f p (sz kk)).map vD))) (EvR.eq (EvR.comp (cl := [("sums", L + 1), ("path", L + 1 + 1)]) (capt := [("sums", .dct (sumsD f (ns.take m))), ("path", .dat (.int p))]) ?K (Itr.range (n := ((sz kk : Nat) : Int)) ?IT (by rfl) (by (first | lia | omega)) (by (first | lia | omega))) ?SZ (.inl ⟨_, _, rfl⟩) (fun j => (belL ns f p j).map vD) (by rfl) (fun C j d hd => ?TURN)) ?EQ) (.inr ⟨by rfl, _, by rfl, Nat.lt_succ_of_lt (Nat.lt_succ_of_lt hlt)⟩) Puts.new) ?_
      case K =>
        refine ⟨rfl, rfl, by decide, ⟨rfl, rfl, trivial⟩, ?_, Sub.cons (by rfl) (Sub.cons (by rfl) Sub.nil), fun C y hy => ?_⟩
        · show (["sums", "path"] : List Str).Nodup; decide
        · simp only [List.map_cons, List.map_nil, List.mem_cons, List.not_mem_nil, or_false] at hy
          rcases hy with rfl | rfl
          · exact ⟨.inl (by rfl), .inl (by rfl), _, by rfl, by rfl⟩
          · exact ⟨.inl (by rfl), .inl (by rfl), _, by rfl, by rfl⟩
      case IT =>
        by_cases h3 : kk < 3
        · have e : sz kk = 2 := by unfold sz; rw [if_pos h3]
          rw [e]
          exact Ev.iteT (Tst.eq (Tst.cmp Ev.name Ev.int Cmp.lt) (by rw [decide_eq_true_iff]; (first | lia | omega))) Ev.int
        · have e : sz kk = 5 := by unfold sz; rw [if_neg h3]
          rw [e]
          exact Ev.iteF (Tst.eq (Tst.cmp Ev.name Ev.int Cmp.lt) (by rw [decide_eq_false_iff_not]; (first | lia | omega))) Ev.int
      case SZ =>
        rw [el, sizeLine_eq]; unfold sz; split <;> (first | lia | omega)
      case EQ => rw [el]
      case TURN =>
        obtain ⟨hj, rfl⟩ := intsTo_get hd
        refine ⟨_, true, ?_, Tgt.name (.inl (by rfl)) Puts.new, Ifs.nil, fun _ => ⟨vD (if p * 16 + j + 1 ∈ ns then f (p * 16 + j + 1) else one5), ?_, ?_⟩, fun h => nomatch h⟩
        · exact Sub.cons (by rfl) (Sub.cons (by rfl) Sub.nil)
        · refine EvR.eq (Ev.getO (x := "sums") (es := sumsD f (ns.take m)) (i := p * 16 + j + 1) (d := vD one5) (by rfl) (Ev.bin (Ev.bin (Ev.bin Ev.name Ev.int (Bin.mul hb16)) Ev.name Bin.add) Ev.int Bin.add) (EvR.freeze (EvR.list (EvL.cons Ev.int (EvL.cons Ev.int (EvL.cons Ev.int (EvL.cons Ev.int (EvL.cons Ev.int EvL.nil))))))) (by rfl)) ?_
          rw [dget_sums, ite_iff (hbelow (p * 16 + j + 1) (by (first | lia | omega)))]
          split <;> rfl
        · unfold belL
          rw [List.range_succ, List.map_append, List.map_append]; rfl
      have hbl : (belL ns f p (sz kk)).length = sz kk := by simp [belL]
      have hb5 : ∀ v ∈ belL ns f p (sz kk), v.length = 5 ∧ 0 ≤ v.getD 0 0 ∧ v.getD 0 0 < 1000000 := fun v hv' => by
        obtain ⟨j, hj, rfl⟩ := List.mem_map.mp hv'
        split
        · rename_i h
          exact ⟨by rw [hv _ h]; exact tot1_len _, hs _ h⟩
        · exact ⟨rfl, by decide, by decide⟩
      generalize belL ns f p (sz kk) = bel at *
      refine Ex.frz (x := "below") (ds := bel.map vD) (by rfl) Puts.new ?_
      have hgetb : ∀ m : Nat, m < bel.length → (bel.map vD)[m]? = some (vD (bel.getD m [])) := fun m hm => by
        rw [List.getElem?_map, List.getD_eq_getElem?_getD, List.getElem?_eq_getElem hm]; rfl
      refine Ex.cons (Ex1.comp (cl := [("below", L + 1 + 1 + 1)]) (capt := [("below", .dat (.lst (bel.map vD)))]) ?K2 (Itr.range (n := 5) Ev.int (by rfl) (by decide) (by decide)) (by decide) (.inl ⟨_, _, rfl⟩) (fun j => (List.range j).map fun k => D.int (bel.map fun one => one.getD k 0).sum) (by rfl) (fun C j d hd => ?TURN2) (by rfl) Puts.new) ?_
      case K2 =>
        refine ⟨rfl, rfl, by decide, ⟨rfl, trivial⟩, ?_, Sub.cons (by rfl) Sub.nil, fun C y hy => ?_⟩
        · show (["below"] : List Str).Nodup; decide
        · simp only [List.map_cons, List.map_nil, List.mem_cons, List.not_mem_nil, or_false] at hy
          rcases hy with rfl
          exact ⟨.inl (by rfl), .inl (by rfl), _, by rfl, by rfl⟩
      case TURN2 =>
        obtain ⟨hj, rfl⟩ := intsTo_get hd
        have hj5 : j < 5 := hj
        refine ⟨_, true, ?_, Tgt.name (.inr ⟨by rfl, _, by rfl, Nat.lt_succ_self C⟩) Puts.new, Ifs.nil, fun _ => ⟨.int (bel.map fun one => one.getD j 0).sum, ?_, ?_⟩, fun h => nomatch h⟩
        · exact Sub.cons (by rfl) Sub.nil
        · refine Ev.callB (EvL.cons (EvR.freeze (EvR.eq (EvR.comp (cl := [("k", C + 1)]) (capt := [("k", .dat (.int j))]) ?K3 (Itr.lst Ev.name) ?_ (.inl ⟨_, _, rfl⟩) (fun m => (bel.take m).map fun one => D.int (one.getD j 0)) (by rfl) (fun C2 m d hd => ?TURN3)) ?_)) EvL.nil) (Bi.sum (ns := bel.map fun one => one.getD j 0) ?_) (by rfl) (by decide) (by decide +kernel)
          case K3 =>
            refine ⟨rfl, rfl, by decide, ⟨rfl, trivial⟩, ?_, Sub.cons (by rfl) Sub.nil, fun C y hy => ?_⟩
            · show (["k"] : List Str).Nodup; decide
            · simp only [List.map_cons, List.map_nil, List.mem_cons, List.not_mem_nil, or_false] at hy
              rcases hy with rfl
              exact ⟨.inl (by rfl), .inl (by rfl), _, by rfl, by rfl⟩
          case TURN3 =>
            have hm : m < bel.length := by simpa using (List.getElem?_eq_some_iff.mp hd).1
            rw [hgetb m hm] at hd
            cases hd
            have h5 := (hb5 (bel.getD m []) (by rw [List.getD_eq_getElem?_getD, List.getElem?_eq_getElem hm]; exact List.getElem_mem hm)).1
            refine ⟨_, true, ?_, Tgt.name (.inl (by rfl)) Puts.new, Ifs.nil, fun _ => ⟨.int ((bel.getD m []).getD j 0), ?_, ?_⟩, fun h => nomatch h⟩
            · exact Sub.cons (by rfl) Sub.nil
            · exact Ev.item (EvR.rcv Ev.name) DatR.stb Ev.name (ItemOp.lst (by (first | lia | omega)) (by (first | lia | omega)) (by rw [Int.toNat_natCast]; exact getD_map (by (first | lia | omega))))
            · rw [List.take_add_one, List.getElem?_eq_getElem hm, List.map_append]
              rw [List.getD_eq_getElem?_getD (l := bel), List.getElem?_eq_getElem hm]; rfl
          · rw [List.length_map, hbl, sizeLine_eq]; (first | lia | omega)
          · rw [List.length_map, List.take_of_length_le (Nat.le_refl _), List.map_map]; rfl
          · rw [List.length_map, hbl]; (first | lia | omega)
        · rw [List.range_succ, List.map_append]; rfl
      have hlenB : (bel.map vD).length = sz kk := by rw [List.length_map, hbl]
      refine Ex.cons (Ex1.for' (ds := intsTo ((sz kk : Nat) : Int).toNat) (fun i => [("total", .lst ((tot1 kk bel i).map .int)), ("below", .dat (.lst (bel.map vD))), ("kind", .dat (.int kk)), ("path", .dat (.int p)), ("sums", .dct (sumsD f (ns.take m))), ("kinds", .dat (.dct es))]) none
        (Itr.range (n := ((sz kk : Nat) : Int)) (EvR.eq (Ev.callB (EvL.cons Ev.name EvL.nil) (Bi.lenL (by rw [hlenB]; (first | lia | omega))) (by rfl) (by decide) (by decide +kernel)) (by rw [hlenB])) (by rfl) (by (first | lia | omega)) (by (first | lia | omega))) (.inl (by rfl))
        (Sub.cons (by rfl) (Sub.cons (by rfl) (Sub.cons (by rfl) (Sub.cons (by rfl) (Sub.cons (by rfl) (Sub.cons (by rfl) Sub.nil)))))) (fun i d hd _ => ?_) (fun m dd h => nomatch h)) ?_
      · obtain ⟨hi, rfl⟩ := intsTo_get hd
        have hi' : i < sz kk := by simpa using hi
        refine ⟨_, Puts.new, ?_⟩
        have eli : (intsTo ((i : Nat) : Int).toNat).length = i := by rw [intsTo_length]; simp
        have ht1 : (tot1 kk bel i).length = 5 := tot1_len i
        show Ex _ _ _ (.nxt [("total", .lst ((tot2 kk bel i (tot1 kk bel i) i).map .int)), ("below", .dat (.lst (bel.map vD))), ("kind", .dat (.int kk)), ("path", .dat (.int p)), ("sums", .dct (sumsD f (ns.take m))), ("kinds", .dat (.dct es))])
        generalize tot1 kk bel i = t0 at *
        refine Ex.cons (Ex1.for' (ds := intsTo ((i : Nat) : Int).toNat) (fun j => [("total", .lst ((tot2 kk bel i t0 j).map .int)), ("i", .dat (.int i)), ("below", .dat (.lst (bel.map vD))), ("kind", .dat (.int kk)), ("path", .dat (.int p)), ("sums", .dct (sumsD f (ns.take m))), ("kinds", .dat (.dct es))]) none
          (Itr.range (n := ((i : Nat) : Int)) Ev.name (by rfl) (by (first | lia | omega)) (by (first | lia | omega))) (.inl (by rfl))
          (Sub.cons (by rfl) (Sub.cons (by rfl) (Sub.cons (by rfl) (Sub.cons (by rfl) (Sub.cons (by rfl) (Sub.cons (by rfl) (Sub.cons (by rfl) Sub.nil))))))) (fun j d hd _ => ?_) (fun m dd h => nomatch h)) ?_
        · obtain ⟨hj, rfl⟩ := intsTo_get hd
          have hj' : j < i := by simpa using hj
          refine ⟨_, Puts.new, ?_⟩
          have ht2 : (tot2 kk bel i t0 j).length = 5 := by rw [tot2_len, ht1]
          show Ex _ _ _ (.nxt [("total", .lst ((upd5 kk bel i j (tot2 kk bel i t0 j)).map .int)), ("i", .dat (.int i)), ("below", .dat (.lst (bel.map vD))), ("kind", .dat (.int kk)), ("path", .dat (.int p)), ("sums", .dct (sumsD f (ns.take m))), ("kinds", .dat (.dct es))])
          generalize tot2 kk bel i t0 j = tt at *
          have hgi := hgetb i (by (first | lia | omega))
          have hgj := hgetb j (by (first | lia | omega))
          have h5i := hb5 (bel.getD i []) (by rw [List.getD_eq_getElem?_getD, List.getElem?_eq_getElem (by (first | lia | omega))]; exact List.getElem_mem (by (first | lia | omega)))
          have h5j := hb5 (bel.getD j []) (by rw [List.getD_eq_getElem?_getD, List.getElem?_eq_getElem (by (first | lia | omega))]; exact List.getElem_mem (by (first | lia | omega)))
          unfold upd5
          generalize bel.getD i [] = bi at *
          generalize bel.getD j [] = bj at *
          generalize bel.map vD = BD at *
          generalize sumsD f (ns.take m) = SD at *
          have htl := tone_lt kk i j hk2
          have mi : Builtin.Int.intBits (bi.getD 0 0) ≤ 64 := PySem.intBits_le_64 (by (first | lia | omega)) (by (first | lia | omega))
          have mj : Builtin.Int.intBits (bj.getD 0 0) ≤ 64 := PySem.intBits_le_64 (by (first | lia | omega)) (by (first | lia | omega))
          refine Ex.cons (Ex1.assign Ev.name (.inl (by rfl)) Puts.new) ?_
          refine Ex.cons (σ₁ := [("tone", .dat (.int (tone kk i j : Nat))), ("j", .dat (.int j)), ("total", .lst (tt.map .int)), ("i", .dat (.int i)), ("below", .dat (.lst BD)), ("kind", .dat (.int kk)), ("path", .dat (.int p)), ("sums", .dct SD), ("kinds", .dat (.dct es))]) ?IFT ?_
          case IFT =>
            by_cases h3 : kk < 3
            · have e : tone kk i j = kk := by unfold tone; rw [if_pos h3]
              rw [e]
              exact Ex1.ifF (Tst.eq (Tst.cmp Ev.name Ev.int Cmp.gt) (by rw [decide_eq_false_iff_not]; (first | lia | omega))) (Ex.nil' (Sub.cons (by rfl) (Sub.cons (by rfl) (Sub.cons (by rfl) (Sub.cons (by rfl) (Sub.cons (by rfl) (Sub.cons (by rfl) (Sub.cons (by rfl) (Sub.cons (by rfl) (Sub.cons (by rfl) Sub.nil))))))))))
            · have hany : ([1, 4].any fun x : Int => x == ((i : Int) - (j : Int))) = decide (i - j = 1 ∨ i - j = 4) := by
                simp only [List.any_cons, List.any_nil, Bool.or_false]
                by_cases c1 : i - j = 1
                · have : ((1 : Int) == ((i : Int) - j)) = true := by rw [beq_iff_eq]; (first | lia | omega)
                  rw [this]; simp [c1]
                · by_cases c4 : i - j = 4
                  · have : ((4 : Int) == ((i : Int) - j)) = true := by rw [beq_iff_eq]; (first | lia | omega)
                    rw [this]; simp [c4]
                  · have q1 : ((1 : Int) == ((i : Int) - j)) = false := by rw [beq_eq_false_iff_ne]; (first | lia | omega)
                    have q4 : ((4 : Int) == ((i : Int) - j)) = false := by rw [beq_eq_false_iff_ne]; (first | lia | omega)
                    rw [q1, q4]; simp [c1, c4]
              refine Ex1.ifT (Tst.eq (Tst.cmp Ev.name Ev.int Cmp.gt) (by rw [decide_eq_true_iff]; (first | lia | omega))) (Ex.cons (Ex1.assign (r := .dat (.int (tone kk i j : Nat))) ?_ (.inl (by rfl)) Puts.new) (Ex.nil' (Sub.cons (by rfl) (Sub.cons (by rfl) (Sub.cons (by rfl) (Sub.cons (by rfl) (Sub.cons (by rfl) (Sub.cons (by rfl) (Sub.cons (by rfl) (Sub.cons (by rfl) (Sub.cons (by rfl) Sub.nil)))))))))))
              by_cases hc : i - j = 1 ∨ i - j = 4
              · have e : tone kk i j = (kk - 2) % 3 := by unfold tone; rw [if_neg h3, if_pos hc]
                refine EvR.eq (Ev.iteT (Tst.eq (Tst.cmp (Ev.bin Ev.name Ev.name Bin.sub) (Ev.tuple (EvL.cons Ev.int (EvL.cons Ev.int EvL.nil)) (by decide)) (Cmp.inTup (ns := [1, 4]))) (by rw [hany]; simpa using hc)) (Ev.bin (Ev.bin Ev.name Ev.int Bin.sub) Ev.int (Bin.mod (by decide)))) ?_
                rw [e, Int.fmod_eq_emod_of_nonneg _ (by decide)]
                exact congrArg (fun x => Res.dat (D.int x)) (by (first | lia | omega))
              · have e : tone kk i j = (kk - 1) % 3 := by unfold tone; rw [if_neg h3, if_neg hc]
                refine EvR.eq (Ev.iteF (Tst.eq (Tst.cmp (Ev.bin Ev.name Ev.name Bin.sub) (Ev.tuple (EvL.cons Ev.int (EvL.cons Ev.int EvL.nil)) (by decide)) (Cmp.inTup (ns := [1, 4]))) (by rw [hany]; simpa using hc)) (Ev.bin (Ev.bin Ev.name Ev.int Bin.sub) Ev.int (Bin.mod (by decide)))) ?_
                rw [e, Int.fmod_eq_emod_of_nonneg _ (by decide)]
                exact congrArg (fun x => Res.dat (D.int x)) (by (first | lia | omega))
          generalize tone kk i j = tn at *
          have e1t : ((1 : Int) + (tn : Int)).toNat = 1 + tn := by (first | lia | omega)
          have gt : (tt.map D.int)[((1 : Int) + (tn : Int)).toNat]? = some (.int (tt.getD (1 + tn) 0)) := by rw [e1t]; exact getD_map (by (first | lia | omega))
          have g0i : (bi.map D.int)[(0 : Int).toNat]? = some (.int (bi.getD 0 0)) := getD_map (by (first | lia | omega))
          have g0j : (bj.map D.int)[(0 : Int).toNat]? = some (.int (bj.getD 0 0)) := getD_map (by (first | lia | omega))
          have gti : (bi.map D.int)[((1 : Int) + (tn : Int)).toNat]? = some (.int (bi.getD (1 + tn) 0)) := by rw [e1t]; exact getD_map (by (first | lia | omega))
          have gtj : (bj.map D.int)[((1 : Int) + (tn : Int)).toNat]? = some (.int (bj.getD (1 + tn) 0)) := by rw [e1t]; exact getD_map (by (first | lia | omega))
          have hgi' : BD[((i : Nat) : Int).toNat]? = some (.lst (bi.map .int)) := by rw [Int.toNat_natCast]; exact hgi
          have hgj' : BD[((j : Nat) : Int).toNat]? = some (.lst (bj.map .int)) := by rw [Int.toNat_natCast]; exact hgj
          refine Ex.cons (Ex1.setL (i := (1 : Int) + (tn : Int)) (Ev.bin (Ev.item (Rcv.own (x := "total")) OwnR.stb (Ev.bin Ev.int Ev.name Bin.add) (ItemOp.lstO (by (first | lia | omega)) (by (first | lia | omega)) gt)) (Ev.bin (Ev.item (EvR.rcv (Ev.item (EvR.rcv Ev.name) DatR.stb Ev.name (ItemOp.lst (by (first | lia | omega)) (by (first | lia | omega)) hgi'))) DatR.stb Ev.int (ItemOp.lst (by (first | lia | omega)) (by (first | lia | omega)) g0i)) (Ev.item (EvR.rcv (Ev.item (EvR.rcv Ev.name) DatR.stb Ev.name (ItemOp.lst (by (first | lia | omega)) (by (first | lia | omega)) hgj'))) DatR.stb Ev.int (ItemOp.lst (by (first | lia | omega)) (by (first | lia | omega)) g0j)) (Bin.mul mi)) Bin.add) (Ev.bin Ev.int Ev.name Bin.add) (by rfl) (by (first | lia | omega)) (by rw [e1t, List.length_map]; (first | lia | omega)) (by (first | lia | omega)) Puts.new) ?_
          rw [e1t, show (tt.map D.int).set (1 + tn) (.int (tt.getD (1 + tn) 0 + bi.getD 0 0 * bj.getD 0 0)) = (tt.set (1 + tn) (tt.getD (1 + tn) 0 + bi.getD 0 0 * bj.getD 0 0)).map D.int from List.map_set.symm]
          have htl1 : (tt.set (1 + tn) (tt.getD (1 + tn) 0 + bi.getD 0 0 * bj.getD 0 0)).length = 5 := by rw [List.length_set, ht2]
          show Ex _ _ _ (.nxt [("total", .lst (((tt.set (1 + tn) (tt.getD (1 + tn) 0 + bi.getD 0 0 * bj.getD 0 0)).set 4 ((tt.set (1 + tn) (tt.getD (1 + tn) 0 + bi.getD 0 0 * bj.getD 0 0)).getD 4 0 + bi.getD 0 0 * bj.getD (1 + tn) 0 + bj.getD 0 0 * bi.getD (1 + tn) 0)).map .int)), ("i", .dat (.int i)), ("below", .dat (.lst BD)), ("kind", .dat (.int kk)), ("path", .dat (.int p)), ("sums", .dct SD), ("kinds", .dat (.dct es))])
          generalize tt.set (1 + tn) (tt.getD (1 + tn) 0 + bi.getD 0 0 * bj.getD 0 0) = t1 at *
          have g4 : (t1.map D.int)[(4 : Int).toNat]? = some (.int (t1.getD 4 0)) := getD_map (by (first | lia | omega))
          refine Ex.cons (Ex1.setL (i := 4) (Ev.bin (Ev.bin (Ev.item (Rcv.own (x := "total")) OwnR.stb Ev.int (ItemOp.lstO (by (first | lia | omega)) (by (first | lia | omega)) g4)) (Ev.bin (Ev.item (EvR.rcv (Ev.item (EvR.rcv Ev.name) DatR.stb Ev.name (ItemOp.lst (by (first | lia | omega)) (by (first | lia | omega)) hgi'))) DatR.stb Ev.int (ItemOp.lst (by (first | lia | omega)) (by (first | lia | omega)) g0i)) (Ev.item (EvR.rcv (Ev.item (EvR.rcv Ev.name) DatR.stb Ev.name (ItemOp.lst (by (first | lia | omega)) (by (first | lia | omega)) hgj'))) DatR.stb (Ev.bin Ev.int Ev.name Bin.add) (ItemOp.lst (by (first | lia | omega)) (by (first | lia | omega)) gtj)) (Bin.mul mi)) Bin.add)
            (Ev.bin (Ev.item (EvR.rcv (Ev.item (EvR.rcv Ev.name) DatR.stb Ev.name (ItemOp.lst (by (first | lia | omega)) (by (first | lia | omega)) hgj'))) DatR.stb Ev.int (ItemOp.lst (by (first | lia | omega)) (by (first | lia | omega)) g0j)) (Ev.item (EvR.rcv (Ev.item (EvR.rcv Ev.name) DatR.stb Ev.name (ItemOp.lst (by (first | lia | omega)) (by (first | lia | omega)) hgi'))) DatR.stb (Ev.bin Ev.int Ev.name Bin.add) (ItemOp.lst (by (first | lia | omega)) (by (first | lia | omega)) gti)) (Bin.mul mj)) Bin.add) Ev.int (by rfl) (by decide) (by rw [List.length_map, htl1]; decide) (by decide) Puts.new) ?_
          rw [show (t1.map D.int).set (4 : Int).toNat (.int (t1.getD 4 0 + bi.getD 0 0 * bj.getD (1 + tn) 0 + bj.getD 0 0 * bi.getD (1 + tn) 0)) = (t1.set 4 (t1.getD 4 0 + bi.getD 0 0 * bj.getD (1 + tn) 0 + bj.getD 0 0 * bi.getD (1 + tn) 0)).map D.int from List.map_set.symm]
          exact Ex.nil' (Sub.cons (by rfl) (Sub.cons (by rfl) (Sub.cons (by rfl) (Sub.cons (by rfl) (Sub.cons (by rfl) (Sub.cons (by rfl) (Sub.cons (by rfl) Sub.nil)))))))
        · show Ex _ [("total", Ent.lst ((tot2 kk bel i t0 (intsTo ((i : Nat) : Int).toNat).length).map .int)), ("i", .dat (.int i)), ("below", .dat (.lst (bel.map vD))), ("kind", .dat (.int kk)), ("path", .dat (.int p)), ("sums", .dct (sumsD f (ns.take m))), ("kinds", .dat (.dct es))] _ _
          rw [eli]
          exact Ex.nil' (Sub.cons (by rfl) (Sub.cons (by rfl) (Sub.cons (by rfl) (Sub.cons (by rfl) (Sub.cons (by rfl) (Sub.cons (by rfl) Sub.nil))))))
      · show Ex _ [("total", Ent.lst ((tot1 kk bel (intsTo ((sz kk : Nat) : Int).toNat).length).map .int)), ("below", .dat (.lst (bel.map vD))), ("kind", .dat (.int kk)), ("path", .dat (.int p)), ("sums", .dct (sumsD f (ns.take m))), ("kinds", .dat (.dct es))] _ _
        rw [el, ← hv1]
        refine Ex.frz (x := "total") (ds := (f p).map .int) (by rfl) Puts.new ?_
        have hsl : (sumsD f (ns.take m)).length ≤ sizeLine := by
          rw [sumsD, List.length_map, List.length_take, sizeLine_eq]; (first | lia | omega)
        refine Ex.cons (Ex1.setD Ev.name Ev.name (by rfl) hsl Puts.new) ?_
        exact Ex.nil' (Sub.cons (by rfl) (Sub.cons (by rfl) Sub.nil))
    · show Ex _ [("sums", Ent.dct (sumsD f (ns.take (ns.map D.int).length))), ("kinds", .dat (.dct es))] _ _
      rw [List.length_map, List.take_of_length_le (Nat.le_refl _)]
      refine Ex.frzD (x := "sums") (es := sumsD f ns) (by rfl) Puts.new ?_
      refine Ex.ret (Ex1.ret (Ev.item (EvR.rcv Ev.name) DatR.stb Ev.int (ItemOp.dct ?_)))
      rw [dget_sums, if_pos h0]
end Mine
end

section
open PySem PySem.W PyProof.Rows PySem.Builtin PySem.SeqAt
set_option Elab.async false
set_option maxRecDepth 100000
set_option linter.unusedVariables false
namespace Mine
theorem Ty.bytes1 {w : World} {q : Bool} {k : Nat} {n : Int} (h0 : 0 ≤ n) (h1 : n < 256) : Ty w q k "bytes" [.lst [.int n]] (.dat (.bytes #[n.toNat.toUInt8])) := OpL.call1 fun A P s v rm B hp x => by
  change (let G : Prop := _; G)
  intro G
  obtain ⟨a, vs, rfl, pa, la, xa⟩ := Rp.inv x
  subst G
  have hi : IntsAre vs [n] := RpL.ints (ns := [n]) xa
  refine call_bytes_ints la.isList hi (fun m hm => by rw [List.mem_singleton.mp hm]; exact ⟨h0, h1⟩) (by rw [hi.length]; show 1 ≤ _; decide) rm.1 fun h' t k hk => ?_
  exact ⟨P, Ext.of_ks hp hk, Rest.of, .bytes _ _⟩
end Mine
end

section
open PySem PySem.W PyProof.Rows PySem.Builtin
set_option Elab.async false
set_option maxRecDepth 100000
set_option linter.unusedVariables false
namespace Mine
mutual
noncomputable def T.nl : T → Nat
  | .leaf => 1
  | .node _ cs => cs.nl
noncomputable def TL.nl : TL → Nat
  | .nil => 0
  | .cons t r => t.nl + r.nl
end
noncomputable def mkL : Nat → TL
  | 0 => .nil
  | n + 1 => .cons .leaf (mkL n)
mutual
noncomputable def T.gr (kd : Nat) : T → Nat → T
  | .leaf, _ => .node kd (mkL (sz kd))
  | .node k cs, n => .node k (cs.gr kd n)
noncomputable def TL.gr (kd : Nat) : TL → Nat → TL
  | .nil, _ => .nil
  | .cons t r, n => if n < t.nl then .cons (t.gr kd n) r else .cons t (r.gr kd (n - t.nl))
end
mutual
theorem T.lvs_len : ∀ (t : T) (w : List Nat), (t.lvs w).length = t.nl
  | .leaf, w => rfl
  | .node _ cs, w => TL.lvs_len cs w 0
theorem TL.lvs_len : ∀ (cs : TL) (w : List Nat) (i : Nat), (cs.lvs w i).length = cs.nl
  | .nil, _, _ => rfl
  | .cons t r, w, i => by rw [TL.lvs, TL.nl, List.length_append, T.lvs_len, TL.lvs_len]
end
theorem mkL_lvs (w : List Nat) : ∀ (n i : Nat), (mkL n).lvs w i = (List.range n).map fun j => w ++ [i + j]
  | 0, _ => rfl
  | n + 1, i => by
    rw [mkL, TL.lvs, T.lvs, mkL_lvs w n (i + 1), List.range_succ_eq_map, List.map_cons, List.map_map]
    simp only [List.singleton_append, Nat.add_zero, List.cons.injEq, true_and]
    exact List.map_congr_left fun j _ => by simp only [Function.comp]; rw [show i + 1 + j = i + (j + 1) by (first | lia | omega)]
theorem mkL_nds (w : List Nat) : ∀ (n i : Nat), (mkL n).nds w i = []
  | 0, _ => rfl
  | n + 1, i => by rw [mkL, TL.nds, T.nds, mkL_nds w n]; rfl
theorem mkL_len : ∀ n, (mkL n).len = n
  | 0 => rfl
  | n + 1 => by rw [mkL, TL.len, mkL_len n]
theorem mkL_wf : ∀ n, (mkL n).wf
  | 0 => trivial
  | n + 1 => ⟨trivial, mkL_wf n⟩
theorem mkL_ht : ∀ n, (mkL n).ht = 0
  | 0 => rfl
  | n + 1 => by rw [mkL, TL.ht, mkL_ht n]; rfl
theorem mkL_nl : ∀ n, (mkL n).nl = n
  | 0 => rfl
  | n + 1 => by rw [mkL, TL.nl, mkL_nl n, T.nl]; (first | lia | omega)

theorem cut_left {α : Type} (a b x : List α) (n : Nat) (d : α) (h : n < a.length) (f : α → List α) : (a.take n ++ f (a.getD n d) ++ a.drop (n + 1)) ++ b = (a ++ b).take n ++ f ((a ++ b).getD n d) ++ (a ++ b).drop (n + 1) := by
  rw [List.take_append_of_le_length (by (first | lia | omega)), List.drop_append_of_le_length (by (first | lia | omega)), List.getD_eq_getElem?_getD, List.getD_eq_getElem?_getD, List.getElem?_append_left h]
  simp only [List.append_assoc]
theorem cut_right {α : Type} (a b : List α) (n : Nat) (d : α) (h : a.length ≤ n) (f : α → List α) : a ++ (b.take (n - a.length) ++ f (b.getD (n - a.length) d) ++ b.drop (n - a.length + 1)) = (a ++ b).take n ++ f ((a ++ b).getD n d) ++ (a ++ b).drop (n + 1) := by
  rw [List.take_append, List.drop_append, List.take_of_length_le h, List.drop_of_length_le (by (first | lia | omega) : a.length ≤ n + 1), List.getD_eq_getElem?_getD, List.getD_eq_getElem?_getD, List.getElem?_append_right h, show n + 1 - a.length = n - a.length + 1 by (first | lia | omega)]
  simp only [List.append_assoc, List.nil_append]
mutual
theorem T.gr_lvs (kd : Nat) : ∀ (t : T) (n : Nat) (w : List Nat), n < t.nl → (t.gr kd n).lvs w = (t.lvs w).take n ++ (List.range (sz kd)).map (fun i => (t.lvs w).getD n [] ++ [i]) ++ (t.lvs w).drop (n + 1)
  | .leaf, n, w, h => by
    have : n = 0 := by rw [T.nl] at h; (first | lia | omega)
    subst this
    rw [T.gr, T.lvs, T.lvs, mkL_lvs]
    simp
  | .node k cs, n, w, h => by rw [T.gr, T.lvs, T.lvs]; exact TL.gr_lvs kd cs n w 0 h
theorem TL.gr_lvs (kd : Nat) : ∀ (cs : TL) (n : Nat) (w : List Nat) (i : Nat), n < cs.nl → (cs.gr kd n).lvs w i = (cs.lvs w i).take n ++ (List.range (sz kd)).map (fun j => (cs.lvs w i).getD n [] ++ [j]) ++ (cs.lvs w i).drop (n + 1)
  | .nil, n, w, i, h => by rw [TL.nl] at h; (first | lia | omega)
  | .cons t r, n, w, i, h => by
    rw [TL.nl] at h
    rw [TL.gr]
    have hl := T.lvs_len t (w ++ [i])
    by_cases hn : n < t.nl
    · rw [if_pos hn, TL.lvs, TL.lvs, T.gr_lvs kd t n (w ++ [i]) hn]
      exact cut_left _ _ [] n [] (by (first | lia | omega)) fun u => (List.range (sz kd)).map fun j => u ++ [j]
    · rw [if_neg hn, TL.lvs, TL.lvs, TL.gr_lvs kd r (n - t.nl) w (i + 1) (by (first | lia | omega)), ← hl]
      exact cut_right _ _ n [] (by (first | lia | omega)) fun u => (List.range (sz kd)).map fun j => u ++ [j]
end
mutual
theorem T.gr_nds (kd : Nat) : ∀ (t : T) (n : Nat) (w : List Nat), n < t.nl → ((t.gr kd n).nds w).Perm (((t.lvs w).getD n [], kd) :: t.nds w)
  | .leaf, n, w, h => by
    have : n = 0 := by rw [T.nl] at h; (first | lia | omega)
    subst this
    show ((mkL (sz kd)).nds w 0 ++ [(w, kd)]).Perm _
    rw [mkL_nds]; exact List.Perm.refl _
  | .node k cs, n, w, h => by
    rw [T.gr, T.nds, T.nds, T.lvs]
    exact ((TL.gr_nds kd cs n w 0 h).append_right _)
theorem TL.gr_nds (kd : Nat) : ∀ (cs : TL) (n : Nat) (w : List Nat) (i : Nat), n < cs.nl → ((cs.gr kd n).nds w i).Perm (((cs.lvs w i).getD n [], kd) :: cs.nds w i)
  | .nil, n, w, i, h => by rw [TL.nl] at h; (first | lia | omega)
  | .cons t r, n, w, i, h => by
    rw [TL.nl] at h
    rw [TL.gr]
    have hl := T.lvs_len t (w ++ [i])
    by_cases hn : n < t.nl
    · rw [if_pos hn, TL.nds, TL.nds, TL.lvs]
      have e : (t.lvs (w ++ [i]) ++ r.lvs w (i + 1)).getD n [] = (t.lvs (w ++ [i])).getD n [] := by
        rw [List.getD_eq_getElem?_getD, List.getD_eq_getElem?_getD, List.getElem?_append_left (by (first | lia | omega))]
      rw [e]
      exact (T.gr_nds kd t n (w ++ [i]) hn).append_right _
    · rw [if_neg hn, TL.nds, TL.nds, TL.lvs]
      have e : (t.lvs (w ++ [i]) ++ r.lvs w (i + 1)).getD n [] = (r.lvs w (i + 1)).getD (n - t.nl) [] := by
        rw [List.getD_eq_getElem?_getD, List.getD_eq_getElem?_getD, List.getElem?_append_right (by (first | lia | omega)), hl]
      rw [e]
      exact ((TL.gr_nds kd r (n - t.nl) w (i + 1) (by (first | lia | omega))).append_left _).trans List.perm_middle
end
mutual
theorem T.gr_nl (kd : Nat) : ∀ (t : T) (n : Nat), n < t.nl → (t.gr kd n).nl + 1 = t.nl + sz kd
  | .leaf, n, h => by rw [T.gr, T.nl, T.nl, mkL_nl]; (first | lia | omega)
  | .node k cs, n, h => by rw [T.gr, T.nl, T.nl]; exact TL.gr_nl kd cs n h
theorem TL.gr_nl (kd : Nat) : ∀ (cs : TL) (n : Nat), n < cs.nl → (cs.gr kd n).nl + 1 = cs.nl + sz kd
  | .nil, n, h => by rw [TL.nl] at h; (first | lia | omega)
  | .cons t r, n, h => by
    rw [TL.nl] at h
    rw [TL.gr]
    by_cases hn : n < t.nl
    · rw [if_pos hn, TL.nl, TL.nl]; have := T.gr_nl kd t n hn; (first | lia | omega)
    · rw [if_neg hn, TL.nl, TL.nl]; have := TL.gr_nl kd r (n - t.nl) (by (first | lia | omega)); (first | lia | omega)
end
theorem TL.gr_len (kd : Nat) : ∀ (cs : TL) (n : Nat), (cs.gr kd n).len = cs.len
  | .nil, n => rfl
  | .cons t r, n => by
    rw [TL.gr]
    split
    · rfl
    · rw [TL.len, TL.len, TL.gr_len kd r]
mutual
theorem T.gr_wf (kd : Nat) (hk : kd < 6) : ∀ (t : T) (n : Nat), t.wf → (t.gr kd n).wf
  | .leaf, n, _ => ⟨hk, mkL_len _, mkL_wf _⟩
  | .node k cs, n, h => ⟨h.1, by rw [TL.gr_len]; exact h.2.1, TL.gr_wf kd hk cs n h.2.2⟩
theorem TL.gr_wf (kd : Nat) (hk : kd < 6) : ∀ (cs : TL) (n : Nat), cs.wf → (cs.gr kd n).wf
  | .nil, n, _ => trivial
  | .cons t r, n, h => by
    rw [TL.gr]
    split
    · exact ⟨T.gr_wf kd hk t n h.1, h.2⟩
    · exact ⟨h.1, TL.gr_wf kd hk r _ h.2⟩
end
mutual
theorem T.gr_ht (kd : Nat) : ∀ (t : T) (n : Nat), (t.gr kd n).ht ≤ t.ht + 1
  | .leaf, n => by show (mkL (sz kd)).ht + 1 ≤ 0 + 1; rw [mkL_ht]; exact Nat.le_refl _
  | .node k cs, n => by rw [T.gr, T.ht, T.ht]; have := TL.gr_ht kd cs n; (first | lia | omega)
theorem TL.gr_ht (kd : Nat) : ∀ (cs : TL) (n : Nat), (cs.gr kd n).ht ≤ cs.ht + 1
  | .nil, n => by rw [TL.gr]; exact Nat.le_add_right _ _
  | .cons t r, n => by
    rw [TL.gr]
    split
    · rw [TL.ht, TL.ht]; have := T.gr_ht kd t n; (first | lia | omega)
    · rw [TL.ht, TL.ht]; have := TL.gr_ht kd r (n - t.nl); (first | lia | omega)
end
mutual
theorem T.nl_pos : ∀ (t : T), t.wf → 0 < t.nl
  | .leaf, _ => by rw [T.nl]; (first | lia | omega)
  | .node k cs, h => by
    rw [T.nl]
    exact TL.nl_pos cs h.2.2 (by rw [h.2.1]; unfold sz; split <;> (first | lia | omega))
theorem TL.nl_pos : ∀ (cs : TL), cs.wf → 0 < cs.len → 0 < cs.nl
  | .nil, _, h => by rw [TL.len] at h; (first | lia | omega)
  | .cons t r, h, _ => by rw [TL.nl]; have := T.nl_pos t h.1; (first | lia | omega)
end

theorem sz_le' (kd : Nat) : sz kd ≤ 5 := by unfold sz; split <;> (first | lia | omega)
mutual
theorem T.lvs_pre : ∀ (t : T) (w u : List Nat), t.wf → u ∈ t.lvs w → ∃ v, u = w ++ v ∧ (∀ x ∈ v, x < 5) ∧ v.length ≤ t.ht
  | .leaf, w, u, _, h => by rw [List.mem_singleton.mp h]; exact ⟨[], by simp, by simp, by simp⟩
  | .node k cs, w, u, hw, h => by
    change (let G : Prop := _; G)
    intro G
    obtain ⟨j, v, e, h1, h2, h3⟩ := TL.lvs_pre cs w 0 u hw.2.2 h
    subst G
    have h5 := sz_le' k
    rw [hw.2.1] at h1
    exact ⟨j :: v, e, fun x hx => (List.mem_cons.mp hx).elim (fun e => by (first | lia | omega)) (h2 x), by rw [T.ht]; simpa using h3⟩
theorem TL.lvs_pre : ∀ (cs : TL) (w : List Nat) (i : Nat) (u : List Nat), cs.wf → u ∈ cs.lvs w i → ∃ j v, u = w ++ j :: v ∧ (i ≤ j ∧ j < i + cs.len) ∧ (∀ x ∈ v, x < 5) ∧ v.length ≤ cs.ht
  | .nil, w, i, u, _, h => nomatch h
  | .cons t r, w, i, u, hw, h => by
    rw [TL.lvs] at h
    rcases List.mem_append.mp h with h | h
    · change (let G : Prop := _; G)
      intro G
      obtain ⟨v, e, h1, h2⟩ := T.lvs_pre t (w ++ [i]) u hw.1 h
      subst G
      exact ⟨i, v, by rw [e]; simp, ⟨Nat.le_refl _, by rw [TL.len]; (first | lia | omega)⟩, h1, by rw [TL.ht]; (first | lia | omega)⟩
    · change (let G : Prop := _; G)
      intro G
      obtain ⟨j, v, e, h1, h2, h3⟩ := TL.lvs_pre r w (i + 1) u hw.2 h
      subst G
      exact ⟨j, v, e, ⟨by (first | lia | omega), by rw [TL.len]; (first | lia | omega)⟩, h2, by rw [TL.ht]; (first | lia | omega)⟩
end
mutual
theorem T.nds_pre : ∀ (t : T) (w u : List Nat) (k : Nat), t.wf → (u, k) ∈ t.nds w → (∃ v, u = w ++ v ∧ (∀ x ∈ v, x < 5) ∧ v.length < t.ht) ∧ k < 6
  | .leaf, w, u, k, _, h => nomatch h
  | .node kd cs, w, u, k, hw, h => by
    rw [T.nds] at h
    rcases List.mem_append.mp h with h | h
    · change (let G : Prop := _; G)
      intro G
      obtain ⟨⟨j, v, e, h1, h2, h3⟩, h4⟩ := TL.nds_pre cs w 0 u k hw.2.2 h
      subst G
      have h5 := sz_le' kd
      rw [hw.2.1] at h1
      exact ⟨⟨j :: v, e, fun x hx => (List.mem_cons.mp hx).elim (fun e => by (first | lia | omega)) (h2 x), by rw [T.ht]; simpa using h3⟩, h4⟩
    · have := List.mem_singleton.mp h
      injection this with e1 e2
      exact ⟨⟨[], by simp [e1], by simp, by rw [T.ht]; simp⟩, e2 ▸ hw.1⟩
theorem TL.nds_pre : ∀ (cs : TL) (w : List Nat) (i : Nat) (u : List Nat) (k : Nat), cs.wf → (u, k) ∈ cs.nds w i → (∃ j v, u = w ++ j :: v ∧ (i ≤ j ∧ j < i + cs.len) ∧ (∀ x ∈ v, x < 5) ∧ v.length < cs.ht) ∧ k < 6
  | .nil, w, i, u, k, _, h => nomatch h
  | .cons t r, w, i, u, k, hw, h => by
    rw [TL.nds] at h
    rcases List.mem_append.mp h with h | h
    · change (let G : Prop := _; G)
      intro G
      obtain ⟨⟨v, e, h1, h2⟩, h4⟩ := T.nds_pre t (w ++ [i]) u k hw.1 h
      subst G
      exact ⟨⟨i, v, by rw [e]; simp, ⟨Nat.le_refl _, by rw [TL.len]; (first | lia | omega)⟩, h1, by rw [TL.ht]; (first | lia | omega)⟩, h4⟩
    · change (let G : Prop := _; G)
      intro G
      obtain ⟨⟨j, v, e, h1, h2, h3⟩, h4⟩ := TL.nds_pre r w (i + 1) u k hw.2 h
      subst G
      exact ⟨⟨j, v, e, ⟨by (first | lia | omega), by rw [TL.len]; (first | lia | omega)⟩, h2, by rw [TL.ht]; (first | lia | omega)⟩, h4⟩
end
noncomputable def T.all (t : T) (w : List Nat) : List (List Nat) := (t.nds w).map (·.1) ++ t.lvs w
noncomputable def TL.all (cs : TL) (w : List Nat) (i : Nat) : List (List Nat) := (cs.nds w i).map (·.1) ++ cs.lvs w i
theorem TL.all_pre {cs : TL} {w : List Nat} {i : Nat} {u : List Nat} (hw : cs.wf) (h : u ∈ cs.all w i) : ∃ j v, u = w ++ j :: v ∧ i ≤ j := by
  rcases List.mem_append.mp h with h | h
  · change (let G : Prop := _; G)
    intro G
    obtain ⟨⟨u', k⟩, hm, rfl⟩ := List.mem_map.mp h
    subst G
    change (let G : Prop := _; G)
    intro G
    obtain ⟨⟨j, v, e, h1, _⟩, _⟩ := TL.nds_pre cs w i u' k hw hm
    subst G
    exact ⟨j, v, e, h1.1⟩
  · change (let G : Prop := _; G)
    intro G
    obtain ⟨j, v, e, h1, _⟩ := TL.lvs_pre cs w i u hw h
    subst G
    exact ⟨j, v, e, h1.1⟩
theorem T.all_pre {t : T} {w : List Nat} {u : List Nat} (hw : t.wf) (h : u ∈ t.all w) : ∃ v, u = w ++ v := by
  rcases List.mem_append.mp h with h | h
  · change (let G : Prop := _; G)
    intro G
    obtain ⟨⟨u', k⟩, hm, rfl⟩ := List.mem_map.mp h
    subst G
    change (let G : Prop := _; G)
    intro G
    obtain ⟨⟨v, e, _⟩, _⟩ := T.nds_pre t w u' k hw hm
    subst G
    exact ⟨v, e⟩
  · obtain ⟨v, e, _⟩ := T.lvs_pre t w u hw h
    exact ⟨v, e⟩
mutual
theorem T.all_nodup : ∀ (t : T) (w : List Nat), t.wf → (t.all w).Nodup
  | .leaf, w, _ => by simp [T.all, T.nds, T.lvs]
  | .node k cs, w, hw => by
    have ih := TL.all_nodup cs w 0 hw.2.2
    have hp : (T.all (.node k cs) w).Perm (w :: cs.all w 0) := by
      unfold T.all TL.all
      rw [T.nds, T.lvs, List.map_append]
      show ((cs.nds w 0).map (·.1) ++ [w] ++ cs.lvs w 0).Perm _
      rw [List.append_assoc]
      exact List.perm_middle
    refine hp.nodup_iff.mpr (List.nodup_cons.mpr ⟨fun h => ?_, ih⟩)
    change (let G : Prop := _; G)
    intro G
    obtain ⟨j, v, e, _⟩ := TL.all_pre hw.2.2 h
    subst G
    have := congrArg List.length e
    simp at this
theorem TL.all_nodup : ∀ (cs : TL) (w : List Nat) (i : Nat), cs.wf → (cs.all w i).Nodup
  | .nil, w, i, _ => by simp [TL.all, TL.nds, TL.lvs]
  | .cons t r, w, i, hw => by
    have h1 := T.all_nodup t (w ++ [i]) hw.1
    have h2 := TL.all_nodup r w (i + 1) hw.2
    have hp : (TL.all (.cons t r) w i).Perm (t.all (w ++ [i]) ++ r.all w (i + 1)) := by
      unfold T.all TL.all
      rw [TL.nds, TL.lvs, List.map_append, List.append_assoc, List.append_assoc]
      refine List.Perm.append_left _ ?_
      rw [← List.append_assoc, ← List.append_assoc]
      exact List.Perm.append_right _ List.perm_append_comm
    refine hp.nodup_iff.mpr (List.nodup_append.mpr ⟨h1, h2, fun a ha b hb e => ?_⟩)
    obtain ⟨v, ea⟩ := T.all_pre hw.1 ha
    change (let G : Prop := _; G)
    intro G
    obtain ⟨j, v', eb, hj⟩ := TL.all_pre hw.2 hb
    subst G
    rw [← e, ea, List.append_assoc] at eb
    have := List.append_cancel_left eb
    simp at this
    (first | lia | omega)
end
theorem pth_inj : ∀ (n : Nat) (u v : List Nat), u.length ≤ n → (∀ x ∈ u, x < 15) → (∀ x ∈ v, x < 15) → pth u = pth v → u = v := by
  intro n
  induction n with
  | zero =>
    intro u v hl hu hv h
    have e : u = [] := List.eq_nil_of_length_eq_zero (by (first | lia | omega))
    subst e
    rcases List.eq_nil_or_concat v with rfl | ⟨l, x, rfl⟩
    · rfl
    · simp only [List.concat_eq_append] at *; rw [pth_snoc, pth_nil] at h; (first | lia | omega)
  | succ n ih =>
    intro u v hl hu hv h
    rcases List.eq_nil_or_concat u with rfl | ⟨l, x, rfl⟩
    · rcases List.eq_nil_or_concat v with rfl | ⟨l, x, rfl⟩
      · rfl
      · simp only [List.concat_eq_append] at *; rw [pth_snoc, pth_nil] at h; (first | lia | omega)
    · rcases List.eq_nil_or_concat v with rfl | ⟨m, y, rfl⟩
      · simp only [List.concat_eq_append] at *; rw [pth_snoc, pth_nil] at h; (first | lia | omega)
      · simp only [List.concat_eq_append] at *
        rw [pth_snoc, pth_snoc] at h
        have hx := hu x (by simp)
        have hy := hv y (by simp)
        have e1 : x = y := by (first | lia | omega)
        have e2 : pth l = pth m := by (first | lia | omega)
        rw [ih l m (by simp at hl; (first | lia | omega)) (fun z hz => hu z (by simp [hz])) (fun z hz => hv z (by simp [hz])) e2, e1]
end Mine
end

section
open PySem PySem.W PyProof.Rows PySem.Builtin
set_option Elab.async false
set_option maxRecDepth 100000
set_option linter.unusedVariables false
namespace Mine
theorem dget_none {es : List (Int × D)} {k : Int} (h : ∀ e ∈ es, e.1 ≠ k) : dget es k = none := by
  unfold dget
  rw [List.find?_eq_none.mpr]
  · rfl
  · intro e he
    simpa using h e he
theorem dget_mem {es : List (Int × D)} {k : Int} {d : D} (nd : (es.map (·.1)).Nodup) (h : (k, d) ∈ es) : dget es k = some d := by
  induction es with
  | nil => cases h
  | cons e es ih =>
    rw [List.map_cons] at nd
    obtain ⟨n1, n2⟩ := List.nodup_cons.mp nd
    unfold dget
    rw [List.find?_cons]
    rcases List.mem_cons.mp h with rfl | h
    · simp
    · have hne : e.1 ≠ k := fun q => n1 (List.mem_map.mpr ⟨_, h, q.symm⟩)
      rw [show decide (e.1 = k) = false by simpa using hne]
      exact ih n2 h
mutual
theorem T.in_of {es : List (Int × D)} : ∀ (t : T) (w : List Nat), (∀ u k, (u, k) ∈ t.nds w → dget es (pth u) = some (.int k)) → (∀ u ∈ t.lvs w, dget es (pth u) = none) → T.In es t w
  | .leaf, w, _, h => h w (by simp [T.lvs])
  | .node k cs, w, h1, h2 => ⟨h1 w k (by simp [T.nds]), TL.in_of cs w 0 (fun u k h => h1 u k (by rw [T.nds]; exact List.mem_append_left _ h)) h2⟩
theorem TL.in_of {es : List (Int × D)} : ∀ (cs : TL) (w : List Nat) (i : Nat), (∀ u k, (u, k) ∈ cs.nds w i → dget es (pth u) = some (.int k)) → (∀ u ∈ cs.lvs w i, dget es (pth u) = none) → TL.In es cs w i
  | .nil, _, _, _, _ => trivial
  | .cons t r, w, i, h1, h2 => ⟨T.in_of t (w ++ [i]) (fun u k h => h1 u k (by rw [TL.nds]; exact List.mem_append_left _ h)) (fun u h => h2 u (by rw [TL.lvs]; exact List.mem_append_left _ h)),
      TL.in_of r w (i + 1) (fun u k h => h1 u k (by rw [TL.nds]; exact List.mem_append_right _ h)) (fun u h => h2 u (by rw [TL.lvs]; exact List.mem_append_right _ h))⟩
end
theorem mkL_cnt : ∀ n, (mkL n).cnt = n
  | 0 => rfl
  | n + 1 => by rw [mkL, TL.cnt, mkL_cnt n, T.cnt]; (first | lia | omega)
mutual
theorem T.gr_cnt (kd : Nat) : ∀ (t : T) (n : Nat), (t.gr kd n).cnt ≤ t.cnt + 6
  | .leaf, n => by have := sz_le' kd; show (mkL (sz kd)).cnt + 2 ≤ 1 + 6; rw [mkL_cnt]; (first | lia | omega)
  | .node k cs, n => by rw [T.gr, T.cnt, T.cnt]; have := TL.gr_cnt kd cs n; (first | lia | omega)
theorem TL.gr_cnt (kd : Nat) : ∀ (cs : TL) (n : Nat), (cs.gr kd n).cnt ≤ cs.cnt + 6
  | .nil, n => by rw [TL.gr]; (first | lia | omega)
  | .cons t r, n => by
    rw [TL.gr]
    split
    · rw [TL.cnt, TL.cnt]; have := T.gr_cnt kd t n; (first | lia | omega)
    · rw [TL.cnt, TL.cnt]; have := TL.gr_cnt kd r (n - t.nl); (first | lia | omega)
end

noncomputable def goff (k : Nat) : Int := [0, 3, 33, 1, 2, 4, 5].getD k 0
structure GS where
  t : T
  ks : List (List Nat × Nat)
noncomputable def gspot (x : Int) (n : Nat) : Nat := ((x.fdiv 6).fmod n).toNat
noncomputable def gkind (x : Int) (n : Nat) : Nat := (if 7 < n then (x.fmod 6).fmod 3 else x.fmod 6).toNat
noncomputable def gstep (x : Int) (S : GS) : GS :=
  if S.t.nl < 11 then ⟨S.t.gr (gkind x S.t.nl) (gspot x S.t.nl), S.ks ++ [((S.t.lvs []).getD (gspot x S.t.nl) [], gkind x S.t.nl)]⟩ else S
noncomputable def gpad (ns : List Int) : List Int := ns.take 7 ++ List.replicate ((3 : Int) - (ns.length : Int)).toNat 0
noncomputable def grun (ps : List Int) : Nat → GS
  | 0 => ⟨.leaf, []⟩
  | k + 1 => gstep (ps.getD k 0 + goff k) (grun ps k)
structure GI (k : Nat) (S : GS) : Prop where
  wf : S.t.wf
  perm : S.ks.Perm (S.t.nds [])
  nl : S.t.nl ≤ 11
  ht : S.t.ht ≤ k
  len : S.ks.length ≤ k
  cnt : S.t.cnt ≤ 1 + 6 * k
  ne : 0 < k → ∃ kd cs, S.t = .node kd cs
theorem gspot_lt (x : Int) {n : Nat} (h : 0 < n) : gspot x n < n := by
  unfold gspot
  have h1 := Int.fmod_nonneg_of_pos (x.fdiv 6) (show (0 : Int) < n by (first | lia | omega))
  have h2 := Int.fmod_lt_of_pos (x.fdiv 6) (show (0 : Int) < n by (first | lia | omega))
  (first | lia | omega)
theorem gkind_lt (x : Int) (n : Nat) : gkind x n < 6 ∧ (7 < n → gkind x n < 3) := by
  unfold gkind
  have h1 := Int.fmod_nonneg_of_pos x (show (0 : Int) < 6 by (first | lia | omega))
  have h2 := Int.fmod_lt_of_pos x (show (0 : Int) < 6 by (first | lia | omega))
  have h3 := Int.fmod_nonneg_of_pos (x.fmod 6) (show (0 : Int) < 3 by (first | lia | omega))
  have h4 := Int.fmod_lt_of_pos (x.fmod 6) (show (0 : Int) < 3 by (first | lia | omega))
  split <;> (first | lia | omega)
theorem GI.step {k : Nat} {S : GS} (g : GI k S) (x : Int) : GI (k + 1) (gstep x S) := by
  have hp := T.nl_pos S.t g.wf
  obtain ⟨h1, h2⟩ := gkind_lt x S.t.nl
  have h3 := gspot_lt x hp
  have h4 := g.nl
  unfold gstep
  generalize gkind x S.t.nl = kd at *
  generalize gspot x S.t.nl = n at *
  split
  · have hn := T.gr_nl kd S.t n h3
    have hh := T.gr_ht kd S.t n
    have hc := T.gr_cnt kd S.t n
    refine ⟨T.gr_wf kd h1 S.t n g.wf, ?_, ?_, ?_, ?_, ?_, fun _ => ?_⟩
    · refine List.Perm.trans ?_ (T.gr_nds kd S.t n [] h3).symm
      exact (List.perm_append_singleton _ _).trans (List.Perm.cons _ g.perm)
    · show (S.t.gr kd n).nl ≤ 11
      have hs := sz_le' kd
      by_cases h7 : 7 < S.t.nl
      · have : sz kd = 2 := by unfold sz; rw [if_pos (h2 h7)]
        (first | lia | omega)
      · (first | lia | omega)
    · show (S.t.gr kd n).ht ≤ _
      have := g.ht; (first | lia | omega)
    · show (S.ks ++ [_]).length ≤ _
      rw [List.length_append]
      have := g.len
      show _ + 1 ≤ _
      (first | lia | omega)
    · show (S.t.gr kd n).cnt ≤ _
      have := g.cnt; (first | lia | omega)
    · show ∃ kd' cs, S.t.gr kd n = .node kd' cs
      cases S.t with
      | leaf => exact ⟨_, _, rfl⟩
      | node a b => exact ⟨_, _, rfl⟩
  · rename_i hbig
    refine ⟨g.wf, g.perm, g.nl, Nat.le_succ_of_le g.ht, Nat.le_succ_of_le g.len, by have := g.cnt; (first | lia | omega), fun _ => ?_⟩
    cases e : S.t with
    | leaf => rw [e] at hbig; exact absurd (by decide : (1 : Nat) < 11) hbig
    | node a b => exact ⟨_, _, rfl⟩
theorem grun_ok (ps : List Int) : ∀ k, GI k (grun ps k)
  | 0 => ⟨trivial, List.Perm.refl _, (by show 1 ≤ 11; decide), Nat.le_refl _, Nat.le_refl _, (by show 1 ≤ 1 + 6 * 0; decide), fun h => absurd h (Nat.lt_irrefl 0)⟩
  | k + 1 => (grun_ok ps k).step _
noncomputable def kindsD (ks : List (List Nat × Nat)) : List (Int × D) := ks.map fun n => ((pth n.1 : Int), .int n.2)
noncomputable def leavesD (ls : List (List Nat)) : List D := ls.map fun w => .lst [.int (pth w), .bytes (wb w)]

structure KI (t : T) (ks : List (List Nat × Nat)) : Prop where
  nd : ((kindsD ks).map (·.1)).Nodup
  isIn : T.In (kindsD ks) t []
  leaf : ∀ u ∈ t.lvs [], ∀ e ∈ kindsD ks, e.1 ≠ (pth u : Int)
theorem GI.ki {k : Nat} {S : GS} (g : GI k S) : KI S.t S.ks := by
  have hall := T.all_nodup S.t [] g.wf
  unfold T.all at hall
  obtain ⟨n1, n2, n3⟩ := List.nodup_append.mp hall
  have dn : ∀ u k, (u, k) ∈ S.t.nds [] → ∀ x ∈ u, x < 15 := fun u k h => by
    obtain ⟨⟨v, e, h1, _⟩, _⟩ := T.nds_pre S.t [] u k g.wf h
    rw [List.nil_append] at e
    subst e
    exact fun x hx => by have := h1 x hx; (first | lia | omega)
  have dl : ∀ u ∈ S.t.lvs [], ∀ x ∈ u, x < 15 := fun u h => by
    obtain ⟨v, e, h1, _⟩ := T.lvs_pre S.t [] u g.wf h
    rw [List.nil_append] at e
    subst e
    exact fun x hx => by have := h1 x hx; (first | lia | omega)
  have nd : ((kindsD S.ks).map (·.1)).Nodup := by
    have e : (kindsD S.ks).map (·.1) = (S.ks.map (·.1)).map fun u => (pth u : Int) := by simp [kindsD]
    have hks : (S.ks.map (·.1)).Nodup := (g.perm.map (·.1)).nodup_iff.mpr n1
    have hd : ∀ u ∈ S.ks.map (·.1), ∀ x ∈ u, x < 15 := fun u hu => by
      obtain ⟨⟨u', k⟩, hm, rfl⟩ := List.mem_map.mp hu
      exact dn u' k (g.perm.mem_iff.mp hm)
    rw [e]
    refine List.pairwise_map.mpr (hks.imp_of_mem fun {a b} ha hb hne q => hne ?_)
    exact pth_inj a.length a b (Nat.le_refl _) (hd a ha) (hd b hb) (by (first | lia | omega))
  have lf : ∀ u ∈ S.t.lvs [], ∀ e ∈ kindsD S.ks, e.1 ≠ (pth u : Int) := fun u hu e he q => by
    obtain ⟨⟨u', k⟩, hm, rfl⟩ := List.mem_map.mp he
    have hm' := g.perm.mem_iff.mp hm
    have : u' = u := pth_inj u'.length u' u (Nat.le_refl _) (dn u' k hm') (dl u hu) (by simp only at q; (first | lia | omega))
    exact n3 u' (List.mem_map.mpr ⟨_, hm', rfl⟩) u hu this
  refine ⟨nd, T.in_of S.t [] (fun u k h => dget_mem nd (List.mem_map.mpr ⟨(u, k), g.perm.mem_iff.mpr h, rfl⟩)) (fun u hu => dget_none (lf u hu)), lf⟩
end Mine
end

section
open PySem PySem.W PyProof.Rows PySem.Builtin PySem.SeqAt
set_option Elab.async false
set_option maxRecDepth 100000
set_option linter.unusedVariables false
set_option maxHeartbeats 2000000
namespace Mine
theorem ok_grow : FnOk 12 ["script"] := by
  refine ⟨by rfl, by rfl, by rfl, by decide, ?_, cf_apart 12, ?_⟩
  · intro L x hx
    rcases List.mem_singleton.mp hx with rfl
    exact .inl (by rfl)
  · rintro ⟨⟩ vs rfl rfl rfl hl
    obtain ⟨v, rfl⟩ := len1 hl
    rfl
theorem leaves_get {ls : List (List Nat)} {n : Nat} (h : n < ls.length) : (leavesD ls)[n]? = some (.lst [.int (pth (ls.getD n [])), .bytes (wb (ls.getD n []))]) := by
  unfold leavesD
  rw [List.getElem?_map, List.getD_eq_getElem?_getD, List.getElem?_eq_getElem h]; rfl
theorem wb_snoc (w : List Nat) (i : Nat) : wb (w ++ [i]) = wb w ++ #[(66 + i).toUInt8] := by simp [wb]

theorem goff_at : ∀ i : Nat, i < 7 → ([D.int 0, D.int 3, D.int 33, D.int 1, D.int 2, D.int 4, D.int 5])[((i : Nat) : Int).toNat]? = some (.int (goff i))
  | 0, _ => rfl
  | 1, _ => rfl
  | 2, _ => rfl
  | 3, _ => rfl
  | 4, _ => rfl
  | 5, _ => rfl
  | 6, _ => rfl
  | n + 7, h => absurd h (Nat.not_lt.mpr (Nat.le_add_left 7 n))
theorem grow_fn {w : World} {q : Bool} {k : Nat} {ns : List Int} (hn : ns.length < 64) :
    Fn w q (k + 1) 83 [.lst (ns.map .int)] (.tup [.dct (kindsD (grun (gpad ns) (gpad ns).length).ks), .lst (wordsD ((grun (gpad ns) (gpad ns).length).t.lvs []))]) :=
  Fn.intro (by decide : (("_law_grow" : Str), 83, 12) ∈ fnTab) ok_grow rfl fun L qn cd => by
    have hlt : L < L + 1 := Nat.lt_succ_self L
    have hln : (ns.map D.int).length = ns.length := List.length_map ..
    have hpl : (gpad ns).length ≤ 7 := by
      unfold gpad
      rw [List.length_append, List.length_take, List.length_replicate]; (first | lia | omega)
    refine Ex.cons (Ex1.assign (r := .own (.lst ((gpad ns).map .int))) (EvR.eq (Ev.bin (EvR.freeze (EvR.sliceL Ev.name .none (.some Ev.int) (by rw [hln, sizeLine_eq]; (first | lia | omega)))) (EvR.freeze (EvR.mull Ev.int (Ev.bin Ev.int (Ev.callB (EvL.cons Ev.name EvL.nil) (Bi.lenL (by rw [hln]; (first | lia | omega))) (by rfl) (by decide) (by decide +kernel)) Bin.sub) (by rw [hln]; (first | lia | omega)) (by (first | lia | omega)))) (Bin.addl ?SZ)) ?EQ) (.inl (by rfl)) Puts.new) ?_
    case SZ =>
      have h7 : pickD (ns.map D.int) none (some 7) = (ns.map D.int).take 7 := pickD_upto _ 7
      rw [h7, List.length_take, List.length_replicate, sizeLine_eq]; (first | lia | omega)
    case EQ =>
      have h7 : pickD (ns.map D.int) none (some 7) = (ns.map D.int).take 7 := pickD_upto _ 7
      rw [h7, hln]
      unfold gpad
      rw [List.map_append, List.map_take, List.map_replicate]
    refine Ex.frz (x := "padded") (ds := (gpad ns).map .int) (by rfl) Puts.new ?_
    generalize gpad ns = ps at *
    have hpm : (ps.map D.int).length = ps.length := List.length_map ..
    refine Ex.cons (Ex1.assign EvR.dict0 (.inl (by rfl)) Puts.new) ?_
    refine Ex.cons (Ex1.assign (EvR.freeze (EvR.list (EvL.cons (EvR.freeze (EvR.list (EvL.cons Ev.int (EvL.cons Ev.bytes EvL.nil)))) EvL.nil))) (.inl (by rfl)) Puts.new) ?_
    refine Ex.cons (Ex1.for' (ds := intsTo ((ps.length : Nat) : Int).toNat) (fun i => [("leaves", .dat (.lst (leavesD ((grun ps i).t.lvs [])))), ("kinds", .dct (kindsD (grun ps i).ks)), ("padded", .dat (.lst (ps.map .int)))]) none
      (Itr.range (n := ((ps.length : Nat) : Int)) (EvR.eq (Ev.callB (EvL.cons Ev.name EvL.nil) (Bi.lenL (by rw [hpm]; (first | lia | omega))) (by rfl) (by decide) (by decide +kernel)) (by rw [hpm])) (by rfl) (by (first | lia | omega)) (by (first | lia | omega))) (.inl (by rfl)) (Sub.cons (by rfl) (Sub.cons (by rfl) (Sub.cons (by rfl) Sub.nil)))
      (fun i d hd _ => ?_) (fun m dd h => nomatch h)) ?_
    · obtain ⟨hi, rfl⟩ := intsTo_get hd
      have hi' : i < ps.length := by simpa using hi
      refine ⟨_, Puts.new, ?_⟩
      have g := grun_ok ps i
      have hki := g.ki
      have hp := T.nl_pos _ g.wf
      have hll := T.lvs_len (grun ps i).t []
      have hnl := g.nl
      have hkl := g.len
      have hht := g.ht
      show Ex _ _ _ (.nxt [("leaves", .dat (.lst (leavesD ((gstep (ps.getD i 0 + goff i) (grun ps i)).t.lvs [])))), ("kinds", .dct (kindsD (gstep (ps.getD i 0 + goff i) (grun ps i)).ks)), ("padded", .dat (.lst (ps.map .int)))])
      have hpre : ∀ u ∈ (grun ps i).t.lvs [], (∀ x ∈ u, x < 5) ∧ u.length ≤ 7 := fun u hu => by
        change (let G : Prop := _; G)
        intro G
        obtain ⟨v, e, h1, h2⟩ := T.lvs_pre _ [] u g.wf hu
        subst G
        rw [List.nil_append] at e
        subst e
        exact ⟨h1, by (first | lia | omega)⟩
      have hgrl := fun kd n => T.gr_lvs kd (grun ps i).t n []
      have hfresh := hki.leaf
      unfold gstep
      generalize grun ps i = S at *
      have hnum : (ps.map D.int)[((i : Nat) : Int).toNat]? = some (.int (ps.getD i 0)) := by rw [Int.toNat_natCast]; exact getD_map hi'
      have hoff : ([D.int 0, D.int 3, D.int 33, D.int 1, D.int 2, D.int 4, D.int 5])[((i : Nat) : Int).toNat]? = some (.int (goff i)) := goff_at i (by (first | lia | omega))
      generalize ps.getD i 0 = pi at *
      generalize goff i = go at *
      refine Ex.cons (Ex1.assign (Ev.bin (Ev.item (EvR.rcv Ev.name) DatR.stb Ev.name (ItemOp.lst (by (first | lia | omega)) (by (first | lia | omega)) hnum)) (Ev.item (EvR.rcv (EvR.freeze (EvR.list (EvL.cons Ev.int (EvL.cons Ev.int (EvL.cons Ev.int (EvL.cons Ev.int (EvL.cons Ev.int (EvL.cons Ev.int (EvL.cons Ev.int EvL.nil))))))) (by decide)))) DatR.stb Ev.name (ItemOp.lst (by (first | lia | omega)) (by (first | lia | omega)) hoff)) Bin.add) (.inl (by rfl)) Puts.new) ?_
      generalize pi + go = x at *
      have hLl : (leavesD (S.t.lvs [])).length = S.t.nl := by unfold leavesD; rw [List.length_map, hll]
      have hlen : ∀ σ', List.lookup ("leaves" : Str) σ' = some (Ent.dat (.lst (leavesD (S.t.lvs [])))) → ∀ p1 p2 p3, Ev ⟨w, q, k, fenv 12 L 83 qn cd⟩ σ' (.Call (.Name "len" p1) [.Name "leaves" p2] [] p3) (.int (S.t.nl : Nat)) := fun σ' e p1 p2 p3 =>
        EvR.eq (Ev.callB (EvL.cons (Ev.name e) EvL.nil) (Bi.lenL (by rw [hLl]; (first | lia | omega))) (by rfl) (by decide) (by decide +kernel)) (by rw [hLl])
      have hsp : (x.fdiv 6).fmod ((S.t.nl : Nat) : Int) = (gspot x S.t.nl : Nat) := by
        unfold gspot
        have h1 := Int.fmod_nonneg_of_pos (x.fdiv 6) (show (0 : Int) < (S.t.nl : Nat) by (first | lia | omega))
        (first | lia | omega)
      have hspl := gspot_lt x hp
      have hkd := gkind_lt x S.t.nl
      have hkr : (if 7 < S.t.nl then (x.fmod 6).fmod 3 else x.fmod 6) = (gkind x S.t.nl : Nat) := by
        unfold gkind
        have h1 := Int.fmod_nonneg_of_pos x (show (0 : Int) < 6 by (first | lia | omega))
        have h2 := Int.fmod_nonneg_of_pos (x.fmod 6) (show (0 : Int) < 3 by (first | lia | omega))
        split <;> (first | lia | omega)
      generalize gspot x S.t.nl = sp at *
      generalize gkind x S.t.nl = kd at *
      refine Ex.cons (Ex1.assign (EvR.eq (Ev.bin (Ev.bin Ev.name Ev.int (Bin.div (by decide) (by decide))) (hlen _ (by rfl) _ _ _) (Bin.mod (by (first | lia | omega)))) (by rw [hsp])) (.inl (by rfl)) Puts.new) ?_
      refine Ex.cons (Ex1.assign (Ev.bin Ev.name Ev.int (Bin.mod (by decide))) (.inl (by rfl)) Puts.new) ?_
      refine Ex.cons (σ₁ := [("kind", .dat (.int (kd : Nat))), ("spot", .dat (.int (sp : Nat))), ("leaves", .dat (.lst (leavesD (S.t.lvs [])))), ("kinds", .dct (kindsD S.ks)), ("padded", .dat (.lst (ps.map .int)))]) ?IF7 ?_
      case IF7 =>
        by_cases h7 : 7 < S.t.nl
        · rw [if_pos h7] at hkr
          refine Ex1.ifT (Tst.eq (Tst.cmp (hlen _ (by rfl) _ _ _) Ev.int Cmp.gt) (by rw [decide_eq_true_iff]; (first | lia | omega))) (Ex.cons (Ex1.assign (EvR.eq (Ev.bin Ev.name Ev.int (Bin.mod (by decide))) (by rw [hkr])) (.inl (by rfl)) Puts.new) (Ex.nil' (Sub.cons (by rfl) (Sub.cons (by rfl) (Sub.cons (by rfl) (Sub.cons (by rfl) (Sub.cons (by rfl) Sub.nil)))))))
        · rw [if_neg h7] at hkr
          rw [hkr]
          exact Ex1.ifF (Tst.eq (Tst.cmp (hlen _ (by rfl) _ _ _) Ev.int Cmp.gt) (by rw [decide_eq_false_iff_not]; (first | lia | omega))) (Ex.nil' (Sub.cons (by rfl) (Sub.cons (by rfl) (Sub.cons (by rfl) (Sub.cons (by rfl) (Sub.cons (by rfl) Sub.nil))))))
      by_cases h11 : S.t.nl < 11
      · rw [if_pos h11]
        have hgr := hgrl kd sp hspl
        have hge := leaves_get (ls := S.t.lvs []) (n := sp) (by (first | lia | omega))
        have hum : (S.t.lvs []).getD sp [] ∈ S.t.lvs [] := by rw [List.getD_eq_getElem?_getD, List.getElem?_eq_getElem (by (first | lia | omega))]; exact List.getElem_mem _
        obtain ⟨hu5, hu7⟩ := hpre _ hum
        have hfr := hfresh _ hum
        have hnew : dput (kindsD S.ks) (pth ((S.t.lvs []).getD sp [])) (.int kd) = kindsD (S.ks ++ [((S.t.lvs []).getD sp [], kd)]) := by
          rw [dput_new hfr]; simp [kindsD]
        show Ex _ _ _ (.nxt [("leaves", .dat (.lst (leavesD ((S.t.gr kd sp).lvs [])))), ("kinds", .dct (kindsD (S.ks ++ [((S.t.lvs []).getD sp [], kd)]))), ("padded", .dat (.lst (ps.map .int)))])
        rw [hgr, ← hnew]
        generalize (S.t.lvs []).getD sp [] = u at *
        have hks : (kindsD S.ks).length ≤ sizeLine := by unfold kindsD; rw [List.length_map, sizeLine_eq]; (first | lia | omega)
        have hb16 : Builtin.Int.intBits (pth u : Int) ≤ 64 := by
          have h1 := pth_lt (p := u) (fun x hx => by have := hu5 x hx; (first | lia | omega))
          have h2 : 16 ^ u.length ≤ 16 ^ 8 := Nat.pow_le_pow_right (by decide) (by (first | lia | omega))
          exact PySem.intBits_le_64 (by (first | lia | omega)) (by (first | lia | omega))
        have hld : leavesD ((S.t.lvs []).take sp ++ (List.range (sz kd)).map (fun i => u ++ [i]) ++ (S.t.lvs []).drop (sp + 1)) = (leavesD (S.t.lvs [])).take sp ++ leavesD ((List.range (sz kd)).map (fun i => u ++ [i])) ++ (leavesD (S.t.lvs [])).drop (sp + 1) := by
          unfold leavesD
          rw [List.map_append, List.map_append, List.map_take, List.map_drop]
        rw [hld]
        clear hld hgr hnew hfr hfresh hum hpre hgrl hki
        generalize leavesD (S.t.lvs []) = LD at *
        generalize kindsD S.ks = KD at *
        have hge' : LD[((sp : Nat) : Int).toNat]? = some (.lst [.int (pth u), .bytes (wb u)]) := by rw [Int.toNat_natCast]; exact hge
        have szb := sz_le kd
        have el : (intsTo ((sz kd : Nat) : Int).toNat).length = sz kd := by rw [intsTo_length]; simp
        refine Ex.cons (Ex1.ifT (Tst.eq (Tst.cmp (hlen _ (by rfl) _ _ _) Ev.int Cmp.lt) (by rw [decide_eq_true_iff]; (first | lia | omega))) ?_) Ex.nil
        refine Ex.cons (Ex1.assignT (Ev.item (EvR.rcv Ev.name) DatR.stb Ev.name (ItemOp.lst (by (first | lia | omega)) (by (first | lia | omega)) hge')) (Tgt.lst [("path", _), ("word", _)] (by rfl) (fun y hy => ?_) (.cons Puts.new (.cons Puts.new .nil)))) ?_
        · simp only [List.mem_cons, List.not_mem_nil, or_false] at hy
          rcases hy with rfl | rfl
          · exact .inr ⟨by rfl, _, by rfl, hlt⟩
          · exact .inr ⟨by rfl, _, by rfl, Nat.lt_succ_of_lt hlt⟩
        refine Ex.cons (Ex1.setD Ev.name Ev.name (by rfl) hks Puts.new) ?_
        refine Ex.cons (Ex1.assign (r := .dat (.int (sz kd : Nat))) ?IT (.inl (by rfl)) Puts.new) ?_
        case IT =>
          by_cases h3 : kd < 3
          · have e : sz kd = 2 := by unfold sz; rw [if_pos h3]
            rw [e]
            exact Ev.iteT (Tst.eq (Tst.cmp Ev.name Ev.int Cmp.lt) (by rw [decide_eq_true_iff]; (first | lia | omega))) Ev.int
          · have e : sz kd = 5 := by unfold sz; rw [if_neg h3]
            rw [e]
            exact Ev.iteF (Tst.eq (Tst.cmp Ev.name Ev.int Cmp.lt) (by rw [decide_eq_false_iff_not]; (first | lia | omega))) Ev.int
        refine Ex.cons (Ex1.comp (cl := [("word", L + 1 + 1), ("path", L + 1)]) (capt := [("path", .dat (.int (pth u))), ("word", .dat (.bytes (wb u)))]) ?K (Itr.range (n := ((sz kd : Nat) : Int)) Ev.name (by rfl) (by (first | lia | omega)) (by (first | lia | omega))) (by rw [el, sizeLine_eq]; (first | lia | omega)) (.inl ⟨_, _, rfl⟩) (fun j => leavesD ((List.range j).map fun i => u ++ [i])) (by rfl) (fun C j d hd => ?TURN) (by rfl) Puts.new) ?_
        case K =>
          refine ⟨rfl, rfl, by decide, ⟨rfl, rfl, trivial⟩, ?_, Sub.cons (by rfl) (Sub.cons (by rfl) Sub.nil), fun C y hy => ?_⟩
          · show (["word", "path"] : List Str).Nodup; decide
          · simp only [List.map_cons, List.map_nil, List.mem_cons, List.not_mem_nil, or_false] at hy
            rcases hy with rfl | rfl
            · exact ⟨.inl (by rfl), .inl (by rfl), _, by rfl, by rfl⟩
            · exact ⟨.inl (by rfl), .inl (by rfl), _, by rfl, by rfl⟩
        case TURN =>
          obtain ⟨hj, rfl⟩ := intsTo_get hd
          have hj' : j < sz kd := by simpa using hj
          have hp1 : (pth u : Int) * 16 + j + 1 = (pth (u ++ [j]) : Nat) := by rw [pth_snoc]; (first | lia | omega)
          have hb1 : (((66 : Int) + (j : Int)).toNat.toUInt8) = (66 + j).toUInt8 := by
            congr 1
          refine ⟨_, true, ?_, Tgt.name (.inl (by rfl)) Puts.new, Ifs.nil, fun _ => ⟨.lst [.int (pth (u ++ [j]) : Nat), .bytes (wb (u ++ [j]))], ?_, ?_⟩, fun h => nomatch h⟩
          · exact Sub.cons (by rfl) (Sub.cons (by rfl) Sub.nil)
          · rw [← hp1, wb_snoc, ← hb1]
            exact EvR.freeze (EvR.list (EvL.cons (Ev.bin (Ev.bin (Ev.bin Ev.name Ev.int (Bin.mul hb16)) Ev.name Bin.add) Ev.int Bin.add) (EvL.cons (Ev.bin Ev.name (Ev.callT (EvL.cons (EvR.freeze (EvR.list (EvL.cons (Ev.bin Ev.int Ev.name Bin.add) EvL.nil))) EvL.nil) (Ty.bytes1 (by (first | lia | omega)) (by (first | lia | omega))) (by rfl) (by decide) (by decide +kernel)) (Bin.addb (by show (wb u).size + 1 ≤ _; simp only [wb, List.size_toArray, List.length_map]; (first | lia | omega)))) EvL.nil)))
          · unfold leavesD
            rw [List.range_succ, List.map_append, List.map_append]; rfl
        rw [el]
        refine Ex.frz (x := "grown") (ds := leavesD ((List.range (sz kd)).map fun i => u ++ [i])) (by rfl) Puts.new ?_
        have hgl : (leavesD ((List.range (sz kd)).map fun i => u ++ [i])).length = sz kd := by simp [leavesD]
        generalize leavesD ((List.range (sz kd)).map fun i => u ++ [i]) = GD at *
        have hs1 : pickD LD none (some ((sp : Nat) : Int)) = LD.take sp := pickD_upto _ _
        have hs2 : pickD LD (some (((sp : Nat) : Int) + 1)) none = LD.drop (sp + 1) := pickD_from _ (sp + 1)
        have hLz : LD.length ≤ sizeLine := by rw [sizeLine_eq]; (first | lia | omega)
        refine Ex.cons (Ex1.assign (EvR.freeze (EvR.eq (Ev.bin (EvR.freeze (Ev.bin (EvR.freeze (EvR.sliceL Ev.name .none (.some Ev.name) hLz)) Ev.name (Bin.addl ?Z1))) (EvR.freeze (EvR.sliceL Ev.name (.some (Ev.bin Ev.name Ev.int Bin.add)) .none hLz)) (Bin.addl ?Z2)) (by rw [hs1, hs2]))) (.inl (by rfl)) Puts.new) ?_
        case Z1 => rw [hs1, List.length_take, sizeLine_eq]; (first | lia | omega)
        case Z2 => rw [hs1, hs2, List.length_append, List.length_take, List.length_drop, sizeLine_eq]; (first | lia | omega)
        exact Ex.nil' (Sub.cons (by rfl) (Sub.cons (by rfl) (Sub.cons (by rfl) Sub.nil)))
      · rw [if_neg h11]
        exact Ex.cons (Ex1.ifF (Tst.eq (Tst.cmp (hlen _ (by rfl) _ _ _) Ev.int Cmp.lt) (by rw [decide_eq_false_iff_not]; (first | lia | omega))) Ex.nil) (Ex.nil' (Sub.cons (by rfl) (Sub.cons (by rfl) (Sub.cons (by rfl) Sub.nil))))
    · have el : (intsTo ((ps.length : Nat) : Int).toNat).length = ps.length := by rw [intsTo_length]; simp
      show Ex _ [("leaves", Ent.dat (.lst (leavesD ((grun ps (intsTo ((ps.length : Nat) : Int).toNat).length).t.lvs [])))), ("kinds", .dct (kindsD (grun ps (intsTo ((ps.length : Nat) : Int).toNat).length).ks)), ("padded", .dat (.lst (ps.map .int)))] _ _
      rw [el]
      have hll := T.lvs_len (grun ps ps.length).t []
      have hnl := (grun_ok ps ps.length).nl
      generalize grun ps ps.length = S at *
      refine Ex.frzD (x := "kinds") (es := kindsD S.ks) (by rfl) Puts.new ?_
      have hLl : (leavesD (S.t.lvs [])).length = (S.t.lvs []).length := by unfold leavesD; rw [List.length_map]
      refine Ex.ret (Ex1.ret (Ev.tuple (EvL.cons Ev.name (EvL.cons (EvR.freeze (EvR.eq (EvR.comp (cl := []) (capt := []) ?K (Itr.lst Ev.name) ?_ (.inr ⟨_, _, _, rfl⟩) (fun j => wordsD ((S.t.lvs []).take j)) (by rfl) (fun C j d hd => ?TURN)) ?_)) EvL.nil))))
      case K =>
        exact ⟨rfl, rfl, by decide, trivial, List.nodup_nil, Sub.nil, fun C y hy => by cases hy⟩
      case TURN =>
        have hj : j < (S.t.lvs []).length := by have := (List.getElem?_eq_some_iff.mp hd).1; (first | lia | omega)
        rw [leaves_get hj] at hd
        cases hd
        refine ⟨_, true, ?_, Tgt.lst [("path", _), ("word", _)] (by rfl) (fun y hy => ?_) (.cons Puts.new (.cons Puts.new .nil)), Ifs.nil, fun _ => ⟨.bytes (wb ((S.t.lvs []).getD j [])), Ev.name, ?_⟩, fun h => nomatch h⟩
        · exact Sub.nil
        · simp only [List.mem_cons, List.not_mem_nil, or_false] at hy
          rcases hy with rfl | rfl <;> exact .inl (by rfl)
        · unfold wordsD
          rw [List.take_add_one, List.getElem?_eq_getElem hj, List.map_append, List.getD_eq_getElem?_getD, List.getElem?_eq_getElem hj]; rfl
      · rw [hLl, hll, sizeLine_eq]; (first | lia | omega)
      · rw [hLl, List.take_of_length_le (Nat.le_refl _)]
end Mine
end

section
open PySem PySem.W PyProof.Rows PySem.Builtin PySem.SeqAt
set_option Elab.async false
set_option maxRecDepth 100000
set_option linter.unusedVariables false
namespace Mine
section
variable {w : World} {q : Bool} {k : Nat}
theorem sameTup {A : Around} {s : Shared} {P : Addr → Prop} {v u : Value} {ns : List (Array UInt8)} (hu : A.units < cLine) (x : Rp w P s.heap v (.tup (ns.map .bytes))) (y : Rp w P s.heap u (.tup (ns.map .bytes))) : EqAt A s v u true := by
  change (let G : Prop := _; G)
  intro G
  obtain ⟨l, vs, rfl, pa, la, xa⟩ := Rp.inv x
  subst G
  change (let G : Prop := _; G)
  intro G
  obtain ⟨m, us, rfl, pb, lb, xb⟩ := Rp.inv y
  subst G
  by_cases hlm : l = m
  · subst hlm; exact EqAt.same _
  · have hl := xa.length
    have hm := xb.length
    have hr := RcAt.tuples (A := A) (s := s) (e := fun _ => true) la.isTup lb.isTup hu fun j h1 h2 => by
      have j1 : j < vs.length := h1
      have j2 : j < us.length := h2
      obtain ⟨d, hd, r1⟩ := xa.get' (List.getElem?_eq_getElem j1)
      obtain ⟨d', hd', r2⟩ := xb.get' (List.getElem?_eq_getElem j2)
      rw [hd] at hd'; cases hd'
      rw [List.getElem?_map] at hd
      cases hn : ns[j]? with
      | none => rw [hn] at hd; cases hd
      | some n =>
        rw [hn] at hd
        cases hd
        simp only [List.getElem_toArray]
        generalize vs[j] = v at *
        generalize us[j] = u at *
        obtain ⟨t1, rfl⟩ := Rp.inv r1
        obtain ⟨t2, rfl⟩ := Rp.inv r2
        have := eqAt_bytes (A := A.in1) (s := s) (b := n) (b' := n) (t := t1) (u := t2)
        simpa using this
    have e : ((List.range (min vs.toArray.size us.toArray.size)).all (fun _ => true) && vs.toArray.size == us.toArray.size) = true := by
      rw [List.size_toArray, List.size_toArray, hl, hm]; simp
    rw [e] at hr
    exact EqAt.of_refs hlm hr
theorem hits_all {A : Around} {s : Shared} {P : Addr → Prop} (hu : A.units < cLine) {kb : List (Int × Value)} {eb : List (Int × D)} (xb : RpE w P s.heap kb eb)
    {ka : List (Int × Value)} {ea : List (Int × D)} (xa : RpE w P s.heap ka ea) (h : ∀ e ∈ ea, dget eb e.1 = some e.2 ∧ ∃ ns : List (Array UInt8), e.2 = .tup (ns.map .bytes)) : KeqHits A s kb ka true := by
  induction ka generalizing ea with
  | nil => exact .nil
  | cons kv ka ih =>
    cases xa with
    | cons r x =>
      obtain ⟨h1, ns, h2⟩ := h _ (.head _)
      simp only at h1 h2
      subst h2
      have ih := ih x fun e he => h e (.tail _ he)
      rcases xb.get _ with ⟨g1, _⟩ | ⟨d, v, g1, g2, g3⟩
      · rw [h1] at g1; cases g1
      · rw [h1] at g1; cases g1
        exact KeqHits.hit (e := true) (b := true) g2 (sameTup hu r g3) ih
theorem Cmp.neDict {ea eb : List (Int × D)} (hl : ea.length = eb.length) (h : ∀ e ∈ ea, dget eb e.1 = some e.2 ∧ ∃ ns : List (Array UInt8), e.2 = .tup (ns.map .bytes)) : Cmp w q k .NotEq (.dct ea) (.dct eb) (.dat (.bool false)) := OpL.two fun A P s _ _ rm B hp x y => by
  change (let G : Prop := _; G)
  intro G
  obtain ⟨a, ka, rfl, pa, lo, la, xa⟩ := Rp.inv x
  subst G
  change (let G : Prop := _; G)
  intro G
  obtain ⟨b, kb, rfl, pb, lo', lb, xb⟩ := Rp.inv y
  subst G
  have hu := rm.units
  have e1 : (!(ka.length == kb.length && true)) = false := by rw [xa.length, xb.length, hl]; simp
  refine keq_ne (r := true) lo lo' la lb (by (first | lia | omega)) (fun _ => hits_all (by show A.units + 1 < _; (first | lia | omega)) xb xa h) ?_
  rw [e1]
  exact Pst.here hp (.bool _)
end

section
variable {c : Cx} {σ : List (Str × Ent)} {e e₁ e₂ : Expr} {rest : List Expr} {b : Bool} {p p' pp : Pos} {k₁ : Nat}
theorem Ev.tail1 {x : Str} (h : Ev c σ e (.str x)) (hx : 1 ≤ x.length) (hz : x.length ≤ sizeLine) (ht : ∀ o r, letTemporaryGo e o r = pure () := by intro _ _; rfl) :
    Ev c σ (.Subscript e (.Slice (some (.Constant (.int 1) k₁ pp)) Option.none Option.none p) p') (.str ⟨(x.cps.toList.drop 1).toArray⟩) := fun A g P s ρ ω rm S => by
  refine wpAny_Subscript_str_slice (wpAny_mono (h A g P s ρ ω rm S) (fun v s₁ zz => Pst.elim zz fun P₁ x₁ y₁ z₁ => ?_) fun _ _ x => x) ht
  rw [evalPart_some]
  refine wpAny_Constant_int ?_
  rw [evalPart_none]
  refine wpAny_pure ?_
  obtain ⟨t, rfl⟩ := Rp.inv z₁
  refine ⟨x, t, some (1, s₁.toks), Option.none, rfl, rfl, rfl, ?_⟩
  have hidx : slicePicked x (some (1, s₁.toks)) Option.none Option.none = (List.range (x.length - 1)).map (fun k => 1 + k) := by
    unfold slicePicked
    have h1 : Builtin.Str.strSliceIndices (some (1 : Int)) Option.none 1 x.length = Builtin.Str.strSliceIndices (some ((1 : Nat) : Int)) (some (x.length : Int)) 1 x.length := by
      unfold Builtin.Str.strSliceIndices
      simp only [show ((1 : Int) > 0) = True from by simp, if_true]
      have h2 : ¬ ((x.length : Int) < 0) := by (first | lia | omega)
      simp only [h2, if_false]
      congr 1
      (first | lia | omega)
    show Builtin.Str.strSliceIndices (some (1 : Int)) Option.none 1 x.length = _
    rw [h1, StrLaws.strSliceIndices_plain hx (Nat.le_refl _)]
  have hmap : (slicePicked x (some (1, s₁.toks)) Option.none Option.none).filterMap (x.cps[·]?) = x.cps.toList.drop 1 := by
    have := StrLaws.sliced_plain x (a := 1) (b := x.length) hx (Nat.le_refl _)
    rw [StrLaws.strSliceIndices_plain hx (Nat.le_refl _)] at this
    rw [hidx, this, List.take_of_length_le]
    rw [List.length_drop]; exact Nat.le_refl _
  have hne : ((((Option.none : Option (Int × Tok)).map (·.1)).getD 1 == 1 && (slicePicked x (some (1, s₁.toks)) Option.none Option.none).length == x.length)) = false := by
    rw [hidx, List.length_map, List.length_range]
    have : (x.length - 1 == x.length) = false := by rw [beq_eq_false_iff_ne]; (first | lia | omega)
    rw [this]; simp
  unfold sliceMade
  rw [if_neg (by rw [hne]; decide), hmap]
  have x₄ := Ext.push0 (P := P₁) x₁.pw { cls := .type "slice", data := .fields #[.int 1 s₁.toks, .none, .none] }
  refine ⟨?_, P₁, x₁.trans x₄, y₁.trans Rest.of, .str _ _⟩
  show (x.cps.toList.drop 1).toArray.size ≤ _
  rw [List.size_toArray, List.length_drop, Array.length_toList]
  have : x.cps.size ≤ sizeLine := hz
  (first | lia | omega)

theorem Ev.and1 (h : Ev c σ e (.bool b)) : Ev c σ (.BoolOp .And [e] p) (.bool b) := fun A g P s ρ ω rm S => BoolOp_one (h A g P s ρ ω rm S)
theorem Ev.andT (h : Ev c σ e₁ (.bool true)) (t : Ev c σ (.BoolOp .And (e₂ :: rest) p) (.bool b)) : Ev c σ (.BoolOp .And (e₁ :: e₂ :: rest) p) (.bool b) := fun A g P s ρ ω rm S =>
  BoolOp_and (wpAny_mono (h A g P s ρ ω rm S) (fun v s₁ zz => Pst.elim zz fun P₁ x₁ y₁ z₁ => by
    obtain ⟨_, rfl⟩ := Rp.inv z₁
    refine wpAny_truthy_bool ?_
    rw [if_pos rfl]
    exact wpAny_mono (t A g P₁ s₁ ρ ω rm (S.ext x₁)) (fun _ _ z => Pst.step x₁ y₁ z fun _ _ _ t => t) fun _ _ x => x) fun _ _ x => x)
theorem Ev.or2 {b₁ b₂ : Bool} (h : Ev c σ e₁ (.bool b₁)) (t : b₁ = false → Ev c σ e₂ (.bool b₂)) : Ev c σ (.BoolOp .Or [e₁, e₂] p) (.bool (b₁ || b₂)) := fun A g P s ρ ω rm S =>
  BoolOp_or (wpAny_mono (h A g P s ρ ω rm S) (fun v s₁ zz => Pst.elim zz fun P₁ x₁ y₁ z₁ => by
    obtain ⟨_, rfl⟩ := Rp.inv z₁
    refine wpAny_truthy_bool ?_
    cases b₁ with
    | true => rw [if_pos rfl]; exact ⟨P₁, x₁, y₁, .bool _⟩
    | false =>
      rw [if_neg Bool.false_ne_true]
      exact BoolOp_one (wpAny_mono (t rfl A g P₁ s₁ ρ ω rm (S.ext x₁)) (fun _ _ z => Pst.step x₁ y₁ z fun _ _ _ t => t) fun _ _ x => x)) fun _ _ x => x)
end
end Mine
end

section
open PySem PySem.W PyProof.Rows PySem.Builtin PySem.SeqAt
set_option Elab.async false
set_option maxRecDepth 100000
set_option linter.unusedVariables false
set_option maxHeartbeats 2000000
namespace Mine
section
variable {c : Cx} {σ : List (Str × Ent)} {e : Expr} {b : Bool} {p : Pos}
theorem Ev.notB (h : Ev c σ e (.bool b)) : Ev c σ (.UnaryOp .Not e p) (.bool (!b)) := fun A g P s ρ ω rm S =>
  UnaryOp_ (wpAny_mono (h A g P s ρ ω rm S) (fun v s₁ zz => Pst.elim zz fun P₁ x₁ y₁ z₁ => by
    obtain ⟨_, rfl⟩ := Rp.inv z₁
    exact not_of (wpAny_truthy_bool ⟨P₁, x₁, y₁, .bool _⟩)) fun _ _ x => x)
end
theorem ok_law : FnOk 22 ["script"] := by
  refine ⟨by rfl, by rfl, by rfl, by decide, ?_, cf_apart 22, ?_⟩
  · intro L x hx
    rcases List.mem_singleton.mp hx with rfl
    exact .inl (by rfl)
  · rintro ⟨⟩ vs rfl rfl rfl hl
    obtain ⟨v, rfl⟩ := len1 hl
    rfl
noncomputable def usedT (V : List Int) (j : Nat) : List D := ((List.range j).filter fun c => decide (0 < V.getD (1 + c) 0)).map fun c => D.int (c : Nat)
theorem usedT_succ (V : List Int) (j : Nat) : usedT V (j + 1) = if 0 < V.getD (1 + j) 0 then usedT V j ++ [.int j] else usedT V j := by
  unfold usedT
  rw [List.range_succ, List.filter_append, List.map_append]
  by_cases h : 0 < V.getD (1 + j) 0
  · rw [if_pos h]; simp only [List.filter_cons, List.filter_nil, decide_eq_true h, if_true, List.map_cons, List.map_nil]
  · rw [if_neg h]; simp only [List.filter_cons, List.filter_nil, decide_eq_false h, Bool.false_eq_true, if_false, List.map_nil, List.append_nil]
theorem usedT_len (V : List Int) (j : Nat) : (usedT V j).length ≤ j := by
  unfold usedT
  rw [List.length_map]
  exact Nat.le_trans (List.length_filter_le _ _) (by simp)
noncomputable def lim (m : Nat) : Int := [1, 2, 5, 10].getD m 0
theorem words_get {ls : List (List Nat)} {n : Nat} (h : n < ls.length) : (wordsD ls)[n]? = some (.bytes (wb (ls.getD n []))) := by
  unfold wordsD
  rw [List.getElem?_map, List.getD_eq_getElem?_getD, List.getElem?_eq_getElem h]; rfl

theorem law_go {w : World} {K : Nat} {ns : List Int} {ks : List (List Nat × Nat)} {W : List (List Nat)} {N : List (List Nat × Nat)} {X : Str} {R : List D} {tf : Nat → Nat → Nat} {V : List Int} {s un : Int} {bt : Bool}
    (hgrow : Fn w false K 83 [.lst (ns.map .int)] (.tup [.dct (kindsD ks), .lst (wordsD W)]))
    (hwrite : Fn w false K 97 [.dct (kindsD ks), .int 0] (.tup [.str X, .lst R]))
    (hX : 1 ≤ X.length) (hXz : X.length ≤ sizeLine)
    (hc1 : Fn w false K 71 [.str X] (.bool true)) (hc2 : Fn w false K 71 [.str ⟨(X.cps.toList.drop 1).toArray⟩] (.bool false))
    (hread : Fn w false K 104 [.str X, .lst R] (.tup [.dct (nodesD N), .lst (wordsD W)]))
    (hnames : ∀ m : Nat, m < 6 → Fn w false K 90 [.int m] (.tup ((names m).map .bytes)))
    (hknd : ((kindsD ks).map (·.1)).Nodup) (hk6 : ∀ e ∈ ks, e.2 < 6) (hkl : ks.length ≤ 1000) (hN : N.length = ks.length) (hNk : ∀ e ∈ N, e ∈ ks)
    (htie : ∀ i j, j < i → i < W.length → Fn w false K 111 [.dct (nodesD N), .bytes (wb (W.getD i [])), .bytes (wb (W.getD j []))] (.int (tf i j : Nat)))
    (hWl : W.length < 1000)
    (hsums : Fn w false K 130 [.dct (kindsD ks)] (vD V)) (hV : V.length = 5)
    (hmix : Fn w false K 118 [.lst (tiesD tf W.length)] (.lst ((m1 tf W.length).map .int)))
    (hseen : Fn w false K 125 [.lst ((m1 tf W.length).map .int)] (.int s))
    (hunl : Fn w false K 135 [.lst (tiesD tf W.length)] (.int un))
    (htw : Fn w false K 140 [.dct (nodesD N)] (.bool bt))
    (f1 : (W.length : Int) = V.getD 0 0) (f2 : s = V.getD 4 0) (f3 : 2 * V.getD 4 0 + un = ((W.length : Int) * ((W.length : Int) - 1) * ((W.length : Int) - 2)).fdiv 3)
    (f4 : (V.getD 4 0 == 0) = !bt) (f5 : 0 < V.getD 4 0 ∨ (W.length : Int) ≤ lim (usedT V 3).length) :
    Fn w false (K + 1) 145 [.lst (ns.map .int)] (.bool true) :=
  Fn.intro (by decide : (("law" : Str), 145, 22) ∈ fnTab) ok_law rfl fun L qn cd => by
    have hlt : L < L + 1 := Nat.lt_succ_self L
    have hlt2 : L < L + 1 + 1 := Nat.lt_succ_of_lt hlt
    have hlt3 : L < L + 1 + 1 + 1 := Nat.lt_succ_of_lt hlt2
    have hlt4 : L < L + 1 + 1 + 1 + 1 := Nat.lt_succ_of_lt hlt3
    refine Ex.cons (Ex1.assignT (Ev.callF (EvL.cons Ev.name EvL.nil) hgrow (by rfl) (by decide : (("_law_grow" : Str), 83, 12) ∈ fnTab)) (Tgt.tup [("kinds", _), ("leaves", _)] (by rfl) (fun y hy => ?_) (.cons Puts.new (.cons Puts.new .nil)))) ?_
    · simp only [List.mem_cons, List.not_mem_nil, or_false] at hy
      rcases hy with rfl | rfl
      · exact .inr ⟨by rfl, _, by rfl, hlt⟩
      · exact .inl (by rfl)
    refine Ex.cons (Ex1.assignT (Ev.callF (EvL.cons Ev.name (EvL.cons Ev.int EvL.nil)) hwrite (by rfl) (by decide : (("_law_write" : Str), 97, 14) ∈ fnTab)) (Tgt.tup [("text", _), ("replies", _)] (by rfl) (fun y hy => ?_) (.cons Puts.new (.cons Puts.new .nil)))) ?_
    · simp only [List.mem_cons, List.not_mem_nil, or_false] at hy
      rcases hy with rfl | rfl <;> exact .inl (by rfl)
    refine Ex.cons (Ex1.ifF (Tst.all (TstA.orF (Tst.cmp (Ev.callF (EvL.cons Ev.name EvL.nil) hc1 (by rfl) (by decide : (("_check_parenthesis" : Str), 71, 8) ∈ fnTab)) Ev.bool Cmp.isNotB) (TstA.orF (Tst.cmp (Ev.callF (EvL.cons (Ev.tail1 Ev.name hX hXz) EvL.nil) hc2 (by rfl) (by decide : (("_check_parenthesis" : Str), 71, 8) ∈ fnTab)) Ev.bool Cmp.isNotB) TstA.orNil))) Ex.nil) ?_
    refine Ex.cons (Ex1.assignT (Ev.callF (EvL.cons Ev.name (EvL.cons Ev.name EvL.nil)) hread (by rfl) (by decide : (("_law_read" : Str), 104, 15) ∈ fnTab)) (Tgt.tup [("nodes", _), ("words", _)] (by rfl) (fun y hy => ?_) (.cons Puts.new (.cons Puts.new .nil)))) ?_
    · simp only [List.mem_cons, List.not_mem_nil, or_false] at hy
      rcases hy with rfl | rfl
      · exact .inr ⟨by rfl, _, by rfl, hlt2⟩
      · exact .inr ⟨by rfl, _, by rfl, hlt3⟩
    have hws : wordsD W = (W.map wb).map D.bytes := by simp [wordsD]
    have hnd : ∀ e ∈ nodesD N, dget (nodesD ks) e.1 = some e.2 ∧ ∃ ns : List (Array UInt8), e.2 = .tup (ns.map .bytes) := fun e he => by
      obtain ⟨n, hn, rfl⟩ := List.mem_map.mp he
      refine ⟨dget_mem ?_ (List.mem_map.mpr ⟨n, hNk n hn, rfl⟩), _, rfl⟩
      have : (nodesD ks).map (·.1) = (kindsD ks).map (·.1) := by simp [nodesD, kindsD]
      rw [this]; exact hknd
    refine Ex.cons (Ex1.ifF (Tst.all (TstA.orF (Tst.cmp Ev.name Ev.name (by rw [hws]; exact Cmp.neSame)) (TstA.orF (Tst.cmp Ev.name (EvR.eq (EvR.compD (cl := [("kinds", L + 1)]) (capt := [("kinds", .dat (.dct (kindsD ks)))]) ?KD (Itr.dct Ev.name) ?SZ (.inl ⟨_, _, rfl⟩) (fun j => nodesD (ks.take j)) (by rfl) (fun C j d hd => ?TD)) ?EQ) (Cmp.neDict (eb := nodesD ks) ?LEN hnd)) TstA.orNil))) Ex.nil) ?_
    case KD =>
      refine ⟨rfl, rfl, by decide, ⟨rfl, trivial⟩, ?_, Sub.cons (by rfl) Sub.nil, fun C y hy => ?_⟩
      · show (["kinds"] : List Str).Nodup; decide
      · simp only [List.map_cons, List.map_nil, List.mem_cons, List.not_mem_nil, or_false] at hy
        rcases hy with rfl
        exact ⟨.inl (by rfl), .inl (by rfl), _, by rfl, by rfl⟩
    case SZ => rw [List.length_map, kindsD, List.length_map, sizeLine_eq]; (first | lia | omega)
    case EQ => rw [List.length_map, kindsD, List.length_map, List.take_of_length_le (Nat.le_refl _)]
    case LEN => rw [nodesD, nodesD, List.length_map, List.length_map, hN]
    case TD =>
      have hj : j < ks.length := by have := (List.getElem?_eq_some_iff.mp hd).1; simpa [kindsD] using this
      have hd' : d = .int (pth ks[j].1) := by
        rw [List.getElem?_map, kindsD, List.getElem?_map, List.getElem?_eq_getElem hj] at hd; cases hd; rfl
      subst hd'
      have hmem : ks[j] ∈ ks := List.getElem_mem hj
      have hdg : dget (kindsD ks) (pth ks[j].1) = some (.int ks[j].2) := dget_mem hknd (List.mem_map.mpr ⟨_, hmem, rfl⟩)
      refine ⟨_, true, ?_, Tgt.name (.inl (by rfl)) Puts.new, Ifs.nil, fun _ => ⟨pth ks[j].1, .tup ((names ks[j].2).map .bytes), Ev.name, Ev.callF (EvL.cons (Ev.item (EvR.rcv Ev.name) DatR.stb Ev.name (ItemOp.dct hdg)) EvL.nil) (hnames _ (hk6 _ hmem)) (by rfl) mem_names, ?_⟩, fun h => nomatch h⟩
      · exact Sub.cons (by rfl) Sub.nil
      · rw [dput_new]
        · rw [show ks.take (j + 1) = ks.take j ++ [ks[j]] from by rw [List.take_add_one, List.getElem?_eq_getElem hj]; rfl]
          unfold nodesD
          rw [List.map_append]; rfl
        · intro e he
          obtain ⟨n, hn, rfl⟩ := List.mem_map.mp he
          obtain ⟨m, hm, rfl⟩ := List.mem_iff_getElem.mp hn
          have hmj : m < j := by simp at hm; (first | lia | omega)
          rw [List.getElem_take]
          have hp := List.pairwise_iff_getElem.mp hknd m j (by simp [kindsD]; (first | lia | omega)) (by simp [kindsD]; (first | lia | omega)) hmj
          simpa [kindsD] using hp
    have hwl : (wordsD W).length = W.length := by simp [wordsD]
    have elW : (intsTo ((W.length : Nat) : Int).toNat).length = W.length := by rw [intsTo_length]; simp
    refine Ex.cons (Ex1.comp (cl := [("words", L + 1 + 1 + 1), ("nodes", L + 1 + 1)]) (capt := [("nodes", .dat (.dct (nodesD N))), ("words", .dat (.lst (wordsD W)))]) ?KT (Itr.range (n := ((W.length : Nat) : Int)) (EvR.eq (Ev.callB (EvL.cons Ev.name EvL.nil) (Bi.lenL (by rw [hwl]; (first | lia | omega))) (by rfl) (by decide) (by decide +kernel)) (by rw [hwl])) (by rfl) (by (first | lia | omega)) (by (first | lia | omega))) (by rw [elW, sizeLine_eq]; (first | lia | omega)) (.inl ⟨_, _, rfl⟩) (fun j => tiesD tf j) (by rfl) (fun C i d hd => ?TT) (by rfl) Puts.new) ?_
    case KT =>
      refine ⟨rfl, rfl, by decide, ⟨rfl, rfl, trivial⟩, ?_, Sub.cons (by rfl) (Sub.cons (by rfl) Sub.nil), fun C y hy => ?_⟩
      · show (["words", "nodes"] : List Str).Nodup; decide
      · simp only [List.map_cons, List.map_nil, List.mem_cons, List.not_mem_nil, or_false] at hy
        rcases hy with rfl | rfl
        · exact ⟨.inl (by rfl), .inl (by rfl), _, by rfl, by rfl⟩
        · exact ⟨.inl (by rfl), .inl (by rfl), _, by rfl, by rfl⟩
    case TT =>
      obtain ⟨hi, rfl⟩ := intsTo_get hd
      have hi' : i < W.length := by simpa using hi
      have eli : (intsTo ((i : Nat) : Int).toNat).length = i := by rw [intsTo_length]; simp
      refine ⟨_, true, ?_, Tgt.name (.inr ⟨by rfl, _, by rfl, Nat.lt_succ_self C⟩) Puts.new, Ifs.nil, fun _ => ⟨.lst ((List.range i).map fun j => .int (tf i j)), ?_, ?_⟩, fun h => nomatch h⟩
      · exact Sub.cons (by rfl) (Sub.cons (by rfl) Sub.nil)
      · refine EvR.freeze (EvR.eq (EvR.comp (cl := [("words", L + 1 + 1 + 1), ("nodes", L + 1 + 1), ("i", C + 1)]) (capt := [("i", .dat (.int i)), ("nodes", .dat (.dct (nodesD N))), ("words", .dat (.lst (wordsD W)))]) ?KI (Itr.range (n := ((i : Nat) : Int)) Ev.name (by rfl) (by (first | lia | omega)) (by (first | lia | omega))) (by rw [eli, sizeLine_eq]; (first | lia | omega)) (.inl ⟨_, _, rfl⟩) (fun m => (List.range m).map fun j => .int (tf i j)) (by rfl) (fun C2 j d hd => ?TI)) (by rw [eli]))
        case KI =>
          refine ⟨rfl, rfl, by decide, ⟨rfl, rfl, rfl, trivial⟩, ?_, Sub.cons (by rfl) (Sub.cons (by rfl) (Sub.cons (by rfl) Sub.nil)), fun C y hy => ?_⟩
          · show (["words", "nodes", "i"] : List Str).Nodup; decide
          · simp only [List.map_cons, List.map_nil, List.mem_cons, List.not_mem_nil, or_false] at hy
            rcases hy with rfl | rfl | rfl
            · exact ⟨.inl (by rfl), .inl (by rfl), _, by rfl, by rfl⟩
            · exact ⟨.inl (by rfl), .inl (by rfl), _, by rfl, by rfl⟩
            · exact ⟨.inl (by rfl), .inl (by rfl), _, by rfl, by rfl⟩
        case TI =>
          obtain ⟨hj, rfl⟩ := intsTo_get hd
          have hj' : j < i := by simpa using hj
          refine ⟨_, true, ?_, Tgt.name (.inl (by rfl)) Puts.new, Ifs.nil, fun _ => ⟨.int (tf i j : Nat), ?_, ?_⟩, fun h => nomatch h⟩
          · exact Sub.cons (by rfl) (Sub.cons (by rfl) (Sub.cons (by rfl) Sub.nil))
          · exact Ev.callF (EvL.cons Ev.name (EvL.cons (Ev.item (EvR.rcv Ev.name) DatR.stb Ev.name (ItemOp.lst (by (first | lia | omega)) (by (first | lia | omega)) (by rw [Int.toNat_natCast]; exact words_get hi'))) (EvL.cons (Ev.item (EvR.rcv Ev.name) DatR.stb Ev.name (ItemOp.lst (by (first | lia | omega)) (by (first | lia | omega)) (by rw [Int.toNat_natCast]; exact words_get (by (first | lia | omega))))) EvL.nil))) (htie i j hj' hi') (by rfl) (by decide : (("_law_tie" : Str), 111, 16) ∈ fnTab)
          · rw [List.range_succ, List.map_append]; rfl
      · unfold tiesD
        rw [List.range_succ, List.map_append]; rfl
    rw [elW]
    refine Ex.frz (x := "ties") (ds := tiesD tf W.length) (by rfl) Puts.new ?_
    refine Ex.cons (Ex1.assign (Ev.callF (EvL.cons Ev.name EvL.nil) hsums (by rfl) (by decide : (("_law_sums" : Str), 130, 19) ∈ fnTab)) (.inr ⟨by rfl, _, by rfl, hlt4⟩) Puts.new) ?_
    refine Ex.cons (Ex1.assign (EvR.eq (Ev.callB (EvL.cons Ev.name EvL.nil) (Bi.lenL (by rw [hwl]; (first | lia | omega))) (by rfl) (by decide) (by decide +kernel)) (by rw [hwl])) (.inl (by rfl)) Puts.new) ?_
    have hul := usedT_len V 3
    refine Ex.cons (Ex1.assign (Ev.item (EvR.rcv (EvR.freeze (EvR.list (EvL.cons Ev.int (EvL.cons Ev.int (EvL.cons Ev.int (EvL.cons Ev.int EvL.nil)))) (by decide)))) DatR.stb (Ev.callB (EvL.cons (EvR.freeze (EvR.eq (EvR.comp (cl := [("total", L + 1 + 1 + 1 + 1)]) (capt := [("total", .dat (vD V))]) ?KL (Itr.range (n := 3) Ev.int (by rfl) (by decide) (by decide)) (by decide) (.inl ⟨_, _, rfl⟩) (fun j => usedT V j) (by rfl) (fun C j d hd => ?TL)) (r' := .own (.lst (usedT V 3))) (by rfl))) EvL.nil) (Bi.lenL (by (first | lia | omega))) (by rfl) (by decide) (by decide +kernel)) (ItemOp.lst (d := .int (lim (usedT V 3).length)) (by (first | lia | omega)) (by (first | lia | omega)) ?LIM)) (.inl (by rfl)) Puts.new) ?_
    case KL =>
      refine ⟨rfl, rfl, by decide, ⟨rfl, trivial⟩, ?_, Sub.cons (by rfl) Sub.nil, fun C y hy => ?_⟩
      · show (["total"] : List Str).Nodup; decide
      · simp only [List.map_cons, List.map_nil, List.mem_cons, List.not_mem_nil, or_false] at hy
        rcases hy with rfl
        exact ⟨.inl (by rfl), .inl (by rfl), _, by rfl, by rfl⟩
    case LIM =>
      rw [Int.toNat_natCast]
      generalize (usedT V 3).length = m at *
      match m, hul with
      | 0, _ => rfl
      | 1, _ => rfl
      | 2, _ => rfl
      | 3, _ => rfl
    case TL =>
      obtain ⟨hj, rfl⟩ := intsTo_get hd
      have hj' : j < 3 := hj
      have hgv : (V.map D.int)[((1 : Int) + (j : Int)).toNat]? = some (.int (V.getD (1 + j) 0)) := by
        rw [show ((1 : Int) + (j : Int)).toNat = 1 + j by (first | lia | omega)]; exact getD_map (by (first | lia | omega))
      refine ⟨_, decide (0 < V.getD (1 + j) 0), ?_, Tgt.name (.inl (by rfl)) Puts.new, Ifs.one (Tst.cmp (Ev.item (EvR.rcv (Ev.name (d := .lst (V.map .int)))) DatR.stb (Ev.bin Ev.int Ev.name Bin.add) (ItemOp.lst (by (first | lia | omega)) (by (first | lia | omega)) hgv)) Ev.int Cmp.gt), fun h => ⟨.int j, Ev.name, ?_⟩, fun h => ?_⟩
      · exact Sub.cons (by rfl) Sub.nil
      · rw [usedT_succ, if_pos (by simpa using h)]
      · rw [usedT_succ, if_neg (by simpa using h)]
    have g0 : (V.map D.int)[(0 : Int).toNat]? = some (.int (V.getD 0 0)) := getD_map (by (first | lia | omega))
    have g4 : (V.map D.int)[(4 : Int).toNat]? = some (.int (V.getD 4 0)) := getD_map (by (first | lia | omega))
    have b1 : Builtin.Int.intBits (W.length : Int) ≤ 64 := bits_small (by (first | lia | omega))
    have b2 : Builtin.Int.intBits ((W.length : Int) * ((W.length : Int) - 1)) ≤ 64 := by
      have h1 : (W.length : Int) * ((W.length : Int) - 1) ≤ 1000 * 1000 := by
        rcases Nat.eq_zero_or_pos W.length with h | h
        · rw [h]; decide
        · exact Int.mul_le_mul (by (first | lia | omega)) (by (first | lia | omega)) (by (first | lia | omega)) (by decide)
      have h2 : 0 ≤ (W.length : Int) * ((W.length : Int) - 1) := by
        rcases Nat.eq_zero_or_pos W.length with h | h
        · rw [h]; decide
        · exact Int.mul_nonneg (by (first | lia | omega)) (by (first | lia | omega))
      exact PySem.intBits_le_64 (by (first | lia | omega)) (by (first | lia | omega))
    have b0 : Builtin.Int.intBits (2 : Int) ≤ 64 := by decide
    refine Ex.ret (Ex1.ret (Ev.andT (EvR.eq (Ev.cmp Ev.name (Ev.item (EvR.rcv (Ev.name (d := .lst (V.map .int)))) DatR.stb Ev.int (ItemOp.lst (by decide) (by decide) g0)) Cmp.eq) ?V1) (Ev.andT (EvR.eq (Ev.cmp (Ev.callF (EvL.cons (Ev.callF (EvL.cons Ev.name EvL.nil) hmix (by rfl) (by decide : (("_law_mixes" : Str), 118, 17) ∈ fnTab)) EvL.nil) hseen (by rfl) (by decide : (("_law_seen" : Str), 125, 18) ∈ fnTab)) (Ev.item (EvR.rcv (Ev.name (d := .lst (V.map .int)))) DatR.stb Ev.int (ItemOp.lst (by decide) (by decide) g4)) Cmp.eq) ?V2)
      (Ev.andT (EvR.eq (Ev.cmp (Ev.bin (Ev.bin Ev.int (Ev.item (EvR.rcv (Ev.name (d := .lst (V.map .int)))) DatR.stb Ev.int (ItemOp.lst (by decide) (by decide) g4)) (Bin.mul b0)) (Ev.callF (EvL.cons Ev.name EvL.nil) hunl (by rfl) (by decide : (("_law_unlike" : Str), 135, 20) ∈ fnTab)) Bin.add) (Ev.bin (Ev.bin (Ev.bin Ev.name (Ev.bin Ev.name Ev.int Bin.sub) (Bin.mul b1)) (Ev.bin Ev.name Ev.int Bin.sub) (Bin.mul b2)) Ev.int (Bin.div (by decide) (by decide))) Cmp.eq) ?V3)
      (Ev.andT (EvR.eq (Ev.cmp (Ev.cmp (Ev.item (EvR.rcv (Ev.name (d := .lst (V.map .int)))) DatR.stb Ev.int (ItemOp.lst (by decide) (by decide) g4)) Ev.int Cmp.eq) (Ev.notB (Ev.callF (EvL.cons Ev.name EvL.nil) htw (by rfl) (by decide : (("_law_twice" : Str), 140, 21) ∈ fnTab))) Cmp.eqB) ?V4)
      (Ev.and1 (EvR.eq (Ev.or2 (Ev.cmp (Ev.item (EvR.rcv (Ev.name (d := .lst (V.map .int)))) DatR.stb Ev.int (ItemOp.lst (by decide) (by decide) g4)) Ev.int Cmp.gt) (fun _ => Ev.cmp Ev.name Ev.name Cmp.le)) ?V5))))))) 
    case V1 => rw [f1]; simp
    case V2 => rw [f2]; simp
    case V3 => rw [f3]; simp
    case V4 => rw [f4]; simp
    case V5 =>
      rcases f5 with h | h
      · rw [decide_eq_true h]; rfl
      · rw [decide_eq_true h, Bool.or_true]
end Mine
end

section
set_option Elab.async false
set_option linter.unusedVariables false
namespace Mine
section
variable {α β : Type}
noncomputable def S1 (h : α → Int) : List α → Int
  | [] => 0
  | x :: r => h x + S1 h r
noncomputable def P2 (h : α → α → Int) : List α → Int
  | [] => 0
  | x :: r => S1 (h x) r + P2 h r
noncomputable def T3 (g : α → α → α → Int) : List α → Int
  | [] => 0
  | x :: r => P2 (g x) r + T3 g r
theorem S1_append (h : α → Int) (a b : List α) : S1 h (a ++ b) = S1 h a + S1 h b := by
  induction a with
  | nil => simp [S1]
  | cons x a ih => rw [List.cons_append, S1, S1, ih]; (first | lia | omega)
theorem P2_append (h : α → α → Int) (a b : List α) : P2 h (a ++ b) = P2 h a + P2 h b + S1 (fun x => S1 (h x) b) a := by
  induction a with
  | nil => simp [P2, S1]
  | cons x a ih => rw [List.cons_append, P2, P2, S1, ih, S1_append]; (first | lia | omega)
theorem T3_append (g : α → α → α → Int) (a b : List α) : T3 g (a ++ b) = T3 g a + T3 g b + S1 (fun x => P2 (g x) b) a + P2 (fun x y => S1 (g x y) b) a := by
  induction a with
  | nil => simp [T3, P2, S1]
  | cons x a ih => rw [List.cons_append, T3, T3, S1, P2, ih, P2_append]; (first | lia | omega)
theorem S1_congr {h h' : α → Int} {L : List α} (e : ∀ x ∈ L, h x = h' x) : S1 h L = S1 h' L := by
  induction L with
  | nil => rfl
  | cons x L ih => rw [S1, S1, e x (.head _), ih fun y hy => e y (.tail _ hy)]
theorem P2_congr {h h' : α → α → Int} {L : List α} (e : ∀ x ∈ L, ∀ y ∈ L, h x y = h' x y) : P2 h L = P2 h' L := by
  induction L with
  | nil => rfl
  | cons x L ih => rw [P2, P2, ih fun y hy z hz => e y (.tail _ hy) z (.tail _ hz), S1_congr fun y hy => e x (.head _) y (.tail _ hy)]
theorem T3_congr {h h' : α → α → α → Int} {L : List α} (e : ∀ x ∈ L, ∀ y ∈ L, ∀ z ∈ L, h x y z = h' x y z) : T3 h L = T3 h' L := by
  induction L with
  | nil => rfl
  | cons x L ih => rw [T3, T3, ih fun y hy z hz u hu => e y (.tail _ hy) z (.tail _ hz) u (.tail _ hu), P2_congr fun y hy z hz => e x (.head _) y (.tail _ hy) z (.tail _ hz)]
theorem S1_const (c : Int) (L : List α) : S1 (fun _ => c) L = L.length * c := by
  induction L with
  | nil => simp [S1]
  | cons x L ih => rw [S1, ih, List.length_cons, Int.natCast_add, Int.add_mul]; simp; (first | lia | omega)
theorem S1_zero {h : α → Int} {L : List α} (e : ∀ x ∈ L, h x = 0) : S1 h L = 0 := by
  rw [S1_congr e, S1_const]; simp
theorem P2_zero {h : α → α → Int} {L : List α} (e : ∀ x ∈ L, ∀ y ∈ L, h x y = 0) : P2 h L = 0 := by
  induction L with
  | nil => rfl
  | cons x L ih => rw [P2, ih fun y hy z hz => e y (.tail _ hy) z (.tail _ hz), S1_zero fun y hy => e x (.head _) y (.tail _ hy)]; rfl
theorem P2_scale (c : Int) (h : α → α → Int) (L : List α) : P2 (fun x y => c * h x y) L = c * P2 h L := by
  have s : ∀ (h : α → Int) (L : List α), S1 (fun x => c * h x) L = c * S1 h L := fun h L => by
    induction L with
    | nil => simp [S1]
    | cons x L ih => rw [S1, S1, ih, Int.mul_add]
  induction L with
  | nil => simp [P2]
  | cons x L ih => rw [P2, P2, ih, s, Int.mul_add]
theorem S1_map (f : β → α) (h : α → Int) (L : List β) : S1 h (L.map f) = S1 (fun x => h (f x)) L := by
  induction L with
  | nil => rfl
  | cons x L ih => rw [List.map_cons, S1, S1, ih]
theorem P2_map (f : β → α) (h : α → α → Int) (L : List β) : P2 h (L.map f) = P2 (fun x y => h (f x) (f y)) L := by
  induction L with
  | nil => rfl
  | cons x L ih => rw [List.map_cons, P2, P2, ih, S1_map]
theorem T3_map (f : β → α) (h : α → α → α → Int) (L : List β) : T3 h (L.map f) = T3 (fun x y z => h (f x) (f y) (f z)) L := by
  induction L with
  | nil => rfl
  | cons x L ih => rw [List.map_cons, T3, T3, ih, P2_map]
end
noncomputable def sm (f : Nat → Int) : Nat → Int
  | 0 => 0
  | n + 1 => sm f n + f n
theorem sm_congr {f g : Nat → Int} : ∀ {n : Nat}, (∀ i, i < n → f i = g i) → sm f n = sm g n
  | 0, _ => rfl
  | n + 1, h => by rw [sm, sm, sm_congr fun i hi => h i (Nat.lt_succ_of_lt hi), h n (Nat.lt_succ_self n)]
theorem sm_add (f g : Nat → Int) : ∀ n, sm (fun i => f i + g i) n = sm f n + sm g n
  | 0 => rfl
  | n + 1 => by rw [sm, sm, sm, sm_add f g n]; (first | lia | omega)
theorem sm_zero : ∀ n, sm (fun _ => 0) n = 0
  | 0 => rfl
  | n + 1 => by rw [sm, sm_zero n]; rfl
theorem sm_scale (c : Int) (f : Nat → Int) : ∀ n, sm (fun i => c * f i) n = c * sm f n
  | 0 => by simp [sm]
  | n + 1 => by rw [sm, sm, sm_scale c f n, Int.mul_add]
theorem sm_nonneg {f : Nat → Int} : ∀ {n : Nat}, (∀ i, i < n → 0 ≤ f i) → 0 ≤ sm f n
  | 0, _ => Int.le_refl _
  | n + 1, h => by rw [sm]; have := sm_nonneg (n := n) fun i hi => h i (Nat.lt_succ_of_lt hi); have := h n (Nat.lt_succ_self n); (first | lia | omega)
theorem sm_pos {f : Nat → Int} : ∀ {n : Nat}, (∀ i, i < n → 0 ≤ f i) → (0 < sm f n ↔ ∃ i, i < n ∧ 0 < f i)
  | 0, _ => ⟨fun h => absurd h (by show ¬ (0 : Int) < 0; decide), fun ⟨i, h, _⟩ => absurd h (Nat.not_lt_zero i)⟩
  | n + 1, h => by
    have h1 := sm_nonneg (n := n) fun i hi => h i (Nat.lt_succ_of_lt hi)
    have h2 := h n (Nat.lt_succ_self n)
    have ih := sm_pos (n := n) fun i hi => h i (Nat.lt_succ_of_lt hi)
    rw [sm]
    constructor
    · intro hp
      by_cases hf : 0 < f n
      · exact ⟨n, Nat.lt_succ_self n, hf⟩
      · obtain ⟨i, h3, h4⟩ := ih.mp (by (first | lia | omega))
        exact ⟨i, Nat.lt_succ_of_lt h3, h4⟩
    · rintro ⟨i, h3, h4⟩
      by_cases hi : i = n
      · subst hi; (first | lia | omega)
      · have := ih.mpr ⟨i, by (first | lia | omega), h4⟩
        (first | lia | omega)

section
variable {α : Type}
noncomputable def ind (P : Prop) [Decidable P] : Int := if P then 1 else 0
noncomputable def Ec (τ : α → α → Nat) (c : Nat) (L : List α) : Int := P2 (fun x y => ind (τ y x = c)) L
noncomputable def mo (τ : α → α → Nat) (x y z : α) : Int := ind (τ z y = τ z x ∧ τ z x = τ y x)
noncomputable def rbw (τ : α → α → Nat) (x y z : α) : Int := ind (τ z y ≠ τ z x ∧ τ z x ≠ τ y x ∧ τ z y ≠ τ y x)
noncomputable def blocks (L : Nat → List α) : Nat → List α
  | 0 => []
  | i + 1 => blocks L i ++ L i
structure Blk (τ : α → α → Nat) (c : Nat → Nat → Nat) (L : Nat → List α) (s : Nat) : Prop where
  tie : ∀ i j, j < i → i < s → ∀ x ∈ L i, ∀ y ∈ L j, τ x y = c i j
theorem blocks_mem {L : Nat → List α} : ∀ {m : Nat} {x : α}, x ∈ blocks L m → ∃ j, j < m ∧ x ∈ L j
  | 0, _, h => nomatch h
  | m + 1, x, h => by
    rcases List.mem_append.mp h with h | h
    · obtain ⟨j, h1, h2⟩ := blocks_mem h
      exact ⟨j, Nat.lt_succ_of_lt h1, h2⟩
    · exact ⟨m, Nat.lt_succ_self m, h⟩
theorem S1_blocks {L : Nat → List α} {h : α → Int} {f : Nat → Int} : ∀ {m : Nat}, (∀ j, j < m → S1 h (L j) = f j) → S1 h (blocks L m) = sm f m
  | 0, _ => rfl
  | m + 1, e => by rw [blocks, S1_append, sm, S1_blocks fun j hj => e j (Nat.lt_succ_of_lt hj), e m (Nat.lt_succ_self m)]
theorem blocks_len {L : Nat → List α} : ∀ (m : Nat), ((blocks L m).length : Int) = sm (fun j => (L j).length) m
  | 0 => rfl
  | m + 1 => by rw [blocks, List.length_append, sm, ← blocks_len m]; (first | lia | omega)
variable {τ : α → α → Nat} {c : Nat → Nat → Nat} {L : Nat → List α} {s : Nat}
theorem Ec_blocks (B : Blk τ c L s) (t : Nat) : ∀ m, m ≤ s → Ec τ t (blocks L m) = sm (fun i => Ec τ t (L i)) m + sm (fun i => sm (fun j => ind (c i j = t) * (L i).length * (L j).length) i) m
  | 0, _ => rfl
  | m + 1, hm => by
    have ih := Ec_blocks B t m (by (first | lia | omega))
    unfold Ec at *
    rw [blocks, P2_append, ih, sm, sm]
    have : S1 (fun x => S1 (fun y => ind (τ y x = t)) (L m)) (blocks L m) = sm (fun j => ind (c m j = t) * (L m).length * (L j).length) m := by
      refine S1_blocks fun j hj => ?_
      rw [S1_congr (h' := fun _ => ind (c m j = t) * (L m).length) fun x hx => ?_, S1_const, Int.mul_comm]
      rw [S1_congr (h' := fun _ => ind (c m j = t)) fun y hy => by rw [B.tie m j hj (by (first | lia | omega)) y hy x hx], S1_const, Int.mul_comm]
    rw [this]; (first | lia | omega)
structure Fine (c : Nat → Nat → Nat) (s : Nat) : Prop where
  one : ∀ i j k, k < j → j < i → i < s → ¬ (c i j = c i k ∧ c i k = c j k)
  three : ∀ i j k, k < j → j < i → i < s → ¬ (c i j ≠ c i k ∧ c i k ≠ c j k ∧ c i j ≠ c j k)
theorem T3_blocks {g : α → α → α → Int} {q : Nat → Nat → Int} {r : Nat → Nat → Int}
    (h1 : ∀ i j, j < i → i < s → ∀ x ∈ L j, P2 (g x) (L i) = q i j) (h2 : ∀ i j, j < i → i < s → P2 (fun x y => S1 (g x y) (L i)) (L j) = r i j)
    (h3 : ∀ i j k, k < j → j < i → i < s → ∀ x ∈ L k, ∀ y ∈ L j, ∀ z ∈ L i, g x y z = 0) : ∀ m, m ≤ s → T3 g (blocks L m) = sm (fun i => T3 g (L i)) m + sm (fun i => sm (fun j => (L j).length * q i j + r i j) i) m
  | 0, _ => rfl
  | m + 1, hm => by
    have ih := T3_blocks h1 h2 h3 m (by (first | lia | omega))
    rw [blocks, T3_append, ih, sm, sm]
    have e1 : S1 (fun x => P2 (g x) (L m)) (blocks L m) = sm (fun j => (L j).length * q m j) m := by
      refine S1_blocks fun j hj => ?_
      rw [S1_congr (h' := fun _ => q m j) fun x hx => h1 m j hj (by (first | lia | omega)) x hx, S1_const]
    have e2 : ∀ n, n ≤ m → P2 (fun x y => S1 (g x y) (L m)) (blocks L n) = sm (fun j => r m j) n := by
      intro n
      induction n with
      | zero => intro _; rfl
      | succ n ihn =>
        intro hn
        rw [blocks, P2_append, ihn (by (first | lia | omega)), h2 m n (by (first | lia | omega)) (by (first | lia | omega)), sm]
        have : S1 (fun x => S1 (fun y => S1 (g x y) (L m)) (L n)) (blocks L n) = 0 := by
          refine S1_zero fun x hx => S1_zero fun y hy => S1_zero fun z hz => ?_
          obtain ⟨k, hk, hxk⟩ := blocks_mem hx
          exact h3 m n k hk (by (first | lia | omega)) (by (first | lia | omega)) x hxk y hy z hz
        (first | lia | omega)
    have e3 : sm (fun j => r m j) m = sm (r m) m := rfl
    rw [e1, e2 m (Nat.le_refl m), sm_add]; (first | lia | omega)
theorem mo_blocks (B : Blk τ c L s) (F : Fine c s) : T3 (mo τ) (blocks L s) = sm (fun i => T3 (mo τ) (L i)) s + sm (fun i => sm (fun j => (L j).length * Ec τ (c i j) (L i) + (L i).length * Ec τ (c i j) (L j)) i) s := by
  refine T3_blocks (fun i j hj hi x hx => ?_) (fun i j hj hi => ?_) (fun i j k hk hj hi x hx y hy z hz => ?_) s (Nat.le_refl s)
  · refine P2_congr fun y hy z hz => ?_
    unfold mo
    rw [B.tie i j hj hi z hz x hx, B.tie i j hj hi y hy x hx]
    unfold ind
    simp only [and_true]
  · unfold Ec
    rw [← P2_scale]
    refine P2_congr fun x hx y hy => ?_
    rw [S1_congr (h' := fun _ => ind (τ y x = c i j)) fun z hz => ?_, S1_const]
    unfold mo
    rw [B.tie i j hj hi z hz x hx, B.tie i j hj hi z hz y hy]
    unfold ind
    simp only [true_and, eq_comm]
  · unfold mo
    rw [B.tie i j hj hi z hz y hy, B.tie i k (by (first | lia | omega)) hi z hz x hx, B.tie j k hk (by (first | lia | omega)) y hy x hx]
    unfold ind
    rw [if_neg (F.one i j k hk hj hi)]
theorem rb_blocks (B : Blk τ c L s) (F : Fine c s) : T3 (rbw τ) (blocks L s) = sm (fun i => T3 (rbw τ) (L i)) s := by
  have h := T3_blocks (g := rbw τ) (q := fun _ _ => 0) (r := fun _ _ => 0) (L := L) (s := s) (fun i j hj hi x hx => ?_) (fun i j hj hi => ?_) (fun i j k hk hj hi x hx y hy z hz => ?_) s (Nat.le_refl s)
  · rw [h]
    have : sm (fun i => sm (fun j => ((L j).length : Int) * 0 + 0) i) s = 0 := by
      rw [sm_congr (g := fun _ => 0) fun i _ => by rw [sm_congr (g := fun _ => 0) fun j _ => by simp, sm_zero], sm_zero]
    (first | lia | omega)
  · refine P2_zero fun y hy z hz => ?_
    unfold rbw
    rw [B.tie i j hj hi z hz x hx, B.tie i j hj hi y hy x hx]
    unfold ind
    simp
  · refine P2_zero fun x hx y hy => S1_zero fun z hz => ?_
    unfold rbw
    rw [B.tie i j hj hi z hz x hx, B.tie i j hj hi z hz y hy]
    unfold ind
    simp
  · unfold rbw
    rw [B.tie i j hj hi z hz y hy, B.tie i k (by (first | lia | omega)) hi z hz x hx, B.tie j k hk (by (first | lia | omega)) y hy x hx]
    unfold ind
    rw [if_neg (F.three i j k hk hj hi)]
end
end Mine
end

section
set_option Elab.async false
set_option linter.unusedVariables false
namespace Mine
theorem sm_shift (f : Nat → Int) : ∀ n, sm f (n + 1) = f 0 + sm (fun i => f (i + 1)) n
  | 0 => by simp [sm]
  | n + 1 => by rw [sm, sm_shift f n, sm]; (first | lia | omega)
theorem sum_sm {α : Type} (f : α → Int) (d : α) : ∀ (l : List α), (l.map f).sum = sm (fun i => f (l.getD i d)) l.length
  | [] => rfl
  | x :: l => by
    rw [List.map_cons, List.sum_cons, List.length_cons, sm_shift, sum_sm f d l]
    rfl
theorem getD_set {l : List Int} {n k : Nat} {v : Int} (h : n < l.length) : (l.set n v).getD k 0 = if k = n then v else l.getD k 0 := by
  rw [List.getD_eq_getElem?_getD, List.getD_eq_getElem?_getD]
  by_cases e : k = n
  · subst e; rw [if_pos rfl, List.getElem?_set_self h]; rfl
  · rw [if_neg e, List.getElem?_set_ne (fun q => e q.symm)]
section
variable {kd : Nat} {bel : List (List Int)}
noncomputable abbrev av (bel : List (List Int)) (i k : Nat) : Int := (bel.getD i []).getD k 0
theorem base5_get {k : Nat} (h : k < 5) : (base5 bel).getD k 0 = sm (fun i => av bel i k) bel.length := by
  unfold base5
  rw [List.getD_eq_getElem?_getD, List.getElem?_map, List.getElem?_range h]
  show (bel.map fun one => one.getD k 0).sum = _
  exact sum_sm (fun one => one.getD k 0) [] bel
theorem upd5_0 {i j : Nat} {t : List Int} (h : t.length = 5) : (upd5 kd bel i j t).getD 0 0 = t.getD 0 0 := by
  unfold upd5
  simp only []
  by_cases hn : 1 + tone kd i j < 5
  · rw [getD_set (by rw [List.length_set, h]; decide), if_neg (by decide), getD_set (by (first | lia | omega)), if_neg (by (first | lia | omega))]
  · rw [getD_set (by rw [List.length_set, h]; decide), if_neg (by decide), List.set_eq_of_length_le (by (first | lia | omega))]
theorem upd5_c (hk : kd < 6) {i j c : Nat} (hc : c < 3) {t : List Int} (h : t.length = 5) : (upd5 kd bel i j t).getD (1 + c) 0 = t.getD (1 + c) 0 + ind (tone kd i j = c) * av bel i 0 * av bel j 0 := by
  have ht := tone_lt kd i j hk
  unfold upd5
  simp only []
  rw [getD_set (by rw [List.length_set, h]; decide), if_neg (by (first | lia | omega)), getD_set (by (first | lia | omega))]
  unfold ind
  by_cases e : tone kd i j = c
  · rw [if_pos (by (first | lia | omega)), if_pos e, e]; simp
  · rw [if_neg (by (first | lia | omega)), if_neg e]; simp
theorem upd5_4 (hk : kd < 6) {i j : Nat} {t : List Int} (h : t.length = 5) : (upd5 kd bel i j t).getD 4 0 = t.getD 4 0 + (av bel i 0 * av bel j (1 + tone kd i j) + av bel j 0 * av bel i (1 + tone kd i j)) := by
  have ht := tone_lt kd i j hk
  unfold upd5
  simp only []
  rw [getD_set (by rw [List.length_set, h]; decide), if_pos rfl, getD_set (by (first | lia | omega)), if_neg (by (first | lia | omega))]
  exact Int.add_assoc _ _ _
theorem tot2_0 {i : Nat} {t : List Int} (h : t.length = 5) : ∀ j, (tot2 kd bel i t j).getD 0 0 = t.getD 0 0
  | 0 => rfl
  | j + 1 => by rw [tot2, upd5_0 (by rw [tot2_len, h]), tot2_0 h j]
theorem tot2_c (hk : kd < 6) {i c : Nat} (hc : c < 3) {t : List Int} (h : t.length = 5) : ∀ j, (tot2 kd bel i t j).getD (1 + c) 0 = t.getD (1 + c) 0 + sm (fun j => ind (tone kd i j = c) * av bel i 0 * av bel j 0) j
  | 0 => by rw [tot2, sm]; (first | lia | omega)
  | j + 1 => by rw [tot2, upd5_c hk hc (by rw [tot2_len, h]), tot2_c hk hc h j, sm]; (first | lia | omega)
theorem tot2_4 (hk : kd < 6) {i : Nat} {t : List Int} (h : t.length = 5) : ∀ j, (tot2 kd bel i t j).getD 4 0 = t.getD 4 0 + sm (fun j => av bel i 0 * av bel j (1 + tone kd i j) + av bel j 0 * av bel i (1 + tone kd i j)) j
  | 0 => by rw [tot2, sm]; (first | lia | omega)
  | j + 1 => by rw [tot2, upd5_4 hk (by rw [tot2_len, h]), tot2_4 hk h j, sm]; (first | lia | omega)
theorem tot1_0 : ∀ i, (tot1 kd bel i).getD 0 0 = sm (fun i => av bel i 0) bel.length
  | 0 => base5_get (by decide)
  | i + 1 => by rw [tot1, tot2_0 (tot1_len i), tot1_0 i]
theorem tot1_c (hk : kd < 6) {c : Nat} (hc : c < 3) : ∀ i, (tot1 kd bel i).getD (1 + c) 0 = sm (fun i => av bel i (1 + c)) bel.length + sm (fun i => sm (fun j => ind (tone kd i j = c) * av bel i 0 * av bel j 0) i) i
  | 0 => by rw [tot1, base5_get (by (first | lia | omega)), sm]; (first | lia | omega)
  | i + 1 => by rw [tot1, tot2_c hk hc (tot1_len i), tot1_c hk hc i, sm]; (first | lia | omega)
theorem tot1_4 (hk : kd < 6) : ∀ i, (tot1 kd bel i).getD 4 0 = sm (fun i => av bel i 4) bel.length + sm (fun i => sm (fun j => av bel i 0 * av bel j (1 + tone kd i j) + av bel j 0 * av bel i (1 + tone kd i j)) i) i
  | 0 => by rw [tot1, base5_get (by (first | lia | omega)), sm]; (first | lia | omega)
  | i + 1 => by rw [tot1, tot2_4 hk (tot1_len i), tot1_4 hk i, sm]; (first | lia | omega)
end

mutual
noncomputable def T.vec : T → List Int
  | .leaf => one5
  | .node k cs => tot1 k cs.vecs (sz k)
noncomputable def TL.vecs : TL → List (List Int)
  | .nil => []
  | .cons t r => t.vec :: r.vecs
end
mutual
noncomputable def T.rl : T → List (List Nat)
  | .leaf => [[]]
  | .node _ cs => cs.rl 0
noncomputable def TL.rl : TL → Nat → List (List Nat)
  | .nil, _ => []
  | .cons t r, i => t.rl.map (i :: ·) ++ r.rl (i + 1)
end
mutual
noncomputable def T.tie : T → List Nat → List Nat → Nat
  | .node k cs, i :: u, j :: v => if i = j then cs.tieAt i u v else tone k i j
  | _, _, _ => 0
noncomputable def TL.tieAt : TL → Nat → List Nat → List Nat → Nat
  | .nil, _, _, _ => 0
  | .cons t _, 0, u, v => t.tie u v
  | .cons _ r, n + 1, u, v => r.tieAt n u v
end
theorem tieAt_get : ∀ (cs : TL) (i : Nat) (t : T), cs.get? i = some t → ∀ u v, cs.tieAt i u v = t.tie u v
  | .nil, _, _, h, _, _ => by cases h
  | .cons t r, 0, _, h, u, v => by cases h; rw [TL.tieAt]
  | .cons t r, n + 1, u', h, u, v => by rw [TL.tieAt]; exact tieAt_get r n u' h u v
theorem vecs_get : ∀ (cs : TL) (i : Nat) (t : T), cs.get? i = some t → cs.vecs.getD i [] = t.vec
  | .nil, _, _, h => by cases h
  | .cons t r, 0, _, h => by cases h; rw [TL.vecs]; rfl
  | .cons t r, n + 1, u, h => by
    rw [TL.vecs]
    show r.vecs.getD n [] = _
    exact vecs_get r n u h
theorem vecs_len : ∀ (cs : TL), cs.vecs.length = cs.len
  | .nil => rfl
  | .cons t r => by rw [TL.vecs, List.length_cons, TL.len, vecs_len r]
noncomputable def TL.blk (cs : TL) (o i : Nat) : List (List Nat) := match cs.get? i with
  | some t => t.rl.map ((o + i) :: ·)
  | none => []
theorem blocks_shift {α : Type} (L : Nat → List α) : ∀ n, blocks L (n + 1) = L 0 ++ blocks (fun i => L (i + 1)) n
  | 0 => by simp [blocks]
  | n + 1 => by rw [blocks, blocks_shift L n, blocks, List.append_assoc]
theorem rl_blocks : ∀ (cs : TL) (o : Nat), cs.rl o = blocks (cs.blk o) cs.len
  | .nil, _ => rfl
  | .cons t r, o => by
    rw [TL.rl, TL.len, blocks_shift, rl_blocks r (o + 1)]
    have e : (fun i => (TL.cons t r).blk o (i + 1)) = r.blk (o + 1) := by
      funext i
      unfold TL.blk
      show (match r.get? i with | some t => t.rl.map ((o + (i + 1)) :: ·) | none => []) = _
      rw [show o + (i + 1) = o + 1 + i by (first | lia | omega)]
    rw [e]; rfl
noncomputable def stat (τ : List Nat → List Nat → Nat) (L : List (List Nat)) : List Int := [(L.length : Int), Ec τ 0 L, Ec τ 1 L, Ec τ 2 L, T3 (mo τ) L]
theorem fine_tone : ∀ kd : Nat, kd < 6 → Fine (tone kd) (sz kd) := by
  have h : ∀ kd : _root_.Fin 6, ∀ i j k : _root_.Fin 5, k < j → j < i → i.val < sz kd.val → (¬ (tone kd.val i.val j.val = tone kd.val i.val k.val ∧ tone kd.val i.val k.val = tone kd.val j.val k.val)) ∧
      ¬ (tone kd.val i.val j.val ≠ tone kd.val i.val k.val ∧ tone kd.val i.val k.val ≠ tone kd.val j.val k.val ∧ tone kd.val i.val j.val ≠ tone kd.val j.val k.val) := by decide +kernel
  intro kd hk
  refine ⟨fun i j k h1 h2 h3 => ?_, fun i j k h1 h2 h3 => ?_⟩
  · have := sz_le' kd
    exact (h ⟨kd, hk⟩ ⟨i, by (first | lia | omega)⟩ ⟨j, by (first | lia | omega)⟩ ⟨k, by (first | lia | omega)⟩ h1 h2 h3).1
  · have := sz_le' kd
    exact (h ⟨kd, hk⟩ ⟨i, by (first | lia | omega)⟩ ⟨j, by (first | lia | omega)⟩ ⟨k, by (first | lia | omega)⟩ h1 h2 h3).2
structure Stt (t : T) : Prop where
  vec : t.vec = stat t.tie t.rl
  rb : T3 (rbw t.tie) t.rl = 0
theorem list5 {l : List Int} (h : l.length = 5) : l = [l.getD 0 0, l.getD (1 + 0) 0, l.getD (1 + 1) 0, l.getD (1 + 2) 0, l.getD 4 0] := by
  match l, h with
  | [a, b, c, d, e], _ => rfl
mutual
theorem T.stt : ∀ (t : T), t.wf → Stt t
  | .leaf, _ => ⟨rfl, rfl⟩
  | .node kd cs, hw => by
    obtain ⟨hk, hlen, hwf⟩ := hw
    have ih := TL.stt cs hwf
    have hF := fine_tone kd hk
    have hget : ∀ i, i < sz kd → ∃ t, cs.get? i = some t := fun i hi => TL.get_some cs i (by (first | lia | omega))
    have hblk : ∀ i t, cs.get? i = some t → cs.blk 0 i = t.rl.map (i :: ·) := fun i t h => by
      unfold TL.blk; rw [h]; simp
    have hsame : ∀ i t, cs.get? i = some t → ∀ u v, (T.node kd cs).tie (i :: u) (i :: v) = t.tie u v := fun i t h u v => by
      rw [T.tie, if_pos rfl, tieAt_get cs i t h]
    have hB : Blk (T.node kd cs).tie (tone kd) (cs.blk 0) (sz kd) := ⟨fun i j hj hi x hx y hy => by
      obtain ⟨ti, hti⟩ := hget i hi
      obtain ⟨tj, htj⟩ := hget j (by (first | lia | omega))
      rw [hblk i ti hti] at hx
      rw [hblk j tj htj] at hy
      obtain ⟨u, _, rfl⟩ := List.mem_map.mp hx
      obtain ⟨v, _, rfl⟩ := List.mem_map.mp hy
      rw [T.tie, if_neg (by (first | lia | omega))]⟩
    have hrl : (T.node kd cs).rl = blocks (cs.blk 0) (sz kd) := by rw [T.rl, rl_blocks, hlen]
    have st : ∀ i, i < sz kd → ((cs.blk 0 i).length : Int) = av cs.vecs i 0 ∧ (∀ c, c < 3 → Ec (T.node kd cs).tie c (cs.blk 0 i) = av cs.vecs i (1 + c)) ∧ T3 (mo (T.node kd cs).tie) (cs.blk 0 i) = av cs.vecs i 4 ∧ T3 (rbw (T.node kd cs).tie) (cs.blk 0 i) = 0 := fun i hi => by
      obtain ⟨t, ht⟩ := hget i hi
      obtain ⟨h1, h2⟩ := ih i t ht
      have hs := hsame i t ht
      have hv : cs.vecs.getD i [] = stat t.tie t.rl := by rw [vecs_get cs i t ht, h1]
      unfold av
      rw [hblk i t ht, hv]
      refine ⟨by rw [List.length_map]; rfl, fun c hc => ?_, ?_, ?_⟩
      · have : Ec (T.node kd cs).tie c (t.rl.map (i :: ·)) = Ec t.tie c t.rl := by
          unfold Ec
          rw [P2_map]
          exact P2_congr fun x _ y _ => by rw [hs]
        rw [this]
        match c, hc with
        | 0, _ => rfl
        | 1, _ => rfl
        | 2, _ => rfl
      · rw [T3_map]
        show _ = T3 (mo t.tie) t.rl
        exact T3_congr fun x _ y _ z _ => by unfold mo; rw [hs, hs, hs]
      · rw [T3_map, ← h2]
        exact T3_congr fun x _ y _ z _ => by unfold rbw; rw [hs, hs, hs]
    have hvl : cs.vecs.length = sz kd := by rw [vecs_len, hlen]
    refine ⟨?_, ?_⟩
    · rw [T.vec, list5 (tot1_len (kd := kd) (bel := cs.vecs) (sz kd)), tot1_0, tot1_c hk (by decide), tot1_c hk (by decide), tot1_c hk (by decide), tot1_4 hk, hvl]
      have e0 : ((T.node kd cs).rl.length : Int) = sm (fun i => av cs.vecs i 0) (sz kd) := by
        rw [hrl, blocks_len]; exact sm_congr fun i hi => (st i hi).1
      have ec : ∀ c, c < 3 → Ec (T.node kd cs).tie c (T.node kd cs).rl = sm (fun i => av cs.vecs i (1 + c)) (sz kd) + sm (fun i => sm (fun j => ind (tone kd i j = c) * av cs.vecs i 0 * av cs.vecs j 0) i) (sz kd) := fun c hc => by
        rw [hrl, Ec_blocks hB c (sz kd) (Nat.le_refl _), sm_congr fun i hi => (st i hi).2.1 c hc]
        congr 1
        exact sm_congr fun i hi => sm_congr fun j hj => by rw [(st i hi).1, (st j (by (first | lia | omega))).1]
      have e4 : T3 (mo (T.node kd cs).tie) (T.node kd cs).rl = sm (fun i => av cs.vecs i 4) (sz kd) + sm (fun i => sm (fun j => av cs.vecs i 0 * av cs.vecs j (1 + tone kd i j) + av cs.vecs j 0 * av cs.vecs i (1 + tone kd i j)) i) (sz kd) := by
        rw [hrl, mo_blocks hB hF, sm_congr fun i hi => (st i hi).2.2.1]
        congr 1
        refine sm_congr fun i hi => sm_congr fun j hj => ?_
        have ht := tone_lt kd i j hk
        rw [(st i hi).1, (st j (by (first | lia | omega))).1, (st i hi).2.1 _ ht, (st j (by (first | lia | omega))).2.1 _ ht]
        (first | lia | omega)
      unfold stat
      rw [e0, ec 0 (by decide), ec 1 (by decide), ec 2 (by decide), e4]
    · rw [hrl, rb_blocks hB hF, sm_congr fun i hi => (st i hi).2.2.2, sm_zero]
theorem TL.stt : ∀ (cs : TL), cs.wf → ∀ i t, cs.get? i = some t → Stt t
  | .nil, _, i, t, h => by cases h
  | .cons t r, hw, 0, u, h => by cases h; exact T.stt t hw.1
  | .cons t r, hw, i + 1, u, h => TL.stt r hw.2 i u h
end
end Mine
end

section
set_option Elab.async false
set_option linter.unusedVariables false
set_option maxRecDepth 100000
namespace Mine
noncomputable def N3 (f : Nat → Nat → Nat → Int) (n : Nat) : Int := sm (fun i => sm (fun j => sm (fun k => f i j k) j) i) n
section
variable {α : Type}
theorem S1_range (h : α → Int) (e : Nat → α) : ∀ n, S1 h ((List.range n).map e) = sm (fun k => h (e k)) n
  | 0 => rfl
  | n + 1 => by rw [List.range_succ, List.map_append, S1_append, S1_range h e n, sm]; simp [S1]
theorem P2_range (h : α → α → Int) (e : Nat → α) : ∀ n, P2 h ((List.range n).map e) = sm (fun j => sm (fun k => h (e k) (e j)) j) n
  | 0 => rfl
  | n + 1 => by
    rw [List.range_succ, List.map_append, P2_append, P2_range h e n, sm]
    have : S1 (fun x => S1 (h x) ((([n] : List Nat)).map e)) ((List.range n).map e) = sm (fun k => h (e k) (e n)) n := by
      rw [S1_range]; exact sm_congr fun i _ => by simp [S1]
    rw [this]; simp [P2, S1]
theorem T3_range (g : α → α → α → Int) (e : Nat → α) : ∀ n, T3 g ((List.range n).map e) = N3 (fun i j k => g (e k) (e j) (e i)) n
  | 0 => rfl
  | n + 1 => by
    have ih := T3_range g e n
    unfold N3 at *
    rw [List.range_succ, List.map_append, T3_append, ih, sm]
    have h1 : P2 (fun x y => S1 (g x y) ((([n] : List Nat)).map e)) ((List.range n).map e) = sm (fun j => sm (fun k => g (e k) (e j) (e n)) j) n := by
      rw [P2_range]; exact sm_congr fun j _ => sm_congr fun k _ => by simp [S1]
    have h2 : S1 (fun x => P2 (g x) ((([n] : List Nat)).map e)) ((List.range n).map e) = 0 := S1_zero fun x _ => by simp [P2, S1]
    rw [h1, h2]; simp [T3, P2, S1]
theorem list_range (L : List α) (d : α) : L = (List.range L.length).map fun i => L.getD i d := by
  apply List.ext_getElem
  · simp
  · intro i h1 h2
    simp [List.getD_eq_getElem?_getD, List.getElem?_eq_getElem h1]
end
theorem sm_le {f g : Nat → Int} : ∀ {n : Nat}, (∀ i, i < n → f i ≤ g i) → sm f n ≤ sm g n
  | 0, _ => Int.le_refl _
  | n + 1, h => by rw [sm, sm]; have := sm_le (n := n) fun i hi => h i (Nat.lt_succ_of_lt hi); have := h n (Nat.lt_succ_self n); (first | lia | omega)
theorem N3_congr {f g : Nat → Nat → Nat → Int} {n : Nat} (h : ∀ i j k, k < j → j < i → i < n → f i j k = g i j k) : N3 f n = N3 g n :=
  sm_congr fun i hi => sm_congr fun j hj => sm_congr fun k hk => h i j k hk hj hi
theorem N3_le {f g : Nat → Nat → Nat → Int} {n : Nat} (h : ∀ i j k, f i j k ≤ g i j k) : N3 f n ≤ N3 g n :=
  sm_le fun i hi => sm_le fun j hj => sm_le fun k hk => h i j k
theorem N3_nonneg {f : Nat → Nat → Nat → Int} {n : Nat} (h : ∀ i j k, 0 ≤ f i j k) : 0 ≤ N3 f n :=
  sm_nonneg fun i hi => sm_nonneg fun j hj => sm_nonneg fun k hk => h i j k
theorem N3_add (f g : Nat → Nat → Nat → Int) (n : Nat) : N3 (fun i j k => f i j k + g i j k) n = N3 f n + N3 g n := by
  unfold N3
  rw [← sm_add]
  refine sm_congr fun i _ => ?_
  rw [← sm_add]
  refine sm_congr fun j _ => ?_
  rw [← sm_add]
theorem N3_scale (c : Int) (f : Nat → Nat → Nat → Int) (n : Nat) : N3 (fun i j k => c * f i j k) n = c * N3 f n := by
  unfold N3
  rw [← sm_scale]
  refine sm_congr fun i _ => ?_
  rw [← sm_scale]
  refine sm_congr fun j _ => ?_
  rw [← sm_scale]

section
variable {t : Nat → Nat → Nat}
theorem code_lt (i j k : Nat) : code3 t i j k < 49 := by
  unfold code3
  have := wt_le (t i j); have := wt_le (t i k); have := wt_le (t j k); (first | lia | omega)
theorem bump_get {f : List Int} {c d : Nat} (h : c < f.length) : (bump f c).getD d 0 = f.getD d 0 + ind (c = d) := by
  unfold bump ind
  rw [getD_set h]
  by_cases e : d = c
  · subst e; rw [if_pos rfl, if_pos rfl]
  · rw [if_neg e, if_neg fun q => e q.symm]; (first | lia | omega)
theorem m3_get {f : List Int} (hf : f.length = 49) (i j c : Nat) : ∀ k, (m3 t i j f k).getD c 0 = f.getD c 0 + sm (fun k => ind (code3 t i j k = c)) k
  | 0 => by rw [m3, sm]; (first | lia | omega)
  | k + 1 => by rw [m3, bump_get (by rw [m3_len, hf]; exact code_lt _ _ _), m3_get hf i j c k, sm]; (first | lia | omega)
theorem m2_get {f : List Int} (hf : f.length = 49) (i c : Nat) : ∀ j, (m2 t i f j).getD c 0 = f.getD c 0 + sm (fun j => sm (fun k => ind (code3 t i j k = c)) j) j
  | 0 => by rw [m2, sm]; (first | lia | omega)
  | j + 1 => by rw [m2, m3_get (by rw [m2_len, hf]), m2_get hf i c j, sm]; (first | lia | omega)
theorem m1_get (c : Nat) : ∀ n, (m1 t n).getD c 0 = N3 (fun i j k => ind (code3 t i j k = c)) n
  | 0 => by
    show (List.replicate 49 (0 : Int)).getD c 0 = 0
    rw [List.getD_eq_getElem?_getD, List.getElem?_replicate]
    split <;> rfl
  | n + 1 => by
    have ih := m1_get c n
    unfold N3 at *
    rw [m1, m2_get (m1_len t n), ih, sm]
theorem seen_sum (f : List Int) : seenS f 49 = f.getD 3 0 + f.getD 12 0 + f.getD 48 0 := by
  have : seenS f 49 = 0 + f.getD 3 0 + f.getD 12 0 + f.getD 48 0 := rfl
  rw [this]; (first | lia | omega)
theorem code_mono : ∀ a b c : Nat, a < 3 → b < 3 → c < 3 → ind (wt a + wt b + wt c = 3) + ind (wt a + wt b + wt c = 12) + ind (wt a + wt b + wt c = 48) = ind (a = b ∧ b = c) := by
  have : ∀ a b c : _root_.Fin 3, ind (wt a.val + wt b.val + wt c.val = 3) + ind (wt a.val + wt b.val + wt c.val = 12) + ind (wt a.val + wt b.val + wt c.val = 48) = ind (a.val = b.val ∧ b.val = c.val) := by decide +kernel
  intro a b c ha hb hc
  exact this ⟨a, ha⟩ ⟨b, hb⟩ ⟨c, hc⟩
theorem code_rb : ∀ a b c : Nat, a < 3 → b < 3 → c < 3 → (wt a + wt b + wt c ∈ nine) ∨ (a ≠ b ∧ b ≠ c ∧ a ≠ c) := by
  have : ∀ a b c : _root_.Fin 3, (wt a.val + wt b.val + wt c.val ∈ nine) ∨ (a.val ≠ b.val ∧ b.val ≠ c.val ∧ a.val ≠ c.val) := by decide +kernel
  intro a b c ha hb hc
  exact this ⟨a, ha⟩ ⟨b, hb⟩ ⟨c, hc⟩
theorem code_un : ∀ a b c : Nat, a < 3 → b < 3 → c < 3 → 2 * ind (a = b ∧ b = c) + (ind (a ≠ b) + ind (a ≠ c) + ind (b ≠ c)) = 2 + ind (a ≠ b ∧ b ≠ c ∧ a ≠ c) := by
  have : ∀ a b c : _root_.Fin 3, 2 * ind (a.val = b.val ∧ b.val = c.val) + (ind (a.val ≠ b.val) + ind (a.val ≠ c.val) + ind (b.val ≠ c.val)) = 2 + ind (a.val ≠ b.val ∧ b.val ≠ c.val ∧ a.val ≠ c.val) := by decide +kernel
  intro a b c ha hb hc
  exact this ⟨a, ha⟩ ⟨b, hb⟩ ⟨c, hc⟩
noncomputable def moN (t : Nat → Nat → Nat) (i j k : Nat) : Int := ind (t i j = t i k ∧ t i k = t j k)
noncomputable def rbN (t : Nat → Nat → Nat) (i j k : Nat) : Int := ind (t i j ≠ t i k ∧ t i k ≠ t j k ∧ t i j ≠ t j k)
noncomputable def unN (t : Nat → Nat → Nat) (i j k : Nat) : Int := ind (t i j ≠ t i k) + ind (t i j ≠ t j k) + ind (t i k ≠ t j k)
theorem ind_nonneg (P : Prop) [Decidable P] : 0 ≤ ind P := by unfold ind; split <;> decide
theorem seen_eq (ht : ∀ i j, t i j < 3) (n : Nat) : seenS (m1 t n) 49 = N3 (moN t) n := by
  rw [seen_sum, m1_get, m1_get, m1_get, ← N3_add, ← N3_add]
  exact N3_congr fun i j k _ _ _ => code_mono _ _ _ (ht i j) (ht i k) (ht j k)
theorem seen_nine (ht : ∀ i j, t i j < 3) (n : Nat) (hr : N3 (rbN t) n = 0) (c : Nat) (h : 0 < (m1 t n).getD c 0) : c ∈ nine := by
  by_cases hc : c ∈ nine
  · exact hc
  · exfalso
    rw [m1_get] at h
    have := N3_le (n := n) (f := fun i j k => ind (code3 t i j k = c)) (g := rbN t) fun i j k => by
      unfold rbN ind
      by_cases e : code3 t i j k = c
      · rw [if_pos e]
        rcases code_rb _ _ _ (ht i j) (ht i k) (ht j k) with h1 | h1
        · exact absurd (e ▸ h1) hc
        · rw [if_pos h1]; exact Int.le_refl _
      · rw [if_neg e]; exact ind_nonneg _
    (first | lia | omega)
end
section
variable {t : Nat → Nat → Nat}
noncomputable def tt (t : Nat → Nat → Nat) (i j : Nat) : Nat := if j < i then t i j else t j i
noncomputable def dg (t : Nat → Nat → Nat) (c i m : Nat) : Int := sm (fun j => if j = i then 0 else ind (tt t i j = c)) m
theorem met_count (c i : Nat) : ∀ m, ((metL t i m).countP (· == (c : Int)) : Int) = dg t c i m
  | 0 => rfl
  | m + 1 => by
    have ih := met_count c i m
    unfold dg at *
    rw [metL_succ, sm, ← ih]
    by_cases h : m = i
    · rw [if_pos h, if_pos h]; (first | lia | omega)
    · rw [if_neg h, if_neg h, List.countP_append]
      have e : ((if m < i then t i m else t m i : Nat) : Int) = (tt t i m : Nat) := rfl
      rw [e]
      unfold ind
      by_cases h2 : tt t i m = c
      · rw [if_pos h2, h2]; simp
      · rw [if_neg h2]
        have : ((tt t i m : Int) == (c : Int)) = false := by rw [beq_eq_false_iff_ne]; (first | lia | omega)
        simp [this]
noncomputable def Dg (t : Nat → Nat → Nat) (i m : Nat) : Int := dg t 0 i m * dg t 1 i m + dg t 2 i m * (dg t 0 i m + dg t 1 i m)
theorem unS_sum (n : Nat) : ∀ i, unS t n i = sm (fun i => Dg t i n) i
  | 0 => rfl
  | i + 1 => by
    have h0 := met_count (t := t) 0 i n
    have h1 := met_count (t := t) 1 i n
    have h2 := met_count (t := t) 2 i n
    rw [unS, sm, unS_sum n i]
    unfold Dg
    rw [← h0, ← h1, ← h2]
    simp only [Int.natCast_zero, Int.natCast_one]
    exact Int.add_assoc _ _ _
theorem Dg_step (ht : ∀ i j, t i j < 3) (i m : Nat) : Dg t i (m + 1) = Dg t i m + if m = i then 0 else sm (fun j => if j = i then 0 else ind (tt t i j ≠ tt t i m)) m := by
  have hstep : ∀ c, dg t c i (m + 1) = dg t c i m + if m = i then 0 else ind (tt t i m = c) := fun c => rfl
  have hne : ∀ v, v < 3 → sm (fun j => if j = i then 0 else ind (tt t i j ≠ v)) m = dg t 0 i m + dg t 1 i m + dg t 2 i m - dg t v i m := fun v hv => by
    have e : sm (fun j => if j = i then 0 else ind (tt t i j ≠ v)) m + dg t v i m = dg t 0 i m + dg t 1 i m + dg t 2 i m := by
      unfold dg
      rw [← sm_add, ← sm_add, ← sm_add]
      refine sm_congr fun j _ => ?_
      by_cases hj : j = i
      · simp [hj]
      · simp only [if_neg hj]
        have h3 : tt t i j < 3 := by unfold tt; split <;> exact ht _ _
        generalize tt t i j = a at *
        unfold ind
        match a, h3, v, hv with
        | 0, _, 0, _ => rfl
        | 0, _, 1, _ => rfl
        | 0, _, 2, _ => rfl
        | 1, _, 0, _ => rfl
        | 1, _, 1, _ => rfl
        | 1, _, 2, _ => rfl
        | 2, _, 0, _ => rfl
        | 2, _, 1, _ => rfl
        | 2, _, 2, _ => rfl
    (first | lia | omega)
  unfold Dg
  rw [hstep, hstep, hstep]
  by_cases h : m = i
  · simp [h]
  · simp only [if_neg h]
    have h3 : tt t i m < 3 := by unfold tt; split <;> exact ht _ _
    rw [hne _ h3]
    generalize tt t i m = a at *
    have h012 : a = 0 ∨ a = 1 ∨ a = 2 := by (first | lia | omega)
    have i00 : ind (0 = 0) = 1 := rfl
    have i01 : ind (0 = 1) = 0 := rfl
    have i02 : ind (0 = 2) = 0 := rfl
    have i10 : ind (1 = 0) = 0 := rfl
    have i11 : ind (1 = 1) = 1 := rfl
    have i12 : ind (1 = 2) = 0 := rfl
    have i20 : ind (2 = 0) = 0 := rfl
    have i21 : ind (2 = 1) = 0 := rfl
    have i22 : ind (2 = 2) = 1 := rfl
    clear hne hstep h3
    rcases h012 with rfl | rfl | rfl
    · generalize dg t 0 i m = x
      generalize dg t 1 i m = y
      generalize dg t 2 i m = z
      rw [i00, i01, i02]
      simp only [Int.add_zero, Int.add_mul, Int.mul_add, Int.one_mul, Int.mul_one]
      (first | lia | omega)
    · generalize dg t 0 i m = x
      generalize dg t 1 i m = y
      generalize dg t 2 i m = z
      rw [i10, i11, i12]
      simp only [Int.add_zero, Int.add_mul, Int.mul_add, Int.one_mul, Int.mul_one]
      (first | lia | omega)
    · generalize dg t 0 i m = x
      generalize dg t 1 i m = y
      generalize dg t 2 i m = z
      rw [i20, i21, i22]
      simp only [Int.add_zero, Int.add_mul, Int.mul_add, Int.one_mul, Int.mul_one]
      (first | lia | omega)
theorem Dg_sum (ht : ∀ i j, t i j < 3) (i : Nat) : ∀ m, Dg t i m = sm (fun m => if m = i then 0 else sm (fun j => if j = i then 0 else ind (tt t i j ≠ tt t i m)) m) m
  | 0 => rfl
  | m + 1 => by rw [Dg_step ht, Dg_sum ht i m, sm]
theorem sm_square (b : Nat → Nat → Int) (h : ∀ i, b i i = 0) : ∀ n, sm (fun i => sm (fun j => b i j) n) n = sm (fun j => sm (fun k => b j k + b k j) j) n
  | 0 => rfl
  | n + 1 => by
    have ih := sm_square b h n
    have e : sm (fun i => sm (fun j => b i j) (n + 1)) n = sm (fun i => sm (fun j => b i j) n) n + sm (fun i => b i n) n := by
      rw [← sm_add]; exact sm_congr fun i _ => rfl
    have e0 : sm (b n) n = sm (fun j => b n j) n := rfl
    rw [sm, sm, sm, e, ih, h n, sm_add]; (first | lia | omega)
theorem un_eq (ht : ∀ i j, t i j < 3) : ∀ n, sm (fun i => Dg t i n) n = N3 (unN t) n
  | 0 => rfl
  | n + 1 => by
    have ih := un_eq ht n
    have e1 : sm (fun i => Dg t i (n + 1)) n = sm (fun i => Dg t i n) n + sm (fun i => sm (fun j => if j = i then 0 else ind (tt t i j ≠ tt t i n)) n) n := by
      rw [← sm_add]
      refine sm_congr fun i hi => ?_
      rw [Dg_step ht, if_neg (by (first | lia | omega))]
    have e2 : Dg t n (n + 1) = sm (fun j => sm (fun k => ind (t n j ≠ t n k)) j) n := by
      rw [Dg_step ht, if_pos rfl, Dg_sum ht, Int.add_zero]
      refine sm_congr fun j hj => ?_
      rw [if_neg (by (first | lia | omega))]
      refine sm_congr fun k hk => ?_
      rw [if_neg (by (first | lia | omega))]
      have a1 : tt t n k = t n k := by unfold tt; rw [if_pos (by (first | lia | omega))]
      have a2 : tt t n j = t n j := by unfold tt; rw [if_pos hj]
      rw [a1, a2]
      unfold ind
      simp only [ne_eq, eq_comm]
    have e3 : sm (fun i => sm (fun j => if j = i then 0 else ind (tt t i j ≠ tt t i n)) n) n = sm (fun j => sm (fun k => ind (t n j ≠ t j k) + ind (t n k ≠ t j k)) j) n := by
      rw [sm_square (fun i j => if j = i then 0 else ind (tt t i j ≠ tt t i n)) (fun i => if_pos rfl)]
      refine sm_congr fun j hj => sm_congr fun k hk => ?_
      rw [if_neg (by (first | lia | omega)), if_neg (by (first | lia | omega))]
      have a1 : tt t j k = t j k := by unfold tt; rw [if_pos hk]
      have a2 : tt t k j = t j k := by unfold tt; rw [if_neg (by (first | lia | omega))]
      have a3 : tt t j n = t n j := by unfold tt; rw [if_neg (by (first | lia | omega))]
      have a4 : tt t k n = t n k := by unfold tt; rw [if_neg (by (first | lia | omega))]
      rw [a1, a2, a3, a4]
      unfold ind
      simp only [ne_eq, eq_comm]
    rw [sm, e1, e2, e3, ih]
    unfold N3
    rw [sm]
    have e4 : sm (fun j => sm (fun k => unN t n j k) j) n = sm (fun j => sm (fun k => ind (t n j ≠ t n k)) j) n + sm (fun j => sm (fun k => ind (t n j ≠ t j k) + ind (t n k ≠ t j k)) j) n := by
      rw [← sm_add]
      refine sm_congr fun j _ => ?_
      rw [← sm_add]
      refine sm_congr fun k _ => ?_
      unfold unN; (first | lia | omega)
    rw [e4]; (first | lia | omega)
theorem sm_two : ∀ n : Nat, sm (fun _ => 2) n = 2 * n
  | 0 => rfl
  | n + 1 => by rw [sm, sm_two n]; (first | lia | omega)
theorem sm_pair : ∀ n : Nat, sm (fun j => 2 * (j : Int)) n = n * (n - 1)
  | 0 => rfl
  | n + 1 => by
    rw [sm, sm_pair n]
    have : ((n + 1 : Nat) : Int) * (((n + 1 : Nat) : Int) - 1) = (n : Int) * n + n := by
      rw [Int.natCast_add, Int.natCast_one, Int.add_sub_cancel, Int.add_mul, Int.one_mul]
    rw [this, Int.mul_sub, Int.mul_one]; (first | lia | omega)
theorem sm_trip : ∀ n : Nat, 3 * sm (fun i => (i : Int) * (i - 1)) n = n * (n - 1) * (n - 2)
  | 0 => rfl
  | n + 1 => by
    rw [sm, Int.mul_add, sm_trip n]
    have e : ((n + 1 : Nat) : Int) * (((n + 1 : Nat) : Int) - 1) * (((n + 1 : Nat) : Int) - 2) = (n : Int) * (n - 1) * (n + 1) := by
      have e1 : ((n + 1 : Nat) : Int) = (n : Int) + 1 := by (first | lia | omega)
      rw [e1, Int.add_sub_cancel, show (n : Int) + 1 - 2 = n - 1 by (first | lia | omega), Int.mul_comm ((n : Int) + 1) n, Int.mul_assoc, Int.mul_assoc, Int.mul_comm ((n : Int) + 1)]
    rw [e]
    generalize (n : Int) * (n - 1) = q
    rw [Int.mul_sub, Int.mul_add, Int.mul_one]; (first | lia | omega)
theorem N3_two (n : Nat) : 3 * N3 (fun _ _ _ => 2) n = (n : Int) * (n - 1) * (n - 2) := by
  have : N3 (fun _ _ _ => 2) n = sm (fun i => (i : Int) * (i - 1)) n := by
    unfold N3
    refine sm_congr fun i _ => ?_
    rw [sm_congr (g := fun j => 2 * (j : Int)) fun j _ => sm_two j, sm_pair]
  rw [this, sm_trip]
theorem goodman (ht : ∀ i j, t i j < 3) (n : Nat) (hr : N3 (rbN t) n = 0) : 2 * N3 (moN t) n + unS t n n = ((n : Int) * ((n : Int) - 1) * ((n : Int) - 2)).fdiv 3 := by
  have h1 : 2 * N3 (moN t) n + N3 (unN t) n = N3 (fun _ _ _ => 2) n + N3 (rbN t) n := by
    rw [← N3_scale, ← N3_add, ← N3_add]
    refine N3_congr fun i j k _ _ _ => ?_
    exact code_un _ _ _ (ht i j) (ht i k) (ht j k)
  rw [unS_sum, un_eq ht, h1, hr, Int.add_zero, ← N3_two, Int.fdiv_eq_ediv_of_nonneg _ (by decide)]
  (first | lia | omega)
end
end Mine
end

section
set_option Elab.async false
set_option linter.unusedVariables false
set_option maxRecDepth 100000
namespace Mine
section
variable {α : Type}
theorem S1_nonneg {h : α → Int} {L : List α} (e : ∀ x, 0 ≤ h x) : 0 ≤ S1 h L := by
  induction L with
  | nil => exact Int.le_refl _
  | cons x L ih => rw [S1]; have := e x; (first | lia | omega)
theorem P2_nonneg {h : α → α → Int} {L : List α} (e : ∀ x y, 0 ≤ h x y) : 0 ≤ P2 h L := by
  induction L with
  | nil => exact Int.le_refl _
  | cons x L ih => rw [P2]; have := S1_nonneg (L := L) (e x); (first | lia | omega)
theorem T3_nonneg {h : α → α → α → Int} {L : List α} (e : ∀ x y z, 0 ≤ h x y z) : 0 ≤ T3 h L := by
  induction L with
  | nil => exact Int.le_refl _
  | cons x L ih => rw [T3]; have := P2_nonneg (L := L) (e x); (first | lia | omega)
end
noncomputable def col (k c : Nat) : Bool := if k < 3 then c == k else c == (k - 2) % 3 || c == (k - 1) % 3
mutual
theorem T.rl_len : ∀ (t : T), t.rl.length = t.nl
  | .leaf => rfl
  | .node k cs => by rw [T.rl, T.nl, TL.rl_len cs 0]
theorem TL.rl_len : ∀ (cs : TL) (o : Nat), (cs.rl o).length = cs.nl
  | .nil, _ => rfl
  | .cons t r, o => by rw [TL.rl, TL.nl, List.length_append, List.length_map, T.rl_len t, TL.rl_len r]
end
structure Pos (t : T) : Prop where
  n : 0 < t.vec.getD 0 0
  e : ∀ c, c < 3 → 0 ≤ t.vec.getD (1 + c) 0
  m : 0 ≤ t.vec.getD 4 0
theorem T.pos (t : T) (hw : t.wf) : Pos t := by
  have h := (T.stt t hw).vec
  refine ⟨?_, fun c hc => ?_, ?_⟩
  · rw [h]
    show (0 : Int) < (t.rl.length : Int)
    rw [T.rl_len]
    have := T.nl_pos t hw
    (first | lia | omega)
  · rw [h]
    match c, hc with
    | 0, _ => exact P2_nonneg fun _ _ => ind_nonneg _
    | 1, _ => exact P2_nonneg fun _ _ => ind_nonneg _
    | 2, _ => exact P2_nonneg fun _ _ => ind_nonneg _
  · rw [h]; exact T3_nonneg fun _ _ _ => ind_nonneg _
theorem tone_col : ∀ kd c : Nat, kd < 6 → c < 3 → ((∃ i j, j < i ∧ i < sz kd ∧ tone kd i j = c) ↔ col kd c = true) := by
  have h : ∀ kd : _root_.Fin 6, ∀ c : _root_.Fin 3, (∃ i j : _root_.Fin 5, j.val < i.val ∧ i.val < sz kd.val ∧ tone kd.val i.val j.val = c.val) ↔ col kd.val c.val = true := by decide +kernel
  intro kd c hk hc
  rw [← h ⟨kd, hk⟩ ⟨c, hc⟩]
  have hs := sz_le' kd
  constructor
  · rintro ⟨i, j, h1, h2, h3⟩
    exact ⟨⟨i, by (first | lia | omega)⟩, ⟨j, by (first | lia | omega)⟩, h1, h2, h3⟩
  · rintro ⟨i, j, h1, h2, h3⟩
    exact ⟨i, j, h1, h2, h3⟩
theorem col_mate : ∀ kd c i : Nat, kd < 6 → c < 3 → i < sz kd → col kd c = true → ∃ j, j < sz kd ∧ ((j < i ∧ tone kd i j = c) ∨ (i < j ∧ tone kd j i = c)) := by
  have h : ∀ kd : _root_.Fin 6, ∀ c : _root_.Fin 3, ∀ i : _root_.Fin 5, i.val < sz kd.val → col kd.val c.val = true → ∃ j : _root_.Fin 5, j.val < sz kd.val ∧ ((j.val < i.val ∧ tone kd.val i.val j.val = c.val) ∨ (i.val < j.val ∧ tone kd.val j.val i.val = c.val)) := by decide +kernel
  intro kd c i hk hc hi hcol
  have hs := sz_le' kd
  change (let G : Prop := _; G)
  intro G
  obtain ⟨j, h1, h2⟩ := h ⟨kd, hk⟩ ⟨c, hc⟩ ⟨i, by (first | lia | omega)⟩ hi hcol
  subst G
  exact ⟨j, h1, h2⟩
theorem tone_is_col {kd i j : Nat} (hk : kd < 6) (hj : j < i) (hi : i < sz kd) : col kd (tone kd i j) = true := (tone_col kd _ hk (tone_lt kd i j hk)).mp ⟨i, j, hj, hi, rfl⟩

section
variable {kd : Nat} {cs : TL}
theorem vec_node (hw : (T.node kd cs).wf) : (∀ i, i < sz kd → ∃ t, cs.get? i = some t ∧ t.wf ∧ cs.vecs.getD i [] = t.vec) ∧ ((T.node kd cs).vec.getD 0 0 = sm (fun i => av cs.vecs i 0) (sz kd)) ∧
    (∀ c, c < 3 → (T.node kd cs).vec.getD (1 + c) 0 = sm (fun i => av cs.vecs i (1 + c)) (sz kd) + sm (fun i => sm (fun j => ind (tone kd i j = c) * av cs.vecs i 0 * av cs.vecs j 0) i) (sz kd)) ∧
    (T.node kd cs).vec.getD 4 0 = sm (fun i => av cs.vecs i 4) (sz kd) + sm (fun i => sm (fun j => av cs.vecs i 0 * av cs.vecs j (1 + tone kd i j) + av cs.vecs j 0 * av cs.vecs i (1 + tone kd i j)) i) (sz kd) := by
  change (let G : Prop := _; G)
  intro G
  obtain ⟨hk, hlen, hwf⟩ := hw
  subst G
  have hvl : cs.vecs.length = sz kd := by rw [vecs_len, hlen]
  refine ⟨fun i hi => ?_, ?_, fun c hc => ?_, ?_⟩
  · obtain ⟨t, ht⟩ := TL.get_some cs i (by (first | lia | omega))
    exact ⟨t, ht, TL.get_wf cs i t hwf ht, vecs_get cs i t ht⟩
  · rw [T.vec, tot1_0, hvl]
  · rw [T.vec, tot1_c hk hc, hvl]
  · rw [T.vec, tot1_4 hk, hvl]
theorem ind_pos {P : Prop} [Decidable P] : 0 < ind P ↔ P := by
  unfold ind
  by_cases h : P
  · rw [if_pos h]; exact ⟨fun _ => h, fun _ => by decide⟩
  · rw [if_neg h]; exact ⟨fun q => absurd q (by decide), fun q => absurd q h⟩
theorem e_node (hw : (T.node kd cs).wf) {c : Nat} (hc : c < 3) : 0 < (T.node kd cs).vec.getD (1 + c) 0 ↔ col kd c = true ∨ ∃ i t, cs.get? i = some t ∧ 0 < t.vec.getD (1 + c) 0 := by
  change (let G : Prop := _; G)
  intro G
  obtain ⟨hch, _, hE, _⟩ := vec_node hw
  subst G
  have hpos : ∀ i, i < sz kd → 0 < av cs.vecs i 0 ∧ 0 ≤ av cs.vecs i (1 + c) := fun i hi => by
    change (let G : Prop := _; G)
    intro G
    obtain ⟨t, _, h2, h3⟩ := hch i hi
    subst G
    unfold av
    rw [h3]
    exact ⟨(T.pos t h2).n, (T.pos t h2).e c hc⟩
  have hcross : ∀ i j, j < i → i < sz kd → 0 ≤ ind (tone kd i j = c) * av cs.vecs i 0 * av cs.vecs j 0 ∧ (0 < ind (tone kd i j = c) * av cs.vecs i 0 * av cs.vecs j 0 ↔ tone kd i j = c) := fun i j hj hi => by
    have p1 := (hpos i hi).1
    have p2 := (hpos j (by (first | lia | omega))).1
    have p3 := Int.mul_pos p1 p2
    unfold ind
    by_cases h : tone kd i j = c
    · rw [if_pos h, Int.one_mul]; exact ⟨by (first | lia | omega), fun _ => h, fun _ => p3⟩
    · rw [if_neg h, Int.zero_mul, Int.zero_mul]; exact ⟨Int.le_refl _, fun q => absurd q (by decide), fun q => absurd q h⟩
  have s1 := sm_pos (f := fun i => av cs.vecs i (1 + c)) (n := sz kd) fun i hi => (hpos i hi).2
  have s1n := sm_nonneg (f := fun i => av cs.vecs i (1 + c)) (n := sz kd) fun i hi => (hpos i hi).2
  have s2 := sm_pos (f := fun i => sm (fun j => ind (tone kd i j = c) * av cs.vecs i 0 * av cs.vecs j 0) i) (n := sz kd) fun i hi => sm_nonneg fun j hj => (hcross i j hj hi).1
  have s2n := sm_nonneg (f := fun i => sm (fun j => ind (tone kd i j = c) * av cs.vecs i 0 * av cs.vecs j 0) i) (n := sz kd) fun i hi => sm_nonneg fun j hj => (hcross i j hj hi).1
  rw [hE c hc]
  have e1 : (∃ i, i < sz kd ∧ 0 < av cs.vecs i (1 + c)) ↔ ∃ i t, cs.get? i = some t ∧ 0 < t.vec.getD (1 + c) 0 := by
    constructor
    · rintro ⟨i, hi, hp⟩
      change (let G : Prop := _; G)
      intro G
      obtain ⟨t, h1, _, h3⟩ := hch i hi
      subst G
      unfold av at hp
      rw [h3] at hp
      exact ⟨i, t, h1, hp⟩
    · rintro ⟨i, t, h1, h2⟩
      have hi : i < sz kd := by
        rw [← hw.2.1]
        have : ∀ (cs : TL) (i : Nat) (t : T), cs.get? i = some t → i < cs.len := by
          intro cs
          induction cs using TL.rec (motive_1 := fun _ => True) with
          | leaf => trivial
          | node => trivial
          | nil => intro i t h; cases h
          | cons a r _ ih =>
            intro i t h
            cases i with
            | zero => rw [TL.len]; (first | lia | omega)
            | succ i => rw [TL.len]; have := ih i t h; (first | lia | omega)
        exact this cs i t h1
      change (let G : Prop := _; G)
      intro G
      obtain ⟨t', h3, _, h4⟩ := hch i hi
      subst G
      rw [h1] at h3; cases h3
      refine ⟨i, hi, ?_⟩
      unfold av
      rw [h4]; exact h2
  have e2 : (∃ i, i < sz kd ∧ 0 < sm (fun j => ind (tone kd i j = c) * av cs.vecs i 0 * av cs.vecs j 0) i) ↔ col kd c = true := by
    rw [← tone_col kd c hw.1 hc]
    constructor
    · rintro ⟨i, hi, hp⟩
      change (let G : Prop := _; G)
      intro G
      obtain ⟨j, hj, hq⟩ := (sm_pos fun j hj => (hcross i j hj hi).1).mp hp
      subst G
      exact ⟨i, j, hj, hi, (hcross i j hj hi).2.mp hq⟩
    · rintro ⟨i, j, hj, hi, hq⟩
      exact ⟨i, hi, (sm_pos fun j hj => (hcross i j hj hi).1).mpr ⟨j, hj, (hcross i j hj hi).2.mpr hq⟩⟩
  rw [← e1, ← e2, ← s1, ← s2]
  (first | lia | omega)
theorem get_lt : ∀ (cs : TL) (i : Nat) (t : T), cs.get? i = some t → i < cs.len
  | .nil, _, _, h => by cases h
  | .cons a r, 0, _, _ => by rw [TL.len]; (first | lia | omega)
  | .cons a r, i + 1, t, h => by rw [TL.len]; have := get_lt r i t h; (first | lia | omega)
theorem m_node (hw : (T.node kd cs).wf) : 0 < (T.node kd cs).vec.getD 4 0 ↔ ∃ i t, cs.get? i = some t ∧ (0 < t.vec.getD 4 0 ∨ ∃ c, c < 3 ∧ col kd c = true ∧ 0 < t.vec.getD (1 + c) 0) := by
  change (let G : Prop := _; G)
  intro G
  obtain ⟨hch, _, _, hM⟩ := vec_node hw
  subst G
  have hk := hw.1
  have hpos : ∀ i, i < sz kd → 0 < av cs.vecs i 0 ∧ (∀ c, c < 3 → 0 ≤ av cs.vecs i (1 + c)) ∧ 0 ≤ av cs.vecs i 4 := fun i hi => by
    change (let G : Prop := _; G)
    intro G
    obtain ⟨t, _, h2, h3⟩ := hch i hi
    subst G
    unfold av
    rw [h3]
    exact ⟨(T.pos t h2).n, (T.pos t h2).e, (T.pos t h2).m⟩
  have mulp : ∀ a b : Int, 0 < a → 0 ≤ b → 0 ≤ a * b ∧ (0 < a * b ↔ 0 < b) := fun a b ha hb => by
    refine ⟨Int.mul_nonneg (Int.le_of_lt ha) hb, fun h => ?_, fun h => Int.mul_pos ha h⟩
    rcases Int.lt_or_eq_of_le hb with h' | h'
    · exact h'
    · rw [← h', Int.mul_zero] at h; exact absurd h (by decide)
  have hcross : ∀ i j, j < i → i < sz kd → 0 ≤ av cs.vecs i 0 * av cs.vecs j (1 + tone kd i j) + av cs.vecs j 0 * av cs.vecs i (1 + tone kd i j) ∧
      (0 < av cs.vecs i 0 * av cs.vecs j (1 + tone kd i j) + av cs.vecs j 0 * av cs.vecs i (1 + tone kd i j) ↔ 0 < av cs.vecs j (1 + tone kd i j) ∨ 0 < av cs.vecs i (1 + tone kd i j)) := fun i j hj hi => by
    have ht := tone_lt kd i j hk
    have p1 := mulp _ _ (hpos i hi).1 ((hpos j (by (first | lia | omega))).2.1 _ ht)
    have p2 := mulp _ _ (hpos j (by (first | lia | omega))).1 ((hpos i hi).2.1 _ ht)
    rw [← p1.2, ← p2.2]
    (first | lia | omega)
  have s1 := sm_pos (f := fun i => av cs.vecs i 4) (n := sz kd) fun i hi => (hpos i hi).2.2
  have s1n := sm_nonneg (f := fun i => av cs.vecs i 4) (n := sz kd) fun i hi => (hpos i hi).2.2
  have s2 := sm_pos (f := fun i => sm (fun j => av cs.vecs i 0 * av cs.vecs j (1 + tone kd i j) + av cs.vecs j 0 * av cs.vecs i (1 + tone kd i j)) i) (n := sz kd) fun i hi => sm_nonneg fun j hj => (hcross i j hj hi).1
  have s2n := sm_nonneg (f := fun i => sm (fun j => av cs.vecs i 0 * av cs.vecs j (1 + tone kd i j) + av cs.vecs j 0 * av cs.vecs i (1 + tone kd i j)) i) (n := sz kd) fun i hi => sm_nonneg fun j hj => (hcross i j hj hi).1
  have back : ∀ i, i < sz kd → ∀ k, 0 < av cs.vecs i k → ∃ t, cs.get? i = some t ∧ 0 < t.vec.getD k 0 := fun i hi k hp => by
    change (let G : Prop := _; G)
    intro G
    obtain ⟨t, h1, _, h3⟩ := hch i hi
    subst G
    unfold av at hp
    rw [h3] at hp
    exact ⟨t, h1, hp⟩
  have forth : ∀ i t, cs.get? i = some t → i < sz kd ∧ ∀ k, 0 < t.vec.getD k 0 → 0 < av cs.vecs i k := fun i t h => by
    have hi : i < sz kd := by rw [← hw.2.1]; exact get_lt cs i t h
    change (let G : Prop := _; G)
    intro G
    obtain ⟨t', h3, _, h4⟩ := hch i hi
    subst G
    rw [h] at h3; cases h3
    exact ⟨hi, fun k hp => by unfold av; rw [h4]; exact hp⟩
  rw [hM]
  constructor
  · intro h
    have : 0 < sm (fun i => av cs.vecs i 4) (sz kd) ∨ 0 < sm (fun i => sm (fun j => av cs.vecs i 0 * av cs.vecs j (1 + tone kd i j) + av cs.vecs j 0 * av cs.vecs i (1 + tone kd i j)) i) (sz kd) := by (first | lia | omega)
    rcases this with h | h
    · change (let G : Prop := _; G)
      intro G
      obtain ⟨i, hi, hp⟩ := s1.mp h
      subst G
      change (let G : Prop := _; G)
      intro G
      obtain ⟨t, h1, h2⟩ := back i hi 4 hp
      subst G
      exact ⟨i, t, h1, .inl h2⟩
    · change (let G : Prop := _; G)
      intro G
      obtain ⟨i, hi, hp⟩ := s2.mp h
      subst G
      change (let G : Prop := _; G)
      intro G
      obtain ⟨j, hj, hq⟩ := (sm_pos fun j hj => (hcross i j hj hi).1).mp hp
      subst G
      have htc := tone_is_col hk hj hi
      have ht := tone_lt kd i j hk
      rcases (hcross i j hj hi).2.mp hq with h5 | h5
      · change (let G : Prop := _; G)
        intro G
        obtain ⟨t, h1, h2⟩ := back j (by (first | lia | omega)) _ h5
        subst G
        exact ⟨j, t, h1, .inr ⟨_, ht, htc, h2⟩⟩
      · change (let G : Prop := _; G)
        intro G
        obtain ⟨t, h1, h2⟩ := back i hi _ h5
        subst G
        exact ⟨i, t, h1, .inr ⟨_, ht, htc, h2⟩⟩
  · rintro ⟨i, t, h1, h2⟩
    obtain ⟨hi, hf⟩ := forth i t h1
    rcases h2 with h2 | ⟨c, hc, hcol, h2⟩
    · have := s1.mpr ⟨i, hi, hf 4 h2⟩
      (first | lia | omega)
    · have hav := hf _ h2
      have : 0 < sm (fun i => sm (fun j => av cs.vecs i 0 * av cs.vecs j (1 + tone kd i j) + av cs.vecs j 0 * av cs.vecs i (1 + tone kd i j)) i) (sz kd) := by
        change (let G : Prop := _; G)
        intro G
        obtain ⟨j, hj, hm⟩ := col_mate kd c i hk hc hi hcol
        subst G
        rcases hm with ⟨hji, he⟩ | ⟨hij, he⟩
        · exact s2.mpr ⟨i, hi, (sm_pos fun j hj => (hcross i j hj hi).1).mpr ⟨j, hji, (hcross i j hji hi).2.mpr (.inr (by rw [he]; exact hav))⟩⟩
        · exact s2.mpr ⟨j, hj, (sm_pos fun l hl => (hcross j l hl hj).1).mpr ⟨i, hij, (hcross j i hij hj).2.mpr (.inl (by rw [he]; exact hav))⟩⟩
      (first | lia | omega)
end
end Mine
end

section
set_option Elab.async false
set_option linter.unusedVariables false
set_option maxRecDepth 100000
namespace Mine
noncomputable def b2n (b : Bool) : Nat := if b then 1 else 0
noncomputable def pc (t : T) (c : Nat) : Bool := decide (0 < t.vec.getD (1 + c) 0)
noncomputable def used (t : T) : Nat := b2n (pc t 0) + b2n (pc t 1) + b2n (pc t 2)
noncomputable def ncol (kd : Nat) : Nat := if kd < 3 then 1 else 2
theorem used_fall : ∀ kd : Nat, kd < 6 → ∀ a b c x y z : Bool, (col kd 0 = true → a = false ∧ x = true) → (col kd 1 = true → b = false ∧ y = true) → (col kd 2 = true → c = false ∧ z = true) → (a = true → x = true) → (b = true → y = true) → (c = true → z = true) →
    b2n a + b2n b + b2n c + ncol kd ≤ b2n x + b2n y + b2n z := by
  have h : ∀ kd : _root_.Fin 6, ∀ a b c x y z : Bool, (col kd.val 0 = true → a = false ∧ x = true) → (col kd.val 1 = true → b = false ∧ y = true) → (col kd.val 2 = true → c = false ∧ z = true) → (a = true → x = true) → (b = true → y = true) → (c = true → z = true) →
      b2n a + b2n b + b2n c + ncol kd.val ≤ b2n x + b2n y + b2n z := by decide +kernel
  intro kd hk
  exact h ⟨kd, hk⟩
theorem lim_step : ∀ kd u v : Nat, kd < 6 → u ≤ 3 → v + ncol kd ≤ u → 0 ≤ lim v ∧ (sz kd : Int) * lim v ≤ lim u := by
  have h : ∀ kd : _root_.Fin 6, ∀ u v : _root_.Fin 4, v.val + ncol kd.val ≤ u.val → 0 ≤ lim v.val ∧ (sz kd.val : Int) * lim v.val ≤ lim u.val := by decide +kernel
  intro kd u v hk hu hv
  exact h ⟨kd, hk⟩ ⟨u, by (first | lia | omega)⟩ ⟨v, by (first | lia | omega)⟩ hv
theorem lim_mono : ∀ u v : Nat, v ≤ u → u ≤ 3 → lim v ≤ lim u := by
  have h : ∀ u v : _root_.Fin 4, v.val ≤ u.val → lim v.val ≤ lim u.val := by decide +kernel
  intro u v hv hu
  exact h ⟨u, by (first | lia | omega)⟩ ⟨v, by (first | lia | omega)⟩ hv
theorem b2n_le (b : Bool) : b2n b ≤ 1 := by cases b <;> decide
theorem sm_bound {f : Nat → Int} {B : Int} : ∀ n : Nat, (∀ i, i < n → f i ≤ B) → sm f n ≤ n * B
  | 0, _ => by rw [sm]; simp
  | n + 1, h => by
    rw [sm]
    have h1 := sm_bound n fun i hi => h i (Nat.lt_succ_of_lt hi)
    have h2 := h n (Nat.lt_succ_self n)
    rw [Int.natCast_add, Int.add_mul]
    show _ ≤ (n : Int) * B + 1 * B
    (first | lia | omega)
mutual
theorem T.bound : ∀ (t : T), t.wf → t.vec.getD 4 0 = 0 → t.vec.getD 0 0 ≤ lim (used t)
  | .leaf, _, _ => by decide
  | .node kd cs, hw, h0 => by
    have ih := TL.bound cs hw.2.2
    obtain ⟨hch, hN, _, _⟩ := vec_node hw
    have hm := m_node hw
    have hM : ∀ i t, cs.get? i = some t → ¬ 0 < t.vec.getD 4 0 ∧ ∀ c, c < 3 → col kd c = true → ¬ 0 < t.vec.getD (1 + c) 0 := fun i t h =>
      ⟨fun q => by have := hm.mpr ⟨i, t, h, .inl q⟩; (first | lia | omega), fun c hc hcol q => by have := hm.mpr ⟨i, t, h, .inr ⟨c, hc, hcol, q⟩⟩; (first | lia | omega)⟩
    have hu3 : used (T.node kd cs) ≤ 3 := by
      unfold used
      have := b2n_le (pc (T.node kd cs) 0); have := b2n_le (pc (T.node kd cs) 1); have := b2n_le (pc (T.node kd cs) 2); (first | lia | omega)
    have hfall : ∀ i t, cs.get? i = some t → used t + ncol kd ≤ used (T.node kd cs) := fun i t h => by
      have hc : ∀ c, c < 3 → (col kd c = true → pc t c = false ∧ pc (T.node kd cs) c = true) ∧ (pc t c = true → pc (T.node kd cs) c = true) := fun c hc => by
        have he := e_node hw hc
        unfold pc
        refine ⟨fun hcol => ⟨decide_eq_false ((hM i t h).2 c hc hcol), decide_eq_true (he.mpr (.inl hcol))⟩, fun hp => decide_eq_true (he.mpr (.inr ⟨i, t, h, of_decide_eq_true hp⟩))⟩
      exact used_fall kd hw.1 _ _ _ _ _ _ (hc 0 (by decide)).1 (hc 1 (by decide)).1 (hc 2 (by decide)).1 (hc 0 (by decide)).2 (hc 1 (by decide)).2 (hc 2 (by decide)).2
    have hnc : ncol kd ≤ used (T.node kd cs) := by
      obtain ⟨t, ht, _⟩ := hch 0 (by unfold sz; split <;> (first | lia | omega))
      have := hfall 0 t ht; (first | lia | omega)
    have hstep := lim_step kd (used (T.node kd cs)) (used (T.node kd cs) - ncol kd) hw.1 hu3 (by (first | lia | omega))
    rw [hN]
    refine Int.le_trans (sm_bound (B := lim (used (T.node kd cs) - ncol kd)) (sz kd) fun i hi => ?_) hstep.2
    obtain ⟨t, ht, hwt, hv⟩ := hch i hi
    unfold av
    rw [hv]
    have hmt := (hM i t ht).1
    have hmp := (T.pos t hwt).m
    exact Int.le_trans (ih i t ht hwt (by (first | lia | omega))) (lim_mono _ _ (by have := hfall i t ht; (first | lia | omega)) (by (first | lia | omega)))
theorem TL.bound : ∀ (cs : TL), cs.wf → ∀ i t, cs.get? i = some t → t.wf → t.vec.getD 4 0 = 0 → t.vec.getD 0 0 ≤ lim (used t)
  | .nil, _, i, t, h, _, _ => by cases h
  | .cons t r, hw, 0, u, h, hu, h0 => by cases h; exact T.bound t hw.1 h0
  | .cons t r, hw, i + 1, u, h, hu, h0 => TL.bound r hw.2 i u h hu h0
end
theorem used_len (t : T) : (usedT t.vec 3).length = used t := by
  rw [usedT_succ, usedT_succ, usedT_succ]
  unfold used b2n pc
  by_cases h0 : 0 < t.vec.getD (1 + 0) 0 <;> by_cases h1 : 0 < t.vec.getD (1 + 1) 0 <;> by_cases h2 : 0 < t.vec.getD (1 + 2) 0 <;> simp only [h0, h1, h2, if_true, if_false, decide_true, decide_false, Bool.false_eq_true] <;> rfl

mutual
noncomputable def T.kdo : T → List Nat → Option Nat
  | .leaf, _ => none
  | .node k _, [] => some k
  | .node _ cs, i :: v => cs.kdoAt i v
noncomputable def TL.kdoAt : TL → Nat → List Nat → Option Nat
  | .nil, _, _ => none
  | .cons t _, 0, v => t.kdo v
  | .cons _ r, i + 1, v => r.kdoAt i v
end
theorem kdoAt_get : ∀ (cs : TL) (i : Nat) (v : List Nat) (k : Nat), cs.kdoAt i v = some k ↔ ∃ t, cs.get? i = some t ∧ t.kdo v = some k
  | .nil, i, v, k => by rw [TL.kdoAt]; exact ⟨fun h => (by cases h), fun ⟨t, h, _⟩ => by cases h⟩
  | .cons t r, 0, v, k => by rw [TL.kdoAt]; exact ⟨fun h => ⟨t, rfl, h⟩, fun ⟨u, h, q⟩ => by cases h; exact q⟩
  | .cons t r, i + 1, v, k => by rw [TL.kdoAt]; exact kdoAt_get r i v k
mutual
theorem T.mem_nds : ∀ (t : T) (w u : List Nat) (k : Nat), (u, k) ∈ t.nds w ↔ ∃ v, u = w ++ v ∧ t.kdo v = some k
  | .leaf, w, u, k => by rw [T.nds]; exact ⟨fun h => (by cases h), fun ⟨v, _, h⟩ => by rw [T.kdo] at h; cases h⟩
  | .node kd cs, w, u, k => by
    rw [T.nds, List.mem_append, List.mem_singleton, TL.mem_nds cs w 0 u k]
    constructor
    · rintro (⟨i, v, e, h⟩ | h)
      · exact ⟨i :: v, by rw [e]; simp, by rw [T.kdo]; exact h⟩
      · cases h; exact ⟨[], by simp, by rw [T.kdo]⟩
    · rintro ⟨v, e, h⟩
      cases v with
      | nil => rw [T.kdo] at h; cases h; exact .inr (by rw [e, List.append_nil])
      | cons i v => rw [T.kdo] at h; exact .inl ⟨i, v, by rw [e]; simp, h⟩
theorem TL.mem_nds : ∀ (cs : TL) (w : List Nat) (o : Nat) (u : List Nat) (k : Nat), (u, k) ∈ cs.nds w o ↔ ∃ i v, u = w ++ (o + i) :: v ∧ cs.kdoAt i v = some k
  | .nil, w, o, u, k => by rw [TL.nds]; exact ⟨fun h => (by cases h), fun ⟨i, v, _, h⟩ => by rw [TL.kdoAt] at h; cases h⟩
  | .cons t r, w, o, u, k => by
    rw [TL.nds, List.mem_append, T.mem_nds t (w ++ [o]) u k, TL.mem_nds r w (o + 1) u k]
    constructor
    · rintro (⟨v, e, h⟩ | ⟨i, v, e, h⟩)
      · exact ⟨0, v, by rw [e]; simp, by rw [TL.kdoAt]; exact h⟩
      · exact ⟨i + 1, v, by rw [e, show o + 1 + i = o + (i + 1) by (first | lia | omega)], by rw [TL.kdoAt]; exact h⟩
    · rintro ⟨i, v, e, h⟩
      cases i with
      | zero => rw [TL.kdoAt] at h; exact .inl ⟨v, by rw [e]; simp, h⟩
      | succ i => rw [TL.kdoAt] at h; exact .inr ⟨i, v, by rw [e, show o + 1 + i = o + (i + 1) by (first | lia | omega)], h⟩
end
theorem kdo_take : ∀ (t : T) (v : List Nat) (k m : Nat), t.kdo v = some k → ∃ k', t.kdo (v.take m) = some k'
  | .leaf, v, k, m, h => by rw [T.kdo] at h; cases h
  | .node kd cs, [], k, m, h => ⟨k, by rw [List.take_nil]; exact h⟩
  | .node kd cs, i :: v, k, 0, h => ⟨kd, by rw [List.take_zero, T.kdo]⟩
  | .node kd cs, i :: v, k, m + 1, h => by
    rw [T.kdo] at h
    obtain ⟨t, h1, h2⟩ := (kdoAt_get cs i v k).mp h
    have hlt : sizeOf t < sizeOf (T.node kd cs) := by
      have : ∀ (cs : TL) (i : Nat) (t : T), cs.get? i = some t → sizeOf t < sizeOf cs := by
        intro cs i
        induction i generalizing cs with
        | zero => intro t h; cases cs with | nil => cases h | cons a r => cases h; simp; (first | lia | omega)
        | succ i ih => intro t h; cases cs with | nil => cases h | cons a r => have := ih r t h; simp; (first | lia | omega)
      have := this cs i t h1
      simp; (first | lia | omega)
    obtain ⟨k', h3⟩ := kdo_take t v k m h2
    exact ⟨k', by rw [List.take_succ_cons, T.kdo]; exact (kdoAt_get cs i _ k').mpr ⟨t, h1, h3⟩⟩
termination_by t => sizeOf t
mutual
theorem T.e_iff : ∀ (t : T), t.wf → ∀ c, c < 3 → (0 < t.vec.getD (1 + c) 0 ↔ ∃ v k, t.kdo v = some k ∧ col k c = true)
  | .leaf, _, c, hc => by
    have : T.leaf.vec.getD (1 + c) 0 = 0 := by
      match c, hc with
      | 0, _ => rfl
      | 1, _ => rfl
      | 2, _ => rfl
    rw [this]
    exact ⟨fun h => absurd h (by decide), fun ⟨v, k, h, _⟩ => by rw [T.kdo] at h; cases h⟩
  | .node kd cs, hw, c, hc => by
    have ih := TL.e_iff cs hw.2.2
    rw [e_node hw hc]
    constructor
    · rintro (h | ⟨i, t, h1, h2⟩)
      · exact ⟨[], kd, by rw [T.kdo], h⟩
      · obtain ⟨v, k, h3, h4⟩ := (ih i t h1 c hc).mp h2
        exact ⟨i :: v, k, by rw [T.kdo]; exact (kdoAt_get cs i v k).mpr ⟨t, h1, h3⟩, h4⟩
    · rintro ⟨v, k, h1, h2⟩
      cases v with
      | nil => rw [T.kdo] at h1; cases h1; exact .inl h2
      | cons i v =>
        rw [T.kdo] at h1
        obtain ⟨t, h3, h4⟩ := (kdoAt_get cs i v k).mp h1
        exact .inr ⟨i, t, h3, (ih i t h3 c hc).mpr ⟨v, k, h4, h2⟩⟩
theorem TL.e_iff : ∀ (cs : TL), cs.wf → ∀ i t, cs.get? i = some t → ∀ c, c < 3 → (0 < t.vec.getD (1 + c) 0 ↔ ∃ v k, t.kdo v = some k ∧ col k c = true)
  | .nil, _, i, t, h, _, _ => by cases h
  | .cons t r, hw, 0, u, h, c, hc => by cases h; exact T.e_iff t hw.1 c hc
  | .cons t r, hw, i + 1, u, h, c, hc => TL.e_iff r hw.2 i u h c hc
end
noncomputable def Hit (t : T) : Prop := ∃ v k m k', t.kdo v = some k ∧ m < v.length ∧ t.kdo (v.take m) = some k' ∧ ∃ c, c < 3 ∧ col k c = true ∧ col k' c = true
mutual
theorem T.m_iff : ∀ (t : T), t.wf → (0 < t.vec.getD 4 0 ↔ Hit t)
  | .leaf, _ => by
    have : T.leaf.vec.getD 4 0 = 0 := rfl
    rw [this]
    exact ⟨fun h => absurd h (by decide), fun ⟨v, k, _, _, h, _⟩ => by rw [T.kdo] at h; cases h⟩
  | .node kd cs, hw => by
    have ih := TL.m_iff cs hw.2.2
    have he := TL.e_iff cs hw.2.2
    rw [m_node hw]
    constructor
    · rintro ⟨i, t, h1, h2 | ⟨c, hc, hcol, h2⟩⟩
      · obtain ⟨v, k, m, k', q1, q2, q3, q4⟩ := (ih i t h1).mp h2
        refine ⟨i :: v, k, m + 1, k', by rw [T.kdo]; exact (kdoAt_get cs i v k).mpr ⟨t, h1, q1⟩, by simp; (first | lia | omega), ?_, q4⟩
        rw [List.take_succ_cons, T.kdo]; exact (kdoAt_get cs i _ k').mpr ⟨t, h1, q3⟩
      · obtain ⟨v, k, q1, q2⟩ := (he i t h1 c hc).mp h2
        exact ⟨i :: v, k, 0, kd, by rw [T.kdo]; exact (kdoAt_get cs i v k).mpr ⟨t, h1, q1⟩, by simp, by rw [List.take_zero, T.kdo], c, hc, q2, hcol⟩
    · rintro ⟨v, k, m, k', q1, q2, q3, c, hc, q4, q5⟩
      cases v with
      | nil => exact absurd q2 (Nat.not_lt_zero m)
      | cons i v =>
        rw [T.kdo] at q1
        obtain ⟨t, h1, h2⟩ := (kdoAt_get cs i v k).mp q1
        cases m with
        | zero =>
          rw [List.take_zero, T.kdo] at q3
          cases q3
          exact ⟨i, t, h1, .inr ⟨c, hc, q5, (he i t h1 c hc).mpr ⟨v, k, h2, q4⟩⟩⟩
        | succ m =>
          rw [List.take_succ_cons, T.kdo] at q3
          obtain ⟨t', h3, h4⟩ := (kdoAt_get cs i _ k').mp q3
          rw [h1] at h3; cases h3
          exact ⟨i, t, h1, .inl ((ih i t h1).mpr ⟨v, k, m, k', h2, by simpa using q2, h4, c, hc, q4, q5⟩)⟩
theorem TL.m_iff : ∀ (cs : TL), cs.wf → ∀ i t, cs.get? i = some t → (0 < t.vec.getD 4 0 ↔ Hit t)
  | .nil, _, i, t, h => by cases h
  | .cons t r, hw, 0, u, h => by cases h; exact T.m_iff t hw.1
  | .cons t r, hw, i + 1, u, h => TL.m_iff r hw.2 i u h
end
theorem shr_col : ∀ a b : Nat, a < 6 → b < 6 → ((shr a b).isEmpty = false ↔ ∃ c, c < 3 ∧ col a c = true ∧ col b c = true) := by
  have h : ∀ a b : _root_.Fin 6, ((shr a.val b.val).isEmpty = false ↔ ∃ c : _root_.Fin 3, col a.val c.val = true ∧ col b.val c.val = true) := by decide +kernel
  intro a b ha hb
  rw [h ⟨a, ha⟩ ⟨b, hb⟩]
  exact ⟨fun ⟨c, h1, h2⟩ => ⟨c.val, c.isLt, h1, h2⟩, fun ⟨c, h0, h1, h2⟩ => ⟨⟨c, h0⟩, h1, h2⟩⟩
end Mine
end

section
open PySem PySem.W PyProof.Rows PySem.Builtin
set_option Elab.async false
set_option linter.unusedVariables false
set_option maxRecDepth 100000
namespace Mine
theorem bal_append (a b : List Tk) : bal (a ++ b) = bal a + bal b := by simp [bal]
noncomputable def NN (us : List Tk) : Prop := ∀ i, 0 ≤ bal (us.take i)
theorem NN.append {a b : List Tk} (h : NN a) (z : bal a = 0) (g : NN b) : NN (a ++ b) := fun i => by
  rw [List.take_append, bal_append]
  by_cases hi : i ≤ a.length
  · rw [show i - a.length = 0 by (first | lia | omega), List.take_zero]
    have := h i
    simp [bal] at *; (first | lia | omega)
  · rw [List.take_of_length_le (by (first | lia | omega)), z]
    have := g (i - a.length)
    (first | lia | omega)
mutual
theorem T.bal : ∀ (t : T) (d : Nat), Mine.bal (t.tok d) = 0 ∧ NN (t.tok d)
  | .leaf, d => by
    have h : Mine.bal (T.leaf.tok d) = 0 := by
      show Mine.bal [Tk.es (40 + d % 2)] = 0
      rfl
    refine ⟨h, fun i => ?_⟩
    cases i with
    | zero => exact Int.le_refl _
    | succ i => rw [List.take_of_length_le (by show 1 ≤ i + 1; (first | lia | omega)), h]; exact Int.le_refl _
  | .node k cs, d => by
    obtain ⟨h1, h2⟩ := TL.bal cs 0
    have e : (T.node k cs).tok d = [.ch 40] ++ (cs.tok 0 ++ [.ch 41]) := by rw [T.tok]; rfl
    have a1 : Mine.bal [Tk.ch 40] = 1 := rfl
    have a2 : Mine.bal [Tk.ch 41] = -1 := rfl
    refine ⟨by rw [e, bal_append, bal_append, h1, a1, a2]; rfl, fun i => ?_⟩
    rw [e, List.take_append, bal_append, List.take_append, bal_append]
    cases i with
    | zero =>
      rw [Nat.zero_sub, Nat.zero_sub, List.take_zero, List.take_zero, List.take_zero]
      decide
    | succ i =>
      rw [List.take_of_length_le (by show 1 ≤ i + 1; (first | lia | omega)), a1]
      have h3 := h2 (i + 1 - [Tk.ch 40].length)
      by_cases hz : i + 1 - [Tk.ch 40].length - (cs.tok 0).length = 0
      · rw [hz, List.take_zero]
        have : Mine.bal [] = 0 := rfl
        (first | lia | omega)
      · rw [List.take_of_length_le (l := [Tk.ch 41]) (by show 1 ≤ _; (first | lia | omega)), a2]; (first | lia | omega)
theorem TL.bal : ∀ (cs : TL) (i : Nat), Mine.bal (cs.tok i) = 0 ∧ NN (cs.tok i)
  | .nil, i => ⟨rfl, fun i => by rw [TL.tok, List.take_nil]; exact Int.le_refl _⟩
  | .cons t r, i => by
    obtain ⟨h1, h2⟩ := T.bal t (i + 1)
    obtain ⟨h3, h4⟩ := TL.bal r (i + 1)
    rw [TL.tok]
    exact ⟨by rw [bal_append, h1, h3]; rfl, h2.append h1 h4⟩
end
mutual
theorem T.our : ∀ (t : T) (d : Nat), ∀ u ∈ t.tok d, u.our
  | .leaf, d, u, h => by
    have : u = Tk.es (40 + d % 2) := List.mem_singleton.mp h
    rcases Nat.mod_two_eq_zero_or_one d with e | e
    · rw [this, e]; exact .inr (.inr (.inl rfl))
    · rw [this, e]; exact .inr (.inr (.inr rfl))
  | .node k cs, d, u, h => by
    rw [T.tok] at h
    rcases List.mem_cons.mp h with rfl | h
    · exact .inl rfl
    · rcases List.mem_append.mp h with h | h
      · exact TL.our cs 0 u h
      · rw [List.mem_singleton.mp h]; exact .inr (.inl rfl)
theorem TL.our : ∀ (cs : TL) (i : Nat), ∀ u ∈ cs.tok i, u.our
  | .nil, i, u, h => by cases h
  | .cons t r, i, u, h => by
    rw [TL.tok] at h
    rcases List.mem_append.mp h with h | h
    · exact T.our t (i + 1) u h
    · exact TL.our r (i + 1) u h
end
theorem check_all {w : World} {k : Nat} {t : T} (hc : t.cnt < 1000) : Fn w false (k + 3) 71 [.str (txt (t.tok 0))] (.bool true) := by
  obtain ⟨h1, h2⟩ := T.bal t 0
  have := check_go (w := w) (k := k) (us := t.tok 0) (T.our t 0) (by rw [T.tok_len]; exact hc) none (fun i _ _ => h2 i) (fun m h => by cases h)
  simpa [h1] using this
theorem check_cut {w : World} {k kd : Nat} {cs : TL} (hc : (T.node kd cs).cnt < 1000) : Fn w false (k + 3) 71 [.str ⟨((txt ((T.node kd cs).tok 0)).cps.toList.drop 1).toArray⟩] (.bool false) := by
  obtain ⟨h1, h2⟩ := TL.bal cs 0
  have hcn : (cs.tok 0).length = cs.cnt := TL.tok_len cs 0
  rw [T.cnt] at hc
  have a2 : Mine.bal [Tk.ch 41] = -1 := rfl
  have e : (⟨((txt ((T.node kd cs).tok 0)).cps.toList.drop 1).toArray⟩ : Str) = txt (cs.tok 0 ++ [.ch 41]) := by
    rw [txt_list, T.tok]; rfl
  rw [e]
  have := check_go (w := w) (k := k) (us := cs.tok 0 ++ [.ch 41]) (fun u hu => ?_) (by rw [List.length_append, hcn]; show _ + 1 < _; (first | lia | omega)) (some (cs.tok 0).length) (fun i _ hi => ?_) (fun m h => ?_)
  · exact this
  · rcases List.mem_append.mp hu with h | h
    · exact TL.our cs 0 u h
    · rw [List.mem_singleton.mp h]; exact .inr (.inl rfl)
  · have := hi _ rfl
    rw [List.take_append_of_le_length this]; exact h2 i
  · cases h
    refine ⟨by rw [List.length_append]; show _ < _ + 1; (first | lia | omega), ?_⟩
    rw [List.take_of_length_le (by rw [List.length_append]; exact Nat.le_refl _), bal_append, h1, a2]; decide

mutual
theorem T.nds_reps : ∀ (t : T) (w : List Nat), (t.nds w).map (·.2) = t.reps
  | .leaf, w => rfl
  | .node k cs, w => by rw [T.nds, T.reps, List.map_append, TL.nds_reps cs w 0]; rfl
theorem TL.nds_reps : ∀ (cs : TL) (w : List Nat) (i : Nat), (cs.nds w i).map (·.2) = cs.reps
  | .nil, _, _ => rfl
  | .cons t r, w, i => by rw [TL.nds, TL.reps, List.map_append, T.nds_reps t, TL.nds_reps r]
end
theorem T.nds_len (t : T) (w : List Nat) : (t.nds w).length = t.reps.length := by rw [← T.nds_reps t w, List.length_map]
theorem TL.nds_len (cs : TL) (w : List Nat) (i : Nat) : (cs.nds w i).length = cs.reps.length := by rw [← TL.nds_reps cs w i, List.length_map]
mutual
theorem T.nl_cnt : ∀ (t : T), t.nl ≤ t.cnt
  | .leaf => Nat.le_refl _
  | .node k cs => by rw [T.nl, T.cnt]; have := TL.nl_cnt cs; (first | lia | omega)
theorem TL.nl_cnt : ∀ (cs : TL), cs.nl ≤ cs.cnt
  | .nil => Nat.le_refl _
  | .cons t r => by rw [TL.nl, TL.cnt]; have := T.nl_cnt t; have := TL.nl_cnt r; (first | lia | omega)
end
noncomputable def ndp (ns : List (List Nat × Nat)) : Prop := (ns.map fun n => pth n.1).Nodup
theorem runs_cons (rs : List Nat) (u : Tk) (us : List Tk) (S : RS) : runs rs (u :: us) S = runs rs us (stp rs u S) := rfl
mutual
theorem T.read : ∀ (t : T) (d : Nat) (rs B : List Nat) (S : RS), t.wf → (∀ x ∈ nextW S.st, x < 15) → (nextW S.st).length + t.ht ≤ 8 → rs.drop S.nodes.length = t.reps ++ B → ndp (S.nodes ++ t.nds (nextW S.st)) →
    S.nodes.length + t.cnt < 1000 → S.words.length + t.cnt < 1000 → S.st.length + t.ht < 1000 →
    goods rs (t.tok d) S ∧ runs rs (t.tok d) S = ⟨S.nodes ++ t.nds (nextW S.st), S.words ++ t.lvs (nextW S.st), bumpS S.st⟩
  | .leaf, d, rs, B, S, hw, hd, hl, hr, hn, c1, c2, c3 => by
    have e : T.leaf.tok d = [.es (40 + d % 2)] := rfl
    rw [e]
    refine ⟨⟨⟨by (first | lia | omega), by (first | lia | omega), by (first | lia | omega), ?_⟩, trivial⟩, ?_⟩
    · exact ⟨hd, by (first | lia | omega)⟩
    · show RS.mk S.nodes (S.words ++ [nextW S.st]) (bumpS S.st) = _
      rw [T.nds, T.lvs, List.append_nil]
  | .node k cs, d, rs, B, S, hw, hd, hl, hr, hn, c1, c2, c3 => by
    rw [T.ht] at hl c3
    rw [T.cnt] at c1 c2
    rw [T.reps, List.append_assoc] at hr
    rw [T.nds, ← List.append_assoc] at hn
    obtain ⟨hk, hlen, hwf⟩ := hw
    have hnr := TL.nds_len cs (nextW S.st) 0
    have hrc := TL.reps_len cs
    have ih := TL.read cs 0 rs ([k] ++ B) ⟨S.nodes, S.words, (nextW S.st, 0) :: bumpS S.st⟩ (nextW S.st) (bumpS S.st) hwf rfl (by rw [hlen]; have := sz_le' k; (first | lia | omega)) hd (by (first | lia | omega)) hr
      (by unfold ndp at *; rw [List.map_append] at hn; exact (List.nodup_append.mp hn).1) (by show S.nodes.length + _ < _; (first | lia | omega)) (by show S.words.length + _ < _; (first | lia | omega))
      (by show (bumpS S.st).length + 1 + _ < _; have : (bumpS S.st).length = S.st.length := by { cases S.st <;> rfl }; (first | lia | omega))
    obtain ⟨g1, g2⟩ := ih
    have e : (T.node k cs).tok d = .ch 40 :: (cs.tok 0 ++ [.ch 41]) := by rw [T.tok]
    have hs1 : stp rs (.ch 40) S = ⟨S.nodes, S.words, (nextW S.st, 0) :: bumpS S.st⟩ := rfl
    have hidx : rs[S.nodes.length + (cs.nds (nextW S.st) 0).length]? = some k := by
      have := congrArg (fun l => l[cs.reps.length]?) hr
      simp only [List.getElem?_drop] at this
      rw [hnr, this, List.getElem?_append_right (Nat.le_refl _), Nat.sub_self]; rfl
    rw [e]
    have hlw := T.nl_cnt (.node k cs)
    have hlv : (cs.lvs (nextW S.st) 0).length ≤ cs.cnt := by rw [TL.lvs_len]; exact TL.nl_cnt cs
    have hgood : Good rs (.ch 41) ⟨S.nodes ++ cs.nds (nextW S.st) 0, S.words ++ cs.lvs (nextW S.st) 0, (nextW S.st, 0 + cs.len) :: bumpS S.st⟩ := by
      refine ⟨?_, ?_, ?_, by simp, ?_, ?_⟩
      · show (S.nodes ++ _).length < _
        rw [List.length_append]; (first | lia | omega)
      · show (S.words ++ _).length < _
        rw [List.length_append]; (first | lia | omega)
      · show (bumpS S.st).length + 1 < _
        have : (bumpS S.st).length = S.st.length := by cases S.st <;> rfl
        (first | lia | omega)
      · show (S.nodes ++ _).length < _
        rw [List.length_append]
        exact (List.getElem?_eq_some_iff.mp hidx).1
      · intro x hx n hm
        have hx' : x = (nextW S.st, 0 + cs.len) := by
          have : some (nextW S.st, 0 + cs.len) = some x := hx
          cases this; rfl
        subst hx'
        unfold ndp at hn
        rw [List.map_append] at hn
        exact fun q => (List.nodup_append.mp hn).2.2 (pth n.1) (List.mem_map.mpr ⟨n, hm, rfl⟩) (pth (nextW S.st)) (by simp) q
    refine ⟨⟨⟨by (first | lia | omega), by (first | lia | omega), by (first | lia | omega), hd, by (first | lia | omega)⟩, ?_⟩, ?_⟩
    · rw [hs1, goods_append, g2]
      exact ⟨g1, hgood, trivial⟩
    · rw [runs_cons, hs1, runs_append, g2, T.nds, T.lvs]
      show RS.mk ((S.nodes ++ cs.nds (nextW S.st) 0) ++ [(nextW S.st, rs.getD (S.nodes ++ cs.nds (nextW S.st) 0).length 0)]) _ _ = _
      rw [List.getD_eq_getElem?_getD, List.length_append, hidx, List.append_assoc]; rfl
theorem TL.read : ∀ (cs : TL) (o : Nat) (rs B : List Nat) (S : RS) (w : List Nat) (rest : List (List Nat × Nat)), cs.wf → S.st = (w, o) :: rest → o + cs.len ≤ 15 → (∀ x ∈ w, x < 15) → w.length + 1 + cs.ht ≤ 8 → rs.drop S.nodes.length = cs.reps ++ B → ndp (S.nodes ++ cs.nds w o) →
    S.nodes.length + cs.cnt < 1000 → S.words.length + cs.cnt < 1000 → S.st.length + cs.ht < 1000 →
    goods rs (cs.tok o) S ∧ runs rs (cs.tok o) S = ⟨S.nodes ++ cs.nds w o, S.words ++ cs.lvs w o, (w, o + cs.len) :: rest⟩
  | .nil, o, rs, B, S, w, rest, hw, hst, ho, hd, hl, hr, hn, c1, c2, c3 => by
    obtain ⟨nodes, words, st⟩ := S
    simp only at hst
    subst hst
    rw [TL.tok, TL.nds, TL.lvs, TL.len]
    exact ⟨trivial, by simp [runs]⟩
  | .cons t r, o, rs, B, S, w, rest, hw, hst, ho, hd, hl, hr, hn, c1, c2, c3 => by
    rw [TL.ht] at hl c3
    rw [TL.cnt] at c1 c2
    rw [TL.len] at ho
    rw [TL.reps, List.append_assoc] at hr
    rw [TL.nds, ← List.append_assoc] at hn
    have hnw : nextW S.st = w ++ [o] := by rw [hst]; rfl
    have hbs : bumpS S.st = (w, o + 1) :: rest := by rw [hst]; rfl
    have hd' : ∀ x ∈ w ++ [o], x < 15 := fun x hx => by
      rcases List.mem_append.mp hx with h | h
      · exact hd x h
      · rw [List.mem_singleton.mp h]; (first | lia | omega)
    have hn1 : ndp (S.nodes ++ t.nds (w ++ [o])) := by unfold ndp at *; rw [List.map_append] at hn; exact (List.nodup_append.mp hn).1
    obtain ⟨g1, g2⟩ := T.read t (o + 1) rs (r.reps ++ B) S hw.1 (by rw [hnw]; exact hd') (by rw [hnw, List.length_append]; show w.length + 1 + _ ≤ _; (first | lia | omega)) hr (by rw [hnw]; exact hn1) (by (first | lia | omega)) (by (first | lia | omega)) (by (first | lia | omega))
    rw [hnw, hbs] at g2
    have htn := T.nds_len t (w ++ [o])
    have htr := T.reps_len t
    have hlv : (t.lvs (w ++ [o])).length ≤ t.cnt := by rw [T.lvs_len]; exact T.nl_cnt t
    obtain ⟨g3, g4⟩ := TL.read r (o + 1) rs B ⟨S.nodes ++ t.nds (w ++ [o]), S.words ++ t.lvs (w ++ [o]), (w, o + 1) :: rest⟩ w rest hw.2 rfl (by (first | lia | omega)) hd (by (first | lia | omega))
      (by show rs.drop (S.nodes ++ t.nds (w ++ [o])).length = _; rw [List.length_append, ← List.drop_drop, hr, htn, List.drop_left]) hn
      (by show (S.nodes ++ t.nds (w ++ [o])).length + _ < _; rw [List.length_append]; (first | lia | omega)) (by show (S.words ++ t.lvs (w ++ [o])).length + _ < _; rw [List.length_append]; (first | lia | omega))
      (by show rest.length + 1 + _ < _; have : S.st.length = rest.length + 1 := by { rw [hst]; rfl }; (first | lia | omega))
    rw [TL.tok, goods_append, runs_append, g2]
    refine ⟨⟨g1, g3⟩, ?_⟩
    rw [g4, TL.nds, TL.lvs, TL.len]
    show RS.mk _ _ _ = _
    rw [List.append_assoc, List.append_assoc, show o + 1 + r.len = o + (r.len + 1) by (first | lia | omega)]
end
end Mine
end

section
open PySem PySem.W PyProof.Rows PySem.Builtin
set_option Elab.async false
set_option linter.unusedVariables false
set_option maxRecDepth 100000
namespace Mine
mutual
noncomputable def T.subo : T → List Nat → Option T
  | .leaf, _ => none
  | .node k cs, [] => some (.node k cs)
  | .node _ cs, i :: v => cs.suboAt i v
noncomputable def TL.suboAt : TL → Nat → List Nat → Option T
  | .nil, _, _ => none
  | .cons t _, 0, v => t.subo v
  | .cons _ r, i + 1, v => r.suboAt i v
end
theorem suboAt_eq : ∀ (cs : TL) (i : Nat) (v : List Nat), cs.suboAt i v = (cs.get? i).bind fun t => t.subo v
  | .nil, i, v => by rw [TL.suboAt]; rfl
  | .cons t r, 0, v => by rw [TL.suboAt]; rfl
  | .cons t r, i + 1, v => by rw [TL.suboAt]; exact suboAt_eq r i v
theorem kdoAt_eq : ∀ (cs : TL) (i : Nat) (v : List Nat), cs.kdoAt i v = (cs.get? i).bind fun t => t.kdo v
  | .nil, i, v => by rw [TL.kdoAt]; rfl
  | .cons t r, 0, v => by rw [TL.kdoAt]; rfl
  | .cons t r, i + 1, v => by rw [TL.kdoAt]; exact kdoAt_eq r i v
theorem get_size : ∀ (cs : TL) (i : Nat) (t : T), cs.get? i = some t → sizeOf t < sizeOf cs := by
  intro cs i
  induction i generalizing cs with
  | zero => intro t h; cases cs with | nil => cases h | cons a r => cases h; simp; (first | lia | omega)
  | succ i ih => intro t h; cases cs with | nil => cases h | cons a r => have := ih r t h; simp; (first | lia | omega)
theorem get_nl : ∀ (cs : TL) (i : Nat) (t : T), cs.get? i = some t → t.nl ≤ cs.nl
  | .nil, _, _, h => by cases h
  | .cons a r, 0, _, h => by cases h; rw [TL.nl]; (first | lia | omega)
  | .cons a r, i + 1, t, h => by rw [TL.nl]; have := get_nl r i t h; (first | lia | omega)
theorem sub_ok : ∀ (t : T) (v : List Nat) (s : T), t.wf → t.subo v = some s → s.wf ∧ s.nl ≤ t.nl ∧ ∃ k cs, s = .node k cs ∧ t.kdo v = some k
  | .leaf, v, s, hw, h => by rw [T.subo] at h; cases h
  | .node k cs, [], s, hw, h => by rw [T.subo] at h; cases h; exact ⟨hw, Nat.le_refl _, k, cs, rfl, by rw [T.kdo]⟩
  | .node k cs, i :: v, s, hw, h => by
    rw [T.subo, suboAt_eq] at h
    cases hg : cs.get? i with
    | none => rw [hg] at h; cases h
    | some t =>
      rw [hg] at h
      have hlt := get_size cs i t hg
      have hlt2 : sizeOf t < sizeOf (T.node k cs) := by simp; (first | lia | omega)
      change (let G : Prop := _; G)
      intro G
      obtain ⟨h1, h2, k', cs', h3, h4⟩ := sub_ok t v s (TL.get_wf cs i t hw.2.2 hg) h
      subst G
      exact ⟨h1, by rw [T.nl]; have := get_nl cs i t hg; (first | lia | omega), k', cs', h3, by rw [T.kdo, kdoAt_eq, hg]; exact h4⟩
termination_by t => sizeOf t
theorem sub_of_kdo : ∀ (t : T) (v : List Nat) (k : Nat), t.kdo v = some k → ∃ cs, t.subo v = some (.node k cs)
  | .leaf, v, k, h => by rw [T.kdo] at h; cases h
  | .node k cs, [], k', h => by rw [T.kdo] at h; cases h; exact ⟨cs, by rw [T.subo]⟩
  | .node k cs, i :: v, k', h => by
    rw [T.kdo, kdoAt_eq] at h
    cases hg : cs.get? i with
    | none => rw [hg] at h; cases h
    | some t =>
      rw [hg] at h
      have hlt := get_size cs i t hg
      have hlt2 : sizeOf t < sizeOf (T.node k cs) := by simp; (first | lia | omega)
      obtain ⟨cs', h1⟩ := sub_of_kdo t v k' h
      exact ⟨cs', by rw [T.subo, suboAt_eq, hg]; exact h1⟩
termination_by t => sizeOf t
theorem sub_snoc : ∀ (t : T) (v : List Nat) (k : Nat) (cs : TL) (i : Nat), t.subo v = some (.node k cs) → t.subo (v ++ [i]) = cs.suboAt i []
  | .leaf, v, k, cs, i, h => by rw [T.subo] at h; cases h
  | .node a b, [], k, cs, i, h => by rw [T.subo] at h; cases h; rw [List.nil_append, T.subo]
  | .node a b, j :: v, k, cs, i, h => by
    rw [T.subo, suboAt_eq] at h
    cases hg : b.get? j with
    | none => rw [hg] at h; cases h
    | some t =>
      rw [hg] at h
      have hlt := get_size b j t hg
      have hlt2 : sizeOf t < sizeOf (T.node a b) := by simp; (first | lia | omega)
      have ih := sub_snoc t v k cs i h
      rw [List.cons_append, T.subo, suboAt_eq, hg]
      exact ih
termination_by t => sizeOf t

noncomputable def fnd (t : T) (p : Int) : Option (List Nat × Nat) := (t.nds []).find? fun n => decide ((pth n.1 : Int) = p)
noncomputable def fvec (t : T) (p : Int) : List Int := match fnd t p with
  | some n => ((t.subo n.1).getD .leaf).vec
  | none => one5
noncomputable def fkd (t : T) (p : Int) : Nat := match fnd t p with
  | some n => n.2
  | none => 0
theorem nds_dig {t : T} (hw : t.wf) {u : List Nat} {k : Nat} (h : (u, k) ∈ t.nds []) : (∀ x ∈ u, x < 5) ∧ u.length < t.ht ∧ k < 6 ∧ t.kdo u = some k := by
  change (let G : Prop := _; G)
  intro G
  obtain ⟨⟨v, e, h1, h2⟩, h3⟩ := T.nds_pre t [] u k hw h
  subst G
  rw [List.nil_append] at e
  subst e
  change (let G : Prop := _; G)
  intro G
  obtain ⟨v', e', h4⟩ := (T.mem_nds t [] u k).mp h
  subst G
  rw [List.nil_append] at e'
  subst e'
  exact ⟨h1, h2, h3, h4⟩
theorem fnd_of {t : T} (hw : t.wf) {u : List Nat} {k : Nat} (h : (u, k) ∈ t.nds []) : fnd t (pth u) = some (u, k) := by
  unfold fnd
  change (let G : Prop := _; G)
  intro G
  obtain ⟨h1, _, _, h4⟩ := nds_dig hw h
  subst G
  cases hf : (t.nds []).find? (fun n => decide ((pth n.1 : Int) = (pth u : Int))) with
  | none =>
    have := List.find?_eq_none.mp hf (u, k) h
    simp at this
  | some n =>
    obtain ⟨u', k'⟩ := n
    have hm := List.mem_of_find?_eq_some hf
    have hp := List.find?_some hf
    simp only [decide_eq_true_eq] at hp
    change (let G : Prop := _; G)
    intro G
    obtain ⟨g1, _, _, g4⟩ := nds_dig hw hm
    subst G
    have e : u' = u := pth_inj u'.length u' u (Nat.le_refl _) (fun x hx => by have := g1 x hx; (first | lia | omega)) (fun x hx => by have := h1 x hx; (first | lia | omega)) (by (first | lia | omega))
    subst e
    rw [h4] at g4; cases g4; rfl
theorem fnd_none {t : T} (hw : t.wf) {u : List Nat} (hu : ∀ x ∈ u, x < 15) (h : t.kdo u = none) : ∀ n ∈ t.nds [], (pth n.1 : Int) ≠ pth u := fun n hn q => by
  obtain ⟨u', k'⟩ := n
  change (let G : Prop := _; G)
  intro G
  obtain ⟨g1, _, _, g4⟩ := nds_dig hw hn
  subst G
  have e : u' = u := pth_inj u'.length u' u (Nat.le_refl _) (fun x hx => by have := g1 x hx; (first | lia | omega)) hu (by simp only at q; (first | lia | omega))
  subst e
  rw [h] at g4; cases g4

theorem belL_at {ns : List Int} {f : Int → List Int} {p : Int} {n i : Nat} (h : i < (belL ns f p n).length) : (belL ns f p n)[i] = if p * 16 + (i : Int) + 1 ∈ ns then f (p * 16 + (i : Int) + 1) else one5 := by simp [belL]
theorem sums_tree {w : World} {q : Bool} {k : Nat} {t : T} {ks : List (List Nat × Nat)} {kd : Nat} {cs : TL} (ht : t = .node kd cs) (hw : t.wf) (hp : ks.Perm (t.nds [])) (hnd : ((kindsD ks).map (·.1)).Nodup) (hnl : t.nl ≤ 11) (hht : t.ht ≤ 7) (hkl : ks.length < 64) :
    Fn w q (k + 1) 130 [.dct (kindsD ks)] (vD t.vec) := by
  let ns := ((kindsD ks).map (·.1)).mergeSort fun a b => decide (b ≤ a)
  have hperm : ns.Perm ((kindsD ks).map (·.1)) := List.mergeSort_perm _ _
  have hpw : ns.Pairwise (· ≥ ·) := by
    have := List.pairwise_mergeSort (le := fun a b : Int => decide (b ≤ a)) (fun a b c h1 h2 => by simp only [decide_eq_true_eq] at *; (first | lia | omega)) (fun a b => by simp only [Bool.or_eq_true, decide_eq_true_eq]; (first | lia | omega)) ((kindsD ks).map (·.1))
    exact this.imp fun h => by simpa using h
  have hmem : ∀ p, p ∈ ns ↔ ∃ u k, (u, k) ∈ t.nds [] ∧ p = (pth u : Int) := fun p => by
    rw [hperm.mem_iff]
    constructor
    · intro h
      change (let G : Prop := _; G)
      intro G
      obtain ⟨e, he, rfl⟩ := List.mem_map.mp h
      subst G
      change (let G : Prop := _; G)
      intro G
      obtain ⟨n, hn, rfl⟩ := List.mem_map.mp he
      subst G
      exact ⟨n.1, n.2, hp.mem_iff.mp hn, rfl⟩
    · rintro ⟨u, k, h, rfl⟩
      exact List.mem_map.mpr ⟨_, List.mem_map.mpr ⟨(u, k), hp.mem_iff.mpr h, rfl⟩, rfl⟩
  have hfv : ∀ u k cs, t.subo u = some (.node k cs) → (u, k) ∈ t.nds [] → fvec t (pth u) = (T.node k cs).vec := fun u k cs hs hm => by
    unfold fvec
    rw [fnd_of hw hm]
    show ((t.subo u).getD .leaf).vec = _
    rw [hs]; rfl
  have h0n : ([], kd) ∈ t.nds [] := (T.mem_nds t [] [] kd).mpr ⟨[], rfl, by rw [ht, T.kdo]⟩
  have h0 : fvec t 0 = t.vec := by
    have := hfv [] kd cs (by rw [ht, T.subo]) h0n
    rw [ht]; rw [ht] at this; exact this
  have main := sums_fn (w := w) (q := q) (k := k) (es := kindsD ks) (ns := ns) (kd := fkd t) (f := fvec t) ⟨hperm, hpw⟩ (by simp [kindsD]; exact hkl) (hperm.nodup_iff.mpr hnd) (fun p hpn => ?_) (fun p hpn => ?_) (fun p hpn => ?_) (fun p hpn => ?_) ((hmem 0).mpr ⟨[], kd, h0n, rfl⟩)
  · rw [h0] at main; exact main
  · change (let G : Prop := _; G)
    intro G
    obtain ⟨u, k', hm, rfl⟩ := (hmem p).mp hpn
    subst G
    change (let G : Prop := _; G)
    intro G
    obtain ⟨_, _, g3, _⟩ := nds_dig hw hm
    subst G
    have : fkd t (pth u) = k' := by unfold fkd; rw [fnd_of hw hm]
    rw [this]
    exact ⟨dget_mem hnd (List.mem_map.mpr ⟨(u, k'), hp.mem_iff.mpr hm, rfl⟩), g3⟩
  · change (let G : Prop := _; G)
    intro G
    obtain ⟨u, k', hm, rfl⟩ := (hmem p).mp hpn
    subst G
    change (let G : Prop := _; G)
    intro G
    obtain ⟨g1, g2, _, _⟩ := nds_dig hw hm
    subst G
    have h1 := pth_lt (p := u) fun x hx => by have := g1 x hx; (first | lia | omega)
    have h2 : 16 ^ u.length ≤ 16 ^ 8 := Nat.pow_le_pow_right (by decide) (by (first | lia | omega))
    (first | lia | omega)
  · change (let G : Prop := _; G)
    intro G
    obtain ⟨u, k', hm, rfl⟩ := (hmem p).mp hpn
    subst G
    change (let G : Prop := _; G)
    intro G
    obtain ⟨g1, g2, g3, g4⟩ := nds_dig hw hm
    subst G
    obtain ⟨cs', hs⟩ := sub_of_kdo t u k' g4
    have hkd : fkd t (pth u) = k' := by unfold fkd; rw [fnd_of hw hm]
    change (let G : Prop := _; G)
    intro G
    obtain ⟨hsw, _, _⟩ := sub_ok t u _ hw hs
    subst G
    rw [hkd, hfv u k' cs' hs hm, T.vec]
    congr 1
    apply List.ext_getElem
    · rw [vecs_len, hsw.2.1]; simp [belL]
    · intro i h1 h2
      have hi : i < sz k' := by rw [vecs_len, hsw.2.1] at h1; exact h1
      obtain ⟨ti, hti⟩ := TL.get_some cs' i (by rw [hsw.2.1]; exact hi)
      have e1 : cs'.vecs[i] = ti.vec := by
        have := vecs_get cs' i ti hti
        rw [List.getD_eq_getElem?_getD, List.getElem?_eq_getElem h1] at this
        exact this
      rw [e1, belL_at]
      have e2 : (pth u : Int) * 16 + (i : Int) + 1 = (pth (u ++ [i]) : Nat) := by rw [pth_snoc]; (first | lia | omega)
      rw [e2]
      have hsn := sub_snoc t u k' cs' i hs
      rw [suboAt_eq, hti] at hsn
      have hsn : t.subo (u ++ [i]) = ti.subo [] := hsn
      have s5 := sz_le' k'
      have hud : ∀ x ∈ u ++ [i], x < 15 := fun x hx => by
        rcases List.mem_append.mp hx with h | h
        · have := g1 x h; (first | lia | omega)
        · rw [List.mem_singleton.mp h]; (first | lia | omega)
      cases ti with
      | leaf =>
        have hk0 : t.kdo (u ++ [i]) = none := by
          cases hq : t.kdo (u ++ [i]) with
          | none => rfl
          | some kq =>
            obtain ⟨cq, hcq⟩ := sub_of_kdo t _ kq hq
            rw [hsn, T.subo] at hcq; cases hcq
        rw [if_neg]
        · rfl
        · rw [hmem]
          rintro ⟨u', kq, hq, e⟩
          exact fnd_none hw hud hk0 (u', kq) hq e.symm
      | node ka ca =>
        rw [T.subo] at hsn
        change (let G : Prop := _; G)
        intro G
        obtain ⟨_, _, k3, c3, e3, hk3⟩ := sub_ok t _ _ hw hsn
        subst G
        cases e3
        have hmm : (u ++ [i], ka) ∈ t.nds [] := (T.mem_nds t [] _ ka).mpr ⟨u ++ [i], rfl, hk3⟩
        rw [if_pos ((hmem _).mpr ⟨u ++ [i], ka, hmm, rfl⟩), hfv _ ka ca hsn hmm]
  · change (let G : Prop := _; G)
    intro G
    obtain ⟨u, k', hm, rfl⟩ := (hmem p).mp hpn
    subst G
    change (let G : Prop := _; G)
    intro G
    obtain ⟨_, _, _, g4⟩ := nds_dig hw hm
    subst G
    obtain ⟨cs', hs⟩ := sub_of_kdo t u k' g4
    change (let G : Prop := _; G)
    intro G
    obtain ⟨hsw, hsn, _⟩ := sub_ok t u _ hw hs
    subst G
    rw [hfv u k' cs' hs hm, (T.stt _ hsw).vec]
    show (0 : Int) ≤ ((T.node k' cs').rl.length : Int) ∧ ((T.node k' cs').rl.length : Int) < 1000000
    rw [T.rl_len]; (first | lia | omega)

mutual
theorem T.lvs_rl : ∀ (t : T) (w : List Nat), t.lvs w = t.rl.map (w ++ ·)
  | .leaf, w => by rw [T.lvs, T.rl]; simp
  | .node k cs, w => by rw [T.lvs, T.rl, TL.lvs_rl cs w 0]
theorem TL.lvs_rl : ∀ (cs : TL) (w : List Nat) (i : Nat), cs.lvs w i = (cs.rl i).map (w ++ ·)
  | .nil, _, _ => rfl
  | .cons t r, w, i => by
    rw [TL.lvs, TL.rl, List.map_append, List.map_map, T.lvs_rl t, TL.lvs_rl r]
    congr 1
    exact List.map_congr_left fun v _ => by simp
end
theorem T.lvs_nil (t : T) : t.lvs [] = t.rl := by rw [T.lvs_rl]; simp
noncomputable def Sp (t : T) (b a : List Nat) : Prop := ∃ p i j u v k, b = p ++ i :: u ∧ a = p ++ j :: v ∧ j < i ∧ i < sz k ∧ k < 6 ∧ t.kdo p = some k ∧ t.tie b a = tone k i j
noncomputable def SpL (cs : TL) (o : Nat) (b a : List Nat) : Prop := (∃ i t a' b', cs.get? i = some t ∧ a = (o + i) :: a' ∧ b = (o + i) :: b' ∧ Sp t b' a') ∨ ∃ i j u v, j < i ∧ i < cs.len ∧ a = (o + j) :: v ∧ b = (o + i) :: u
theorem rl_head : ∀ (cs : TL) (o : Nat), ∀ a ∈ cs.rl o, ∃ i u, i < cs.len ∧ a = (o + i) :: u
  | .nil, _, a, h => by cases h
  | .cons t r, o, a, h => by
    rw [TL.rl] at h
    rcases List.mem_append.mp h with h | h
    · change (let G : Prop := _; G)
      intro G
      obtain ⟨u, _, rfl⟩ := List.mem_map.mp h
      subst G
      exact ⟨0, u, by rw [TL.len]; (first | lia | omega), rfl⟩
    · change (let G : Prop := _; G)
      intro G
      obtain ⟨i, u, h1, h2⟩ := rl_head r (o + 1) a h
      subst G
      exact ⟨i + 1, u, by rw [TL.len]; (first | lia | omega), by rw [h2, show o + 1 + i = o + (i + 1) by (first | lia | omega)]⟩
mutual
theorem T.split : ∀ (t : T), t.wf → t.rl.Pairwise fun a b => Sp t b a
  | .leaf, _ => by rw [T.rl]; exact List.pairwise_singleton _ _
  | .node k cs, hw => by
    rw [T.rl]
    refine (TL.split cs 0 hw.2.2).imp fun {a b} h => ?_
    rcases h with ⟨i, t, a', b', h1, h2, h3, p, i', j', u, v, k', q1, q2, q3, q4, q5, q6, q7⟩ | ⟨i, j, u, v, h1, h2, h3, h4⟩
    · rw [Nat.zero_add] at h2 h3
      subst h2 h3
      refine ⟨i :: p, i', j', u, v, k', by rw [q1]; rfl, by rw [q2]; rfl, q3, q4, q5, by rw [T.kdo, kdoAt_eq, h1]; exact q6, ?_⟩
      rw [T.tie, if_pos rfl, tieAt_get cs i t h1, q7]
    · rw [Nat.zero_add] at h3 h4
      subst h3 h4
      refine ⟨[], i, j, u, v, k, rfl, rfl, h1, by rw [← hw.2.1]; exact h2, hw.1, by rw [T.kdo], ?_⟩
      rw [T.tie, if_neg (by (first | lia | omega))]
theorem TL.split : ∀ (cs : TL) (o : Nat), cs.wf → (cs.rl o).Pairwise fun a b => SpL cs o b a
  | .nil, _, _ => List.Pairwise.nil
  | .cons t r, o, hw => by
    rw [TL.rl]
    refine List.pairwise_append.mpr ⟨List.pairwise_map.mpr ((T.split t hw.1).imp fun {a b} h => ?_), (TL.split r (o + 1) hw.2).imp fun {a b} h => ?_, fun a ha b hb => ?_⟩
    · exact .inl ⟨0, t, a, b, rfl, rfl, rfl, h⟩
    · rcases h with ⟨i, t', a', b', h1, h2, h3, h4⟩ | ⟨i, j, u, v, h1, h2, h3, h4⟩
      · exact .inl ⟨i + 1, t', a', b', h1, by rw [h2, show o + 1 + i = o + (i + 1) by (first | lia | omega)], by rw [h3, show o + 1 + i = o + (i + 1) by (first | lia | omega)], h4⟩
      · exact .inr ⟨i + 1, j + 1, u, v, by (first | lia | omega), by rw [TL.len]; (first | lia | omega), by rw [h3, show o + 1 + j = o + (j + 1) by (first | lia | omega)], by rw [h4, show o + 1 + i = o + (i + 1) by (first | lia | omega)]⟩
    · change (let G : Prop := _; G)
      intro G
      obtain ⟨v, _, rfl⟩ := List.mem_map.mp ha
      subst G
      change (let G : Prop := _; G)
      intro G
      obtain ⟨i, u, h1, h2⟩ := rl_head r (o + 1) b hb
      subst G
      exact .inr ⟨i + 1, 0, u, v, by (first | lia | omega), by rw [TL.len]; (first | lia | omega), rfl, by rw [h2, show o + 1 + i = o + (i + 1) by (first | lia | omega)]⟩
end
mutual
theorem T.tie_lt : ∀ (t : T), t.wf → ∀ u v, t.tie u v < 3
  | .leaf, _, u, v => by rw [T.tie]; decide; intro _ _ _ _ _ _ h; cases h
  | .node k cs, hw, [], v => by rw [T.tie]; decide; intro _ _ _ _ _ _ _ h; cases h
  | .node k cs, hw, i :: u, [] => by rw [T.tie]; decide; intro _ _ _ _ _ _ _ _ h; cases h
  | .node k cs, hw, i :: u, j :: v => by
    rw [T.tie]
    split
    · exact TL.tie_lt cs hw.2.2 i u v
    · exact tone_lt k i j hw.1
theorem TL.tie_lt : ∀ (cs : TL), cs.wf → ∀ i u v, cs.tieAt i u v < 3
  | .nil, _, i, u, v => by rw [TL.tieAt]; decide
  | .cons t r, hw, 0, u, v => by rw [TL.tieAt]; exact T.tie_lt t hw.1 u v
  | .cons t r, hw, i + 1, u, v => by rw [TL.tieAt]; exact TL.tie_lt r hw.2 i u v
end
end Mine
end

section
open PySem PySem.W PyProof.Rows PySem.Builtin
set_option Elab.async false
set_option linter.unusedVariables false
set_option maxRecDepth 100000
set_option maxHeartbeats 1000000
namespace Mine
theorem law_true {w : World} {ns : List Int} (hn : ns.length < 64) : Fn w false 11 145 [.lst (ns.map .int)] (.bool true) := by
  have hpl : (gpad ns).length ≤ 7 ∧ 0 < (gpad ns).length := by
    unfold gpad
    rw [List.length_append, List.length_take, List.length_replicate]; (first | lia | omega)
  have hgrow := grow_fn (w := w) (q := false) (k := 9) hn
  have g := grun_ok (gpad ns) (gpad ns).length
  generalize gpad ns = ps at *
  have ki := g.ki
  generalize grun ps ps.length = S at *
  obtain ⟨t, ks⟩ := S
  change (let G : Prop := _; G)
  intro G
  obtain ⟨hwf, hperm, hnl, hht, hkl, hcnt, hne⟩ := g
  subst G
  obtain ⟨kd, cs, htn⟩ := hne hpl.2
  obtain ⟨hknd, hin, hleaf⟩ := ki
  simp only at hwf hperm hnl hht hkl hcnt htn hknd hin hleaf hgrow
  have hht7 : t.ht ≤ 7 := by (first | lia | omega)
  have hc : t.cnt < 1000 := by (first | lia | omega)
  -- the text
  have htl := txt_size (t.tok 0)
  rw [T.tok_len] at htl
  have hX : 1 ≤ (txt (t.tok 0)).length := by
    rw [htn, T.tok]
    show 1 ≤ (txt (Tk.ch 40 :: (cs.tok 0 ++ [Tk.ch 41]))).cps.size
    have := congrArg List.length (txt_list (Tk.ch 40 :: (cs.tok 0 ++ [Tk.ch 41])))
    rw [Array.length_toList] at this
    rw [this, List.flatMap_cons, List.length_append]
    show 1 ≤ 1 + _
    (first | lia | omega)
  have hwrite : Fn w false 10 97 [.dct (kindsD ks), .int 0] (.tup [.str (txt (t.tok 0)), .lst (repD t.reps)]) := Fn.le (write_fn (w := w) (q := false) (es := kindsD ks) 7 t [] 0 hht7 hin hwf rfl (fun x hx => nomatch hx) (by decide) hc) (by decide)
  have hc1 := check_all (w := w) (k := 7) (t := t) hc
  have hc2 : Fn w false 10 71 [.str ⟨((txt (t.tok 0)).cps.toList.drop 1).toArray⟩] (.bool false) := by
    rw [htn]; exact check_cut (w := w) (k := 7) (by rw [← htn]; exact hc)
  -- reading
  have hnodup : (t.nds []).map (fun n => (pth n.1 : Int)) |>.Nodup := by
    have e : (kindsD ks).map (·.1) = ks.map fun n => (pth n.1 : Int) := by simp [kindsD]
    rw [e] at hknd
    exact (hperm.map _).nodup_iff.mp hknd
  have hndp : ndp (t.nds []) := by
    unfold ndp
    have : (t.nds []).map (fun n => (pth n.1 : Int)) = ((t.nds []).map fun n => pth n.1).map fun (p : Nat) => (p : Int) := by simp
    rw [this] at hnodup
    exact (List.pairwise_map.mp hnodup).imp fun h q => h (by rw [q])
  obtain ⟨hgood, hruns⟩ := T.read t 0 t.reps [] ⟨[], [], []⟩ hwf (fun x hx => nomatch hx) (by show 0 + _ ≤ _; (first | lia | omega)) (by show t.reps = _; simp) (by rw [List.nil_append]; exact hndp) (by show 0 + _ < _; (first | lia | omega)) (by show 0 + _ < _; (first | lia | omega)) (by show 0 + _ < _; (first | lia | omega))
  have hrlen := T.reps_len t
  have hnlen := T.nds_len t []
  have hread := read_fn (w := w) (k := 8) (us := t.tok 0) (rs := t.reps) (T.our t 0) (by rw [T.tok_len]; exact hc) (fun r hr => by
    rw [← T.nds_reps t []] at hr
    change (let G : Prop := _; G)
    intro G
    obtain ⟨⟨u, k'⟩, hm, rfl⟩ := List.mem_map.mp hr
    subst G
    exact (nds_dig hwf hm).2.2.1) hgood (by rw [hruns]; show ([] ++ t.nds _).length < _; rw [List.nil_append]; show (t.nds []).length < _; (first | lia | omega))
  rw [hruns] at hread
  have hread : Fn w false 10 104 [.str (txt (t.tok 0)), .lst (repD t.reps)] (.tup [.dct (nodesD (t.nds [])), .lst (wordsD (t.lvs []))]) := hread
  -- ties
  have hWl : (t.lvs []).length = t.nl := T.lvs_len t []
  let tf : Nat → Nat → Nat := fun i j => t.tie ((t.lvs []).getD i []) ((t.lvs []).getD j [])
  have htf : ∀ i j, tf i j < 3 := fun i j => T.tie_lt t hwf _ _
  have hkeys : ((nodesD (t.nds [])).map (·.1)).Nodup := by
    have : (nodesD (t.nds [])).map (·.1) = (t.nds []).map fun n => (pth n.1 : Int) := by simp [nodesD]
    rw [this]; exact hnodup
  have hdg : ∀ u k', t.kdo u = some k' → dget (nodesD (t.nds [])) (pth u) = some (.tup ((names k').map .bytes)) := fun u k' h =>
    dget_mem hkeys (List.mem_map.mpr ⟨(u, k'), (T.mem_nds t [] u k').mpr ⟨u, rfl, h⟩, rfl⟩)
  have htie : ∀ i j, j < i → i < (t.lvs []).length → Fn w false 10 111 [.dct (nodesD (t.nds [])), .bytes (wb ((t.lvs []).getD i [])), .bytes (wb ((t.lvs []).getD j []))] (.int (tf i j : Nat)) := fun i j hj hi => by
    have hlr : t.lvs [] = t.rl := T.lvs_nil t
    have hi' : i < t.rl.length := by rw [← hlr]; exact hi
    have hj' : j < t.rl.length := Nat.lt_trans hj hi'
    have hsp := List.pairwise_iff_getElem.mp (T.split t hwf) j i hj' hi' hj
    have e1 : (t.lvs []).getD i [] = t.rl[i] := by rw [hlr, List.getD_eq_getElem?_getD, List.getElem?_eq_getElem hi']; rfl
    have e2 : (t.lvs []).getD j [] = t.rl[j] := by rw [hlr, List.getD_eq_getElem?_getD, List.getElem?_eq_getElem hj']; rfl
    have hp1 := T.lvs_pre t [] t.rl[i] hwf (by rw [hlr]; exact List.getElem_mem hi')
    have hp2 := T.lvs_pre t [] t.rl[j] hwf (by rw [hlr]; exact List.getElem_mem hj')
    show Fn w false 10 111 _ (.int (t.tie ((t.lvs []).getD i []) ((t.lvs []).getD j []) : Nat))
    rw [e1, e2]
    generalize t.rl[i] = b at *
    generalize t.rl[j] = a at *
    change (let G : Prop := _; G)
    intro G
    obtain ⟨p, i', j', u, v, k', q1, q2, q3, q4, q5, q6, q7⟩ := hsp
    subst G
    change (let G : Prop := _; G)
    intro G
    obtain ⟨b', r1, r2, r3⟩ := hp1
    subst G
    change (let G : Prop := _; G)
    intro G
    obtain ⟨a', s1, s2, s3⟩ := hp2
    subst G
    rw [List.nil_append] at r1 s1
    subst r1 s1
    have s5 := sz_le' k'
    rw [q7]
    rw [q1] at r2 r3 ⊢
    rw [q2] at s3 ⊢
    exact tie_fn (k := 9) (fun x hx => by have := r2 x (List.mem_append_left _ hx); (first | lia | omega)) (by (first | lia | omega)) q3 (by (first | lia | omega)) (by (first | lia | omega)) q5 (fun h3 => by unfold sz at q4; rw [if_pos h3] at q4; exact q4) (hdg p k' q6)
  -- totals
  have hsums := sums_tree (w := w) (q := false) (k := 9) htn hwf hperm hknd hnl hht7 (by (first | lia | omega))
  obtain ⟨hvec, hrb⟩ := T.stt t hwf
  have hV : t.vec.length = 5 := by rw [hvec]; rfl
  have hrl : t.rl = (List.range t.nl).map fun i => (t.lvs []).getD i [] := by
    have := list_range (t.lvs []) []
    rw [hWl] at this
    rw [← this, T.lvs_nil]
  have hrb' : N3 (rbN tf) t.nl = 0 := by
    rw [hrl, T3_range] at hrb
    exact hrb
  have hmo : t.vec.getD 4 0 = N3 (moN tf) t.nl := by
    rw [hvec]
    show T3 (mo t.tie) t.rl = _
    rw [hrl, T3_range]; rfl
  have hpos := T.pos t hwf
  have htw := twice_fn (w := w) (q := false) (k := 9) (es := nodesD (t.nds [])) (ws := (t.nds []).map (·.1)) (kd := fun u => (t.kdo u).getD 0) (by simp [nodesD]) (fun u hu x hx => by
      change (let G : Prop := _; G)
      intro G
      obtain ⟨⟨u', k'⟩, hm, rfl⟩ := List.mem_map.mp hu
      subst G
      have := (nds_dig hwf hm).1 x hx
      (first | lia | omega)) (fun u hu m hm => by
      change (let G : Prop := _; G)
      intro G
      obtain ⟨⟨u', k'⟩, hm', rfl⟩ := List.mem_map.mp hu
      subst G
      obtain ⟨k2, h2⟩ := kdo_take t u' k' m (nds_dig hwf hm').2.2.2
      have := hdg _ _ h2
      simp only [h2, Option.getD_some]
      exact this) (r := decide (0 < t.vec.getD 4 0)) (by
      have hiff : (0 < t.vec.getD 4 0) ↔ ∃ u ∈ (t.nds []).map (·.1), ∃ m, m < u.length ∧ (shr ((t.kdo u).getD 0) ((t.kdo (u.take m)).getD 0)).isEmpty = false := by
        rw [T.m_iff t hwf]
        constructor
        · rintro ⟨v, k1, m, k2, h1, h2, h3, h4⟩
          have hm1 : (v, k1) ∈ t.nds [] := (T.mem_nds t [] v k1).mpr ⟨v, rfl, h1⟩
          have hm2 : (v.take m, k2) ∈ t.nds [] := (T.mem_nds t [] _ k2).mpr ⟨_, rfl, h3⟩
          refine ⟨v, List.mem_map.mpr ⟨_, hm1, rfl⟩, m, h2, ?_⟩
          rw [h1, h3]
          exact (shr_col k1 k2 (nds_dig hwf hm1).2.2.1 (nds_dig hwf hm2).2.2.1).mpr h4
        · rintro ⟨u, hu, m, h2, h3⟩
          change (let G : Prop := _; G)
          intro G
          obtain ⟨⟨u', k1⟩, hm1, rfl⟩ := List.mem_map.mp hu
          subst G
          have h1 := (nds_dig hwf hm1).2.2.2
          obtain ⟨k2, h4⟩ := kdo_take t u' k1 m h1
          have hm2 : (u'.take m, k2) ∈ t.nds [] := (T.mem_nds t [] _ k2).mpr ⟨_, rfl, h4⟩
          refine ⟨u', k1, m, k2, h1, h2, h4, ?_⟩
          simp only [h1, h4, Option.getD_some] at h3
          exact (shr_col k1 k2 (nds_dig hwf hm1).2.2.1 (nds_dig hwf hm2).2.2.1).mp h3
      exact decide_eq_decide.mpr hiff)
  refine law_go (w := w) (K := 10) (tf := tf) (N := t.nds []) hgrow hwrite hX (by have : (txt (t.tok 0)).length ≤ 2 * t.cnt := htl; rw [sizeLine_eq]; (first | lia | omega)) hc1 hc2 hread (fun m hm => names_fn (k := 9) hm) hknd (fun e he => ?_) (by (first | lia | omega)) hperm.length_eq.symm (fun e he => hperm.mem_iff.mpr he) htie (by (first | lia | omega)) hsums hV
    (mixes_fn (k := 9) htf (by (first | lia | omega))) (seen_fn (k := 8) (m1_len tf _) (fun n => ?_) (fun n h => seen_nine htf _ (by rw [hWl]; exact hrb') n h)) (unlike_fn (k := 9) htf (by (first | lia | omega))) htw ?_ ?_ ?_ ?_ ?_
  · exact (nds_dig hwf (hperm.mem_iff.mp he)).2.2.1
  · rw [m1_get]; exact N3_nonneg fun _ _ _ => ind_nonneg _
  · rw [hvec]
    show ((t.lvs []).length : Int) = (t.rl.length : Int)
    rw [T.lvs_nil]
  · rw [seen_eq htf, hWl, hmo]
  · rw [hWl, hmo]; exact goodman htf t.nl hrb'
  · have := hpos.m
    by_cases h : t.vec.getD 4 0 = 0
    · rw [h]; rfl
    · rw [decide_eq_true (by (first | lia | omega) : 0 < t.vec.getD 4 0), beq_eq_false_iff_ne.mpr h]; rfl
  · by_cases h : 0 < t.vec.getD 4 0
    · exact .inl h
    · refine .inr ?_
      have h0 := T.bound t hwf (by have := hpos.m; (first | lia | omega))
      rw [used_len]
      have : ((t.lvs []).length : Int) = t.vec.getD 0 0 := by
        rw [hvec]
        show ((t.lvs []).length : Int) = (t.rl.length : Int)
        rw [T.lvs_nil]
      rw [this]; exact h0
end Mine
end

section
open PySem PySem.W PyProof.Rows PySem.Builtin
set_option Elab.async false
set_option linter.unusedVariables false
set_option maxRecDepth 100000
namespace Mine
theorem isFn_of {K : Frag} {h : Heap} (KX : K.In h) {a : Addr} {i : Nat} {o : Obj} {fd : FuncData} {c : Addr} {oc : Obj} {vs : Array Value} {t : Tok} (e : K.lookup a = some o) (hd : o.data = .func fd) (h1 : fd.params = argsAt i) (h2 : fd.body = .stmts (bodyAt i)) (h3 : fd.scope = scopeAt i)
    (h4 : fd.globals = mainGlobals) (h5 : fd.closure = []) (h6 : fd.builtins = builtinsNs) (h7 : fd.code = .ref c) (h8 : K.lookup c = some oc) (h9 : oc.data = .fields vs) (h10 : vs[1]? = some (.str fd.qualname t)) (h11 : fd.defaults = .none) (h12 : fd.kwdefaults = .none) : IsFn h a i :=
  ⟨o, fd, KX a o e, hd, h1, h2, h3, h4, h5, h6, ⟨c, oc, vs, t, h7, KX c oc h8, h9, h10⟩, h11, h12⟩
theorem ns_of {K : Frag} {h : Heap} (KX : K.In h) {a : Addr} {m : Str → Option Value} {o : Obj} {es : Array DictEntry} {ep : Nat} (e : K.lookup a = some o) (hd : o.data = .dict es ep) (hm : h.Ns a m) : ∀ x, m x = nsFind es x := fun x => by
  change (let G : Prop := _; G)
  intro G
  obtain ⟨o', es', ep', ho, hd', _, hf⟩ := hm
  subst G
  rw [KX a o e] at ho; cases ho
  rw [hd] at hd'; cases hd'
  exact (hf x).symm
theorem base_of {w : World} {h : Heap} {mg mb : Str → Option Value} (g : h.Ns mainGlobals mg) (b : h.Ns builtinsNs mb) (nl : h.NoLimit) (bb : ∀ x : Str, x ≠ "__name__" → mb x = bootBuiltins x) (pt : IsPat w h) (fs : ∀ x a i, (x, a, i) ∈ fnTab → mg x = some (.ref a) ∧ IsFn h a i)
    (bn : ∀ x ∈ biNames, mg x = none) (fl : mg "Flags" = some (.ref 36)) : Base w h :=
  ⟨pt, ⟨mg, g, fun x a i hm => (fs x a i hm).1, bn, fl⟩, ⟨mb, b, bb⟩, nl, fun x a i hm => (fs x a i hm).2⟩
theorem fs_of {h : Heap} {mg : Str → Option Value} {es : Array DictEntry} (hm : ∀ x, mg x = nsFind es x) (hn : ∀ y ∈ fnTab, nsFind es y.1 = some (.ref y.2.1)) (hf : ∀ y ∈ fnTab, IsFn h y.2.1 y.2.2) : ∀ x a i, (x, a, i) ∈ fnTab → mg x = some (.ref a) ∧ IsFn h a i := fun x a i hmem =>
  ⟨(hm x).trans (hn _ hmem), hf _ hmem⟩

theorem final_call {w : World} {s₀ s₁ : Shared} {ns : List Int} {vs : List Value} {L : Addr} (B : Base w s₁.heap) (hg : s₁.gens = #[]) (hw : Well w.params s₁.heap (.ref L) (ofPy (PyData.list (ns.map PyData.int)))) (hI : IntsAre vs ns) (hL : s₁.heap.IsList L vs.toArray) (hn : ¬ (63 : Int) < (ns.length : Int)) :
    wpAny (model PySem.Challenge.rw_tr0021_01.row.prog w) callerA (call (.ref 145) [.ref L])
      (fun v s' => GoodWG PySem.Challenge.rw_tr0021_01.row.claim (classAt s₀.heap) (ExcName.means s₀.heap) [ofPy (PyData.list (ns.map PyData.int))] s₁ (Except.ok (Flow.ret v)) s')
      (fun e s' => GoodWG PySem.Challenge.rw_tr0021_01.row.claim (classAt s₀.heap) (ExcName.means s₀.heap) [ofPy (PyData.list (ns.map PyData.int))] s₁ (Except.error e) s') s₁ := by
  have hpl : PLst s₁.heap L vs := by
    change (let G : Prop := _; G)
    intro G
    obtain ⟨o, ho, hc, n, hd⟩ := hL
    subst G
    simp only [ofPy] at hw
    cases hw with
    | list hget _ =>
      rw [hget] at ho; cases ho
      exact ⟨_, n, hget, rfl, rfl, hd⟩
  have hL' : (s₁.heap.get? L).isSome = true := PLst.some hpl
  have hfn := law_true (w := w) (ns := ns) (by (first | lia | omega))
  have rm : Rm 11 callerA := ⟨rfl, by decide +kernel, by decide +kernel⟩
  have hP : PW (fun b => b = L) s₁.heap := fun b hb => by rw [hb]; exact hL'
  have hrp : RpL w (fun b => b = L) s₁.heap [.ref L] [.lst (ns.map .int)] := .cons (.lst rfl hpl (RpL.ofInts hI)) .nil
  have main := hfn callerA (fun b => b = L) s₁ [.ref L] rm B hP hrp
  refine wpAny_mono main (fun v s' z => ?_) fun _ _ x => x.elim
  change (let G : Prop := _; G)
  intro G
  obtain ⟨P', x, y, z⟩ := z
  subst G
  cases z
  change (let G : Prop := _; G)
  intro G
  obtain ⟨y1, y2, l, y3, y4⟩ := y
  subst G
  refine ⟨.inl ⟨.bool true, .bool true, [], rfl, fun cls => rfl, .bool true, by kernel_rfl, fun _ => ⟨List.nodup_nil, fun a ha => nomatch ha⟩⟩, .of_keep x.ks, y2, ?_⟩
  intro g hg'
  rw [y3, hg] at hg'
  exact y4 g (by simpa using hg')
end Mine
end

open PySem PySem.W PyProof.Rows
set_option linter.unusedVariables false
set_option maxRecDepth 100000
set_option maxHeartbeats 8000000
theorem PySem.Challenge.cw_tr0021_01_holds : PySem.Challenge.rw_tr0021_01.Holds := by
  w_on
  o_law
  k_head
  (case hw => w_witness2)
  k_fill
  intro w s₀ s₁ mg mb G Y fa o pm cd doc dV kV ho hd hcd hD hmg hg args vals as hpre hlay hrd hwl hlo
  have KX := kIn_of Y
  refine Ground.open G ?_
  intro T B D TE TW
  wrow_args hpre hlay hrd hwl hlo
  clear hd hcd hD ho
  rename Well _ _ _ _ => hw
  rename IntsAre _ _ => hI
  rename Heap.IsList _ _ _ => hL
  have hm := Mine.ns_of KX (by rfl) (by rfl) T.g
  have hfa : fa = 145 := by
    have h1 := (hm "law").symm.trans hmg
    have h2 := h1.symm.trans (by rfl : _ = some (Value.ref 145))
    cases h2; rfl
  subst hfa
  have hfs := Mine.fs_of hm (by
    intro y hy
    simp only [Mine.fnTab, List.mem_cons, List.not_mem_nil, or_false] at hy
    rcases hy with rfl | rfl | rfl | rfl | rfl | rfl | rfl | rfl | rfl | rfl | rfl | rfl | rfl | rfl | rfl | rfl | rfl <;> rfl) (by
    intro y hy
    simp only [Mine.fnTab, List.mem_cons, List.not_mem_nil, or_false] at hy
    rcases hy with rfl | rfl | rfl | rfl | rfl | rfl | rfl | rfl | rfl | rfl | rfl | rfl | rfl | rfl | rfl | rfl | rfl <;>
      exact Mine.isFn_of KX (by rfl) (by rfl) (by rfl) (by rfl) (by rfl) (by rfl) (by rfl) (by rfl) (by rfl) (by rfl) (by rfl) (by rfl) (by rfl) (by rfl))
  have hpat : Mine.IsPat w s₁.heap := ⟨⟨_, KX 33 _ (by rfl)⟩, (by
    have h35 := KX 35 _ (by rfl)
    refine h35.trans ?_
    simp [Mine.reCode]), ⟨_, _, _, KX 36 _ (by rfl)⟩⟩
  have hB := Mine.base_of (w := w) T.g T.b T.nolimit T.builtins hpat hfs (by
    intro x hx
    rw [hm]
    simp only [Mine.biNames, List.mem_cons, List.not_mem_nil, or_false] at hx
    rcases hx with rfl | rfl | rfl | rfl | rfl | rfl | rfl | rfl | rfl | rfl | rfl | rfl <;> rfl) ((hm "Flags").trans (by rfl))
  refine Mine.final_call hB hg hw hI hL ?_
  first | assumption | (first | lia | omega)
