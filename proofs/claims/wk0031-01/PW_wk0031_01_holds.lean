import PyProof.Rows.All
import Wide.All
import OpenK.AllK
import Wide.FinOn
import KE.KBytesWalk
import KE.KBytesCut
import PyProof.ToksMono
import PyProof.Rows.SetFrom
import KE.KDictSum
import PySem.Challenge.RW_wk0031_01
set_option Elab.async false
open PySem PySem.W PyProof.Rows
set_option Elab.async false
set_option maxRecDepth 100000
set_option maxHeartbeats 8000000
set_option genSizeOf false
namespace Mine
/-- the law's text as the walk sees it: without the patterns and the one def that no name is read of -/
noncomputable def vw : Program := view PySem.Challenge.pw_wk0031_01 [0, 1, 2, 7, 8, 9, 10, 11, 12, 13, 16, 17, 18, 19, 20, 21, 22, 23, 24, 25, 26, 27]
noncomputable abbrev loose : List Str := [Str.ofString "tspecials", Str.ofString "_name_disallowed_re", Str.ofString "_value_disallowed_re", Str.ofString "_formatparam", Str.ofString "_twin_re_1", Str.ofString "_twin_re_2"]
theorem said0 : OpenLaw.wellSaid PySem.Challenge.rw_wk0031_01 = true := by
  rewrite [PySem.W.Fast.te9446332074065402090]
  kernel_rfl
set_option hygiene false in
local macro_rules | `(tactic| o_law) => `(tactic| refine holds_law said0 fun said => ?_)
set_option hygiene false in
local macro_rules | `(tactic| o_head $h) => `(tactic| (refine holds_open (r := PySem.Challenge.rw_wk0031_01.row) (q := vw) (loose := loose) (Xt := fun s => xlAt vw [] s && recOk [] s) (XP := XL vw []) (Yf := Hook.obs $h) (Ya := Hook.val $h) (YP := Hook.says $h) (N := 3256) ?hl (Hook.of $h) (Hook.keeps $h) (fun s e => xl_of s (Bool.and_eq_true_iff.mp e).1) XL.keeps (by rfl) (by rfl) (by rfl) (fun s e => recFacts_of (Bool.and_eq_true_iff.mp e).2) (by rfl) (by first | assumption | decide +kernel) (by decide +kernel) ⟨rfl, rfl, rfl, rfl, rfl, by decide +kernel⟩ ?hw ?hc; (case hl => (intro w; unfold openEnds fencedOpening topFrom; rewrite [PySem.W.Fast.te14082659384304107361, PySem.W.Fast.te10274390034422433532, PySem.W.Fast.te14364793385576792824, PySem.W.Fast.te4187177175401517315]; kernel_rfl))))
open_top hd for PySem.Challenge.rw_wk0031_01
end Mine
section
open PySem PySem.W PyProof.Rows PySem.Calls PySem.Spec
set_option Elab.async false
set_option maxRecDepth 100000
set_option maxHeartbeats 8000000
set_option genSizeOf false
namespace Mine
inductive S where
  | none
  | bool (b : Bool)
  | nat (n : Nat)
  | int (i : Int)
  | str (x : Str)
  | bytes (b : Array UInt8)
  | pair (a b : Nat)
  | spair (a b : Str)
inductive Fl where
  | own | arg | fix
  deriving DecidableEq
inductive V where
  | unset
  | s (x : S)
  | rng (n : Nat)
  | lst (o : Fl) (l : List S)
  | at (a : Addr) (l : List S)
  | raw (l : List S)
  | val (v : Value)
  | hdr (o : Fl) (l : List (Str × Str))
inductive All2 {α β : Type} (P : α → β → Prop) : List α → List β → Prop
  | nil : All2 P [] []
  | cons {a : α} {b : β} {as : List α} {bs : List β} : P a b → All2 P as bs → All2 P (a :: as) (b :: bs)
theorem All2.mono {α β : Type} {P P' : α → β → Prop} (hp : ∀ a b, P a b → P' a b) : ∀ {as : List α} {bs : List β}, All2 P as bs → All2 P' as bs := by
  intro as bs x
  induction x with
  | nil => exact .nil
  | cons h _ ih => exact .cons (hp _ _ h) ih
theorem All2.length {α β : Type} {P : α → β → Prop} : ∀ {as : List α} {bs : List β}, All2 P as bs → as.length = bs.length := by
  intro as bs x
  induction x with
  | nil => rfl
  | cons _ _ ih => exact congrArg Nat.succ ih
theorem All2.get {α β : Type} {P : α → β → Prop} : ∀ {as : List α} {bs : List β}, All2 P as bs → ∀ {i : Nat} {b : β}, bs[i]? = some b → ∃ a, as[i]? = some a ∧ P a b := by
  intro as bs x
  induction x with
  | nil => intro i b h; rw [List.getElem?_nil] at h; cases h
  | cons h _ ih =>
    intro i b e
    cases i with
    | zero => exact ⟨_, rfl, Option.some.inj e ▸ h⟩
    | succ i => exact ih (i := i) e
theorem All2.get' {α β : Type} {P : α → β → Prop} : ∀ {as : List α} {bs : List β}, All2 P as bs → ∀ {i : Nat} {a : α}, as[i]? = some a → ∃ b, bs[i]? = some b ∧ P a b := by
  intro as bs x
  induction x with
  | nil => intro i b h; rw [List.getElem?_nil] at h; cases h
  | cons h _ ih =>
    intro i b e
    cases i with
    | zero => exact ⟨_, rfl, Option.some.inj e ▸ h⟩
    | succ i => exact ih (i := i) e
theorem All2.append {α β : Type} {P : α → β → Prop} : ∀ {as as' : List α} {bs bs' : List β}, All2 P as bs → All2 P as' bs' → All2 P (as ++ as') (bs ++ bs') := by
  intro as as' bs bs' x u
  induction x with
  | nil => exact u
  | cons h _ ih => exact .cons h ih
theorem All2.snoc {α β : Type} {P : α → β → Prop} {as : List α} {bs : List β} {a : α} {b : β} (t : All2 P as bs) (h : P a b) : All2 P (as ++ [a]) (bs ++ [b]) := t.append (.cons h .nil)
theorem All2.take {α β : Type} {P : α → β → Prop} : ∀ {as : List α} {bs : List β} (n : Nat), All2 P as bs → All2 P (as.take n) (bs.take n) := by
  intro as bs n x
  induction x generalizing n with
  | nil => rw [List.take_nil, List.take_nil]; exact .nil
  | cons h _ ih => cases n with
    | zero => exact .nil
    | succ n => exact .cons h (ih n)
theorem All2.drop {α β : Type} {P : α → β → Prop} : ∀ {as : List α} {bs : List β} (n : Nat), All2 P as bs → All2 P (as.drop n) (bs.drop n) := by
  intro as bs n x
  induction x generalizing n with
  | nil => rw [List.drop_nil, List.drop_nil]; exact .nil
  | cons h t ih => cases n with
    | zero => exact .cons h t
    | succ n => exact ih n
theorem All2.set {α β : Type} {P : α → β → Prop} {a : α} {b : β} (h' : P a b) : ∀ {as : List α} {bs : List β} (n : Nat), All2 P as bs → All2 P (as.set n a) (bs.set n b) := by
  intro as bs n x
  induction x generalizing n with
  | nil => exact .nil
  | cons h t ih => cases n with
    | zero => exact .cons h' t
    | succ n => exact .cons h (ih n)
theorem len_succ {α : Type} {n : Nat} : ∀ {l : List α}, l.length = n + 1 → ∃ a t, l = a :: t ∧ t.length = n := by
  intro l h
  cases l with
  | nil => cases h
  | cons a t => exact ⟨a, t, rfl, Nat.succ.inj h⟩
theorem len_five {α : Type} {l : List α} (h : l.length = 5) : ∃ a b c d e, l = [a, b, c, d, e] := by
  obtain ⟨a, l1, e1, h1⟩ := len_succ h
  obtain ⟨b, l2, e2, h2⟩ := len_succ h1
  obtain ⟨c, l3, e3, h3⟩ := len_succ h2
  obtain ⟨d, l4, e4, h4⟩ := len_succ h3
  obtain ⟨e, l5, e5, h5⟩ := len_succ h4
  exact ⟨a, b, c, d, e, by rw [e1, e2, e3, e4, e5, List.length_eq_zero_iff.mp h5]⟩
noncomputable def KeepT (h h' : Heap) : Prop := ∀ a items, IsTup h a items → IsTup h' a items
theorem KeepT.refl (h : Heap) : KeepT h h := fun _ _ e => e
theorem KeepT.trans {a b c : Heap} (x : KeepT a b) (y : KeepT b c) : KeepT a c := fun _ _ e => y _ _ (x _ _ e)
noncomputable def KeepA (h h' : Heap) : Prop := ∀ b o, h.get? b = some o → h'.get? b = some o
theorem KeepA.refl (h : Heap) : KeepA h h := fun _ _ e => e
theorem KeepA.trans {a b c : Heap} (x : KeepA a b) (y : KeepA b c) : KeepA a c := fun _ _ e => y _ _ (x _ _ e)
theorem KeepA.push (h : Heap) (o : Obj) : KeepA h (h.push o) := fun _ _ e => Heap.get?_push_of_some _ e
theorem KeepA.toT {h h' : Heap} (x : KeepA h h') : KeepT h h' := fun a _ ⟨o, ho, r⟩ => ⟨o, x a o ho, r⟩
noncomputable def RepS (h : Heap) (v : Value) : S → Prop
  | .none => v = .none
  | .bool b => v = .bool b
  | .nat n => ∃ t, v = .int (n : Int) t
  | .int i => ∃ t, v = .int i t
  | .str x => ∃ t, v = .str x t
  | .bytes b => ∃ t, v = .bytes b t
  | .pair a b => ∃ p ta tb, v = .ref p ∧ IsTup h p #[.int (a : Int) ta, .int (b : Int) tb]
  | .spair a b => ∃ p ta tb, v = .ref p ∧ IsTup h p #[.str a ta, .str b tb]
theorem RepS.keep {h h' : Heap} (k : KeepT h h') {v : Value} : ∀ {x : S}, RepS h v x → RepS h' v x := by
  intro x r
  cases x with
  | pair _ _ => obtain ⟨p, ta, tb, e, i⟩ := r; exact ⟨p, ta, tb, e, k _ _ i⟩
  | spair _ _ => obtain ⟨p, ta, tb, e, i⟩ := r; exact ⟨p, ta, tb, e, k _ _ i⟩
  | _ => exact r
noncomputable def HdrRaw (h : Heap) (x dx lh : Addr) : Prop :=
  h.get? x = some (instObj 184 dx) ∧ ∃ hs t, h.get? dx = some (dictOf [⟨hs, .str (Str.ofString "_headers") t, .ref lh⟩] 1)
theorem HdrRaw.keep {h h' : Heap} (k : KeepA h h') {x dx lh : Addr} : HdrRaw h x dx lh → HdrRaw h' x dx lh
  | ⟨a, hs, t, b⟩ => ⟨k _ _ a, hs, t, k _ _ b⟩
noncomputable def RepL (h : Heap) (a : Addr) (l : List S) : Prop := ∃ vs : List Value, h.PlainList a vs.toArray ∧ All2 (RepS h) vs l
theorem RepL.keep {h h' : Heap} (k : KeepT h h') {a : Addr} (ka : ∀ o, h.get? a = some o → h'.get? a = some o) {l : List S} : RepL h a l → RepL h' a l
  | ⟨vs, ⟨n, p⟩, x⟩ => ⟨vs, ⟨n, ka _ p⟩, x.mono fun _ _ y => y.keep k⟩
noncomputable def RepV (h : Heap) (v : Value) : V → Prop
  | .unset => True
  | .s x => RepS h v x
  | .rng n => ∃ a t u w, v = .ref a ∧ IsRange h a 0 (n : Int) 1 t u w ∧ n < 2 ^ 62
  | .lst _ l => ∃ a, v = .ref a ∧ RepL h a l
  | .at a l => v = .ref a ∧ RepL h a l
  | .val u => v = u
  | .raw l => ∃ a, v = .ref a ∧ ∃ vs : List Value, h.IsList a vs.toArray ∧ All2 (RepS h) vs l
  | .hdr _ l => ∃ x dx lh, v = .ref x ∧ HdrRaw h x dx lh ∧ RepL h lh (l.map fun p => .spair p.1 p.2)
theorem RepV.keep {h h' : Heap} (k : KeepA h h') {v : Value} : ∀ {x : V}, RepV h v x → RepV h' v x := by
  intro x r
  cases x with
  | unset => trivial
  | s _ => exact RepS.keep k.toT r
  | rng _ => obtain ⟨a, t, u, w, e, i, hn⟩ := r; exact ⟨a, t, u, w, e, k _ _ i, hn⟩
  | lst _ _ => obtain ⟨a, e, r⟩ := r; exact ⟨a, e, r.keep k.toT fun _ ho => k _ _ ho⟩
  | «at» _ _ => obtain ⟨e, r⟩ := r; exact ⟨e, r.keep k.toT fun _ ho => k _ _ ho⟩
  | val _ => exact r
  | raw _ => obtain ⟨a, e, vs, ⟨o, ho, r⟩, x⟩ := r; exact ⟨a, e, vs, ⟨o, k a o ho, r⟩, x.mono fun _ _ y => y.keep k.toT⟩
  | hdr _ _ => obtain ⟨x, dx, lh, e, r, l⟩ := r; exact ⟨x, dx, lh, e, r.keep k, l.keep k.toT fun _ ho => k _ _ ho⟩
noncomputable def GX (a b : Array GenState) : Prop := ∃ more, b = a ++ more ∧ AllBare more
theorem GX.refl (a : Array GenState) : GX a a := ⟨#[], by simp, .empty⟩
theorem GX.trans {a b c : Array GenState} (x : GX a b) (y : GX b c) : GX a c := by
  obtain ⟨m, rfl, h⟩ := x
  obtain ⟨n, rfl, k⟩ := y
  refine ⟨m ++ n, by rw [Array.append_assoc], fun z hz => ?_⟩
  rcases Array.mem_append.mp hz with q | q
  · exact h z q
  · exact k z q
theorem GX.bare {a b : Array GenState} (x : GX a b) (h : AllBare a) : AllBare b := by
  obtain ⟨m, rfl, k⟩ := x
  intro z hz
  rcases Array.mem_append.mp hz with q | q
  · exact h z q
  · exact k z q
structure Ext (s s' : Shared) : Prop where
  keep : KeepA s.heap s'.heap
  os : s'.os = s.os
  gens : GX s.gens s'.gens
theorem Ext.refl (s : Shared) : Ext s s := ⟨fun _ _ e => e, rfl, .refl _⟩
theorem Ext.trans {a b c : Shared} (x : Ext a b) (y : Ext b c) : Ext a c := ⟨x.keep.trans y.keep, y.os.trans x.os, x.gens.trans y.gens⟩
theorem Ext.of {s : Shared} {h' : Heap} {tk : Nat} (k : KeepA s.heap h') : Ext s { s with heap := h', toks := tk } := ⟨k, rfl, .refl _⟩
theorem Ext.tok (s : Shared) (tk : Nat) : Ext s { s with toks := tk } := ⟨fun _ _ e => e, rfl, .refl _⟩
structure Glob (w : World) (h : Heap) : Prop where
  K : (hd.heap_1 w.params).In h
  T : ∃ mean mg mb, Top vw (looseW vw loose) mean mg mb h
theorem Glob.keep {w : World} {h h' : Heap} (g : Glob w h) (k : KeepA h h') : Glob w h' :=
  ⟨g.K.keeps k, let ⟨a, b, c, T⟩ := g.T; ⟨a, b, c, T.keeps k⟩⟩
theorem Glob.nolimit {w : World} {h : Heap} (g : Glob w h) : h.NoLimit := let ⟨_, _, _, T⟩ := g.T; T.nolimit
structure Cx where
  ns : List (Str × Bool)
  gs : List Str
noncomputable def Bound (env : Env) (h : Heap) (x : Str) : Bool → Value → Prop
  | false, v => env.kindOf x = some .local ∧ ∃ m, h.Ns env.locals m ∧ m x = some v
  | true, v => env.kindOf x = some .cell ∧ ∃ c, env.cells.lookup x = some c ∧ h.IsCell c (some v)
theorem Bound.keep {env : Env} {h h' : Heap} (k : KeepA h h') {x : Str} {v : Value} : ∀ {b : Bool}, Bound env h x b v → Bound env h' x b v
  | false, ⟨a, m, n, e⟩ => ⟨a, m, n.keeps k, e⟩
  | true, ⟨a, c, e, n⟩ => ⟨a, c, e, n.keeps k⟩
noncomputable def Off (L : Addr) (h : Heap) (v : Value) : V → Prop
  | .hdr _ _ => ∀ x dx lh, v = .ref x → HdrRaw h x dx lh → dx ≠ L
  | _ => True
theorem Off.keep {L : Addr} {h h' : Heap} (k : KeepA h h') {v : Value} : ∀ {pv : V}, RepV h v pv → Off L h v pv → Off L h' v pv
  | .unset, _, _ => trivial | .s _, _, _ => trivial | .rng _, _, _ => trivial | .lst _ _, _, _ => trivial | .at _ _, _, _ => trivial | .raw _, _, _ => trivial | .val _, _, _ => trivial
  | .hdr _ _, ⟨x, dx, lh, e, r, _⟩, o => fun x' dx' lh' e' r' => by
    subst e; cases e'
    have := (r.keep k).1.symm.trans r'.1
    cases this
    exact o _ _ _ rfl r
structure EnvOk (env : Env) (cx : Cx) : Prop where
  kind : env.scope.kind = .function
  glo : env.globals = mainGlobals
  bui : env.builtins = builtinsNs
  gl : ∀ g ∈ cx.gs, env.kindOf g = some .globalImplicit
  cel : ∀ x, (x, true) ∈ cx.ns → env.kindOf x = some .cell ∧ ∃ c, env.cells.lookup x = some c
noncomputable def VarsAt (env : Env) (ns : List (Str × Bool)) (vals : List V) (h : Heap) : Prop :=
  ∀ (i : Nat) (x : Str) (b : Bool) (pv : V), ns[i]? = some (x, b) → vals[i]? = some pv → pv ≠ .unset → ∃ v, Bound env h x b v ∧ RepV h v pv ∧ Off env.locals h v pv
structure RepE (env : Env) (cx : Cx) (vals : List V) (h : Heap) : Prop where
  eo : EnvOk env cx
  var : VarsAt env cx.ns vals h
theorem VarsAt.keep {env : Env} {ns : List (Str × Bool)} {vals : List V} {h h' : Heap} (r : VarsAt env ns vals h) (k : KeepA h h') : VarsAt env ns vals h' :=
  fun i x b pv h1 h2 h3 => let ⟨v, a, c, d⟩ := r i x b pv h1 h2 h3; ⟨v, a.keep k, c.keep k, d.keep k c⟩
theorem RepE.keep {env : Env} {cx : Cx} {vals : List V} {h h' : Heap} (r : RepE env cx vals h) (k : KeepA h h') : RepE env cx vals h' := ⟨r.eo, r.var.keep k⟩
structure Ok (A : Around) (n : Nat) : Prop where
  hd : A.handled = none
  dp : A.depth + n < recursionLimit
  un : A.units + 10 * n + 100 < cLine
theorem Ok.mono {A : Around} {n m : Nat} (o : Ok A n) (h : m ≤ n) : Ok A m := ⟨o.hd, by have := o.dp; omega, by have := o.un; omega⟩
noncomputable def V.fresh : V → Bool
  | .lst .own _ => true
  | .hdr .own _ => true
  | _ => false
noncomputable def Fresh (pv : V) (s s' : Shared) (v : Value) : Prop := match pv with
  | .lst .own _ => ∀ a, v = .ref a → s.heap.get? a = none
  | .hdr .own _ => ∀ x dx lh, v = .ref x → HdrRaw s'.heap x dx lh → s.heap.get? x = none ∧ s.heap.get? dx = none ∧ s.heap.get? lh = none
  | _ => True
theorem Fresh.no {pv : V} {s s' : Shared} {v : Value} (h : pv.fresh = false) : Fresh pv s s' v := by
  cases pv with
  | lst o l => cases o <;> first | (cases h; done) | trivial
  | hdr o l => cases o <;> first | (cases h; done) | trivial
  | _ => trivial
theorem none_back {s s' : Shared} (x : Ext s s') {a : Addr} (h : s'.heap.get? a = none) : s.heap.get? a = none := by
  cases q : s.heap.get? a with
  | none => rfl
  | some o => rw [x.keep a o q] at h; cases h
theorem Fresh.back {pv : V} {s s₁ s' : Shared} {v : Value} (x : Ext s s₁) (f : Fresh pv s₁ s' v) : Fresh pv s s' v := by
  cases pv with
  | lst o l =>
    cases o with
    | own => exact fun a e => none_back x (f a e)
    | _ => trivial
  | hdr o l =>
    cases o with
    | own => exact fun a dx lh e r => let ⟨p, q, t⟩ := f a dx lh e r; ⟨none_back x p, none_back x q, none_back x t⟩
    | _ => trivial
  | _ => trivial
section
variable (prog : Program) (w : World) (n : Nat) (env : Env) (cx : Cx) (vals : List V)
/-- what an expression gives -/
noncomputable def Ev (e : Expr) (pv : V) : Prop :=
  ∀ (A : Around) (s : Shared) (Q E : Value → Shared → Prop), Ok A n → Glob w s.heap → RepE env cx vals s.heap →
    (∀ v s', Ext s s' → RepV s'.heap v pv → Fresh pv s s' v → Q v s') → wpAny (model prog w) A (eval e env) Q E s
/-- what a test gives -/
noncomputable def Tv (e : Expr) (b : Bool) : Prop :=
  ∀ (A : Around) (s : Shared) (Q : Bool → Shared → Prop) (E : Value → Shared → Prop), Ok A n → Glob w s.heap → RepE env cx vals s.heap →
    (∀ s', Ext s s' → Q b s') → wpAny (model prog w) A (isTrue e env (eval e env)) Q E s
end
section
variable {prog : Program} {w : World} {n : Nat} {env : Env} {cx : Cx} {vals : List V}
theorem Ev.weak {e : Expr} {l : List S} {o : Fl} (h : Ev prog w n env cx vals e (.lst .own l)) (ho : o ≠ .own) : Ev prog w n env cx vals e (.lst o l) :=
  fun A s Q E a b c q => h A s Q E a b c fun v s' x r _ => q v s' x r (.no (by cases o <;> first | rfl | exact absurd rfl ho))
theorem Ev.cnone {k p} : Ev prog w n env cx vals (.Constant .none k p) (.s .none) := fun _ _ _ _ _ _ _ q => wpAny_Constant_none (q _ _ (Ext.refl _) rfl (.no rfl))
theorem Ev.cbool {b k p} : Ev prog w n env cx vals (.Constant (.bool b) k p) (.s (.bool b)) := fun _ _ _ _ _ _ _ q => wpAny_Constant_bool (q _ _ (Ext.refl _) rfl (.no rfl))
theorem Ev.cnat {i : Nat} {k p} : Ev prog w n env cx vals (.Constant (.int (OfNat.ofNat i)) k p) (.s (.nat i)) := fun _ s _ _ _ _ _ q => wpAny_Constant_int (q _ _ (Ext.tok s _) ⟨_, rfl⟩ (.no rfl))
theorem Ev.cstr {x : Str} {k p} : Ev prog w n env cx vals (.Constant (.str x) k p) (.s (.str x)) := fun _ s _ _ _ _ _ q => wpAny_Constant_str (q _ _ (Ext.tok s _) ⟨_, rfl⟩ (.no rfl))
theorem Ev.cbytes {x : List UInt8} {k p} : Ev prog w n env cx vals (.Constant (.bytes x) k p) (.s (.bytes x.toArray)) := fun _ s _ _ _ _ _ q => fun _ _ _ => q _ _ (Ext.tok s _) ⟨_, rfl⟩ (.no rfl)
noncomputable def V.seen : V → V
  | .lst .own l => .lst .arg l
  | .at _ l => .lst .arg l
  | .hdr .own l => .hdr .arg l
  | v => v
theorem V.seen_fresh (v : V) : v.seen.fresh = false := by cases v <;> first | rfl | (rename_i o _; cases o <;> rfl)
theorem RepV.seen {h : Heap} {v : Value} : ∀ {pv : V}, RepV h v pv → RepV h v pv.seen
  | .unset, r => r | .s _, r => r | .rng _, r => r
  | .lst o _, r => by cases o <;> exact r
  | .at a _, r => ⟨a, r.1, r.2⟩
  | .raw _, r => r
  | .val _, r => r
  | .hdr o _, r => by cases o <;> exact r
theorem wp_bound {A : Around} {s : Shared} {Q E : Value → Shared → Prop} {x : Str} {b : Bool} {v : Value} (hk : env.scope.kind = .function) (hb : Bound env s.heap x b v) (q : Q v s) :
    wpAny (model prog w) A (loadName env x) Q E s := by
  cases b with
  | false => obtain ⟨a, m, n, e⟩ := hb; exact wpAny_loadName_local hk a n e q
  | true => obtain ⟨a, c, e, n⟩ := hb; exact wpAny_loadName_cell hk a e n q
theorem Ev.name {x : Str} {p : Pos} (i : Nat) {b : Bool} {pv : V} (h1 : cx.ns[i]? = some (x, b)) (h2 : vals[i]? = some pv) (h3 : pv ≠ .unset) (hd : (x == ("__debug__" : Str)) = false) :
    Ev prog w n env cx vals (.Name x p) pv.seen := fun A s Q E _ _ r q => by
  obtain ⟨v, hb, hv, _⟩ := r.var i x b pv h1 h2 h3
  exact wpAny_Name (wp_bound r.eo.kind hb (q v s (Ext.refl _) hv.seen (.no (V.seen_fresh _)))) hd
theorem wp_glob {A : Around} {s : Shared} {Q E : Value → Shared → Prop} {x : Str} {p : Pos} {v : Value} (ho : EnvOk env cx) (g : Glob w s.heap) (hx : x ∈ cx.gs)
    (e : nsIn (hd.heap_1 w.params) mainGlobals x = some (some v)) (hd : (x == ("__debug__" : Str)) = false) (q : Q v s) : wpAny (model prog w) A (eval (.Name x p) env) Q E s := by
  obtain ⟨_, mg, mb, T⟩ := g.T
  exact Name_function_global ho.kind (ho.gl x hx) (loadGlobal_global (by rw [ho.glo]; exact T.g) (mg_of g.K T.g e) q) hd
theorem wp_boot {A : Around} {s : Shared} {Q E : Value → Shared → Prop} {x : Str} {p : Pos} {v : Value} (ho : EnvOk env cx) (g : Glob w s.heap) (hx : x ∈ cx.gs)
    (e : nsIn (hd.heap_1 w.params) mainGlobals x = some none) (hv : bootBuiltins x = some v) (hn : x ≠ "__name__") (hd : (x == ("__debug__" : Str)) = false) (q : Q v s) : wpAny (model prog w) A (eval (.Name x p) env) Q E s := by
  obtain ⟨_, mg, mb, T⟩ := g.T
  exact Name_function_global ho.kind (ho.gl x hx) (loadGlobal_builtin (by rw [ho.glo]; exact T.g) (mg_none_of g.K T.g e) (by rw [ho.bui]; exact T.b) ((T.builtins x hn).trans hv) q) hd
end
end Mine
end
section
open PySem PySem.W PyProof.Rows PySem.Calls PySem.Spec
set_option Elab.async false
set_option maxRecDepth 100000
set_option maxHeartbeats 8000000
set_option linter.unusedVariables false
set_option genSizeOf false
namespace Mine
section
variable (prog : Program) (w : World) (n : Nat)
noncomputable def Op2 (op : Operator) (a b c : V) : Prop := ∀ (A : Around) (s : Shared) (Q E : Value → Shared → Prop) (va vb : Value), Ok A n → Glob w s.heap → RepV s.heap va a → RepV s.heap vb b →
  (∀ v s', Ext s s' → RepV s'.heap v c → Fresh c s s' v → Q v s') → wpAny (model prog w) A (binaryOp op va vb) Q E s
noncomputable def Iop2 (op : Operator) (a b c : V) : Prop := ∀ (A : Around) (s : Shared) (Q E : Value → Shared → Prop) (va vb : Value), Ok A n → Glob w s.heap → RepV s.heap va a → RepV s.heap vb b →
  (∀ v s', Ext s s' → RepV s'.heap v c → Fresh c s s' v → Q v s') → wpAny (model prog w) A (inplaceOp op va vb) Q E s
noncomputable def Cm2 (op : CmpOp) (a b : V) (r : Bool) : Prop := ∀ (A : Around) (s : Shared) (Q E : Value → Shared → Prop) (va vb : Value), Ok A n → Glob w s.heap → RepV s.heap va a → RepV s.heap vb b →
  (∀ s', Ext s s' → Q (.bool r) s') → wpAny (model prog w) A (compareOp op va vb) Q E s
noncomputable def Tr (a : V) (r : Bool) : Prop := ∀ (A : Around) (s : Shared) (Q : Bool → Shared → Prop) (E : Value → Shared → Prop) (va : Value), Ok A n → Glob w s.heap → RepV s.heap va a →
  (∀ s', Ext s s' → Q r s') → wpAny (model prog w) A (truthy va) Q E s
end
section
variable {prog : Program} {w : World} {n : Nat} {env : Env} {cx : Cx} {vals : List V}
theorem Ev.bin {l r : Expr} {op : Operator} {p : Pos} {a b c : V} (hl : Ev prog w n env cx vals l a) (hr : Ev prog w n env cx vals r b) (ho : Op2 prog w n op a b c) : Ev prog w n env cx vals (.BinOp l op r p) c :=
  fun A s Q E hA g re q => wpAny_BinOp (hl A s _ _ hA g re fun va s₁ x₁ r₁ _ => hr A s₁ _ _ hA (g.keep x₁.keep) (re.keep x₁.keep) fun vb s₂ x₂ r₂ _ =>
    ho A s₂ _ _ va vb hA (g.keep (x₁.trans x₂).keep) (r₁.keep x₂.keep) r₂ fun v s₃ x₃ r₃ f₃ => q v s₃ ((x₁.trans x₂).trans x₃) r₃ (f₃.back (x₁.trans x₂)))
theorem repN {h : Heap} {x : Int} {t : Tok} {m : Nat} (e : x = (m : Int)) : RepV h (.int x t) (.s (.nat m)) := ⟨t, by rw [e]⟩
theorem Op2.addN {a b : Nat} : Op2 prog w n .Add (.s (.nat a)) (.s (.nat b)) (.s (.nat (a + b))) := by
  rintro A s Q E _ _ hA g ⟨t, rfl⟩ ⟨u, rfl⟩ q
  exact add_int (q _ _ (Ext.tok s _) ⟨_, by rw [Int.natCast_add]⟩ (.no rfl))
theorem Op2.mulN {a b : Nat} (ha : a < 2 ^ 20) (hb : b < 2 ^ 60) : Op2 prog w n .Mult (.s (.nat a)) (.s (.nat b)) (.s (.nat (a * b))) := by
  rintro A s Q E _ _ hA g ⟨t, rfl⟩ ⟨u, rfl⟩ q
  exact mul_int (q _ _ (Ext.tok s _) ⟨_, by rw [Int.natCast_mul]⟩ (.no rfl))
theorem Op2.subN {a b : Nat} (h : b ≤ a) : Op2 prog w n .Sub (.s (.nat a)) (.s (.nat b)) (.s (.nat (a - b))) := by
  rintro A s Q E _ _ hA g ⟨t, rfl⟩ ⟨u, rfl⟩ q
  exact sub_int (q _ _ (Ext.tok s _) ⟨_, by rw [Int.natCast_sub h]⟩ (.no rfl))
theorem Op2.subI {a b : Nat} : Op2 prog w n .Sub (.s (.nat a)) (.s (.nat b)) (.s (.int ((a : Int) - b))) := by
  rintro A s Q E _ _ hA g ⟨t, rfl⟩ ⟨u, rfl⟩ q
  exact sub_int (q _ _ (Ext.tok s _) ⟨_, rfl⟩ (.no rfl))
theorem Op2.modN {a b : Nat} (h : 0 < b) : Op2 prog w n .Mod (.s (.nat a)) (.s (.nat b)) (.s (.nat (a % b))) := by
  rintro A s Q E _ _ hA g ⟨t, rfl⟩ ⟨u, rfl⟩ q
  refine PyProof.Rows.mod_int (by omega) (q _ _ (Ext.tok s _) (repN ?_) (.no rfl))
  rw [Int.fmod_eq_emod_of_nonneg _ (by omega), ← Int.natCast_emod]
theorem Op2.modI {a : Int} {b : Nat} (h : 0 < b) : Op2 prog w n .Mod (.s (.int a)) (.s (.nat b)) (.s (.nat (a % b).toNat)) := by
  rintro A s Q E _ _ hA g ⟨t, rfl⟩ ⟨u, rfl⟩ q
  refine PyProof.Rows.mod_int (by omega) (q _ _ (Ext.tok s _) (repN ?_) (.no rfl))
  rw [Int.fmod_eq_emod_of_nonneg _ (by omega), Int.toNat_of_nonneg (Int.emod_nonneg _ (by omega))]
theorem Op2.divN {a b : Nat} (h : 0 < b) (hb : b < 1073741824) : Op2 prog w n .FloorDiv (.s (.nat a)) (.s (.nat b)) (.s (.nat (a / b))) := by
  rintro A s Q E _ _ hA g ⟨t, rfl⟩ ⟨u, rfl⟩ q
  refine floordiv_int (by omega) (q _ _ (Ext.tok s _) (repN ?_) (.no rfl)) (Or.inl (PyProof.noPylong_small (by omega)))
  rw [Int.fdiv_eq_ediv_of_nonneg _ (by omega), ← Int.natCast_ediv]
theorem bitAnd_nat (a b : Nat) : Builtin.bitAnd (a : Int) (b : Int) = ((a &&& b : Nat) : Int) := by
  unfold Builtin.bitAnd
  simp
theorem bitNot_nat (a : Nat) : Builtin.bitNot (a : Int) = -(a : Int) - 1 := rfl
theorem bitOr_nat (a b : Nat) : Builtin.bitOr (a : Int) (b : Int) = ((a ||| b : Nat) : Int) := by
  unfold Builtin.bitOr Builtin.bitAnd
  have h1 : ¬ (0 ≤ Builtin.bitNot (a : Int)) := by rw [bitNot_nat]; omega
  have h2 : ¬ (0 ≤ Builtin.bitNot (b : Int)) := by rw [bitNot_nat]; omega
  have e : ∀ x : Int, Builtin.bitNot (Builtin.bitNot x) = x := fun x => by unfold Builtin.bitNot; omega
  simp only [h1, h2, decide_false, e, Int.toNat_natCast]
theorem mod_two_bit (x : Nat) : x % 2 = (x.testBit 0).toNat := by rw [Nat.toNat_testBit, Nat.pow_zero, Nat.div_one]
theorem or_and_xor (a b : Nat) : a ||| b = (a ^^^ b) + (a &&& b) := by
  induction a using Nat.strongRecOn generalizing b with
  | ind a ih =>
    by_cases h0 : a = 0
    · rw [h0, Nat.zero_or, Nat.zero_xor, Nat.zero_and]; rfl
    · have d1 := Nat.div_add_mod (a ||| b) 2
      have d2 := Nat.div_add_mod (a ^^^ b) 2
      have d3 := Nat.div_add_mod (a &&& b) 2
      have key : (a ||| b) % 2 = (a ^^^ b) % 2 + (a &&& b) % 2 := by
        rw [mod_two_bit, mod_two_bit, mod_two_bit, Nat.testBit_or, Nat.testBit_xor, Nat.testBit_and]
        cases a.testBit 0 <;> cases b.testBit 0 <;> rfl
      rw [Nat.or_div_two, ih (a / 2) (Nat.div_lt_self (Nat.pos_of_ne_zero h0) (by decide)) (b / 2), key, Nat.mul_add] at d1
      rw [Nat.xor_div_two] at d2
      rw [Nat.and_div_two] at d3
      rw [← d1, ← d2, ← d3, d2, d3, Nat.add_add_add_comm, d2, d3]
theorem bitXor_nat (a b : Nat) : Builtin.bitXor (a : Int) (b : Int) = ((a ^^^ b : Nat) : Int) := by
  unfold Builtin.bitXor
  rw [bitOr_nat, bitAnd_nat, or_and_xor]
  omega
theorem Op2.andN {a b : Nat} : Op2 prog w n .BitAnd (.s (.nat a)) (.s (.nat b)) (.s (.nat (a &&& b))) := by
  rintro A s Q E _ _ hA g ⟨t, rfl⟩ ⟨u, rfl⟩ q
  exact and_int (q _ _ (Ext.tok s _) ⟨_, by rw [bitAnd_nat]⟩ (.no rfl))
theorem Op2.orN {a b : Nat} : Op2 prog w n .BitOr (.s (.nat a)) (.s (.nat b)) (.s (.nat (a ||| b))) := by
  rintro A s Q E _ _ hA g ⟨t, rfl⟩ ⟨u, rfl⟩ q
  exact or_int (q _ _ (Ext.tok s _) ⟨_, by rw [bitOr_nat]⟩ (.no rfl))
theorem Op2.xorN {a b : Nat} : Op2 prog w n .BitXor (.s (.nat a)) (.s (.nat b)) (.s (.nat (a ^^^ b))) := by
  rintro A s Q E _ _ hA g ⟨t, rfl⟩ ⟨u, rfl⟩ q
  exact xor_int (q _ _ (Ext.tok s _) ⟨_, by rw [bitXor_nat]⟩ (.no rfl))
theorem Op2.shl {a b : Nat} (ha : a < 2 ^ 60) (hb : b ≤ 1000) : Op2 prog w n .LShift (.s (.nat a)) (.s (.nat b)) (.s (.nat (a <<< b))) := by
  rintro A s Q E _ _ hA g ⟨t, rfl⟩ ⟨u, rfl⟩ q
  refine lshift_int_small (by omega) (by omega) (by omega) (q _ _ (Ext.tok s _) (repN ?_) (.no rfl))
  rw [Nat.shiftLeft_eq, Int.natCast_mul, Int.toNat_natCast, Int.natCast_pow]; rfl
theorem Op2.shr {a b : Nat} : Op2 prog w n .RShift (.s (.nat a)) (.s (.nat b)) (.s (.nat (a >>> b))) := by
  rintro A s Q E _ _ hA g ⟨t, rfl⟩ ⟨u, rfl⟩ q
  refine rshift_int (by omega) (q _ _ (Ext.tok s _) (repN ?_) (.no rfl))
  rw [Nat.shiftRight_eq_div_pow, Int.toNat_natCast, Int.natCast_ediv, Int.natCast_pow, Int.fdiv_eq_ediv_of_nonneg _ (by have : (0 : Int) < 2 ^ b := Int.pow_pos (by decide); exact Int.le_of_lt this)]; rfl
noncomputable def clr (a m : Nat) : Nat := a - (a &&& m)
theorem Op2.andNot {a m : Nat} : Op2 prog w n .BitAnd (.s (.nat a)) (.s (.int (Builtin.bitNot m))) (.s (.nat (clr a m))) := by
  rintro A s Q E _ _ hA g ⟨t, rfl⟩ ⟨u, rfl⟩ q
  refine and_int (q _ _ (Ext.tok s _) (repN ?_) (.no rfl))
  have h1 : ¬ (0 ≤ Builtin.bitNot (m : Int)) := by rw [bitNot_nat]; omega
  have e : Builtin.bitNot (Builtin.bitNot (m : Int)) = m := by unfold Builtin.bitNot; omega
  have h0 : (0 : Int) ≤ a := by omega
  have hle : a &&& m ≤ a := Nat.and_le_left
  unfold Builtin.bitAnd clr
  simp only [h1, h0, decide_false, decide_true, e, Int.toNat_natCast]
  rw [Int.natCast_sub hle]
theorem Ev.inv {e : Expr} {p : Pos} {a : Nat} (h : Ev prog w n env cx vals e (.s (.nat a))) : Ev prog w n env cx vals (.UnaryOp .Invert e p) (.s (.int (Builtin.bitNot a))) :=
  fun A s Q E hA g re q => wpAny_UnaryOp (h A s _ _ hA g re fun va s₁ x₁ r₁ _ => by
    obtain ⟨t, rfl⟩ := r₁
    exact invert_int (q _ _ (x₁.trans (Ext.tok s₁ _)) ⟨_, rfl⟩ (.no rfl)))
theorem Ev.neg {e : Expr} {p : Pos} {a : Nat} (h : Ev prog w n env cx vals e (.s (.nat a))) : Ev prog w n env cx vals (.UnaryOp .USub e p) (.s (.int (-(a : Int)))) :=
  fun A s Q E hA g re q => wpAny_UnaryOp (h A s _ _ hA g re fun va s₁ x₁ r₁ _ => by
    obtain ⟨t, rfl⟩ := r₁
    exact neg_int (q _ _ (x₁.trans (Ext.tok s₁ _)) ⟨_, rfl⟩ (.no rfl)))
theorem Op2.addS {a b : Str} (h : a.length + b.length ≤ 16777216) : Op2 prog w n .Add (.s (.str a)) (.s (.str b)) (.s (.str (a ++ b))) := by
  rintro A s Q E _ _ hA g ⟨t, rfl⟩ ⟨u, rfl⟩ q
  exact PyProof.Rows.add_str (fun t' tk => q _ _ (Ext.tok s _) ⟨_, rfl⟩ (.no rfl)) (by rw [sizeLine_eq]; exact h)
theorem Op2.addB {a b : Array UInt8} (h : a.size + b.size ≤ 16777216) : Op2 prog w n .Add (.s (.bytes a)) (.s (.bytes b)) (.s (.bytes (a ++ b))) := by
  rintro A s Q E _ _ hA g ⟨t, rfl⟩ ⟨u, rfl⟩ q
  exact KBy.add_bytes h (fun t' tk => q _ _ (Ext.tok s _) ⟨_, rfl⟩ (.no rfl))
end
end Mine
end
section
open PySem PySem.W PyProof.Rows PySem.Calls PySem.Spec
set_option Elab.async false
set_option maxRecDepth 100000
set_option maxHeartbeats 8000000
set_option linter.unusedVariables false
set_option genSizeOf false
namespace Mine
section
variable {prog : Program} {w : World} {n : Nat} {env : Env} {cx : Cx} {vals : List V}
theorem Tv.cmp {l r : Expr} {op : CmpOp} {p : Pos} {a b : V} {c : Bool} (hl : Ev prog w n env cx vals l a) (hr : Ev prog w n env cx vals r b) (ho : Cm2 prog w n op a b c) (hm : behindInMarks op r = false) :
    Tv prog w n env cx vals (.Compare l [op] [r] p) c :=
  fun A s Q E hA g re q => wpAny_isTrue_Compare1 (hl A s _ _ hA g re fun va s₁ x₁ r₁ _ => hr A s₁ _ _ hA (g.keep x₁.keep) (re.keep x₁.keep) fun vb s₂ x₂ r₂ _ =>
    ho A s₂ _ _ va vb hA (g.keep (x₁.trans x₂).keep) (r₁.keep x₂.keep) r₂ fun s₃ x₃ => wpAny_truthy_bool (q s₃ ((x₁.trans x₂).trans x₃))) hm
theorem Ev.cmp {l r : Expr} {op : CmpOp} {p : Pos} {a b : V} {c : Bool} (hl : Ev prog w n env cx vals l a) (hr : Ev prog w n env cx vals r b) (ho : Cm2 prog w n op a b c) (hm : behindInMarks op r = false) :
    Ev prog w n env cx vals (.Compare l [op] [r] p) (.s (.bool c)) :=
  fun A s Q E hA g re q => wpAny_Compare1 (hl A s _ _ hA g re fun va s₁ x₁ r₁ _ => hr A s₁ _ _ hA (g.keep x₁.keep) (re.keep x₁.keep) fun vb s₂ x₂ r₂ _ =>
    ho A s₂ _ _ va vb hA (g.keep (x₁.trans x₂).keep) (r₁.keep x₂.keep) r₂ fun s₃ x₃ => q _ s₃ ((x₁.trans x₂).trans x₃) rfl (.no rfl)) hm
theorem Tv.val {e : Expr} {a : V} {b : Bool} (h : Ev prog w n env cx vals e a) (ht : Tr prog w n a b)
    (he : isTrue e env (eval e env) = (do let v ← eval e env; standAt e.pos; holding [v] (truthy v))) : Tv prog w n env cx vals e b :=
  fun A s Q E hA g re q => wpAny_isTrue_value (h A s _ _ hA g re fun va s₁ x₁ r₁ _ => ht A s₁ _ _ va hA (g.keep x₁.keep) r₁ fun s₂ x₂ => q s₂ (x₁.trans x₂)) he
theorem Tv.not {e : Expr} {p : Pos} {b : Bool} (h : Tv prog w n env cx vals e b) : Tv prog w n env cx vals (.UnaryOp .Not e p) (!b) :=
  fun A s Q E hA g re q => wpAny_isTrue_Not (h A s _ _ hA g re fun s₁ x₁ => q s₁ x₁)
theorem Tv.and2 {x y : Expr} {p : Pos} {a b : Bool} (hx : Tv prog w n env cx vals x a) (hy : a = true → Tv prog w n env cx vals y b) : Tv prog w n env cx vals (.BoolOp .And [x, y] p) (a && b) :=
  fun A s Q E hA g re q => wpAny_isTrue_BoolOp (wpAny_allTrue_And_cons (hx A s _ _ hA g re fun s₁ x₁ => by
    cases a with
    | false => exact q s₁ x₁
    | true => exact wpAny_allTrue_And_cons (hy rfl A s₁ _ _ hA (g.keep x₁.keep) (re.keep x₁.keep) fun s₂ x₂ => by
        cases b with
        | false => exact q s₂ (x₁.trans x₂)
        | true => exact wpAny_allTrue_And_nil (q s₂ (x₁.trans x₂)))))
theorem Tv.or3 {x y z : Expr} {p : Pos} {a b c : Bool} (hx : Tv prog w n env cx vals x a) (hy : a = false → Tv prog w n env cx vals y b) (hz : a = false → b = false → Tv prog w n env cx vals z c) :
    Tv prog w n env cx vals (.BoolOp .Or [x, y, z] p) (a || b || c) :=
  fun A s Q E hA g re q => wpAny_isTrue_BoolOp (wpAny_allTrue_Or_cons (hx A s _ _ hA g re fun s₁ x₁ => by
    cases a with
    | true => exact q s₁ x₁
    | false => exact wpAny_allTrue_Or_cons (hy rfl A s₁ _ _ hA (g.keep x₁.keep) (re.keep x₁.keep) fun s₂ x₂ => by
        cases b with
        | true => exact q s₂ (x₁.trans x₂)
        | false => exact wpAny_allTrue_Or_cons (hz rfl rfl A s₂ _ _ hA (g.keep (x₁.trans x₂).keep) (re.keep (x₁.trans x₂).keep) fun s₃ x₃ => by
            cases c with
            | true => exact q s₃ ((x₁.trans x₂).trans x₃)
            | false => exact wpAny_allTrue_Or_nil (q s₃ ((x₁.trans x₂).trans x₃))))))
theorem Ev.ifexp {t x y : Expr} {p : Pos} {b : Bool} {pv : V} (ht : Tv prog w n env cx vals t b) (hx : b = true → Ev prog w n env cx vals x pv) (hy : b = false → Ev prog w n env cx vals y pv) : Ev prog w n env cx vals (.IfExp t x y p) pv :=
  fun A s Q E hA g re q => wpAny_IfExp (ht A s _ _ hA g re fun s₁ x₁ => by
    cases b with
    | true => exact hx rfl A s₁ _ _ hA (g.keep x₁.keep) (re.keep x₁.keep) fun v s₂ x₂ r₂ f₂ => q v s₂ (x₁.trans x₂) r₂ (f₂.back x₁)
    | false => exact hy rfl A s₁ _ _ hA (g.keep x₁.keep) (re.keep x₁.keep) fun v s₂ x₂ r₂ f₂ => q v s₂ (x₁.trans x₂) r₂ (f₂.back x₁))
theorem Ev.toInt {e : Expr} {a : Nat} (h : Ev prog w n env cx vals e (.s (.nat a))) : Ev prog w n env cx vals e (.s (.int (a : Int))) :=
  fun A s Q E hA g re q => h A s _ _ hA g re fun v s₁ x₁ r₁ f₁ => q v s₁ x₁ r₁ (.no rfl)
theorem Ev.toNat {e : Expr} {a : Int} {m : Nat} (h : Ev prog w n env cx vals e (.s (.int a))) (hm : a = (m : Int)) : Ev prog w n env cx vals e (.s (.nat m)) :=
  fun A s Q E hA g re q => h A s _ _ hA g re fun v s₁ x₁ r₁ f₁ => q v s₁ x₁ (let ⟨t, e⟩ := r₁; ⟨t, by rw [e, hm]⟩) (.no rfl)
theorem Ev.eq {e : Expr} {a b : V} (h : Ev prog w n env cx vals e a) (hm : a = b) : Ev prog w n env cx vals e b := hm ▸ h
theorem Tr.nat {a : Nat} : Tr prog w n (.s (.nat a)) (decide (a ≠ 0)) := by
  rintro A s Q E _ hA g ⟨t, rfl⟩ q
  refine PyProof.Rows.truthy_int ?_
  have e : (((a : Int) != 0) : Bool) = decide (a ≠ 0) := by
    by_cases h : a = 0 <;> simp [h]
  rw [e]; exact q s (Ext.refl s)
theorem Tr.bool {a : Bool} : Tr prog w n (.s (.bool a)) a := by
  rintro A s Q E _ hA g rfl q
  exact wpAny_truthy_bool (q s (Ext.refl s))
theorem Cm2.eqN {a b : Nat} : Cm2 prog w n .Eq (.s (.nat a)) (.s (.nat b)) (decide (a = b)) := by
  rintro A s Q E _ _ hA g ⟨t, rfl⟩ ⟨u, rfl⟩ q
  refine PyProof.Rows.eq_int ?_
  have e : (((a : Int) == (b : Int)) : Bool) = decide (a = b) := by by_cases h : a = b <;> simp [h] <;> omega
  rw [e]; exact q s (Ext.refl s)
theorem Cm2.neN {a b : Nat} : Cm2 prog w n .NotEq (.s (.nat a)) (.s (.nat b)) (decide (a ≠ b)) := by
  rintro A s Q E _ _ hA g ⟨t, rfl⟩ ⟨u, rfl⟩ q
  refine PyProof.Rows.ne_int ?_
  have e : (((a : Int) != (b : Int)) : Bool) = decide (a ≠ b) := by by_cases h : a = b <;> simp [h] <;> omega
  rw [e]; exact q s (Ext.refl s)
theorem Cm2.ltN {a b : Nat} : Cm2 prog w n .Lt (.s (.nat a)) (.s (.nat b)) (decide (a < b)) := by
  rintro A s Q E _ _ hA g ⟨t, rfl⟩ ⟨u, rfl⟩ q
  refine PyProof.Rows.lt_int ?_
  have e : decide ((a : Int) < (b : Int)) = decide (a < b) := by by_cases h : a < b <;> simp [h]
  rw [e]; exact q s (Ext.refl s)
theorem Cm2.gtN {a b : Nat} : Cm2 prog w n .Gt (.s (.nat a)) (.s (.nat b)) (decide (b < a)) := by
  rintro A s Q E _ _ hA g ⟨t, rfl⟩ ⟨u, rfl⟩ q
  refine PyProof.Rows.gt_int ?_
  have e : decide ((b : Int) < (a : Int)) = decide (b < a) := by by_cases h : b < a <;> simp [h]
  rw [e]; exact q s (Ext.refl s)
theorem Cm2.eqS {a b : Str} : Cm2 prog w n .Eq (.s (.str a)) (.s (.str b)) (a == b) := by
  rintro A s Q E _ _ hA g ⟨t, rfl⟩ ⟨u, rfl⟩ q
  exact PyProof.Rows.eq_str (q s (Ext.refl s))
theorem Cm2.neS {a b : Str} : Cm2 prog w n .NotEq (.s (.str a)) (.s (.str b)) (a != b) := by
  rintro A s Q E _ _ hA g ⟨t, rfl⟩ ⟨u, rfl⟩ q
  exact PyProof.Rows.ne_str (q s (Ext.refl s))
theorem Cm2.eqB {a b : Array UInt8} : Cm2 prog w n .Eq (.s (.bytes a)) (.s (.bytes b)) (a.toList == b.toList) := by
  rintro A s Q E _ _ hA g ⟨t, rfl⟩ ⟨u, rfl⟩ q
  exact eq_bytes (q s (Ext.refl s))
noncomputable def S.py : S → PyData
  | .none => .none
  | .bool b => .bool b
  | .nat n => .int n
  | .int i => .int i
  | .str x => .str x
  | .bytes _ => .none
  | .pair a b => .tuple [.int a, .int b]
  | .spair a b => .tuple [.str a, .str b]
noncomputable def S.plain : S → Bool
  | .nat _ => true
  | .int _ => true
  | .pair _ _ => true
  | _ => false
theorem RepS.reads {h : Heap} {v : Value} : ∀ {x : S}, x.plain = true → RepS h v x → Reads h v x.py [] := by
  intro x hp r
  cases x with
  | nat _ => obtain ⟨t, rfl⟩ := r; exact .int _ t
  | int _ => obtain ⟨t, rfl⟩ := r; exact .int _ t
  | pair a b =>
    obtain ⟨p, ta, tb, rfl, o, ho, hc, k, hd⟩ := r
    exact .tuple ho hc hd (.cons (.int _ ta) (.cons (.int _ tb) .nil))
  | _ => cases hp
theorem reads_all {h : Heap} : ∀ {vs : List Value} {l : List S}, (l.all S.plain) = true → All2 (RepS h) vs l → ReadsAll h vs (l.map S.py) [] := by
  intro vs l hp x
  induction x with
  | nil => exact .nil
  | cons r t ih =>
    rw [List.all_cons, Bool.and_eq_true] at hp
    exact ReadsAll.cons (r.reads hp.1) (ih hp.2)
theorem RepL.reads {h : Heap} {a : Addr} {l : List S} (hp : (l.all S.plain) = true) : RepL h a l → Reads h (.ref a) (.list (l.map S.py)) [a]
  | ⟨vs, ⟨n, p⟩, x⟩ => .list p rfl rfl (by simpa using reads_all hp x)
theorem S.shaped : ∀ {x : S}, x.plain = true → x.py.canLay0 = true ∧ x.py.depth ≤ 1 := by
  intro x hp
  cases x with
  | nat _ => exact ⟨rfl, Nat.le_of_ble_eq_true rfl⟩
  | int _ => exact ⟨rfl, Nat.le_of_ble_eq_true rfl⟩
  | pair _ _ => exact ⟨rfl, Nat.le_of_ble_eq_true rfl⟩
  | _ => cases hp
theorem shaped_all : ∀ {l : List S}, (l.all S.plain) = true → PyData.canLayAll0 (l.map S.py) = true ∧ PyData.depthAll (l.map S.py) ≤ 1
  | [], _ => ⟨rfl, by decide⟩
  | x :: r, hp => by
    rw [List.all_cons, Bool.and_eq_true] at hp
    have h1 := S.shaped hp.1
    have h2 := shaped_all hp.2
    refine ⟨by simp [PyData.canLayAll0, h1.1, h2.1], ?_⟩
    simp only [List.map_cons, PyData.depthAll]
    omega
theorem shaped_list {l : List S} (hp : (l.all S.plain) = true) : PySem.SeqAt.shaped (.list (l.map S.py)) = true := by
  have h := shaped_all hp
  simp only [PySem.SeqAt.shaped, PyData.canLay0, PyData.depth, h.1, Bool.true_and]
  exact decide_eq_true (by omega)
theorem eqv_nil (l : List S) : PyData.eqv (.list (l.map S.py)) (.list []) = l.isEmpty := by
  cases l <;> simp [PyData.eqv, PyData.eqvAll]
theorem Cm2.eqNil {l : List S} {o o' : Fl} (hp : (l.all S.plain) = true) : Cm2 prog w n .Eq (.lst o l) (.lst o' []) l.isEmpty := by
  rintro A s Q E _ _ hA g ⟨a, rfl, ra⟩ ⟨b, rfl, rb⟩ q
  refine eq_dataH (ra.reads hp) (rb.reads rfl) (shaped_list hp) (shaped_list (l := []) rfl) (by have := hA.un; omega) ?_
  rw [List.map_nil, eqv_nil]; exact q s (Ext.refl s)
theorem Cm2.neNil {l : List S} {o o' : Fl} (hp : (l.all S.plain) = true) : Cm2 prog w n .NotEq (.lst o l) (.lst o' []) (!l.isEmpty) := by
  rintro A s Q E _ _ hA g ⟨a, rfl, ra⟩ ⟨b, rfl, rb⟩ q
  refine ne_dataH (ra.reads hp) (rb.reads rfl) (shaped_list hp) (shaped_list (l := []) rfl) (by have := hA.un; omega) ?_
  rw [List.map_nil, eqv_nil]; exact q s (Ext.refl s)
theorem eqv_ints : ∀ (l l' : List Int), PyData.eqvAll ((l.map S.int).map S.py) ((l'.map S.int).map S.py) = decide (l = l')
  | [], [] => by simp [PyData.eqvAll]
  | [], _ :: _ => by simp [PyData.eqvAll]
  | _ :: _, [] => by simp [PyData.eqvAll]
  | a :: r, b :: t => by
    simp only [List.map_cons, PyData.eqvAll, eqv_ints r t, S.py, PyData.eqv]
    by_cases h : a = b <;> by_cases h' : r = t <;> simp [h, h']
theorem plain_ints (l : List Int) : (l.map S.int).all S.plain = true := by induction l <;> simp_all [S.plain]
theorem plain_nats (l : List Nat) : (l.map S.nat).all S.plain = true := by induction l <;> simp_all [S.plain]
theorem plain_pairs (l : List (Nat × Nat)) : (l.map fun p => S.pair p.1 p.2).all S.plain = true := by induction l <;> simp_all [S.plain]
theorem Cm2.neInts {l l' : List Int} {o o' : Fl} : Cm2 prog w n .NotEq (.lst o (l.map .int)) (.lst o' (l'.map .int)) (!decide (l = l')) := by
  rintro A s Q E _ _ hA g ⟨a, rfl, ra⟩ ⟨b, rfl, rb⟩ q
  refine ne_dataH (ra.reads (plain_ints l)) (rb.reads (plain_ints l')) (shaped_list (plain_ints l)) (shaped_list (plain_ints l')) (by have := hA.un; omega) ?_
  have : PyData.eqv (.list ((l.map S.int).map S.py)) (.list ((l'.map S.int).map S.py)) = decide (l = l') := eqv_ints l l'
  rw [this]; exact q s (Ext.refl s)
end
end Mine
end
section
open PySem PySem.W PyProof.Rows PySem.Calls PySem.Spec
set_option Elab.async false
set_option maxRecDepth 100000
set_option maxHeartbeats 8000000
set_option linter.unusedVariables false
set_option genSizeOf false
namespace Mine
section
variable (prog : Program) (w : World) (n : Nat) (env : Env) (cx : Cx) (vals : List V)
noncomputable def EvA (p : Pos) (elts : List Expr) (pvs : List V) : Prop :=
  ∀ (A : Around) (s : Shared) (Q : List Value → Shared → Prop) (E : Value → Shared → Prop), Ok A n → Glob w s.heap → RepE env cx vals s.heap →
    (∀ vs s', Ext s s' → All2 (RepV s'.heap) vs pvs → Q vs s') → wpAny (model prog w) A (spliced (backTo p (starEach elts env))) Q E s
noncomputable def CallOk (f : Value) (pvs : List V) (res : V) : Prop :=
  ∀ (A : Around) (s : Shared) (Q E : Value → Shared → Prop) (vs : List Value), Ok A n → Glob w s.heap → All2 (RepV s.heap) vs pvs →
    (∀ v s', Ext s s' → RepV s'.heap v res → Fresh res s s' v → Q v s') → wpAny (model prog w) A (call f vs) Q E s
noncomputable def GetOk (a b c : V) : Prop := ∀ (A : Around) (s : Shared) (Q E : Value → Shared → Prop) (va vb : Value), Ok A n → Glob w s.heap → RepV s.heap va a → RepV s.heap vb b →
  (∀ v s', Ext s s' → RepV s'.heap v c → Fresh c s s' v → Q v s') → (∃ T id, s.TypeIs va T ∧ typeLookup (.type T) "__getitem__" = pure (some (.builtin id))) ∧ wpAny (model prog w) A (getItem va vb) Q E s
end
section
variable {prog : Program} {w : World} {n : Nat} {env : Env} {cx : Cx} {vals : List V}
theorem EvA.nil {p : Pos} : EvA prog w n env cx vals p [] [] := fun A s Q E hA g re q => wpAny_items_nil (q [] s (Ext.refl s) .nil)
theorem EvA.cons {p : Pos} {e : Expr} {es : List Expr} {a : V} {as : List V} (h : Ev prog w n env cx vals e a) (t : EvA prog w n env cx vals p es as)
    (he : starEach (e :: es) env = (false, eval e env) :: starEach es env) : EvA prog w n env cx vals p (e :: es) (a :: as) :=
  fun A s Q E hA g re q => wpAny_items_cons (h A s _ _ hA g re fun v s₁ x₁ r₁ _ => t A s₁ _ _ hA (g.keep x₁.keep) (re.keep x₁.keep) fun vs s₂ x₂ r₂ => q _ s₂ (x₁.trans x₂) (.cons (r₁.keep x₂.keep) r₂)) he
theorem Ev.callB {f : Str} {p0 p : Pos} {v : Value} {e : Expr} {es : List Expr} {pvs : List V} {res : V} (hx : f ∈ cx.gs)
    (hK : nsIn (hd.heap_1 w.params) mainGlobals f = some none) (hv : bootBuiltins f = some v) (hn : f ≠ "__name__") (hd' : (f == ("__debug__" : Str)) = false)
    (hw : (∃ id, v = .builtin id) ∨ ∃ T, v = .type T)
    (ha : EvA prog w n env cx vals p (e :: es) pvs) (hc : CallOk prog w n v pvs res)
    (he : starEach (e :: es) env = (false, eval e env) :: starEach es env) (hp : (backTo p (starEach es env)).any (·.1) = false) :
    Ev prog w n env cx vals (.Call (.Name f p0) (e :: es) [] p) res := by
  intro A s Q E hA g re q
  refine wpAny_Call_NameR (wp_boot re.eo g hx hK hv hn hd' ?_)
  have hplain : (backTo p (starEach (e :: es) env)).any (·.1) = false := by
    rw [he]; show (false || (backTo p (starEach es env)).any (·.1)) = false; rw [hp]; rfl
  have key : wpAny (model prog w) A (evalArgs v true (backTo p (starEach (e :: es) env)) []) (fun a s₁ => wpAny (model prog w) A (call v ([] ++ a.pos) a.kw) Q E s₁) E s := by
    have h' := ha A s (fun vs s₁ => wpAny (model prog w) A (call v ([] ++ vs) []) Q E s₁) E hA g re fun vs s₁ x₁ r₁ => hc A s₁ _ _ vs hA (g.keep x₁.keep) r₁ fun u s₂ x₂ r₂ f₂ => q u s₂ (x₁.trans x₂) r₂ (f₂.back x₁)
    rw [he] at h' ⊢
    exact evalArgs_plain h'
  rcases hw with ⟨id, rfl⟩ | ⟨T, rfl⟩
  · exact Calls.callWith_builtin hplain key
  · exact PySem.callWith_type hplain key
theorem Ev.callF {f : Str} {p0 p : Pos} {a : Addr} {e : Expr} {es : List Expr} {pvs : List V} {res : V} (hx : f ∈ cx.gs)
    (hK : nsIn (hd.heap_1 w.params) mainGlobals f = some (some (.ref a))) (hk : keepIn (hd.heap_1 w.params) (.ref a) = true) (hd' : (f == ("__debug__" : Str)) = false)
    (ha : EvA prog w n env cx vals p (e :: es) pvs) (hc : CallOk prog w n (.ref a) pvs res)
    (he : starEach (e :: es) env = (false, eval e env) :: starEach es env) (hp : (backTo p (starEach es env)).any (·.1) = false) :
    Ev prog w n env cx vals (.Call (.Name f p0) (e :: es) [] p) res := by
  intro A s Q E hA g re q
  refine wpAny_Call_NameR (wp_glob re.eo g hx hK hd' (callWith_K g.K hk (ha A s _ _ hA g re fun vs s₁ x₁ r₁ => ⟨(g.keep x₁.keep).K, ?_⟩) he hp))
  exact hc A s₁ _ _ vs hA (g.keep x₁.keep) r₁ fun u s₂ x₂ r₂ f₂ => q u s₂ (x₁.trans x₂) r₂ (f₂.back x₁)
theorem EvA.flat {p : Pos} {elts : List Expr} {xs : List S} (h : EvA prog w n env cx vals p elts (xs.map .s)) :
    ∀ (A : Around) (s : Shared) (Q : List Value → Shared → Prop) (E : Value → Shared → Prop), Ok A n → Glob w s.heap → RepE env cx vals s.heap →
    (∀ vs s', Ext s s' → All2 (RepS s'.heap) vs xs → Q vs s') → wpAny (model prog w) A (spliced (backTo p (starEach elts env))) Q E s :=
  fun A s Q E hA g re q => h A s Q E hA g re fun vs s' x r => q vs s' x (by
    clear q h
    induction xs generalizing vs with
    | nil => cases r; exact .nil
    | cons a as ih => cases r with | cons h t => exact .cons h (ih _ t))
theorem fresh_size (s : Shared) : s.heap.get? s.heap.objs.size = none := by
  cases q : s.heap.get? s.heap.objs.size with
  | none => rfl
  | some o => exact absurd (Heap.lt_size q) (Nat.lt_irrefl _)
theorem Fresh.new {o : Fl} {l : List S} {s s₁ s' : Shared} (x : Ext s s₁) : Fresh (.lst o l) s s' (.ref s₁.heap.objs.size) := by
  cases o with
  | own => exact fun a e => by cases e; exact none_back x (fresh_size s₁)
  | _ => trivial
theorem isList_push (h : Heap) (vs : List Value) : (h.push { cls := .type "list", data := .seq vs.toArray }).PlainList h.objs.size vs.toArray := ⟨_, Heap.get?_push_size _ rfl⟩
theorem Ev.list {p : Pos} {elts : List Expr} {xs : List S} (h : EvA prog w n env cx vals p elts (xs.map .s)) (hsz : xs.length ≤ 16777216) : Ev prog w n env cx vals (.List elts p) (.lst .own xs) := by
  intro A s Q E hA g re q
  refine wpAny_List (h.flat A s _ _ hA g re fun vs s₁ x₁ r₁ => ⟨by rw [r₁.length, sizeLine_eq]; exact hsz, ?_⟩)
  refine q _ _ (x₁.trans ⟨KeepA.push _ _, rfl, .refl _⟩) ⟨_, rfl, vs, isList_push _ _, r₁.mono fun _ _ r => r.keep (KeepA.push _ _).toT⟩ (Fresh.new x₁)
theorem Ev.pair {p : Pos} {e1 e2 : Expr} {k : Nat} {a b : Nat} (h : EvA prog w n env cx vals p [e1, e2] [.s (.nat a), .s (.nat b)]) : Ev prog w n env cx vals (.Tuple [e1, e2] k p) (.s (.pair a b)) := by
  intro A s Q E hA g re q
  refine wpAny_Tuple (h.flat (xs := [.nat a, .nat b]) A s _ _ hA g re fun vs s₁ x₁ r₁ => ⟨by rw [r₁.length, sizeLine_eq]; show 2 ≤ 16777216; decide, ?_⟩)
  cases r₁ with
  | cons h1 t => cases t with
    | cons h2 t => cases t with
      | nil =>
        obtain ⟨ta, rfl⟩ := h1
        obtain ⟨tb, rfl⟩ := h2
        exact q _ _ (x₁.trans ⟨KeepA.push _ _, rfl, .refl _⟩) ⟨_, ta, tb, rfl, _, Heap.get?_push_size _ rfl, rfl, _, rfl⟩ (.no rfl)
theorem Ev.sub {value slice : Expr} {p : Pos} {a b c : V} (hv : Ev prog w n env cx vals value a) (hs : Ev prog w n env cx vals slice b) (hg : GetOk prog w n a b c)
    (hsub : ∀ o i, subscripted slice false o i = operate [o, i] (getItem o i)) : Ev prog w n env cx vals (.Subscript value slice p) c := by
  intro A s Q E hA g re q
  refine Subscript_ (hv A s _ _ hA g re fun va s₁ x₁ r₁ _ => hs A s₁ _ _ hA (g.keep x₁.keep) (re.keep x₁.keep) fun vb s₂ x₂ r₂ _ => ?_)
  obtain ⟨⟨T, id, hT, hl⟩, hw⟩ := hg A s₂ Q E va vb hA (g.keep (x₁.trans x₂).keep) (r₁.keep x₂.keep) r₂ fun v s₃ x₃ r₃ f₃ => q v s₃ ((x₁.trans x₂).trans x₃) r₃ (f₃.back (x₁.trans x₂))
  exact tail_any hT hl hw (hsub _ _)
theorem GetOk.list {o : Fl} {l : List S} {i : Nat} {x : S} (hi : i < 2 ^ 62) (hx : l[i]? = some x) : GetOk prog w n (.lst o l) (.s (.nat i)) (.s x) := by
  rintro A s Q E _ _ hA g ⟨a, rfl, vs, hp, r⟩ ⟨t, rfl⟩ q
  have hl := hp.isList
  obtain ⟨v, hv, rv⟩ := r.get hx
  exact ⟨⟨_, _, hl.typeIs, slot_list_getitem.lookup⟩, wpAny_getItem_list hl (by omega) (by omega) (by simpa using hv) (q v s (Ext.refl s) rv (.no rfl))⟩
theorem GetOk.listNeg {o : Fl} {l : List S} {k : Nat} {x : S} (hk : 1 ≤ k) (hl : k ≤ l.length) (hb : k < 1000) (hx : l[l.length - k]? = some x) : GetOk prog w n (.lst o l) (.s (.int (-(k : Int)))) (.s x) := by
  rintro A s Q E _ _ hA g ⟨a, rfl, vs, hp, r⟩ ⟨t, rfl⟩ q
  have hl' := hp.isList
  obtain ⟨v, hv, rv⟩ := r.get hx
  have hlen := r.length
  refine ⟨⟨_, _, hl'.typeIs, slot_list_getitem.lookup⟩, wpAny_getItem_list_neg hl' (by omega) (by rw [List.size_toArray]; omega) (by omega) ?_ (q v s (Ext.refl s) rv (.no rfl))⟩
  rw [List.size_toArray]
  have e : (-(k : Int) + (vs.length : Nat)).toNat = l.length - k := by omega
  rw [e]; simpa using hv
theorem GetOk.str {x : Str} {i : Nat} {c : Nat} (hi : i < 2 ^ 62) (hc : x.cps[i]? = some c) : GetOk prog w n (.s (.str x)) (.s (.nat i)) (.s (.str ⟨#[c]⟩)) := by
  rintro A s Q E _ _ hA g ⟨t, rfl⟩ ⟨u, rfl⟩ q
  refine ⟨⟨_, _, typeIs_str s x t, PySem.F.slot_str_getitem.lookup⟩, PyProof.Rows.getItem_str ?_ ?_ (q _ _ (Ext.tok s _) ⟨_, rfl⟩ (.no rfl))⟩
  · simp only [Bool.or_eq_false_iff, decide_eq_false_iff_not]; omega
  · have hlt : i < x.length := (Array.getElem?_eq_some_iff.mp hc).1
    have : seqIndex? (i : Int) x.length = some i := by
      have h1 : ¬ ((i : Int) < 0) := by omega
      simp [seqIndex?, h1, hlt]
    rw [this]; exact hc
end
end Mine
end
section
open PySem PySem.W PyProof.Rows PySem.Calls PySem.Spec
set_option Elab.async false
set_option maxRecDepth 100000
set_option maxHeartbeats 8000000
set_option linter.unusedVariables false
set_option genSizeOf false
namespace Mine
/-- the objects outside `T` stay -/
noncomputable def KeepX (T : Addr → Prop) (h h' : Heap) : Prop := ∀ b o, ¬ T b → h.get? b = some o → h'.get? b = some o
noncomputable def Odd (o : Obj) : Prop := (∃ es n, o.data = .dict es n) ∨ (∃ v, o.data = .cell v) ∨ ((∃ vs, o.data = .fields vs) ∧ o.cls ≠ .type "range")
theorem Odd.noSeq {o : Obj} (x : Odd o) {items n} (h : o.data = .seq items n) : False := by
  rcases x with ⟨es, m, e⟩ | ⟨v, e⟩ | ⟨⟨v, e⟩, _⟩ <;> rw [h] at e <;> cases e
theorem Odd.noRange {o : Obj} (x : Odd o) {vs} (h : o.data = .fields vs) (hc : o.cls = .type "range") : False := by
  rcases x with ⟨es, m, e⟩ | ⟨v, e⟩ | ⟨_, e⟩
  · rw [h] at e; cases e
  · rw [h] at e; cases e
  · exact e hc
theorem Odd.noPlain {o : Obj} (x : Odd o) (h : o.data = .plain) : False := by
  rcases x with ⟨es, m, e⟩ | ⟨v, e⟩ | ⟨⟨v, e⟩, _⟩ <;> rw [h] at e <;> cases e
section
variable {T : Addr → Prop} {h h' : Heap}
theorem keepT_of (k : KeepX T h h') (hT : ∀ b o, T b → h.get? b = some o → ∀ items n, o.cls = .type "tuple" → o.data = .seq items n → False) : KeepT h h' := fun a items ⟨o, ho, hc, n, hd⟩ =>
  ⟨o, k a o (fun t => hT a o t ho items n hc hd) ho, hc, n, hd⟩
theorem isList_of (k : KeepX T h h') {a : Addr} {its : Array Value} (hn : ¬ T a) (x : h.IsList a its) : h'.IsList a its := let ⟨o, ho, r⟩ := x; ⟨o, k a o hn ho, r⟩
/-- what stays of a value when odd objects (a frame's dict, cells) turn -/
theorem RepV.odd (k : KeepX T h h') (hT : ∀ b o, T b → h.get? b = some o → Odd o) {v : Value} :
    ∀ {pv : V}, (∀ x dx lh, v = .ref x → HdrRaw h x dx lh → (∃ o l, pv = .hdr o l) → ¬ T dx) → RepV h v pv → RepV h' v pv := by
  intro pv hx r
  have kt : KeepT h h' := keepT_of k fun b o t ho items n _ hd => (hT b o t ho).noSeq hd
  cases pv with
  | unset => trivial
  | s _ => exact RepS.keep kt r
  | rng n => obtain ⟨a, t, u, w, e, i, hn⟩ := r; exact ⟨a, t, u, w, e, k _ _ (fun q => (hT a _ q i).noRange rfl rfl) i, hn⟩
  | lst _ l => obtain ⟨a, e, vs, ⟨n, p⟩, r⟩ := r; exact ⟨a, e, vs, ⟨n, k a _ (fun q => (hT a _ q p).noSeq rfl) p⟩, r.mono fun _ _ y => y.keep kt⟩
  | «at» _ l => obtain ⟨e, vs, ⟨n, p⟩, r⟩ := r; exact ⟨e, vs, ⟨n, k _ _ (fun q => (hT _ _ q p).noSeq rfl) p⟩, r.mono fun _ _ y => y.keep kt⟩
  | val _ => exact r
  | raw l => obtain ⟨a, e, vs, ⟨o, ho, hc, n, hd⟩, r⟩ := r; exact ⟨a, e, vs, ⟨o, k a o (fun q => (hT a o q ho).noSeq hd) ho, hc, n, hd⟩, r.mono fun _ _ y => y.keep kt⟩
  | hdr _ l =>
    obtain ⟨x, dx, lh, e, r, vs, ⟨n, p⟩, q⟩ := r
    have hdx := hx x dx lh e r ⟨_, _, rfl⟩
    obtain ⟨r1, hs, t, r2⟩ := r
    exact ⟨x, dx, lh, e, ⟨k _ _ (fun q => (hT x _ q r1).noPlain rfl) r1, hs, t, k _ _ hdx r2⟩, vs, ⟨n, k lh _ (fun q => (hT lh _ q p).noSeq rfl) p⟩, q.mono fun _ _ y => y.keep kt⟩
theorem HdrRaw.uniq {h : Heap} {x dx dx' lh lh' : Addr} (r : HdrRaw h x dx lh) (r' : HdrRaw h x dx' lh') : dx = dx' ∧ lh = lh' := by
  obtain ⟨a, hs, t, b⟩ := r
  obtain ⟨a', hs', t', b'⟩ := r'
  have e := a.symm.trans a'
  cases e
  have e := congrArg Obj.data (Option.some.inj (b.symm.trans b'))
  injection e with e3 _
  have e4 := congrArg Array.toList e3
  simp at e4
  exact ⟨rfl, e4.2.2⟩
end
noncomputable def hdrName : Str := Str.ofString "_headers"
structure Frm (env : Env) (ns : List (Str × Bool)) (h : Heap) : Prop where
  loc : ∀ x, (x, false) ∈ ns → env.kindOf x = some .local
  cel : ∀ x, (x, true) ∈ ns → env.kindOf x = some .cell ∧ ∃ c v, env.cells.lookup x = some c ∧ c ≠ env.locals ∧ h.IsCell c v
  inj : ∀ x y c, (x, true) ∈ ns → (y, true) ∈ ns → env.cells.lookup x = some c → env.cells.lookup y = some c → x = y
  lns : ∃ m, h.Ns env.locals m ∧ m hdrName = none
  nd : (ns.map (·.1)).Nodup
  nh : ∀ p ∈ ns, p.1 ≠ hdrName
noncomputable def Tch (env : Env) (ns : List (Str × Bool)) (a : Addr) : Prop := a = env.locals ∨ ∃ x, (x, true) ∈ ns ∧ env.cells.lookup x = some a
section
variable {env : Env} {ns : List (Str × Bool)} {h h' : Heap}
theorem ns_odd {a : Addr} {m} (n : h.Ns a m) {o : Obj} (ho : h.get? a = some o) : Odd o := by
  obtain ⟨o', es, ep, ho', hd, _⟩ := n
  rw [ho] at ho'; cases ho'
  exact .inl ⟨_, _, hd⟩
theorem cell_odd {a : Addr} {v} (n : h.IsCell a v) {o : Obj} (ho : h.get? a = some o) : Odd o := by
  obtain ⟨o', ho', hd⟩ := n
  rw [ho] at ho'; cases ho'
  exact .inr (.inl ⟨_, hd⟩)
theorem Frm.odd (F : Frm env ns h) {a : Addr} (t : Tch env ns a) {o : Obj} (ho : h.get? a = some o) : Odd o := by
  rcases t with rfl | ⟨x, hx, e⟩
  · obtain ⟨m, n, _⟩ := F.lns; exact ns_odd n ho
  · obtain ⟨_, c, v, e', _, n⟩ := F.cel x hx
    rw [e] at e'; cases e'
    exact cell_odd n ho
theorem Frm.keep (F : Frm env ns h) (k : ∀ b o, Tch env ns b → h.get? b = some o → h'.get? b = some o) : Frm env ns h' :=
  ⟨F.loc, fun x hx => by obtain ⟨a, c, v, e, n, o, ho, hd⟩ := F.cel x hx; exact ⟨a, c, v, e, n, o, k c o (.inr ⟨x, hx, e⟩) ho, hd⟩, F.inj, by obtain ⟨m, n, hm⟩ := F.lns; exact ⟨m, n.at fun o ho => k _ o (.inl rfl) ho, hm⟩, F.nd, F.nh⟩
theorem Frm.off (F : Frm env ns h) {v : Value} : ∀ (pv : V), Off env.locals h v pv
  | .hdr _ _ => fun x dx lh e r h' => by
    subst h'
    obtain ⟨m, ⟨o, es, ep, ho, hd, _, hm⟩, hn⟩ := F.lns
    obtain ⟨_, hs, t, r2⟩ := r
    rw [r2] at ho; cases ho
    have := hm hdrName
    rw [hn] at this
    injection hd with e1 e2
    subst e1
    exact absurd this (by simp [nsFind, findBy, hdrName, Value.isStr])
  | .unset => trivial | .s _ => trivial | .rng _ => trivial | .lst _ _ => trivial | .at _ _ => trivial | .raw _ => trivial | .val _ => trivial
theorem mem_get {α : Type} {l : List α} {i : Nat} {a : α} (h : l[i]? = some a) : a ∈ l := List.mem_of_getElem? h
theorem nodup_get {α : Type} [DecidableEq α] {l : List α} (hn : l.Nodup) {i j : Nat} {a : α} (hi : l[i]? = some a) (hj : l[j]? = some a) : i = j := by
  obtain ⟨h1, e1⟩ := List.getElem?_eq_some_iff.mp hi
  obtain ⟨h2, e2⟩ := List.getElem?_eq_some_iff.mp hj
  rcases Nat.lt_trichotomy i j with q | q | q
  · exact absurd (e1.trans e2.symm) (List.pairwise_iff_getElem.mp hn i j h1 h2 q)
  · exact q
  · exact absurd (e2.trans e1.symm) (List.pairwise_iff_getElem.mp hn j i h2 h1 q)
end
section
variable {prog : Program} {w : World} {A : Around} {E : Value → Shared → Prop} {s : Shared} {env : Env} {ns : List (Str × Bool)} {vals : List V}
theorem vars_store {h h' : Heap} {k : Nat} {x : Str} {b : Bool} {v : Value} {pv : V} (V : VarsAt env ns vals h) (F : Frm env ns h) (hx : ns[k]? = some (x, b))
    (a : Addr) (ha : Tch env ns a) (hs : Heap.SameBut a h h') (hn : Bound env h' x b v) (ho : ∀ y c u, y ≠ x → (y, c) ∈ ns → Bound env h y c u → Bound env h' y c u) (hr : RepV h' v pv) (off : Off env.locals h' v pv) :
    VarsAt env ns (vals.set k pv) h' := by
  intro i y c qv h1 h2 h3
  by_cases hik : i = k
  · subst hik
    rw [hx] at h1; cases h1
    have hlt : i < vals.length := by
      rcases Nat.lt_or_ge i vals.length with q | q
      · exact q
      · rw [List.getElem?_eq_none (by simpa using q)] at h2; cases h2
    rw [List.getElem?_set_self hlt] at h2; cases h2
    exact ⟨v, hn, hr, off⟩
  · rw [List.getElem?_set_ne (Ne.symm hik)] at h2
    obtain ⟨u, hb, hv, hoff⟩ := V i y c qv h1 h2 h3
    have hy : y ≠ x := by
      rintro rfl
      have e1 : (ns.map (·.1))[i]? = some y := by rw [List.getElem?_map, h1]; rfl
      have e2 : (ns.map (·.1))[k]? = some y := by rw [List.getElem?_map, hx]; rfl
      exact hik (nodup_get F.nd e1 e2)
    have kx : KeepX (fun z => z = a) h h' := fun b o hb e => (hs.2 b hb).trans e
    have nd : ∀ x dx lh, u = .ref x → HdrRaw h x dx lh → (∃ o l, qv = .hdr o l) → dx ≠ a := by
      rintro x dx lh e r ⟨o, l, rfl⟩ rfl
      rcases ha with rfl | ⟨z, hz, e'⟩
      · exact hoff x _ lh e r rfl
      · obtain ⟨_, c', v', e'', _, oc, hoc, hdc⟩ := F.cel z hz
        rw [e'] at e''; cases e''
        obtain ⟨_, hs', t, r2⟩ := r
        rw [r2] at hoc; cases hoc; cases hdc
    have hv' : RepV h' u qv := hv.odd kx (fun b o e ho => by subst e; exact F.odd ha ho) nd
    refine ⟨u, ho y c u hy (mem_get h1) hb, hv', ?_⟩
    cases qv with
    | hdr o l =>
      intro x' dx' lh' e' r'
      obtain ⟨x2, dx2, lh2, e2, r2, _⟩ := hv
      subst e2; cases e'
      have r3 : HdrRaw h' x' dx2 lh2 := by
        obtain ⟨p, q1, q2, q⟩ := r2
        refine ⟨kx _ _ (fun e => ?_) p, q1, q2, kx _ _ (nd _ _ _ rfl ⟨p, q1, q2, q⟩ ⟨_, _, rfl⟩) q⟩
        subst e
        exact (F.odd ha p).noPlain rfl
      have := (r3.uniq r').1
      subst this
      exact hoff _ _ _ rfl r2
    | _ => trivial
theorem store_ok {k : Nat} {x : Str} {b : Bool} {v : Value} {pv : V} {Q : Unit → Shared → Prop} (hk : env.scope.kind = .function) (V : VarsAt env ns vals s.heap) (F : Frm env ns s.heap) (hx : ns[k]? = some (x, b))
    (hr : RepV s.heap v pv) (off : Off env.locals s.heap v pv)
    (q : ∀ h' tk a, Tch env ns a → Heap.SameBut a s.heap h' → Frm env ns h' → VarsAt env ns (vals.set k pv) h' → Bound env h' x b v → (∀ y c u, y ≠ x → (y, c) ∈ ns → Bound env s.heap y c u → Bound env h' y c u) → Q () { s with heap := h', toks := tk }) :
    wpAny (model prog w) A (storeName env x v) Q E s := by
  have nodx : ∀ (a : Addr), Tch env ns a → ∀ x dx lh, v = .ref x → HdrRaw s.heap x dx lh → (∃ o l, pv = .hdr o l) → dx ≠ a := by
    rintro a ha x dx lh e r ⟨o, l, rfl⟩ rfl
    rcases ha with rfl | ⟨z, hz, e'⟩
    · exact off x _ lh e r rfl
    · obtain ⟨_, c', v', e'', _, oc, hoc, hdc⟩ := F.cel z hz
      rw [e'] at e''; cases e''
      obtain ⟨_, hs', t, r2⟩ := r
      rw [r2] at hoc; cases hoc; cases hdc
  have rep' : ∀ (a : Addr) (h' : Heap), Tch env ns a → Heap.SameBut a s.heap h' → RepV h' v pv ∧ Off env.locals h' v pv := by
    intro a h' ha hs
    have kx : KeepX (fun z => z = a) s.heap h' := fun b o hb e => (hs.2 b hb).trans e
    have hr' := hr.odd kx (fun b o e ho => by subst e; exact F.odd ha ho) (nodx a ha)
    refine ⟨hr', ?_⟩
    cases pv with
    | hdr o l =>
      intro x' dx' lh' e' r'
      obtain ⟨x2, dx2, lh2, e2, r2, _⟩ := hr
      subst e2; cases e'
      have r3 : HdrRaw h' x' dx2 lh2 := by
        obtain ⟨p, q1, q2, q⟩ := r2
        refine ⟨kx _ _ (fun e => ?_) p, q1, q2, kx _ _ (nodx a ha _ _ _ rfl ⟨p, q1, q2, q⟩ ⟨_, _, rfl⟩) q⟩
        subst e
        exact (F.odd ha p).noPlain rfl
      have := (r3.uniq r').1
      subst this
      exact off _ _ _ rfl r2
    | _ => trivial
  cases b with
  | false =>
    obtain ⟨m, n, hm⟩ := F.lns
    have hl := F.loc x (mem_get hx)
    refine wpAny_storeName_local hl n (fun h' hn hs => ?_) (by rw [hk]; rfl)
    have ht : Tch env ns env.locals := .inl rfl
    have F' : Frm env ns h' := ⟨F.loc, fun y hy => let ⟨a, c, u, e, hne, hc⟩ := F.cel y hy; ⟨a, c, u, e, hne, hc.sameBut hs hne⟩, F.inj, ⟨_, hn, by show (if hdrName = x then _ else _) = _; rw [if_neg (fun e => F.nh _ (mem_get hx) e.symm)]; exact hm⟩, F.nd, F.nh⟩
    obtain ⟨r1, r2⟩ := rep' _ h' ht hs
    refine (fun (ob : ∀ y c u, y ≠ x → (y, c) ∈ ns → Bound env s.heap y c u → Bound env h' y c u) => ?_ : (∀ y c u, y ≠ x → (y, c) ∈ ns → Bound env s.heap y c u → Bound env h' y c u) → _) (fun y c u hyx hm hb => ?_)
    · exact q h' _ _ ht hs F' (vars_store V F hx _ ht hs ⟨hl, _, hn, by simp⟩ ob r1 r2) ⟨hl, _, hn, by simp⟩ ob
    cases c with
    | false =>
      obtain ⟨hl', m', n', e'⟩ := hb
      refine ⟨hl', _, hn, ?_⟩
      rw [if_neg hyx, n.agree n' y]; exact e'
    | true =>
      obtain ⟨hl', c', e', n'⟩ := hb
      obtain ⟨_, c2, u2, e2, hne, _⟩ := F.cel y hm
      rw [e'] at e2; cases e2
      exact ⟨hl', c', e', n'.sameBut hs hne⟩
  | true =>
    obtain ⟨hl, c, u, e, hne, hc⟩ := F.cel x (mem_get hx)
    refine wpAny_storeName_cell hk hl e hc (fun h' hc' hs => ?_)
    have ht : Tch env ns c := .inr ⟨x, mem_get hx, e⟩
    have F' : Frm env ns h' := by
      refine ⟨F.loc, fun y hy => ?_, F.inj, let ⟨m, n, hm⟩ := F.lns; ⟨m, n.sameBut hs (Ne.symm hne), hm⟩, F.nd, F.nh⟩
      obtain ⟨a, c2, u2, e2, hne2, hc2⟩ := F.cel y hy
      by_cases hcc : c2 = c
      · subst hcc; exact ⟨a, c2, _, e2, hne2, hc'⟩
      · exact ⟨a, c2, u2, e2, hne2, hc2.sameBut hs hcc⟩
    obtain ⟨r1, r2⟩ := rep' _ h' ht hs
    refine (fun (ob : ∀ y d u', y ≠ x → (y, d) ∈ ns → Bound env s.heap y d u' → Bound env h' y d u') => ?_ : (∀ y d u', y ≠ x → (y, d) ∈ ns → Bound env s.heap y d u' → Bound env h' y d u') → _) (fun y d u' hyx hm hb => ?_)
    · exact q h' _ _ ht hs F' (vars_store V F hx _ ht hs ⟨hl, c, e, hc'⟩ ob r1 r2) ⟨hl, c, e, hc'⟩ ob
    cases d with
    | false => obtain ⟨hl', m', n', e'⟩ := hb; exact ⟨hl', m', n'.sameBut hs (Ne.symm hne), e'⟩
    | true =>
      obtain ⟨hl', c', e', n'⟩ := hb
      exact ⟨hl', c', e', n'.sameBut hs fun ec => hyx (F.inj y x c hm (mem_get hx) (ec ▸ e') e)⟩
end
end Mine
end
section
open PySem PySem.W PyProof.Rows PySem.Calls PySem.Spec
set_option Elab.async false
set_option maxRecDepth 100000
set_option maxHeartbeats 8000000
set_option linter.unusedVariables false
set_option genSizeOf false
namespace Mine
structure ItR (prog : Program) (w : World) (isl : Bool) (av : Value) (b : Heap) (I : Addr) (items : List S) (fp : List Addr) (P : Nat → Value → Prop) (St : Nat → Heap → Prop) : Prop where
  W : ∀ A : Around, A.handled = none → Walks prog w A I fp [I] items.length P St
  fp : ∀ x ∈ fp, x = I ∨ (isl = true ∧ av = .ref x ∧ ∃ o, b.get? x = some o)
  li : isl = true → ∀ i h, St i h → ∃ l, h.IsListIter I l i
  ty : ∀ i h, St i h → ∃ o vs, h.get? I = some o ∧ o.data = .fields vs ∧ o.cls ≠ .type "range"
  item : ∀ i v it, items[i]? = some it → P i v → RepS b v it
noncomputable def IterOf (prog : Program) (w : World) (n : Nat) (isl : Bool) (pv : V) (items : List S) : Prop :=
  ∀ (A : Around) (s : Shared) (Q E : Value → Shared → Prop) (v : Value), Ok A n → Glob w s.heap → RepV s.heap v pv →
    (∀ o fp P St, ItR prog w isl v s.heap s.heap.objs.size items fp P St → St 0 (s.heap.push o) → Q (.ref s.heap.objs.size) { s with heap := s.heap.push o }) → wpAny (model prog w) A (pyIter v) Q E s
section
variable {prog : Program} {w : World} {n : Nat}
theorem RepL.lt {h : Heap} {a : Addr} {l : List S} (r : RepL h a l) : a ≠ h.objs.size := by
  obtain ⟨vs, ⟨n, ho⟩, _⟩ := r
  exact Nat.ne_of_lt (Heap.lt_size ho)
theorem IterOf.list {o : Fl} {l : List S} : IterOf prog w n true (.lst o l) l := by
  rintro A s Q E _ hA g ⟨a, rfl, r⟩ q
  have hne := r.lt
  obtain ⟨vs, hp, x⟩ := r
  have hl := hp.isList
  refine wpAny_pyIter_list hl (q _ [s.heap.objs.size, a] (fun i v => vs.toArray[i]? = some v) (fun i h => h.IsListIter s.heap.objs.size a i ∧ h.IsList a vs.toArray) ⟨fun A' hh => ?_, fun b hb => ?_, fun _ i h st => ⟨a, st.1⟩, fun i h st => ?_, fun i v it hi hp => ?_⟩ ⟨⟨_, Heap.get?_push_size _ rfl, rfl, rfl⟩, hl.at fun o e => Heap.get?_push_of_some _ e⟩)
  · have := Walks.list (prog := prog) (w := w) hh s.heap.objs.size a hne vs.toArray
    have e : vs.toArray.size = l.length := by rw [List.size_toArray, x.length]
    rw [e] at this
    exact this
  · simp at hb
    rcases hb with rfl | rfl
    · exact .inl rfl
    · obtain ⟨o, ho, _⟩ := hl; exact .inr ⟨rfl, rfl, o, ho⟩
  · obtain ⟨⟨o, ho, hc, hd⟩, _⟩ := st
    exact ⟨o, _, ho, hd, by rw [hc]; decide⟩
  · obtain ⟨it', h1, h2⟩ := x.get' (i := i) (a := v) (by simpa using hp)
    rw [hi] at h1; cases h1; exact h2
theorem IterOf.at {a : Addr} {l : List S} : IterOf prog w n true (.at a l) l := fun A s Q E v hA g r q => IterOf.list (o := .arg) A s Q E v hA g ⟨a, r.1, r.2⟩ q
theorem IterOf.rng {m : Nat} : IterOf prog w n false (.rng m) ((List.range m).map .nat) := by
  rintro A s Q E _ hA g ⟨a, t, u, v, rfl, hr, hm⟩ q
  have e : Builtin.Range.rangeSize 0 (m : Int) 1 = (m : Int) := by
    rw [PySem.rangeSize_one]
    by_cases h0 : (0 : Int) < m
    · rw [if_pos h0]; simp
    · have : m = 0 := by omega
      subst this; rfl
  refine wpAny_pyIter_range hr (PySem.small_one (by decide) (by decide) (by omega) (by omega)) (q _ [s.heap.objs.size] (fun i v => ∃ t, v = .int (0 + i * 1) t) (fun i h => IsRangeIter h s.heap.objs.size (0 + (i : Nat) * 1) ((m : Int) - (i : Nat)) 1) ⟨fun A' hh => ?_, fun b hb => ?_, (fun h => nomatch h), fun i h st => ⟨_, _, st, rfl, (by decide : Value.type "range_iterator" ≠ .type "range")⟩, fun i v it hi hp => ?_⟩ ?_)
  · have := Walks.range (prog := prog) (w := w) hh s.heap.objs.size 0 1 m
    rw [show ((List.range m).map S.nat).length = m by simp]
    exact this
  · simp at hb; exact .inl hb
  · obtain ⟨t, rfl⟩ := hp
    rw [List.getElem?_map] at hi
    cases hq : (List.range m)[i]? with
    | none => rw [hq] at hi; cases hi
    | some j =>
      rw [hq] at hi; cases hi
      have := (List.getElem?_eq_some_iff.mp hq).2
      rw [List.getElem_range] at this
      subst this
      exact ⟨t, by simp⟩
  · rw [e]
    exact Heap.get?_push_size _ rfl
theorem IterOf.bytes {b : Array UInt8} : IterOf prog w n false (.s (.bytes b)) (b.toList.map fun c => .nat c.toNat) := by
  rintro A s Q E _ hA g ⟨t, rfl⟩ q
  refine KBw.pyIter_bytes (q _ [s.heap.objs.size] (fun i v => ∃ c u, b[i]? = some c ∧ v = .int (c.toNat : Int) u) (fun i h => KBw.IsBytesIter h s.heap.objs.size b t i) ⟨fun A' hh => ?_, fun x hb => ?_, (fun h => nomatch h), fun i h st => ?_, fun i v it hi hp => ?_⟩ ?_)
  · have := KBw.walks (prog := prog) (w := w) hh s.heap.objs.size b t
    rw [show (b.toList.map fun c => S.nat c.toNat).length = b.size by simp]
    exact this
  · simp at hb; exact .inl hb
  · obtain ⟨o, ho, hc, hd⟩ := st
    exact ⟨o, _, ho, hd, by rw [hc]; decide⟩
  · obtain ⟨c, u, hc, rfl⟩ := hp
    rw [List.getElem?_map, show b.toList[i]? = b[i]? by simp, hc] at hi
    cases hi
    exact ⟨u, rfl⟩
  · exact ⟨_, Heap.get?_push_size _ rfl, rfl, rfl⟩
theorem IterOf.str {x : Str} : IterOf prog w n false (.s (.str x)) (x.cps.toList.map fun c => .str ⟨#[c]⟩) := by
  rintro A s Q E _ hA g ⟨t, rfl⟩ q
  have key : ∀ ty : String, (Value.type ty ≠ .type "range") → (∀ A' : Around, A'.handled = none → Walks prog w A' s.heap.objs.size [s.heap.objs.size] [s.heap.objs.size] x.cps.size (SignAt x) (fun i h => h.IsStrIter s.heap.objs.size ty x t i)) →
      Q (.ref s.heap.objs.size) { s with heap := s.heap.push { cls := .type ty, data := .fields #[.str x t, .int 0 0] } } := fun ty hty hW => by
    refine q _ [s.heap.objs.size] (SignAt x) (fun i h => h.IsStrIter s.heap.objs.size ty x t i) ⟨fun A' hh => ?_, fun x hb => ?_, (fun h => nomatch h), fun i h st => ?_, fun i v it hi hp => ?_⟩ ⟨_, Heap.get?_push_size _ rfl, rfl, rfl⟩
    · have := hW A' hh
      rw [show (x.cps.toList.map fun c => S.str ⟨#[c]⟩).length = x.cps.size by simp]
      exact this
    · simp at hb; exact .inl hb
    · obtain ⟨o, ho, hc, hd⟩ := st
      exact ⟨o, _, ho, hd, by rw [hc]; exact hty⟩
    · obtain ⟨c, u, hc, rfl⟩ := hp
      rw [List.getElem?_map, show x.cps.toList[i]? = x.cps[i]? by simp, hc] at hi
      cases hi
      exact ⟨u, rfl⟩
  cases ha : x.cps.all (· < 128)
  · exact wpAny_pyIter_wide ha (key _ (by decide) fun A' hA => Walks.strWide hA _ x t)
  · exact wpAny_pyIter_ascii ha (key _ (by decide) fun A' hA => Walks.strAscii hA _ x t)
end
end Mine
end
section
open PySem PySem.W PyProof.Rows PySem.Calls PySem.Spec
set_option Elab.async false
set_option maxRecDepth 100000
set_option maxHeartbeats 8000000
set_option linter.unusedVariables false
set_option genSizeOf false
namespace Mine
theorem compTurn_last (elt : Expr) (gens : List Comprehension) (scope : Scope) (pos : Pos) (d : Nat) (it acc : Value) (env : Env) (target iter : Expr) (ifs : List Expr)
    (hg : gens[d]? = some ⟨target, iter, ifs, 0⟩) (hl : gens[d + 1]? = none) :
    compTurn (.ListComp elt gens scope pos) d it acc env = (do
      standAt iter.pos
      match ← pyNext it with
      | none => pure (.done .next)
      | some v =>
        letOwnedTupleGo target it v
        assign target env v
        let mut ok := true
        for c in ifs do
          if ok then ok ← isTrue c env (eval c env)
        if ok then
          (do let _ ← call (.builtin "list.append") [acc, ← eval elt env])
        again (.compLoop (.ListComp elt gens scope pos) d it acc env)) := by
  unfold compTurn
  simp only [hg, hl]
  rfl
theorem compTurn_more (elt : Expr) (gens : List Comprehension) (scope : Scope) (pos : Pos) (d : Nat) (it acc : Value) (env : Env) (target iter target' iter' : Expr) (ifs ifs' : List Expr)
    (hg : gens[d]? = some ⟨target, iter, ifs, 0⟩) (hl : gens[d + 1]? = some ⟨target', iter', ifs', 0⟩) :
    compTurn (.ListComp elt gens scope pos) d it acc env = (do
      standAt iter.pos
      match ← pyNext it with
      | none => pure (.done .next)
      | some v =>
        letOwnedTupleGo target it v
        assign target env v
        let mut ok := true
        for c in ifs do
          if ok then ok ← isTrue c env (eval c env)
        if ok then
          let x ← eval iter' env
          standAt iter'.pos
          let x ← foldedSetIterable iter' env x
          let _ ← runOwn (.compStart (.ListComp elt gens scope pos) (d + 1) (← holding [x] (pyIter x)) acc env) env
        again (.compLoop (.ListComp elt gens scope pos) d it acc env)) := by
  unfold compTurn
  simp only [hg, hl]
  rfl
noncomputable def V.flat : V → Bool
  | .s _ => true
  | .unset => true
  | _ => false
section
variable {env : Env} {own : List (Str × Bool)} {ov : List V} {h h' : Heap} {T : Addr → Prop}
theorem Bound.keepX (k : KeepX T h h') (hT : ∀ a, Tch env own a → ¬ T a) {x : Str} {b : Bool} (hx : (x, b) ∈ own) {v : Value} (r : Bound env h x b v) : Bound env h' x b v := by
  cases b with
  | false => obtain ⟨a, m, n, e⟩ := r; exact ⟨a, m, n.at fun o ho => k _ _ (hT _ (.inl rfl)) ho, e⟩
  | true => obtain ⟨a, c, e, o, ho, hd⟩ := r; exact ⟨a, c, e, o, k _ _ (hT _ (.inr ⟨x, hx, e⟩)) ho, hd⟩
theorem Frm.keepX (F : Frm env own h) (k : KeepX T h h') (hT : ∀ a, Tch env own a → ¬ T a) : Frm env own h' := F.keep fun b o t ho => k b o (hT b t) ho
theorem VarsAt.keepX (hf : ov.all V.flat = true) (k : KeepX T h h') (kt : KeepT h h') (hT : ∀ a, Tch env own a → ¬ T a) (r : VarsAt env own ov h) : VarsAt env own ov h' := by
  intro i x b pv h1 h2 h3
  obtain ⟨v, hb, hv, ho⟩ := r i x b pv h1 h2 h3
  have hp := List.all_eq_true.mp hf pv (mem_get h2)
  refine ⟨v, hb.keepX k hT (mem_get h1), ?_⟩
  cases pv with
  | s x => exact ⟨RepS.keep kt hv, trivial⟩
  | unset => exact absurd rfl h3
  | _ => cases hp
theorem VarsAt.append {cap : List (Str × Bool)} {cv : List V} (hl : ov.length = own.length) (a : VarsAt env own ov h) (b : VarsAt env cap cv h) : VarsAt env (own ++ cap) (ov ++ cv) h := by
  intro i x c pv h1 h2 h3
  by_cases hi : i < own.length
  · rw [List.getElem?_append_left hi] at h1
    rw [List.getElem?_append_left (by omega)] at h2
    exact a i x c pv h1 h2 h3
  · rw [List.getElem?_append_right (by omega)] at h1
    rw [List.getElem?_append_right (by omega), hl] at h2
    exact b _ x c pv h1 h2 h3
theorem KeepX.trans {a b c : Heap} (x : KeepX T a b) (y : KeepX T b c) : KeepX T a c := fun d o n e => y d o n (x d o n e)
theorem KeepX.of_keep {a b : Heap} (x : KeepA a b) : KeepX T a b := fun d o _ e => x d o e
theorem KeepX.mono {T' : Addr → Prop} {a b : Heap} (hT : ∀ x, T x → T' x) (x : KeepX T a b) : KeepX T' a b := fun d o n e => x d o (fun t => n (hT d t)) e
theorem KeepX.refl {a : Heap} : KeepX T a a := fun _ _ _ e => e
theorem keepX_same {a : Addr} {h h' : Heap} (s : Heap.SameBut a h h') : KeepX (fun x => x = a) h h' := fun b _ n e => s.extBut b _ n e
end
section
variable (prog : Program) (w : World) (n : Nat)
noncomputable def AsT (env : Env) (own : List (Str × Bool)) (target : Expr) (ov : List V) (it : S) (ov' : List V) : Prop :=
  ∀ (A : Around) (s : Shared) (Q : Unit → Shared → Prop) (E : Value → Shared → Prop) (v : Value), Ok A n → Frm env own s.heap → VarsAt env own ov s.heap → RepS s.heap v it →
    (∀ h' tk, KeepX (Tch env own) s.heap h' → Frm env own h' → VarsAt env own ov' h' → Q () { s with heap := h', toks := tk }) → wpAny (model prog w) A (assign target env v) Q E s
noncomputable def TsT (env : Env) (cx : Cx) (vals : List V) (ifs : List Expr) (b : Bool) : Prop := (ifs = [] ∧ b = true) ∨ ∃ c, ifs = [c] ∧ Tv prog w n env cx vals c b
end
section
variable {prog : Program} {w : World} {n : Nat} {env : Env} {own : List (Str × Bool)}
theorem AsT.name {k : Nat} {x : Str} {b : Bool} {p : Pos} {ov : List V} {it : S} (hk : env.scope.kind = .function) (h : own[k]? = some (x, b)) : AsT prog w n env own (.Name x p) ov it (ov.set k (.s it)) :=
  fun A s Q E v hA F hv hr q => wpAny_assign_Name (store_ok hk hv F h (pv := .s it) hr trivial fun h' tk a t sb F' V' _ _ => q h' tk (fun b o nb e => sb.extBut b o (fun e' => nb (e' ▸ t)) e) F' V')
end
structure SF (cenv : Env) (own : List (Str × Bool)) (D : Addr) (hb : Heap) (ov : List V) (out : List S) (h : Heap) : Prop where
  kb : KeepA hb h
  F : Frm cenv own h
  var : VarsAt cenv own ov h
  acc : ∃ vs : List Value, h.PlainList D vs.toArray ∧ All2 (RepS h) vs out
noncomputable abbrev TD (cenv : Env) (own : List (Str × Bool)) (D : Addr) (a : Addr) : Prop := Tch cenv own a ∨ a = D
structure CC (w : World) (cenv : Env) (cx : Cx) (own : List (Str × Bool)) (capv : List V) (D : Addr) (hb : Heap) : Prop where
  eo : EnvOk cenv cx
  ns : ∃ cap, cx.ns = own ++ cap ∧ VarsAt cenv cap capv hb
  Dn : hb.get? D = none
  tn : ∀ a, Tch cenv own a → hb.get? a = none ∧ a ≠ D
  glob : Glob w hb
section
variable {prog : Program} {w : World} {n : Nat} {cenv : Env} {cx : Cx} {own : List (Str × Bool)} {capv : List V} {D : Addr} {hb : Heap} {ov : List V} {out : List S}
theorem PlainList.isList {h : Heap} {a : Addr} {vs : Array Value} (p : h.PlainList a vs) : h.IsList a vs := let ⟨n, e⟩ := p; ⟨_, e, rfl, n, rfl⟩
theorem SF.keepX {T : Addr → Prop} {h h' : Heap} (C : CC w cenv cx own capv D hb) (x : SF cenv own D hb ov out h) (hf : ov.all V.flat = true) (k : KeepX T h h') (kt : KeepT h h') (hT : ∀ a, Tch cenv own a → ¬ T a) (hD : ¬ T D) (hB : ∀ a o, hb.get? a = some o → ¬ T a) : SF cenv own D hb ov out h' :=
  ⟨fun a o e => k a o (hB a o e) (x.kb a o e), x.F.keepX k hT, x.var.keepX hf k kt hT, let ⟨vs, ⟨m, p⟩, r⟩ := x.acc; ⟨vs, ⟨m, k _ _ hD p⟩, r.mono fun _ _ y => y.keep kt⟩⟩
theorem SF.keep {h h' : Heap} (x : SF cenv own D hb ov out h) (k : KeepA h h') : SF cenv own D hb ov out h' :=
  ⟨x.kb.trans k, x.F.keep fun b o _ e => k b o e, x.var.keep k, let ⟨vs, ⟨m, p⟩, r⟩ := x.acc; ⟨vs, ⟨m, k _ _ p⟩, r.mono fun _ _ y => y.keep k.toT⟩⟩
theorem SF.rep {h : Heap} (C : CC w cenv cx own capv D hb) (x : SF cenv own D hb ov out h) (hl : ov.length = own.length) : RepE cenv cx (ov ++ capv) h :=
  ⟨C.eo, let ⟨cap, e, hc⟩ := C.ns; e ▸ VarsAt.append hl x.var (hc.keep x.kb)⟩
theorem SF.glob {h : Heap} (C : CC w cenv cx own capv D hb) (x : SF cenv own D hb ov out h) : Glob w h := C.glob.keep x.kb
theorem keepT_TD {h h' : Heap} (x : SF cenv own D hb ov out h) (k : KeepX (TD cenv own D) h h') : KeepT h h' := by
  refine keepT_of k fun b o t ho items n hc hd => ?_
  rcases t with t | rfl
  · exact (x.F.odd t ho).noSeq hd
  · obtain ⟨vs, ⟨m, p⟩, _⟩ := x.acc
    rw [p] at ho; cases ho
    injection hc with hc; exact absurd hc (by decide)
/-- the turn's form -/
noncomputable def turnForm (target iter : Expr) (ifs : List Expr) (it : Value) (env : Env) (c : Code) (X : Sem Fin → Sem Fin) : Sem Fin := do
  standAt iter.pos
  match ← pyNext it with
  | none => pure (.done .next)
  | some v =>
    letOwnedTupleGo target it v
    assign target env v
    let mut ok := true
    for c in ifs do
      if ok then ok ← isTrue c env (eval c env)
    if ok then X (again c) else again c
theorem TsT.run {env : Env} {vals : List V} {ifs : List Expr} {b : Bool} (h : TsT prog w n env cx vals ifs b) {A : Around} {s : Shared} {Q : Bool → Shared → Prop} {E : Value → Shared → Prop}
    (hA : Ok A n) (g : Glob w s.heap) (r : RepE env cx vals s.heap) (q : ∀ s', Ext s s' → Q b s') :
    wpAny (model prog w) A (forIn ifs true fun c r => if r = true then do let ok ← isTrue c env (eval c env); pure (ForInStep.yield ok) else pure (ForInStep.yield r)) Q E s := by
  rcases h with ⟨rfl, rfl⟩ | ⟨c, rfl, ht⟩
  · rw [List.forIn_nil]
    exact wpAny_pure (q s (Ext.refl s))
  · exact wpAny_tests_one (ht A s _ _ hA g r q)
theorem loop_gen {elt : Expr} {gens : List Comprehension} {scope : Scope} {pos : Pos} {d : Nat} {I : Addr} {target iter : Expr} {ifs : List Expr} {X : Sem Fin → Sem Fin} {A : Around} {s : Shared} {R : Result → Shared → Prop}
    (hturn : compTurn (.ListComp elt gens scope pos) d (.ref I) (.ref D) cenv = turnForm target iter ifs (.ref I) cenv (.compLoop (.ListComp elt gens scope pos) d (.ref I) (.ref D) cenv) X)
    (C : CC w cenv cx own capv D hb) (hA : Ok A n) (hl : ov.length = own.length) (hf : ov.all V.flat = true)
    {b : Heap} {items : List S} {isl : Bool} {av : Value} {fp : List Addr} {P : Nat → Value → Prop} {St : Nat → Heap → Prop} (IR : ItR prog w isl av b I items fp P St)
    (hfp : ∀ x ∈ fp, x = I ∨ ∃ o, hb.get? x = some o) (hI : b.get? I = none) (hIb : hb.get? I = none) (hID : I ≠ D) (hIT : ¬ Tch cenv own I)
    (lg : ∀ (A : Around) (s : Shared) (v : Value) (Q : Unit → Shared → Prop) (E : Value → Shared → Prop) i, St i s.heap → Q () s → wpAny (model prog w) A (letOwnedTupleGo target (.ref I) v) Q E s)
    (up : S → List V) (upl : ∀ it, (up it).length = own.length) (upf : ∀ it, (up it).all V.flat = true) (as : ∀ it ∈ items, AsT prog w n cenv own target ov it (up it))
    (back : ∀ it h, VarsAt cenv own (up it) h → VarsAt cenv own ov h)
    (ok : S → Bool) (ts : ∀ it ∈ items, TsT prog w n cenv cx (up it ++ capv) ifs (ok it)) (g : S → List S)
    (hX : ∀ it ∈ items, ok it = true → ∀ (k : Sem Fin) (s : Shared) (Q : Fin → Shared → Prop) (E : Value → Shared → Prop) (out : List S), SF cenv own D hb (up it) out s.heap → (out ++ g it).length ≤ 16777216 →
      (∀ s', SF cenv own D hb (up it) (out ++ g it) s'.heap → KeepX (TD cenv own D) s.heap s'.heap → s'.os = s.os → GX s.gens s'.gens → wpAny (model prog w) A k Q E s') → wpAny (model prog w) A (X k) Q E s)
    (hg0 : ∀ it, ok it = false → g it = []) (hsz : (out ++ items.flatMap g).length ≤ 16777216)
    (st : St 0 s.heap) (sf : SF cenv own D hb ov out s.heap) (kb : KeepX (TD cenv own D) b s.heap)
    (kt0 : KeepT b s.heap)
    (q : ∀ s', SF cenv own D hb ov (out ++ items.flatMap g) s'.heap → KeepX (TD cenv own D) b s'.heap → s'.os = s.os → GX s.gens s'.gens → R (.ok .next) s') :
    codeAny (model prog w) A (.compLoop (.ListComp elt gens scope pos) d (.ref I) (.ref D) cenv) R s := by
  have nI : ∀ h h' : Heap, (∃ i, St i h) → Heap.ExtBut I h h' → KeepT h h' := by
    rintro h h' ⟨i, hs⟩ x a items ⟨o, ho, hc, r⟩
    refine ⟨o, x a o (fun e => ?_) ho, hc, r⟩
    subst e
    obtain ⟨o', vs, ho', hd', hc'⟩ := IR.ty i h hs
    rw [ho] at ho'; cases ho'
    obtain ⟨n, hd⟩ := r
    rw [hd] at hd'; cases hd'
  have fr : ∀ i h h', St i h → KeepX (TD cenv own D) h h' → KeepA hb h' → KeepA hb h → St i h' := by
    intro i h h' hs k kb' kb0
    refine (IR.W A hA.hd).frame i h h' hs fun x hx o ho => ?_
    rcases hfp x hx with rfl | ⟨o', ho'⟩
    · exact k _ _ (fun t => t.elim hIT hID) ho
    · have := kb0 x o' ho'
      rw [this] at ho; cases ho
      exact kb' _ _ ho'
  refine codeAny_loop rfl (fun k s' => ∃ i, i ≤ items.length ∧ k = items.length + 1 - i ∧ s'.os = s.os ∧ GX s.gens s'.gens ∧ KeepX (TD cenv own D) b s'.heap ∧ KeepT b s'.heap ∧ St i s'.heap ∧
    SF cenv own D hb ov (out ++ (items.take i).flatMap g) s'.heap) ?_ (items.length + 1) ⟨0, Nat.zero_le _, rfl, rfl, .refl _, kb, kt0, st, by simpa using sf⟩
  rintro k s' ⟨i, hi, rfl, hos, hgs, hk, hkt, hst, hsf⟩
  show wpAny _ A ((compTurn (.ListComp elt gens scope pos) d (.ref I) (.ref D) cenv).onRaise (fun x => do noteFrame x cenv; theTreesLotGoes x)) _ _ s'
  refine wpAny_noted ?_
  rw [hturn]
  unfold turnForm
  refine wpAny_bind (wpAny_standAt (wpAny_bind ?_))
  rcases Nat.lt_or_ge i items.length with hlt | hge
  · obtain ⟨it, hit⟩ : ∃ it, items[i]? = some it := ⟨items[i], by simp [hlt]⟩
    have him := mem_get hit
    refine (IR.W A hA.hd).item i s' _ _ hlt hst fun v h₁ tk₁ hP hst₁ hk₁ => ?_
    have xI : Heap.ExtBut I s'.heap h₁ := fun b o hb e => hk₁ b o (by simpa using hb) e
    have kx : KeepX (fun x => x = I) s'.heap h₁ := fun b o hb e => xI b o hb e
    have kt₁ := nI _ _ ⟨i, hst⟩ xI
    have sf₁ : SF cenv own D hb ov (out ++ (items.take i).flatMap g) h₁ := hsf.keepX C hf kx kt₁ (fun a t e => hIT (e ▸ t)) (fun e => hID e.symm) (fun a o e e' => by subst e'; rw [hIb] at e; cases e)
    have hrep : RepS h₁ v it := (IR.item i v it hit hP).keep (hkt.trans kt₁)
    refine wpAny_bind (lg A _ v _ _ (i + 1) hst₁ ?_)
    refine wpAny_bind (as it him A _ _ _ v hA sf₁.F sf₁.var hrep fun h₂ tk₂ k₂ F₂ V₂ => ?_)
    have k₂' : KeepX (TD cenv own D) h₁ h₂ := k₂.mono fun x t => .inl t
    have kt₂ : KeepT h₁ h₂ := keepT_TD sf₁ k₂'
    have kb₂ : KeepA hb h₂ := fun a o e => k₂ a o (fun t => by rw [(C.tn a t).1] at e; cases e) (sf₁.kb a o e)
    have sf₂ : SF cenv own D hb (up it) (out ++ (items.take i).flatMap g) h₂ := ⟨kb₂, F₂, V₂, let ⟨vs, ⟨m, p⟩, r⟩ := sf₁.acc; ⟨vs, ⟨m, k₂ _ _ (fun t => (C.tn _ t).2 rfl) p⟩, r.mono fun _ _ y => y.keep kt₂⟩⟩
    have hst₂ := fr _ _ _ hst₁ k₂' kb₂ sf₁.kb
    refine wpAny_bind (TsT.run (ts it him) hA (sf₂.glob C) (sf₂.rep C (upl it)) fun s₃ x₃ => ?_)
    have sf₃ := sf₂.keep x₃.keep
    have hst₃ := fr _ _ _ hst₂ (KeepX.of_keep x₃.keep) sf₃.kb kb₂
    have kIb : ∀ a o, ¬ TD cenv own D a → b.get? a = some o → h₁.get? a = some o := fun a o na e => xI a o (fun e' => by subst e'; rw [hI] at e; cases e) (hk a o na e)
    have hk₃ : KeepX (TD cenv own D) b s₃.heap := fun a o na e => x₃.keep a o (k₂' a o na (kIb a o na e))
    have hkt₃ : KeepT b s₃.heap := ((hkt.trans kt₁).trans kt₂).trans x₃.keep.toT
    have e1 : items.take (i + 1) = items.take i ++ [it] := by rw [List.take_add_one, hit]; rfl
    have e2 : out ++ (items.take (i + 1)).flatMap g = out ++ (items.take i).flatMap g ++ g it := by rw [e1, List.flatMap_append]; simp
    have hsz' : (out ++ (items.take i).flatMap g ++ g it).length ≤ 16777216 := by
      rw [← e2]
      have e3 : items.flatMap g = (items.take (i + 1)).flatMap g ++ (items.drop (i + 1)).flatMap g := by rw [← List.flatMap_append, List.take_append_drop]
      rw [e3] at hsz
      simp only [List.length_append] at hsz ⊢
      omega
    cases hok : ok it with
    | false =>
      refine wpAny_pure ⟨rfl, _, (by omega : items.length + 1 - (i + 1) < items.length + 1 - i), i + 1, hlt, rfl, x₃.os.trans hos, hgs.trans x₃.gens, hk₃, hkt₃, hst₃, ?_⟩
      have : (items.take (i + 1)).flatMap g = (items.take i).flatMap g := by rw [e1, List.flatMap_append]; simp [hg0 it hok]
      rw [this]
      exact ⟨sf₃.kb, sf₃.F, back it _ sf₃.var, sf₃.acc⟩
    | true =>
      refine hX it him hok _ s₃ _ _ _ sf₃ hsz' fun s₄ sf₄ k₄ os₄ g₄ => ?_
      have hst₄ := fr _ _ _ hst₃ k₄ sf₄.kb sf₃.kb
      have kt₄ := keepT_TD sf₃ k₄
      refine wpAny_pure ⟨rfl, _, (by omega : items.length + 1 - (i + 1) < items.length + 1 - i), i + 1, hlt, rfl, os₄.trans (x₃.os.trans hos), (hgs.trans x₃.gens).trans g₄, hk₃.trans k₄, hkt₃.trans kt₄, hst₄, ?_⟩
      have : out ++ (items.take (i + 1)).flatMap g = out ++ (items.take i).flatMap g ++ g it := by rw [e1, List.flatMap_append]; simp
      rw [this]
      exact ⟨sf₄.kb, sf₄.F, back it _ sf₄.var, sf₄.acc⟩
  · have hie : i = items.length := Nat.le_antisymm hi hge
    subst hie
    refine (IR.W A hA.hd).done s' _ _ hst fun h₁ tk₁ hk₁ => ?_
    have xI : Heap.ExtBut I s'.heap h₁ := fun b o hb e => hk₁ b o (by simpa using hb) e
    have kx : KeepX (fun x => x = I) s'.heap h₁ := fun b o hb e => xI b o hb e
    have kt₁ := nI _ _ ⟨_, hst⟩ xI
    have sf₁ : SF cenv own D hb ov (out ++ (items.take items.length).flatMap g) h₁ := hsf.keepX C hf kx kt₁ (fun a t e => hIT (e ▸ t)) (fun e => hID e.symm) (fun a o e e' => by subst e'; rw [hIb] at e; cases e)
    rw [List.take_length] at sf₁
    exact wpAny_pure (q _ sf₁ (fun a o na e => xI a o (fun e' => by subst e'; rw [hI] at e; cases e) (hk a o na e)) hos hgs)
end
end Mine
end
section
open PySem PySem.W PyProof.Rows PySem.Calls PySem.Spec
set_option Elab.async false
set_option maxRecDepth 100000
set_option maxHeartbeats 8000000
set_option linter.unusedVariables false
set_option genSizeOf false
namespace Mine
theorem forIn_pure {α β : Type} (f : α → β → Sem (ForInStep β)) (st : α → β → β) : ∀ (l : List α) (acc : β), (∀ x ∈ l, ∀ c, f x c = pure (.yield (st x c))) → forIn l acc f = (pure (l.foldl (fun c x => st x c) acc) : Sem β)
  | [], acc, _ => by rw [List.forIn_nil]; rfl
  | x :: r, acc, h => by
    rw [List.forIn_cons, h x List.mem_cons_self acc]
    exact forIn_pure f st r _ fun y hy c => h y (List.mem_cons_of_mem _ hy) c
noncomputable def clStep (env : Env) (x : Str × NameKind) (c : List (Str × Addr)) : List (Str × Addr) := if x.2 == .free then (x.1, (env.cells.lookup x.1).getD 0) :: c else c
theorem closure_eq {scope : Scope} {env : Env} (h : ∀ x, (x, NameKind.free) ∈ scope.names → ∃ c, env.cells.lookup x = some c) :
    closureFor scope env = pure (scope.names.foldl (fun c x => clStep env x c) []) := by
  simp only [closureFor]
  rw [forIn_pure _ (clStep env) _ _ fun x hx c => ?_]
  · rfl
  · obtain ⟨n, k⟩ := x
    unfold clStep
    by_cases hk : k = .free
    · subst hk
      obtain ⟨a, ha⟩ := h n hx
      simp only [cellOf, ha]
      rfl
    · have : (k == NameKind.free) = false := by simpa using hk
      simp only [this, Bool.false_eq_true, if_false]
theorem cl_fold {env : Env} : ∀ (l : List (Str × NameKind)) (c : List (Str × Addr)) (x : Str), (x, NameKind.free) ∈ l ∨ c.lookup x = some ((env.cells.lookup x).getD 0) →
    (l.foldl (fun c x => clStep env x c) c).lookup x = some ((env.cells.lookup x).getD 0)
  | [], c, x, h => by rcases h with h | h; · cases h
                      · exact h
  | (n, k) :: r, c, x, h => by
    rw [List.foldl_cons]
    refine cl_fold r _ x ?_
    by_cases hr : (x, NameKind.free) ∈ r
    · exact .inl hr
    · right
      unfold clStep
      by_cases hk : k = .free
      · subst hk
        show List.lookup x ((n, _) :: c) = _
        by_cases hx : x = n
        · subst hx; simp [List.lookup_cons]
        · have : (x == n) = false := by simpa using hx
          rw [List.lookup_cons, this]
          rcases h with h | h
          · rcases List.mem_cons.mp h with e | e
            · cases e; exact absurd rfl hx
            · exact absurd e hr
          · exact h
      · have hkf : (k == NameKind.free) = false := by simpa using hk
        simp only [hkf, Bool.false_eq_true, if_false]
        rcases h with h | h
        · rcases List.mem_cons.mp h with e | e
          · cases e; exact absurd rfl hk
          · exact absurd e hr
        · exact h
theorem lookup_relabel {env : Env} : ∀ {names : List (Str × NameKind)} {x : Str},
    (names.map fun (n, k) => if (k == NameKind.free && env.scope.kind == .function && env.kindOf n == some .cell) then (n, NameKind.cell) else (n, k)).lookup x =
      (names.lookup x).map fun k => if (k == NameKind.free && env.scope.kind == .function && env.kindOf x == some .cell) then NameKind.cell else k
  | [], x => rfl
  | (n, k) :: r, x => by
    have ih := @lookup_relabel env r x
    show List.lookup x ((if (k == NameKind.free && env.scope.kind == .function && env.kindOf n == some .cell) = true then (n, NameKind.cell) else (n, k)) :: _) = _
    cases hx : x == n with
    | true =>
      have : x = n := by simpa using hx
      subst this
      by_cases hc : (k == NameKind.free && env.scope.kind == .function && env.kindOf x == some .cell) = true
      · rw [if_pos hc]; simp only [List.lookup_cons, beq_self_eq_true, Option.map_some]; rw [if_pos hc]
      · rw [if_neg hc]; simp only [List.lookup_cons, beq_self_eq_true, Option.map_some]; rw [if_neg hc]
    | false =>
      by_cases hc : (k == NameKind.free && env.scope.kind == .function && env.kindOf n == some .cell) = true
      · rw [if_pos hc]; simp only [List.lookup_cons, hx]; exact ih
      · rw [if_neg hc]; simp only [List.lookup_cons, hx]; exact ih
noncomputable def ocl (oc : Option Str) (n : Nat) (cl : List (Str × Addr)) : List (Str × Addr) := match oc with | none => cl | some x => (x, n) :: cl
noncomputable def och (oc : Option Str) (h : Heap) : Heap := match oc with | none => h | some _ => h.push { cls := .type "cell", data := .cell none }
noncomputable def V.noHdr : V → Bool
  | .hdr _ _ => false
  | _ => true
theorem Off.noHdr {L : Addr} {h : Heap} {v : Value} {pv : V} (hn : pv.noHdr = true) : Off L h v pv := by
  cases pv with
  | hdr o l => cases hn
  | _ => trivial
structure PC (scope : Scope) (cx : Cx) (vals : List V) (own : List (Str × Bool)) (oc : Option Str) (caps : List (Str × V)) (gs : List Str) : Prop where
  kind : scope.kind = .function
  cf : ∀ n cl, cellsFrom n scope.names cl = ocl oc n cl
  pc : ∀ h, pushCells h scope.names = och oc h
  nms : ∀ x ∈ scope.names, x.2 = .local → scope.names.lookup x.1 = some .local
  ownl : ∀ x, (x, false) ∈ own → scope.names.lookup x = some .local
  owncl : ∀ x, (x, true) ∈ own → oc = some x ∧ scope.names.lookup x = some .cell
  nd : (own.map (·.1)).Nodup
  nh : ∀ p ∈ own, p.1 ≠ hdrName
  cap : ∀ p ∈ caps, (scope.names.lookup p.1 = some .free ∧ (p.1, NameKind.free) ∈ scope.names) ∧ p.2.noHdr = true ∧ oc ≠ some p.1 ∧ ∃ j : Nat, cx.ns[j]? = some (p.1, true) ∧ vals[j]? = some p.2
  fre : ∀ x, (x, NameKind.free) ∈ scope.names → (x, true) ∈ cx.ns
  gl : ∀ g ∈ gs, scope.names.lookup g = some .globalImplicit
noncomputable abbrev cxOf (own : List (Str × Bool)) (caps : List (Str × V)) (gs : List Str) : Cx := ⟨own ++ caps.map (fun p => (p.1, true)), gs⟩
section
variable {M : Model} {A : Around} {E : Value → Shared → Prop} {s : Shared}
theorem newCompEnv {scope : Scope} {env : Env} {cl : List (Str × Addr)} {g : Addr} {qual : Str} {Q : Env → Shared → Prop}
    (q : Q { scope, locals := s.heap.objs.size, globals := g, cells := cellsFrom (s.heap.objs.size + 1) scope.names cl, qual, func := none, code := env.code, frame := env.frame, builtins := env.builtins }
      { s with heap := pushCells (s.heap.push { cls := .type "dict", data := .dict #[] }) scope.names }) :
    wpAny M A (newFunctionEnv scope g cl [] qual none .none (some env)) Q E s := by
  simp only [newFunctionEnv, Option.isSome_some, if_true]
  refine wpAny_bind (wpAny_alloc ?_)
  refine wpAny_bind (wpAny_layCells _ (fun name kind cells => by cases hkc : kind == NameKind.cell <;> simp [hkc]) scope.names cl _ _ ?_)
  rw [show ({ s with heap := s.heap.push { cls := .type "dict", data := .dict #[] } } : Shared).heap.objs.size = s.heap.objs.size + 1 from Heap.size_push ..]
  refine wpAny_bind ?_
  rw [List.forIn_nil]
  exact wpAny_pure (wpAny_pure q)
end
noncomputable def clFor (scope : Scope) (env : Env) : List (Str × Addr) := scope.names.foldl (fun c x => clStep env x c) []
noncomputable def cenvOf (scope : Scope) (env : Env) (oc : Option Str) (L : Addr) : Env :=
  { scope := relabel scope env, locals := L, globals := env.globals, cells := ocl oc (L + 1) (clFor scope env), qual := env.qual, func := none, code := env.code, frame := env.frame, builtins := env.builtins }
section
variable {prog : Program} {w : World} {n : Nat} {env : Env} {cx : Cx} {vals : List V} {scope : Scope} {own : List (Str × Bool)} {oc : Option Str} {caps : List (Str × V)} {gs : List Str}
theorem kindOf_comp (L : Addr) (x : Str) : (cenvOf scope env oc L).kindOf x = (scope.names.lookup x).map fun k => if (k == NameKind.free && env.scope.kind == .function && env.kindOf x == some .cell) then NameKind.cell else k := lookup_relabel
theorem PC.eo (p : PC scope cx vals own oc caps gs) (eo : EnvOk env cx) (L : Addr) : EnvOk (cenvOf scope env oc L) (cxOf own caps gs) where
  kind := p.kind
  glo := eo.glo
  bui := eo.bui
  gl := fun g hg => by rw [kindOf_comp, p.gl g hg]; rfl
  cel := fun x hx => by
    rcases List.mem_append.mp hx with h | h
    · obtain ⟨e, hl⟩ := p.owncl x h
      refine ⟨by rw [kindOf_comp, hl]; rfl, L + 1, ?_⟩
      subst e
      show List.lookup x ((x, L + 1) :: _) = _
      simp [List.lookup_cons]
    · obtain ⟨q, hq, e⟩ := List.mem_map.mp h
      injection e with e1 e2
      subst e1
      obtain ⟨⟨hl, hm⟩, _, hne, j, hj, _⟩ := p.cap q hq
      obtain ⟨hk, c, hc⟩ := eo.cel q.1 (mem_get hj)
      refine ⟨by rw [kindOf_comp, hl]; simp [eo.kind, hk], c, ?_⟩
      have : (clFor scope env).lookup q.1 = some c := by
        have := cl_fold (env := env) scope.names [] q.1 (.inl hm)
        rw [hc] at this; exact this
      show (ocl oc (L + 1) (clFor scope env)).lookup q.1 = some c
      cases oc with
      | none => exact this
      | some y =>
        show List.lookup q.1 ((y, _) :: _) = _
        have hy : (q.1 == y) = false := by
          have : q.1 ≠ y := fun e => hne (by rw [e])
          simpa using this
        rw [List.lookup_cons, hy]; exact this
theorem PC.cells_cap (p : PC scope cx vals own oc caps gs) (eo : EnvOk env cx) (L : Addr) {q : Str × V} (hq : q ∈ caps) : (cenvOf scope env oc L).cells.lookup q.1 = env.cells.lookup q.1 ∧ (cenvOf scope env oc L).kindOf q.1 = some .cell := by
  obtain ⟨⟨hl, hm⟩, _, hne, j, hj, _⟩ := p.cap q hq
  obtain ⟨hk, c, hc⟩ := eo.cel q.1 (mem_get hj)
  refine ⟨?_, by rw [kindOf_comp, hl]; simp [eo.kind, hk]⟩
  have : (clFor scope env).lookup q.1 = some c := by
    have := cl_fold (env := env) scope.names [] q.1 (.inl hm)
    rw [hc] at this; exact this
  rw [hc]
  show (ocl oc (L + 1) (clFor scope env)).lookup q.1 = some c
  cases oc with
  | none => exact this
  | some y =>
    show List.lookup q.1 ((y, _) :: _) = _
    have hy : (q.1 == y) = false := by
      have : q.1 ≠ y := fun e => hne (by rw [e])
      simpa using this
    rw [List.lookup_cons, hy]; exact this
theorem PC.capvars (p : PC scope cx vals own oc caps gs) (eo : EnvOk env cx) (L : Addr) {h : Heap} (r : VarsAt env cx.ns vals h) : VarsAt (cenvOf scope env oc L) (caps.map fun p => (p.1, true)) (caps.map (·.2)) h := by
  intro i x b pv h1 h2 h3
  rw [List.getElem?_map] at h1 h2
  cases hq : caps[i]? with
  | none => rw [hq] at h1; cases h1
  | some q =>
    rw [hq] at h1 h2
    cases h1; cases h2
    have hqm := mem_get hq
    obtain ⟨_, hnh, hne, j, hj, hjv⟩ := p.cap q hqm
    obtain ⟨v, ⟨hk, c, hc, hcell⟩, hv, _⟩ := r j _ _ _ hj hjv h3
    obtain ⟨e1, e2⟩ := p.cells_cap eo L hqm
    exact ⟨v, ⟨e2, c, e1.trans hc, hcell⟩, hv, Off.noHdr hnh⟩
theorem comp_core {elt target iter : Expr} {ifs : List Expr} {more : List Comprehension} {pos : Pos} {A : Around} {s₁ : Shared} {E : Value → Shared → Prop} {I : Addr} {o : Obj} {RR : Value → Addr → Result → Shared → Prop} {res : List S}
    (p : PC scope cx vals own oc caps gs) (eo : EnvOk env cx) (r : VarsAt env cx.ns vals s₁.heap) (g : Glob w s₁.heap) (hA : Ok A n) (hI : I = s₁.heap.objs.size)
    {items : List S} {isl : Bool} {av : Value} {fp : List Addr} {P : Nat → Value → Prop} {St : Nat → Heap → Prop} (IR : ItR prog w isl av s₁.heap I items fp P St) (st : St 0 (s₁.heap.push o))
    (hloop : ∀ (L D : Addr) (s₄ : Shared) (R : Result → Shared → Prop), CC w (cenvOf scope env oc L) (cxOf own caps gs) own (caps.map (·.2)) D s₁.heap → I ≠ D → ¬ Tch (cenvOf scope env oc L) own I →
      SF (cenvOf scope env oc L) own D s₁.heap (own.map fun _ => .unset) [] s₄.heap → St 0 s₄.heap →
      (∀ s', SF (cenvOf scope env oc L) own D s₁.heap (own.map fun _ => .unset) res s'.heap → s'.os = s₄.os → GX s₄.gens s'.gens → R (.ok .next) s') →
      codeAny (model prog w) A (.compLoop (.ListComp elt (⟨target, iter, ifs, 0⟩ :: more) scope pos) 0 (.ref I) (.ref D) (cenvOf scope env oc L)) R s₄)
    (hRR : ∀ D C s' m vs, s₁.heap.get? D = none → s₁.heap.get? C = none → D ≠ C → KeepA s₁.heap s'.heap → s'.heap.PlainList D (List.toArray vs) → All2 (RepS s'.heap) vs res → s'.heap.Ns C m → m hdrName = none → s'.os = s₁.os → GX s₁.gens s'.gens → RR (.ref D) C (.ok .next) s') :
    wpAny (model prog w) A (newList []) (fun acc s₃ => wpAny (model prog w) A (newFunctionEnv scope env.globals (clFor scope env) [] env.qual none .none (some env)) (fun cenv s₄ =>
      codeAny (model prog w) A (.compStart (.ListComp elt (⟨target, iter, ifs, 0⟩ :: more) scope pos) 0 (.ref I) acc { cenv with scope := relabel scope env }) (RR acc cenv.locals) s₄) E s₃) E { s₁ with heap := s₁.heap.push o } := by
  refine wpAny_newObj_type (newCompEnv ?_)
  dsimp only
  have z1 : (s₁.heap.push o).objs.size = s₁.heap.objs.size + 1 := Heap.size_push ..
  generalize hH1 : s₁.heap.push o = H1 at z1 ⊢ st
  have z2 : (H1.push { cls := .type "list", data := .seq ([] : List Value).toArray }).objs.size = s₁.heap.objs.size + 2 := by rw [Heap.size_push, z1]
  generalize hH2 : H1.push { cls := .type "list", data := .seq ([] : List Value).toArray } = H2 at z2 ⊢
  have z3 : (H2.push { cls := .type "dict", data := .dict #[] }).objs.size = s₁.heap.objs.size + 3 := by rw [Heap.size_push, z2]
  generalize hH3 : H2.push { cls := .type "dict", data := .dict #[] } = H3 at z3 ⊢
  rw [p.pc, p.cf]
  have k01 : KeepA s₁.heap H1 := hH1 ▸ KeepA.push _ _
  have k12 : KeepA H1 H2 := hH2 ▸ KeepA.push _ _
  have k23 : KeepA H2 H3 := hH3 ▸ KeepA.push _ _
  have k34 : KeepA H3 (och oc H3) := by cases oc with
    | none => exact KeepA.refl _
    | some x => exact KeepA.push _ _
  have fresh : ∀ a, s₁.heap.objs.size ≤ a → s₁.heap.get? a = none := fun a ha => by
    cases e : s₁.heap.get? a with
    | none => rfl
    | some o' => exact absurd (Heap.lt_size e) (Nat.not_lt.mpr ha)
  have hD2 : H2.get? H1.objs.size = some { cls := .type "list", data := .seq ([] : List Value).toArray } := hH2 ▸ Heap.get?_push_size _ rfl
  have hL3 : H3.Ns H2.objs.size (fun _ => none) := hH3 ▸ Heap.Ns.new H2 (.type "dict")
  have hcell : ∀ x, oc = some x → (och oc H3).IsCell (H2.objs.size + 1) none := by
    rintro x rfl
    refine ⟨{ cls := .type "cell", data := .cell none }, ?_, rfl⟩
    rw [show H2.objs.size + 1 = H3.objs.size by rw [z2, z3]]
    exact Heap.get?_push_size _ rfl
  have celL : ∀ x c, (x, true) ∈ own → (cenvOf scope env oc H2.objs.size).cells.lookup x = some c → c = H2.objs.size + 1 ∧ oc = some x := by
    intro x c hx hc
    obtain ⟨rfl, _⟩ := p.owncl x hx
    change List.lookup x ((x, H2.objs.size + 1) :: _) = some c at hc
    simp [List.lookup_cons] at hc
    exact ⟨hc.symm, rfl⟩
  have tch : ∀ a, Tch (cenvOf scope env oc H2.objs.size) own a → a = H2.objs.size ∨ a = H2.objs.size + 1 := by
    rintro a (rfl | ⟨x, hx, e⟩)
    · exact .inl rfl
    · exact .inr (celL x a hx e).1
  have hI' : @Eq Nat I s₁.heap.objs.size := hI
  have hID : I ≠ H1.objs.size := Nat.ne_of_lt (by omega)
  have hIT : ¬ Tch (cenvOf scope env oc H2.objs.size) own I := fun t => by rcases tch _ t with h | h <;> exact absurd h (Nat.ne_of_lt (by omega))
  have C : CC w (cenvOf scope env oc H2.objs.size) (cxOf own caps gs) own (caps.map (·.2)) H1.objs.size s₁.heap :=
    ⟨p.eo eo _, ⟨_, rfl, p.capvars eo _ r⟩, fresh _ (by omega), fun a t => by rcases tch _ t with h | h <;> (subst h; exact ⟨fresh _ (by omega), Nat.ne_of_gt (by omega)⟩), g⟩
  have k14 : KeepA H1 (och oc H3) := (k12.trans k23).trans k34
  have sf : SF (cenvOf scope env oc H2.objs.size) own H1.objs.size s₁.heap (own.map fun _ => .unset) [] (och oc H3) := by
    refine ⟨k01.trans k14, ⟨fun x hx => ?_, fun x hx => ?_, fun x y c hx hy e1 e2 => ?_, ⟨_, hL3.keeps k34, rfl⟩, p.nd, p.nh⟩, fun i x b pv h1 h2 h3 => ?_, ⟨[], ⟨_, k34 _ _ (k23 _ _ hD2)⟩, .nil⟩⟩
    · rw [kindOf_comp, p.ownl x hx]; rfl
    · obtain ⟨e, hl⟩ := p.owncl x hx
      refine ⟨by rw [kindOf_comp, hl]; rfl, H2.objs.size + 1, none, ?_, Nat.succ_ne_self _, hcell x e⟩
      subst e
      show List.lookup x ((x, _) :: _) = _
      simp [List.lookup_cons]
    · have a1 := (celL x c hx e1).2
      have a2 := (celL y c hy e2).2
      rw [a1] at a2; exact Option.some.inj a2
    · rw [List.getElem?_map] at h2
      cases hq : own[i]? with
      | none => rw [hq] at h2; cases h2
      | some q => rw [hq] at h2; cases h2; exact absurd rfl h3
  have st4 : St 0 (och oc H3) := (IR.W A hA.hd).frame _ _ _ st fun b hb o ho => k14 b o ho
  have main : ∀ s₄ : Shared, s₄ = { s₁ with heap := och oc H3 } → codeAny (model prog w) A (.compLoop (.ListComp elt (⟨target, iter, ifs, 0⟩ :: more) scope pos) 0 (.ref I) (.ref H1.objs.size) (cenvOf scope env oc H2.objs.size)) (RR (.ref H1.objs.size) H2.objs.size) s₄ := by
    rintro s₄ rfl
    refine hloop H2.objs.size H1.objs.size _ _ C hID hIT sf st4 fun s' sf' os' gx' => ?_
    obtain ⟨vs, hp, ha⟩ := sf'.acc
    obtain ⟨m, hn, hm⟩ := sf'.F.lns
    exact hRR _ _ s' m vs (fresh _ (by omega)) (fresh _ (by omega)) (Nat.ne_of_lt (by omega)) sf'.kb hp ha hn hm os' gx'
  exact codeAny_compStart_list (main _ rfl) ((IR.W A hA.hd).self 0 _ _ _ st4 (main _ rfl))
end
end Mine
end
section
open PySem PySem.W PyProof.Rows PySem.Calls PySem.Spec
set_option Elab.async false
set_option maxRecDepth 100000
set_option maxHeartbeats 8000000
set_option linter.unusedVariables false
set_option genSizeOf false
namespace Mine
section
variable {prog : Program} {w : World} {A : Around} {s : Shared} {R : Result → Shared → Prop}
theorem compStart_d {elt : Expr} {gens : List Comprehension} {d : Nat} {target iter : Expr} {ifs : List Expr} {scope pos it acc env}
    (hg : gens[d]? = some ⟨target, iter, ifs, 0⟩)
    (h0 : codeAny (model prog w) A (.compLoop (.ListComp elt gens scope pos) d it acc env) R s)
    (h : wpAny (model prog w) A (pyIter it) (fun it' s' => codeAny (model prog w) A (.compLoop (.ListComp elt gens scope pos) d it' acc env) R s')
      (notedBy (model prog w) A env fun x s' => R (.error x) s') s) :
    codeAny (model prog w) A (.compStart (.ListComp elt gens scope pos) d it acc env) R s := by
  refine codeAny_of_tree ?_
  show wpAny _ _ ((compStart (.ListComp elt gens scope pos) d it acc env).onRaise (fun x => do noteFrame x env; standAt theWindowsPlace)) _ _ s
  refine wpAny_notedAt ?_
  unfold compStart
  rw [show clausesOf (.ListComp elt gens scope pos) = gens from rfl, hg]
  show wpAny _ _ (ask >>= _) _ _ s
  refine wpAny_bind (wpAny_askSetting (wpAny_ite ?_))
  split
  · first
      | exact wpAny_bind (wpAny_pure (wpAny_pure (And.intro rfl h0)))
      | exact wpAny_pure (And.intro rfl h0)
  · first
      | exact wpAny_bind (wpAny_rule (wpAny_bind (wpAny_standAt (wpAny_bind (wpAny_mono h (fun it' s' h' => wpAny_pure (And.intro rfl h')) fun _ _ x => x)))))
      | (refine wpAny_bind (wpAny_rule ?_); show wpAny _ _ (standAt iter.pos >>= _) _ _ s; exact wpAny_bind (wpAny_standAt (wpAny_bind (wpAny_mono h (fun it' s' h' => wpAny_pure (And.intro rfl h')) fun _ _ x => x))))
end
noncomputable def LG (isl : Bool) (target : Expr) : Prop := (∀ it v, letOwnedTupleGo target it v = pure ()) ∨ (isl = true ∧ ∃ elts k p, target = .Tuple elts k p)
noncomputable def LGs (target : Expr) : Prop := ∀ it v, letOwnedTupleGo target it v = pure ()
section
variable {prog : Program} {w : World} {n : Nat} {cenv env : Env} {cx cx' : Cx} {vals : List V} {own : List (Str × Bool)} {capv : List V} {D : Addr} {hb : Heap} {ov : List V} {out : List S}
theorem LG.run {isl : Bool} {target : Expr} (l : LG isl target) {av : Value} {b : Heap} {I : Addr} {items : List S} {fp : List Addr} {P : Nat → Value → Prop} {St : Nat → Heap → Prop} (IR : ItR prog w isl av b I items fp P St)
    (A : Around) (s : Shared) (v : Value) (Q : Unit → Shared → Prop) (E : Value → Shared → Prop) (i : Nat) (st : St i s.heap) (q : Q () s) : wpAny (model prog w) A (letOwnedTupleGo target (.ref I) v) Q E s := by
  rcases l with h | ⟨hl, elts, k, p, rfl⟩
  · exact wpAny_of_eq (h _ _) q
  · obtain ⟨l, hi⟩ := IR.li hl i _ st
    cases v with
    | ref T => exact wpAny_letOwnedTupleGo_listiter hi q
    | _ => exact wpAny_pure q
theorem emit_ok {elt : Expr} {f : S} {vals : List V} {A : Around} {s : Shared} {Q : Unit → Shared → Prop} {E : Value → Shared → Prop} (C : CC w cenv cx own capv D hb) (hA : Ok A n) (hl : ov.length = own.length) (hf : ov.all V.flat = true)
    (he : Ev prog w n cenv cx (ov ++ capv) elt (.s f)) (sf : SF cenv own D hb ov out s.heap) (hsz : (out ++ [f]).length ≤ 16777216)
    (q : ∀ s', SF cenv own D hb ov (out ++ [f]) s'.heap → KeepX (TD cenv own D) s.heap s'.heap → s'.os = s.os → GX s.gens s'.gens → Q () s') :
    wpAny (model prog w) A (do let _ ← call (.builtin "list.append") [.ref D, ← eval elt cenv]) Q E s := by
  refine wpAny_bind (he A s _ _ hA (sf.glob C) (sf.rep C hl) fun v s₁ x₁ r₁ _ => ?_)
  have sf₁ := sf.keep x₁.keep
  obtain ⟨vs, hp, ha⟩ := sf₁.acc
  have hlen := ha.length
  refine wpAny_bind (wpAny_list_append_plain hp (fun h' hp' hs' => wpAny_pure ?_) (by rw [List.size_toArray, hlen, sizeLine_eq]; simp at hsz; omega))
  have kx := keepX_same hs'
  have kx' : KeepX (TD cenv own D) s₁.heap h' := kx.mono fun x e => .inr e
  have kt := keepT_TD sf₁ kx'
  refine q _ ⟨fun a o e => kx a o (fun e' => by subst e'; rw [C.Dn] at e; cases e) (sf₁.kb a o e), sf₁.F.keepX kx (fun a t e => (C.tn a t).2 e), sf₁.var.keepX hf kx kt (fun a t e => (C.tn a t).2 e), vs ++ [v], ?_, ?_⟩ (fun a o na e => kx' a o na (x₁.keep a o e)) x₁.os x₁.gens
  · rw [← List.push_toArray]; exact hp'
  · exact (ha.mono fun _ _ y => y.keep kt).snoc (RepS.keep kt r₁)
theorem vars_unset {own own' : List (Str × Bool)} {h : Heap} : VarsAt env own (own'.map fun _ => .unset) h := fun i x b pv h1 h2 h3 => by
  rw [List.getElem?_map] at h2
  cases hq : own'[i]? with
  | none => rw [hq] at h2; cases h2
  | some q => rw [hq] at h2; cases h2; exact absurd rfl h3
theorem vars_drop {own : List (Str × Bool)} {h : Heap} {k : Nat} {x : V} (hk : ov[k]? = some .unset) (r : VarsAt env own (ov.set k x) h) : VarsAt env own ov h := fun i y b pv h1 h2 h3 => by
  by_cases e : k = i
  · subst e; rw [hk] at h2; cases h2; exact absurd rfl h3
  · exact r i y b pv h1 (by rw [List.getElem?_set_ne e]; exact h2) h3
/-- what a comprehension of one clause gives -/
structure C1 (prog : Program) (w : World) (n : Nat) (env : Env) (cx : Cx) (vals : List V) (elt target iter : Expr) (ifs : List Expr) (scope : Scope) (res : List S) : Prop where
  ex : ∃ (own : List (Str × Bool)) (oc : Option Str) (caps : List (Str × V)) (gs : List Str) (pv : V) (isl : Bool) (items : List S) (up : S → List V) (ok : S → Bool) (f : S → S),
    PC scope cx vals own oc caps gs ∧ Ev prog w n env cx vals iter pv ∧ IterOf prog w n isl pv items ∧ LG isl target ∧ (∀ it, (up it).length = own.length) ∧ (∀ it, (up it).all V.flat = true) ∧
    (∀ cenv, cenv.scope.kind = .function → ∀ it ∈ items, AsT prog w n cenv own target (own.map fun _ => .unset) it (up it)) ∧
    (∀ cenv, ∀ it ∈ items, TsT prog w n cenv (cxOf own caps gs) (up it ++ caps.map (·.2)) ifs (ok it)) ∧
    (∀ cenv, ∀ it ∈ items, ok it = true → Ev prog w n cenv (cxOf own caps gs) (up it ++ caps.map (·.2)) elt (.s (f it))) ∧
    items.length ≤ 16777216 ∧ res = (items.filter ok).map f
theorem flatMap_if (ok : S → Bool) (f : S → S) : ∀ (l : List S), l.flatMap (fun it => if ok it then [f it] else []) = (l.filter ok).map f
  | [] => rfl
  | a :: r => by
    rw [List.flatMap_cons, flatMap_if ok f r]
    cases h : ok a <;> simp [h]
theorem own_flat (own : List (Str × Bool)) : (own.map fun _ => V.unset).all V.flat = true := by
  induction own <;> simp_all [V.flat]
theorem isframe : True := trivial
theorem comp1_run {elt target iter : Expr} {ifs : List Expr} {scope : Scope} {pos : Pos} {res : List S} {A : Around} {s : Shared} {E : Value → Shared → Prop} {RR : Value → Addr → Result → Shared → Prop}
    (c : C1 prog w n env cx vals elt target iter ifs scope res) (hA : Ok A n) (g : Glob w s.heap) (r : RepE env cx vals s.heap)
    (hRR : ∀ s₁, Ext s s₁ → ∀ D C s' m vs, s₁.heap.get? D = none → s₁.heap.get? C = none → D ≠ C → KeepA s₁.heap s'.heap → s'.heap.PlainList D (List.toArray vs) → All2 (RepS s'.heap) vs res → s'.heap.Ns C m → m hdrName = none → s'.os = s₁.os → GX s₁.gens s'.gens → RR (.ref D) C (.ok .next) s') :
    closureFor scope env = pure (clFor scope env) ∧ wpAny (model prog w) A (eval iter env) (fun x s₁ => wpAny (model prog w) A (pyIter x) (fun it s₂ =>
      wpAny (model prog w) A (newList []) (fun acc s₃ => wpAny (model prog w) A (newFunctionEnv scope env.globals (clFor scope env) [] env.qual none .none (some env)) (fun cenv s₄ =>
        codeAny (model prog w) A (.compStart (.ListComp elt [⟨target, iter, ifs, 0⟩] scope pos) 0 it acc { cenv with scope := relabel scope env }) (RR acc cenv.locals) s₄) E s₃) E s₂) E s₁) E s := by
  obtain ⟨own, oc, caps, gs, pv, isl, items, up, ok, f, p, hit, hio, hlg, upl, upf, has, hts, hel, hsz, rfl⟩ := c.ex
  refine ⟨closure_eq fun x hx => (r.eo.cel x (p.fre x hx)).2, ?_⟩
  refine hit A s _ _ hA g r fun v s₁ x₁ r₁ _ => ?_
  have g₁ := g.keep x₁.keep
  have re₁ := r.keep x₁.keep
  refine hio A s₁ _ _ v hA g₁ r₁ fun o fp P St IR st => ?_
  refine comp_core p re₁.eo re₁.var g₁ hA rfl IR st (fun L D s₄ R C hID hIT sf st₄ q => ?_) (hRR s₁ x₁)
  have hnI : s₁.heap.get? s₁.heap.objs.size = none := by
    cases e : s₁.heap.get? s₁.heap.objs.size with
    | none => rfl
    | some o' => exact absurd (Heap.lt_size e) (Nat.lt_irrefl _)
  have hlen : ((items.filter ok).map f).length ≤ 16777216 := by
    rw [List.length_map]; exact Nat.le_trans (List.length_filter_le _ _) hsz
  refine loop_gen (X := fun k => (do let _ ← call (.builtin "list.append") [.ref D, ← eval elt (cenvOf scope env oc L)]) >>= fun _ => k) (b := s₁.heap) (g := fun it => if ok it then [f it] else [])
    (by rw [compTurn_last elt _ scope pos 0 _ _ _ target iter ifs rfl rfl]; rfl) C hA (by simp) (own_flat own) IR (fun x hx => (IR.fp x hx).imp id fun h => h.2.2) hnI hnI hID hIT (hlg.run IR) up upl upf
    (fun it hm => has _ p.kind it hm) (fun it h _ => vars_unset) ok (fun it hm => hts _ it hm) ?_ (fun it h => by simp [h]) (by rw [List.nil_append, flatMap_if]; exact hlen) st₄ sf (KeepX.of_keep sf.kb) sf.kb.toT
    (fun s' sf' k' os' gx' => q s' (by rw [List.nil_append, flatMap_if] at sf'; exact sf') os' gx')
  intro it hm hok k s₅ Q₅ E₅ out₅ sf₅ hsz₅ q₅
  simp only [hok, if_true] at q₅ hsz₅
  exact wpAny_bind (emit_ok (vals := vals) C hA (upl it) (upf it) (hel _ it hm hok) sf₅ hsz₅ q₅)
theorem C1.pc {elt target iter : Expr} {ifs : List Expr} {scope : Scope} {res : List S} (c : C1 prog w n env cx vals elt target iter ifs scope res) : scope.kind = .function ∧ ∀ x ∈ scope.names, x.2 = .local → scope.names.lookup x.1 = some .local := by
  obtain ⟨own, oc, caps, gs, pv, isl, items, up, ok, f, p, _⟩ := c.ex
  exact ⟨p.kind, p.nms⟩
theorem post_ext {s s₁ s' : Shared} {D C : Addr} {m : Str → Option Value} {vs : List Value} {res : List S} (x : Ext s s₁) (hD : s₁.heap.get? D = none) (hC : s₁.heap.get? C = none) (hDC : D ≠ C) (k : KeepA s₁.heap s'.heap)
    (hp : s'.heap.PlainList D vs.toArray) (ha : All2 (RepS s'.heap) vs res) (hn : s'.heap.Ns C m) (ho : s'.os = s₁.os) (hg : GX s₁.gens s'.gens) {h' : Heap} (sb : Heap.SameBut C s'.heap h') :
    Ext s { s' with heap := h' } ∧ RepL h' D res ∧ s.heap.get? D = none := by
  refine ⟨⟨fun b o e => sb.extBut b o (fun e' => by subst e'; rw [x.keep _ _ e |> fun _ => none_back x hC] at e; cases e) (k b o (x.keep b o e)), ho.trans x.os, x.gens.trans hg⟩, ⟨vs, hp.extBut sb.extBut hDC, ha.mono fun _ _ y => y.keep ?_⟩, none_back x hD⟩
  exact keepT_of (keepX_same sb) fun b o e ho items n _ hd => by subst e; exact (ns_odd hn ho).noSeq hd
theorem Ev.comp1 {elt target iter : Expr} {ifs : List Expr} {scope : Scope} {pos : Pos} {res : List S} (c : C1 prog w n env cx vals elt target iter ifs scope res) (hs : ∀ x, foldedSetIterable iter env x = pure x) :
    Ev prog w n env cx vals (.ListComp elt [⟨target, iter, ifs, 0⟩] scope pos) (.lst .own res) := by
  intro A s Q E hA g r q
  obtain ⟨h1, h2⟩ := comp1_run (pos := pos) (E := E) (RR := compPost (model prog w) A E none Q) c hA g r fun s₁ x D C s' m vs hD hC hDC k hp ha hn _ ho hg => ⟨m, hn, fun h' sb => by
    obtain ⟨e1, e2, e3⟩ := post_ext x hD hC hDC k hp ha hn ho hg sb
    exact q _ _ e1 ⟨D, rfl, e2⟩ (fun a e => by cases e; exact e3)⟩
  rw [eval_ListComp]
  exact wpAny_comprehension_free (use := none) rfl hs h1 c.pc.1 c.pc.2 h2
/-- two clauses -/
noncomputable def EvI (prog : Program) (w : World) (n : Nat) (cenv : Env) (cx : Cx) (own : List (Str × Bool)) (capv : List V) (ov : List V) (iter : Expr) (items : List S) : Prop :=
  ∀ (A : Around) (s : Shared) (Q E : Value → Shared → Prop) (D : Addr) (hb : Heap) (out : List S), Ok A n → CC w cenv cx own capv D hb → SF cenv own D hb ov out s.heap →
    (∀ s₁ o isl av fp P St, Ext s s₁ → ItR prog w isl av s₁.heap s₁.heap.objs.size items fp P St → (∀ x ∈ fp, x = s₁.heap.objs.size ∨ ∃ o, hb.get? x = some o) → St 0 (s₁.heap.push o) → Q (.ref s₁.heap.objs.size) { s₁ with heap := s₁.heap.push o }) →
    wpAny (model prog w) A (eval iter cenv) (fun x s₁ => wpAny (model prog w) A (pyIter x) Q E s₁) E s
theorem EvI.rng {iter : Expr} {m : Nat} (hl : ov.length = own.length) (h : Ev prog w n cenv cx (ov ++ capv) iter (.rng m)) : EvI prog w n cenv cx own capv ov iter ((List.range m).map .nat) :=
  fun A s Q E D hb out hA C sf q => h A s _ _ hA (sf.glob C) (sf.rep C hl) fun v s₁ x₁ r₁ _ => IterOf.rng A s₁ _ _ v hA ((sf.glob C).keep x₁.keep) r₁ fun o fp P St IR st => q s₁ o _ _ fp P St x₁ IR (fun x hx => (IR.fp x hx).imp id fun h => nomatch h.1) st
theorem EvI.cap {x : Str} {p : Pos} {j : Nat} {o : Fl} {l : List S} (hx : cx.ns[own.length + j]? = some (x, true)) (hv : capv[j]? = some (.lst o l)) (hd : (x == ("__debug__" : Str)) = false) : EvI prog w n cenv cx own capv ov (.Name x p) l := by
  intro A s Q E D hb out hA C sf q
  obtain ⟨cap, e, hc⟩ := C.ns
  have hx' : cap[j]? = some (x, true) := by rw [e, List.getElem?_append_right (by omega)] at hx; simpa using hx
  obtain ⟨v, hb', hv', _⟩ := hc j x true _ hx' hv (fun h => nomatch h)
  refine wpAny_Name (wp_bound C.eo.kind (hb'.keep sf.kb) ?_) hd
  obtain ⟨a, rfl, vs, ⟨_, ho'⟩, _⟩ := id hv'
  refine IterOf.list A s _ _ _ hA (sf.glob C) (hv'.keep sf.kb) fun o fp P St IR st => q s o _ _ fp P St (Ext.refl s) IR (fun x hx => (IR.fp x hx).imp id fun h => ?_) st
  have := h.2.1
  cases this
  exact ⟨_, ho'⟩
structure C2 (prog : Program) (w : World) (n : Nat) (env : Env) (cx : Cx) (vals : List V) (elt : Expr) (x0 x1 : Str) (p0 p1 : Pos) (iter0 iter1 : Expr) (ifs1 : List Expr) (scope : Scope) (res : List S) : Prop where
  ex : ∃ (oc : Option Str) (caps : List (Str × V)) (gs : List Str) (pv : V) (isl : Bool) (items : List S) (items1 : S → List S) (ok : S → S → Bool) (f : S → S → S),
    PC scope cx vals [(x0, false), (x1, false)] oc caps gs ∧ Ev prog w n env cx vals iter0 pv ∧ IterOf prog w n isl pv items ∧
    (∀ cenv, ∀ it ∈ items, EvI prog w n cenv (cxOf [(x0, false), (x1, false)] caps gs) [(x0, false), (x1, false)] (caps.map (·.2)) [.s it, .unset] iter1 (items1 it)) ∧
    (∀ cenv, ∀ it ∈ items, ∀ jt ∈ items1 it, TsT prog w n cenv (cxOf [(x0, false), (x1, false)] caps gs) (.s it :: .s jt :: caps.map (·.2)) ifs1 (ok it jt)) ∧
    (∀ cenv, ∀ it ∈ items, ∀ jt ∈ items1 it, ok it jt = true → Ev prog w n cenv (cxOf [(x0, false), (x1, false)] caps gs) (.s it :: .s jt :: caps.map (·.2)) elt (.s (f it jt))) ∧
    res = (items.flatMap fun it => ((items1 it).filter (ok it)).map (f it)) ∧ res.length ≤ 16777216
theorem comp2_run {elt iter0 iter1 : Expr} {x0 x1 : Str} {p0 p1 : Pos} {ifs1 : List Expr} {scope : Scope} {pos : Pos} {res : List S} {A : Around} {s : Shared} {E : Value → Shared → Prop} {RR : Value → Addr → Result → Shared → Prop}
    (c : C2 prog w n env cx vals elt x0 x1 p0 p1 iter0 iter1 ifs1 scope res) (hs1 : ∀ env x, foldedSetIterable iter1 env x = pure x) (hA : Ok A n) (g : Glob w s.heap) (r : RepE env cx vals s.heap)
    (hRR : ∀ s₁, Ext s s₁ → ∀ D C s' m vs, s₁.heap.get? D = none → s₁.heap.get? C = none → D ≠ C → KeepA s₁.heap s'.heap → s'.heap.PlainList D (List.toArray vs) → All2 (RepS s'.heap) vs res → s'.heap.Ns C m → m hdrName = none → s'.os = s₁.os → GX s₁.gens s'.gens → RR (.ref D) C (.ok .next) s') :
    closureFor scope env = pure (clFor scope env) ∧ wpAny (model prog w) A (eval iter0 env) (fun x s₁ => wpAny (model prog w) A (pyIter x) (fun it s₂ =>
      wpAny (model prog w) A (newList []) (fun acc s₃ => wpAny (model prog w) A (newFunctionEnv scope env.globals (clFor scope env) [] env.qual none .none (some env)) (fun cenv s₄ =>
        codeAny (model prog w) A (.compStart (.ListComp elt [⟨.Name x0 p0, iter0, [], 0⟩, ⟨.Name x1 p1, iter1, ifs1, 0⟩] scope pos) 0 it acc { cenv with scope := relabel scope env }) (RR acc cenv.locals) s₄) E s₃) E s₂) E s₁) E s := by
  obtain ⟨oc, caps, gs, pv, isl, items, items1, ok, f, p, hit, hio, hin, hts, hel, rfl, hsz⟩ := c.ex
  refine ⟨closure_eq fun x hx => (r.eo.cel x (p.fre x hx)).2, ?_⟩
  refine hit A s _ _ hA g r fun v s₁ x₁ r₁ _ => ?_
  have g₁ := g.keep x₁.keep
  have re₁ := r.keep x₁.keep
  refine hio A s₁ _ _ v hA g₁ r₁ fun o fp P St IR st => ?_
  have nsz : ∀ h : Heap, h.get? h.objs.size = none := fun h => by
    cases e : h.get? h.objs.size with
    | none => rfl
    | some o' => exact absurd (Heap.lt_size e) (Nat.lt_irrefl _)
  refine comp_core p re₁.eo re₁.var g₁ hA rfl IR st (fun L D s₄ R C hID hIT sf st₄ q => ?_) (hRR s₁ x₁)
  refine loop_gen (X := fun k => do
      let x ← eval iter1 (cenvOf scope env oc L)
      standAt iter1.pos
      let x ← foldedSetIterable iter1 (cenvOf scope env oc L) x
      let _ ← runOwn (.compStart (.ListComp elt [⟨.Name x0 p0, iter0, [], 0⟩, ⟨.Name x1 p1, iter1, ifs1, 0⟩] scope pos) (0 + 1) (← holding [x] (pyIter x)) (.ref D) (cenvOf scope env oc L)) (cenvOf scope env oc L)
      k)
    (b := s₁.heap) (g := fun it => ((items1 it).filter (ok it)).map (f it)) (up := fun it => [.s it, .unset]) (ok := fun _ => true)
    (by rw [compTurn_more elt _ scope pos 0 _ _ _ (.Name x0 p0) iter0 (.Name x1 p1) iter1 [] ifs1 rfl rfl]; rfl) C hA (by simp) (own_flat _) IR (fun x hx => (IR.fp x hx).imp id fun h => h.2.2) (nsz _) (nsz _) hID hIT
    (fun A s v Q E i st q => wpAny_pure q) (fun _ => rfl) (fun _ => rfl)
    (fun it hm => AsT.name (k := 0) p.kind rfl) (fun it h _ => vars_unset) (fun it hm => .inl ⟨rfl, rfl⟩) ?_ (fun it h => nomatch h) (by simpa using hsz) st₄ sf (KeepX.of_keep sf.kb) sf.kb.toT
    (fun s' sf' k' os' gx' => q s' (by rw [List.nil_append] at sf'; exact sf') os' gx')
  intro it hm _ k₀ s₅ Q₅ E₅ out₅ sf₅ hsz₅ q₅
  refine wpAny_bind (wpAny_mono (hin _ it hm A s₅ (fun i s₇ => wpAny (model prog w) A (runOwn (.compStart (.ListComp elt [⟨.Name x0 p0, iter0, [], 0⟩, ⟨.Name x1 p1, iter1, ifs1, 0⟩] scope pos) (0 + 1) i (.ref D) (cenvOf scope env oc L)) (cenvOf scope env oc L)) (fun _ s₈ => wpAny (model prog w) A k₀ Q₅ E₅ s₈) E₅ s₇) E₅ D s₁.heap out₅ hA C sf₅ fun s₆ o isl' av' fp' P' St' x₆ IR' hfp' st' => ?_) (fun x s₆ h₆ => wpAny_bind (wpAny_standAt (wpAny_bind (wpAny_of_eq (hs1 _ x) (wpAny_bind (wpAny_holding (wpAny_mono h₆ (fun i s₇ h₇ => wpAny_bind (wpAny_mono h₇ (fun _ _ h => h) fun _ _ e => e)) fun _ _ e => e))))))) fun _ _ e => e)
  have sf₆ := sf₅.keep x₆.keep
  have kp : KeepA s₆.heap (s₆.heap.push o) := KeepA.push _ _
  have sf₇ := sf₆.keep kp
  have hlt : ∀ a, TD (cenvOf scope env oc L) [(x0, false), (x1, false)] D a → a ≠ s₆.heap.objs.size := by
    rintro a (t | rfl)
    · rcases t with rfl | ⟨y, hy, e⟩
      · obtain ⟨m, ⟨o', _, _, ho', _⟩, _⟩ := sf₆.F.lns
        exact Nat.ne_of_lt (Heap.lt_size ho')
      · simp at hy
    · obtain ⟨vs, ⟨m, hp⟩, _⟩ := sf₆.acc
      exact Nat.ne_of_lt (Heap.lt_size hp)
  have hhb : s₁.heap.get? s₆.heap.objs.size = none := by
    cases e : s₁.heap.get? s₆.heap.objs.size with
    | none => rfl
    | some o' => exact absurd (Heap.lt_size (sf₆.kb _ _ e)) (Nat.lt_irrefl _)
  have main : ∀ s₇ : Shared, s₇ = { s₆ with heap := s₆.heap.push o } → codeAny (model prog w) A (.compLoop (.ListComp elt [⟨.Name x0 p0, iter0, [], 0⟩, ⟨.Name x1 p1, iter1, ifs1, 0⟩] scope pos) (0 + 1) (.ref s₆.heap.objs.size) (.ref D) (cenvOf scope env oc L))
      (fun r s' => match r with | .ok f => wpAny (model prog w) A k₀ Q₅ E₅ s' | .error e => cameBackBy (model prog w) A (cenvOf scope env oc L) E₅ e s') s₇ := by
    rintro s₇ rfl
    refine loop_gen (X := fun k => (do let _ ← call (.builtin "list.append") [.ref D, ← eval elt (cenvOf scope env oc L)]) >>= fun _ => k) (b := s₆.heap) (g := fun jt => if ok it jt then [f it jt] else []) (ov := [.s it, .unset]) (up := fun jt => [.s it, .s jt]) (ok := ok it)
      (by rw [compTurn_last elt _ scope pos (0 + 1) _ _ _ (.Name x1 p1) iter1 ifs1 rfl rfl]; rfl) C hA rfl rfl IR' hfp' (nsz _) hhb (fun e => hlt D (.inr rfl) e.symm) (fun t => hlt _ (.inl t) rfl)
      (fun A s v Q E i st q => wpAny_pure q) (fun _ => rfl) (fun _ => rfl) (fun jt hj => AsT.name (k := 1) p.kind rfl) (fun jt h hv => vars_drop (k := 1) (x := .s jt) rfl hv) (fun jt hj => hts _ it hm jt hj) ?_ (fun jt h => by simp [h])
      (by rw [flatMap_if]; exact hsz₅) st' sf₇ (KeepX.of_keep kp) kp.toT (fun s' sf' k' os' gx' => q₅ s' (by rw [flatMap_if] at sf'; exact sf') (fun a o na e => k' a o na (x₆.keep a o e)) (os'.trans x₆.os) (x₆.gens.trans gx'))
    intro jt hj hok k s₈ Q₈ E₈ out₈ sf₈ hsz₈ q₈
    simp only [hok, if_true] at q₈ hsz₈
    exact wpAny_bind (emit_ok (vals := vals) C hA rfl rfl (hel _ it hm jt hj hok) sf₈ hsz₈ q₈)
  exact wpAny_runOwn (compStart_d rfl (main _ rfl) ((IR'.W A hA.hd).self 0 _ _ _ st' (main _ rfl)))
theorem C2.pc {elt iter0 iter1 : Expr} {x0 x1 : Str} {p0 p1 : Pos} {ifs1 : List Expr} {scope : Scope} {res : List S} (c : C2 prog w n env cx vals elt x0 x1 p0 p1 iter0 iter1 ifs1 scope res) : scope.kind = .function ∧ ∀ x ∈ scope.names, x.2 = .local → scope.names.lookup x.1 = some .local := by
  obtain ⟨oc, caps, gs, pv, isl, items, items1, ok, f, p, _⟩ := c.ex
  exact ⟨p.kind, p.nms⟩
end
end Mine
end
section
open PySem PySem.W PyProof.Rows PySem.Calls PySem.Spec
set_option Elab.async false
set_option maxRecDepth 100000
set_option maxHeartbeats 8000000
set_option linter.unusedVariables false
set_option genSizeOf false
namespace Mine
noncomputable def Rt (h : Heap) (v : Value) (pv : V) (a : Addr) : Prop := match pv with
  | .lst _ _ => v = .ref a
  | .at _ _ => v = .ref a
  | .raw _ => v = .ref a
  | .hdr _ _ => ∃ x dx, v = .ref x ∧ HdrRaw h x dx a
  | _ => True
noncomputable def RepR (h : Heap) (v : Value) (pv : V) (a : Addr) : Prop := RepV h v pv ∧ Rt h v pv a
noncomputable def V.listy : V → Bool
  | .lst _ _ => true
  | .at _ _ => true
  | .raw _ => true
  | .hdr _ _ => true
  | _ => false
theorem RepV.root {h : Heap} {v : Value} {pv : V} (r : RepV h v pv) : ∃ a, RepR h v pv a := by
  cases pv with
  | lst o l => obtain ⟨a, e, x⟩ := r; exact ⟨a, ⟨a, e, x⟩, e⟩
  | «at» a l => exact ⟨a, r, r.1⟩
  | raw l => obtain ⟨a, e, x⟩ := r; exact ⟨a, ⟨a, e, x⟩, e⟩
  | hdr o l => obtain ⟨x, dx, lh, e, q, t⟩ := r; exact ⟨lh, ⟨x, dx, lh, e, q, t⟩, x, dx, e, q⟩
  | unset => exact ⟨0, r, trivial⟩
  | s x => exact ⟨0, r, trivial⟩
  | val x => exact ⟨0, r, trivial⟩
  | rng n => exact ⟨0, r, trivial⟩
theorem RepR.keep {h h' : Heap} (k : KeepA h h') {v : Value} {pv : V} {a : Addr} (r : RepR h v pv a) : RepR h' v pv a := by
  refine ⟨r.1.keep k, ?_⟩
  have := r.2
  cases pv with
  | hdr o l => obtain ⟨x, dx, e, q⟩ := this; exact ⟨x, dx, e, q.keep k⟩
  | _ => exact this
theorem RepR.obj {h : Heap} {v : Value} {pv : V} {a : Addr} (r : RepR h v pv a) (hl : pv.listy = true) : ∃ its, h.IsList a its := by
  cases pv with
  | lst o l => obtain ⟨⟨a', e, vs, hl', _⟩, e'⟩ := r; change v = .ref a at e'; rw [e] at e'; cases e'; exact ⟨_, hl'.isList⟩
  | «at» a' l => obtain ⟨⟨e, vs, hl', _⟩, e'⟩ := r; change v = .ref a at e'; rw [e] at e'; cases e'; exact ⟨_, hl'.isList⟩
  | raw l => obtain ⟨⟨a', e, vs, hl', _⟩, e'⟩ := r; change v = .ref a at e'; rw [e] at e'; cases e'; exact ⟨_, hl'⟩
  | hdr o l =>
    obtain ⟨⟨x, dx, lh, e, q, vs, hl', _⟩, x', dx', e', q'⟩ := r
    rw [e] at e'; cases e'
    have := (q.uniq q').2
    subst this
    exact ⟨_, hl'.isList⟩
  | _ => cases hl
theorem RepR.odd {T : Addr → Prop} {h h' : Heap} (k : KeepX T h h') (hT : ∀ b o, T b → h.get? b = some o → Odd o) {v : Value} {pv : V} {a : Addr}
    (hx : ∀ x dx lh, v = .ref x → HdrRaw h x dx lh → (∃ o l, pv = .hdr o l) → ¬ T dx) (r : RepR h v pv a) : RepR h' v pv a := by
  refine ⟨r.1.odd k hT hx, ?_⟩
  have := r.2
  cases pv with
  | hdr o l =>
    obtain ⟨x, dx, e, q⟩ := this
    refine ⟨x, dx, e, ?_⟩
    have hdx := hx x dx a e q ⟨_, _, rfl⟩
    obtain ⟨r1, hs, t, r2⟩ := q
    exact ⟨k _ _ (fun q => (hT x _ q r1).noPlain rfl) r1, hs, t, k _ _ hdx r2⟩
  | _ => exact this
/-- a list turns: what has another root stays -/
theorem KeepT.of_list {h h' : Heap} {a : Addr} {its : Array Value} (hl : h.IsList a its) (sb : Heap.SameBut a h h') : KeepT h h' :=
  keepT_of (keepX_same sb) fun b o e ho items n hc hd => by
    subst e
    obtain ⟨o', ho', hc', _⟩ := hl
    rw [ho] at ho'; cases ho'
    rw [hc'] at hc
    injection hc with hc; exact absurd hc (by decide)
theorem HdrRaw.mut {h h' : Heap} {a : Addr} {its : Array Value} (hl : h.IsList a its) (sb : Heap.SameBut a h h') {x dx lh : Addr} (r : HdrRaw h x dx lh) : HdrRaw h' x dx lh := by
  obtain ⟨o', ho', hc', n, hd'⟩ := hl
  obtain ⟨r1, hs, t, r2⟩ := r
  refine ⟨sb.extBut x _ (fun e => ?_) r1, hs, t, sb.extBut dx _ (fun e => ?_) r2⟩
  · subst e; rw [ho'] at r1; cases r1; cases hd'
  · subst e; rw [ho'] at r2; cases r2; cases hd'
theorem RepV.mut {h h' : Heap} {a : Addr} {its : Array Value} (hl : h.IsList a its) (sb : Heap.SameBut a h h') {v : Value} {pv : V} {b : Addr} (hb : pv.listy = true → b ≠ a) (r : RepR h v pv b) : RepR h' v pv b := by
  have kt := KeepT.of_list hl sb
  have kx := keepX_same sb
  have nl : ∀ {x : Addr}, x ≠ a → ∀ {l : List S}, RepL h x l → RepL h' x l := fun hx l ⟨vs, ⟨n, p⟩, q⟩ => ⟨vs, ⟨n, kx _ _ hx p⟩, q.mono fun _ _ y => y.keep kt⟩
  cases pv with
  | unset => exact ⟨trivial, trivial⟩
  | s x => exact ⟨RepS.keep kt r.1, trivial⟩
  | val x => exact ⟨r.1, trivial⟩
  | rng n =>
    obtain ⟨⟨c, t, u, w, e, i, hn⟩, _⟩ := r
    refine ⟨⟨c, t, u, w, e, kx _ _ (fun e' => ?_) i, hn⟩, trivial⟩
    rw [e'] at i
    obtain ⟨o', ho', hc', n, hd'⟩ := hl
    rw [i] at ho'; cases ho'; cases hd'
  | lst o l =>
    obtain ⟨⟨c, e, q⟩, e'⟩ := r
    change v = .ref b at e'
    rw [e] at e'; cases e'
    exact ⟨⟨_, e, nl (hb rfl) q⟩, e⟩
  | «at» c l =>
    obtain ⟨⟨e, q⟩, e'⟩ := r
    change v = .ref b at e'
    rw [e] at e'; cases e'
    exact ⟨⟨e, nl (hb rfl) q⟩, e⟩
  | raw l =>
    obtain ⟨⟨c, e, vs, ⟨o, ho, q⟩, y⟩, e'⟩ := r
    change v = .ref b at e'
    rw [e] at e'; cases e'
    exact ⟨⟨_, e, vs, ⟨o, kx _ _ (hb rfl) ho, q⟩, y.mono fun _ _ y => y.keep kt⟩, e⟩
  | hdr o l =>
    obtain ⟨⟨x, dx, lh, e, q, t⟩, x', dx', e', q'⟩ := r
    rw [e] at e'; cases e'
    have := (q.uniq q').2
    subst this
    exact ⟨⟨x, dx, lh, e, q.mut hl sb, nl (hb rfl) t⟩, x, dx, e, q.mut hl sb⟩
theorem Off.mut {L : Addr} {h h' : Heap} {a : Addr} {its : Array Value} (hl : h.IsList a its) (sb : Heap.SameBut a h h') {v : Value} {pv : V} {b : Addr} (r : RepR h v pv b) (o : Off L h v pv) : Off L h' v pv := by
  cases pv with
  | hdr o' l =>
    obtain ⟨⟨x, dx, lh, e, q, _⟩, _⟩ := r
    intro x' dx' lh' e' r'
    rw [e] at e'; cases e'
    have := ((q.mut hl sb).uniq r').1
    subst this
    exact o x dx lh e q
  | _ => trivial
theorem Off.odd {L : Addr} {T : Addr → Prop} {h h' : Heap} (k : KeepX T h h') (hT : ∀ b o, T b → h.get? b = some o → Odd o) {v : Value} {pv : V} {a : Addr}
    (hx : ∀ x dx lh, v = .ref x → HdrRaw h x dx lh → (∃ o l, pv = .hdr o l) → ¬ T dx) (r : RepR h v pv a) (o : Off L h v pv) : Off L h' v pv := by
  have r' := r.odd k hT hx
  cases pv with
  | hdr o' l =>
    obtain ⟨⟨x, dx, lh, e, q, _⟩, _⟩ := r
    obtain ⟨⟨x2, dx2, lh2, e2, q2, _⟩, _⟩ := r'
    rw [e] at e2; cases e2
    have hdx := hx x dx lh e q ⟨_, _, rfl⟩
    obtain ⟨r1, hs, t, r2⟩ := id q
    have q3 : HdrRaw h' x dx lh := ⟨k _ _ (fun q => (hT x _ q r1).noPlain rfl) r1, hs, t, k _ _ hdx r2⟩
    intro x' dx' lh' e' r''
    rw [e] at e'; cases e'
    have := (q3.uniq r'').1
    subst this
    exact o x dx lh e q
  | _ => trivial
noncomputable def BK (base : Addr → Option Obj) (h : Heap) : Prop := ∀ a o, base a = some o → h.get? a = some o
structure StO (w : World) (base : Addr → Option Obj) (env : Env) (cx : Cx) (vals : List V) (h : Heap) (ρ : Nat → Addr) : Prop where
  bk : BK base h
  glob : ∀ h, BK base h → Glob w h
  eo : EnvOk env cx
  F : Frm env cx.ns h
  var : ∀ i x b pv, cx.ns[i]? = some (x, b) → vals[i]? = some pv → pv ≠ .unset → ∃ v, Bound env h x b v ∧ RepR h v pv (ρ i) ∧ Off env.locals h v pv
  tn : ∀ a, Tch env cx.ns a → base a = none
  rn : ∀ i pv, vals[i]? = some pv → pv.fresh = true → base (ρ i) = none
  sep : ∀ i j pv qv, i ≠ j → vals[i]? = some pv → pv.fresh = true → vals[j]? = some qv → qv.listy = true → ρ i ≠ ρ j
  len : vals.length = cx.ns.length
noncomputable def StOk (w : World) (base : Addr → Option Obj) (env : Env) (cx : Cx) (vals : List V) (h : Heap) : Prop := ∃ ρ, StO w base env cx vals h ρ
section
variable {w : World} {base : Addr → Option Obj} {env : Env} {cx : Cx} {vals : List V} {h h' : Heap} {ρ : Nat → Addr}
theorem StO.rep (x : StO w base env cx vals h ρ) : RepE env cx vals h := ⟨x.eo, fun i y b pv h1 h2 h3 => let ⟨v, a, c, d⟩ := x.var i y b pv h1 h2 h3; ⟨v, a, c.1, d⟩⟩
theorem StO.g (x : StO w base env cx vals h ρ) : Glob w h := x.glob _ x.bk
theorem StO.keep (x : StO w base env cx vals h ρ) (k : KeepA h h') : StO w base env cx vals h' ρ :=
  ⟨fun a o e => k a o (x.bk a o e), x.glob, x.eo, x.F.keep fun b o _ e => k b o e, fun i y b pv h1 h2 h3 => let ⟨v, a, c, d⟩ := x.var i y b pv h1 h2 h3; ⟨v, a.keep k, c.keep k, d.keep k c.1⟩, x.tn, x.rn, x.sep, x.len⟩
theorem StOk.keep (x : StOk w base env cx vals h) (k : KeepA h h') : StOk w base env cx vals h' := let ⟨ρ, y⟩ := x; ⟨ρ, y.keep k⟩
theorem StOk.rep (x : StOk w base env cx vals h) : RepE env cx vals h := let ⟨_, y⟩ := x; y.rep
theorem StOk.g (x : StOk w base env cx vals h) : Glob w h := let ⟨_, y⟩ := x; y.g
theorem StOk.bk (x : StOk w base env cx vals h) : BK base h := let ⟨_, y⟩ := x; y.bk
theorem StOk.eo (x : StOk w base env cx vals h) : EnvOk env cx := let ⟨_, y⟩ := x; y.eo
theorem get_set {α : Type} {l : List α} {k i : Nat} {a b : α} (h : (l.set k a)[i]? = some b) : (i = k ∧ b = a ∧ k < l.length) ∨ (i ≠ k ∧ l[i]? = some b) := by
  by_cases e : k = i
  · subst e
    by_cases hk : k < l.length
    · rw [List.getElem?_set_self hk] at h; cases h; exact .inl ⟨rfl, rfl, hk⟩
    · rw [List.getElem?_eq_none (by rw [List.length_set]; omega)] at h; cases h
  · rw [List.getElem?_set_ne e] at h; exact .inr ⟨Ne.symm e, h⟩
/-- the weakening of a variable -/
theorem StO.weak (x : StO w base env cx vals h ρ) {k : Nat} {pv : V} (hk : vals[k]? = some pv) (pv' : V) (hw : ∀ v, RepR h v pv (ρ k) → RepR h v pv' (ρ k)) (hf : pv'.fresh = false) (ho : ∀ v, Off env.locals h v pv → Off env.locals h v pv') (hl : pv'.listy = true → pv.listy = true)
    (hu : pv = .unset → pv' = .unset) : StO w base env cx (vals.set k pv') h ρ where
  bk := x.bk
  glob := x.glob
  eo := x.eo
  F := x.F
  tn := x.tn
  len := by rw [List.length_set]; exact x.len
  var := fun i y b qv h1 h2 h3 => by
    rcases get_set h2 with ⟨rfl, rfl, _⟩ | ⟨hne, h2⟩
    · obtain ⟨v, a, c, d⟩ := x.var i y b pv h1 hk (fun e => h3 (hu e))
      exact ⟨v, a, hw v c, ho v d⟩
    · exact x.var i y b qv h1 h2 h3
  rn := fun i qv h2 h3 => by
    rcases get_set h2 with ⟨rfl, rfl, _⟩ | ⟨hne, h2⟩
    · rw [hf] at h3; cases h3
    · exact x.rn i qv h2 h3
  sep := fun i j p q hij h1 h2 h3 h4 => by
    rcases get_set h1 with ⟨rfl, rfl, _⟩ | ⟨hne, g1⟩
    · rw [hf] at h2; cases h2
    · rcases get_set h3 with ⟨rfl, rfl, _⟩ | ⟨hne', g3⟩
      · exact x.sep i j p pv hij g1 h2 hk (hl h4)
      · exact x.sep i j p q hij g1 h2 g3 h4
/-- an own list of a variable turns -/
theorem StO.mut (x : StO w base env cx vals h ρ) {k : Nat} {pv pv' : V} (hk : vals[k]? = some pv) (hf : pv.fresh = true) (hf' : pv'.listy = true) {its : Array Value} (hl : h.IsList (ρ k) its) (sb : Heap.SameBut (ρ k) h h')
    (hr : ∀ v, RepR h v pv (ρ k) → RepR h' v pv' (ρ k)) (ho : ∀ v, RepR h v pv (ρ k) → Off env.locals h v pv → Off env.locals h' v pv') : StO w base env cx (vals.set k pv') h' ρ := by
  have hl' : pv.listy = true := by cases pv <;> first | rfl | cases hf
  have kx := keepX_same sb
  obtain ⟨o, hol, hcl, nl, hdl⟩ := id hl
  have hT : ∀ b, Tch env cx.ns b → b ≠ ρ k := fun b t e => by subst e; exact (x.F.odd t hol).noSeq hdl
  refine ⟨fun a o e => kx a o (fun e' => by subst e'; rw [x.rn k pv hk hf] at e; cases e) (x.bk a o e), x.glob, x.eo, x.F.keepX kx hT, fun i y b qv h1 h2 h3 => ?_, x.tn, fun i qv h2 h3 => ?_, fun i j p q hij h1 h2 h3 h4 => ?_, by rw [List.length_set]; exact x.len⟩
  · rcases get_set h2 with ⟨rfl, rfl, _⟩ | ⟨hne, h2⟩
    · obtain ⟨v, a, c, d⟩ := x.var i y b pv h1 hk (fun e => by subst e; cases hf)
      exact ⟨v, a.keepX kx hT (mem_get h1), hr v c, ho v c d⟩
    · obtain ⟨v, a, c, d⟩ := x.var i y b qv h1 h2 h3
      exact ⟨v, a.keepX kx hT (mem_get h1), RepV.mut hl sb (fun hq => (x.sep k i pv qv (Ne.symm hne) hk hf h2 hq).symm) c, Off.mut hl sb c d⟩
  · rcases get_set h2 with ⟨rfl, rfl, _⟩ | ⟨hne, h2⟩
    · exact x.rn i pv hk hf
    · exact x.rn i qv h2 h3
  · rcases get_set h1 with ⟨rfl, rfl, _⟩ | ⟨hne, g1⟩
    · rcases get_set h3 with ⟨rfl, rfl, _⟩ | ⟨hne', g3⟩
      · exact absurd rfl hij
      · exact x.sep i j pv q hij hk hf g3 h4
    · rcases get_set h3 with ⟨rfl, rfl, _⟩ | ⟨hne', g3⟩
      · exact x.sep i j p pv hij g1 h2 hk hl'
      · exact x.sep i j p q hij g1 h2 g3 h4
end
/-- what may be given to variable k -/
noncomputable def May (vals : List V) (k : Nat) (pv : V) : Prop := pv.fresh = true ∨ pv.listy = false ∨ ∀ j qv, j ≠ k → vals[j]? = some qv → qv.fresh = false
section
variable {prog : Program} {w : World} {base : Addr → Option Obj} {env : Env} {cx : Cx} {vals : List V} {s s₀ : Shared} {ρ : Nat → Addr} {A : Around} {E : Value → Shared → Prop}
theorem StO.store {k : Nat} {x : Str} {b : Bool} {v : Value} {pv : V} {Q : Unit → Shared → Prop} (st : StO w base env cx vals s.heap ρ) (hx : cx.ns[k]? = some (x, b)) (hr : RepV s.heap v pv) (hm : May vals k pv)
    (hfr : pv.fresh = true → ∀ a, RepR s.heap v pv a → base a = none ∧ ∀ j qv, j ≠ k → vals[j]? = some qv → qv.listy = true → ρ j ≠ a)
    (q : ∀ h' tk, KeepX (Tch env cx.ns) s.heap h' → StOk w base env cx (vals.set k pv) h' → Q () { s with heap := h', toks := tk }) : wpAny (model prog w) A (storeName env x v) Q E s := by
  have off := st.F.off (v := v) pv
  refine store_ok st.eo.kind st.rep.var st.F hx hr off fun h' tk a ha sb F' V' hb hob => ?_
  obtain ⟨r, hrr⟩ := hr.root
  have kx : KeepX (fun z => z = a) s.heap h' := fun b o hb e => (sb.2 b hb).trans e
  have hT : ∀ b o, (fun z => z = a) b → s.heap.get? b = some o → Odd o := fun b o e ho => by subst e; exact st.F.odd ha ho
  have nodx : ∀ u qv, Off env.locals s.heap u qv → ∀ x dx lh, u = .ref x → HdrRaw s.heap x dx lh → (∃ o l, qv = .hdr o l) → dx ≠ a := by
    rintro u qv off x dx lh e r ⟨o, l, rfl⟩ rfl
    rcases ha with rfl | ⟨z, hz, e'⟩
    · exact off x _ lh e r rfl
    · obtain ⟨_, c', v', e'', _, oc, hoc, hdc⟩ := st.F.cel z hz
      rw [e'] at e''; cases e''
      obtain ⟨_, hs', t, r2⟩ := r
      rw [r2] at hoc; cases hoc; cases hdc
  refine q h' tk (fun b o nb e => kx b o (fun e' => nb (e' ▸ ha)) e) ⟨fun i => if i = k then r else ρ i, ⟨fun a' o e => kx a' o (fun e' => ?_) (st.bk a' o e), st.glob, st.eo, F', fun i y c qv h1 h2 h3 => ?_, st.tn, fun i qv h2 h3 => ?_, fun i j p qv hij h1 h2 h3 h4 => ?_, by rw [List.length_set]; exact st.len⟩⟩
  · have := st.tn a ha
    change a' = a at e'
    subst e'
    rw [this] at e; cases e
  · rcases get_set h2 with ⟨rfl, rfl, _⟩ | ⟨hne, h2⟩
    · rw [hx] at h1; cases h1
      simp only [if_true]
      exact ⟨v, hb, hrr.odd kx hT (nodx v _ off), off.odd kx hT (nodx v _ off) hrr⟩
    · obtain ⟨u, a1, c1, d1⟩ := st.var i y c qv h1 h2 h3
      rw [if_neg hne]
      refine ⟨u, hob y c u (fun e => ?_) (mem_get h1) a1, c1.odd kx hT (nodx u _ d1), d1.odd kx hT (nodx u _ d1) c1⟩
      subst e
      have e1 : (cx.ns.map (·.1))[i]? = some y := by rw [List.getElem?_map, h1]; rfl
      have e2 : (cx.ns.map (·.1))[k]? = some y := by rw [List.getElem?_map, hx]; rfl
      exact hne (nodup_get st.F.nd e1 e2)
  · rcases get_set h2 with ⟨rfl, rfl, _⟩ | ⟨hne, h2⟩
    · simp only [if_true]; exact (hfr h3 r hrr).1
    · rw [if_neg hne]; exact st.rn i qv h2 h3
  · rcases get_set h1 with ⟨rfl, rfl, _⟩ | ⟨hne, g1⟩
    · rw [if_pos rfl, if_neg (Ne.symm hij)]
      rcases get_set h3 with ⟨rfl, rfl, _⟩ | ⟨hne', g3⟩
      · exact absurd rfl hij
      · exact ((hfr h2 r hrr).2 j qv hne' g3 h4).symm
    · rw [if_neg hne]
      rcases get_set h3 with ⟨rfl, rfl, _⟩ | ⟨hne', g3⟩
      · rw [if_pos rfl]
        rcases hm with hm | hm | hm
        · have hl : p.listy = true := by cases p <;> first | rfl | cases h2
          exact (hfr hm r hrr).2 i p hne g1 hl
        · rw [hm] at h4; cases h4
        · rw [hm i p hne g1] at h2; cases h2
      · rw [if_neg hne']; exact st.sep i j p qv hij g1 h2 g3 h4
/-- the value of an expression, just given -/
theorem StO.store_ev {k : Nat} {x : Str} {b : Bool} {v : Value} {pv : V} {Q : Unit → Shared → Prop} (st₀ : StO w base env cx vals s₀.heap ρ) (xt : Ext s₀ s) (hx : cx.ns[k]? = some (x, b)) (hr : RepV s.heap v pv) (hfr : Fresh pv s₀ s v) (hm : May vals k pv)
    (q : ∀ h' tk, KeepX (Tch env cx.ns) s.heap h' → StOk w base env cx (vals.set k pv) h' → Q () { s with heap := h', toks := tk }) : wpAny (model prog w) A (storeName env x v) Q E s := by
  have st := st₀.keep xt.keep
  have bn : ∀ a, s₀.heap.get? a = none → base a = none := fun a e => by
    cases hb : base a with
    | none => rfl
    | some o => rw [st₀.bk a o hb] at e; cases e
  have dis : ∀ a, s₀.heap.get? a = none → ∀ j qv, vals[j]? = some qv → qv.listy = true → ρ j ≠ a := fun a e j qv hj hl h => by
    subst h
    have hlt : j < cx.ns.length := by rw [← st₀.len]; exact (List.getElem?_eq_some_iff.mp hj).1
    obtain ⟨u, _, c, _⟩ := st₀.var j cx.ns[j].1 cx.ns[j].2 qv (by simp [hlt]) hj (fun e => by subst e; cases hl)
    obtain ⟨its, o, ho, _⟩ := c.obj hl
    rw [e] at ho; cases ho
  refine st.store hx hr hm (fun hf a hrr => ?_) q
  · cases pv with
    | lst o l =>
      cases o with
      | own =>
        have e := hrr.2
        change v = .ref a at e
        exact ⟨bn a (hfr a e), fun j qv _ hj hl => dis a (hfr a e) j qv hj hl⟩
      | _ => cases hf
    | hdr o l =>
      cases o with
      | own =>
        obtain ⟨x', dx', e, r⟩ := hrr.2
        have := (hfr x' dx' a e r).2.2
        exact ⟨bn a this, fun j qv _ hj hl => dis a this j qv hj hl⟩
      | _ => cases hf
    | _ => cases hf
end
section
variable {w : World} {base : Addr → Option Obj} {env : Env} {cx : Cx} {vals : List V} {h h' : Heap} {ρ : Nat → Addr}
theorem dx_ns {h : Heap} {C : Addr} {m : Str → Option Value} (hn : h.Ns C m) (hm : m hdrName = none) {x dx lh : Addr} (r : HdrRaw h x dx lh) : dx ≠ C := by
  rintro rfl
  obtain ⟨o, es, ep, ho, hd, _, hh⟩ := hn
  obtain ⟨_, hs, t, r2⟩ := r
  rw [r2] at ho; cases ho
  have := hh hdrName
  rw [hm] at this
  injection hd with e1 e2
  subst e1
  exact absurd this (by simp [nsFind, findBy, hdrName, Value.isStr])
theorem StO.oddX (x : StO w base env cx vals h ρ) {a : Addr} (sb : Heap.ExtBut a h h') (ho : ∀ o, h.get? a = some o → Odd o) (ht : ¬ Tch env cx.ns a) (hb : base a = none) (hdx : ∀ x dx lh, HdrRaw h x dx lh → dx ≠ a) : StO w base env cx vals h' ρ := by
  have kx : KeepX (fun z => z = a) h h' := fun b o hb e => sb b o hb e
  have hT : ∀ b o, (fun z => z = a) b → h.get? b = some o → Odd o := fun b o e h' => by subst e; exact ho o h'
  have hT' : ∀ b, Tch env cx.ns b → ¬ (fun z => z = a) b := fun b t e => by change b = a at e; subst e; exact ht t
  refine ⟨fun b o e => kx b o (fun e' => by change b = a at e'; subst e'; rw [hb] at e; cases e) (x.bk b o e), x.glob, x.eo, x.F.keepX kx hT', fun i y b pv h1 h2 h3 => ?_, x.tn, x.rn, x.sep, x.len⟩
  obtain ⟨v, a1, c1, d1⟩ := x.var i y b pv h1 h2 h3
  have nd : ∀ x dx lh, v = .ref x → HdrRaw h x dx lh → (∃ o l, pv = .hdr o l) → ¬ (fun z => z = a) dx := fun x dx lh _ r _ => hdx x dx lh r
  exact ⟨v, a1.keepX kx hT' (mem_get h1), c1.odd kx hT nd, d1.odd kx hT nd c1⟩
end
end Mine
end
section
open PySem PySem.W PyProof.Rows PySem.Calls PySem.Spec
set_option Elab.async false
set_option maxRecDepth 100000
set_option maxHeartbeats 8000000
set_option linter.unusedVariables false
set_option genSizeOf false
namespace Mine
inductive Out where
  | next (vals : List V)
  | brk (vals : List V)
  | ret (pv : V)
noncomputable def Out.isNext : Out → Bool
  | .next _ => true
  | _ => false
noncomputable def OutOk (w : World) (base : Addr → Option Obj) (env : Env) (cx : Cx) (s s' : Shared) (fl : Flow) (o : Out) : Prop :=
  s'.os = s.os ∧ GX s.gens s'.gens ∧ match o, fl with
    | .next v, .next => StOk w base env cx v s'.heap
    | .brk v, .brk => StOk w base env cx v s'.heap
    | .ret pv, .ret v => BK base s'.heap ∧ RepV s'.heap v pv
    | _, _ => False
section
variable (prog : Program) (w : World) (n : Nat) (env : Env) (cx : Cx) (vals : List V)
noncomputable def W1 (st : Stmt) (o : Out) : Prop := ∀ (A : Around) (s : Shared) (Q : Flow → Shared → Prop) (E : Value → Shared → Prop) (base : Addr → Option Obj), Ok A n → StOk w base env cx vals s.heap →
  (∀ fl s', OutOk w base env cx s s' fl o → Q fl s') → wpAny (model prog w) A (exec st env) Q E s
noncomputable def W (st : List Stmt) (o : Out) : Prop := ∀ (A : Around) (s : Shared) (Q : Flow → Shared → Prop) (E : Value → Shared → Prop) (base : Addr → Option Obj), Ok A n → StOk w base env cx vals s.heap →
  (∀ fl s', OutOk w base env cx s s' fl o → Q fl s') → wpAny (model prog w) A (execs st env) Q E s
end
section
variable {prog : Program} {w : World} {n : Nat} {env : Env} {cx : Cx} {vals : List V}
theorem OutOk.back {base : Addr → Option Obj} {s s₁ s' : Shared} {fl : Flow} {o : Out} (ho : s₁.os = s.os) (hg : GX s.gens s₁.gens) (x : OutOk w base env cx s₁ s' fl o) : OutOk w base env cx s s' fl o :=
  ⟨x.1.trans ho, hg.trans x.2.1, x.2.2⟩
theorem OutOk.next' {base : Addr → Option Obj} {s s' : Shared} {fl : Flow} {v : List V} (x : OutOk w base env cx s s' fl (.next v)) : fl = .next ∧ StOk w base env cx v s'.heap ∧ s'.os = s.os ∧ GX s.gens s'.gens := by
  obtain ⟨a, b, c⟩ := x
  cases fl <;> first | exact ⟨rfl, c, a, b⟩ | exact c.elim
theorem W.nil : W prog w n env cx vals [] (.next vals) := fun A s Q E base hA st q => wpAny_execs_nil (q _ s ⟨rfl, .refl _, st⟩)
theorem W.cons {st : Stmt} {rest : List Stmt} {v1 : List V} {o : Out} (h1 : W1 prog w n env cx vals st (.next v1)) (h2 : W prog w n env cx v1 rest o) : W prog w n env cx vals (st :: rest) o :=
  fun A s Q E base hA x q => wpAny_execs_cons (h1 A s _ _ base hA x fun fl s₁ o1 => by
    obtain ⟨rfl, x₁, os₁, g₁⟩ := o1.next'
    exact h2 A s₁ _ _ base hA x₁ fun fl s' o2 => q fl s' (o2.back os₁ g₁))
theorem W.stop {st : Stmt} {rest : List Stmt} {o : Out} (h1 : W1 prog w n env cx vals st o) (ho : o.isNext = false) : W prog w n env cx vals (st :: rest) o :=
  fun A s Q E base hA x q => wpAny_execs_cons (h1 A s _ _ base hA x fun fl s₁ o1 => by
    obtain ⟨a, b, c⟩ := id o1
    cases fl with
    | next => cases o <;> first | (cases ho; done) | exact c.elim
    | _ => exact q _ s₁ o1)
theorem W.one {st : Stmt} {o : Out} (h1 : W1 prog w n env cx vals st o) : W prog w n env cx vals [st] o := by
  cases ho : o.isNext with
  | false => exact .stop h1 ho
  | true => cases o with
    | next v => exact .cons h1 .nil
    | _ => cases ho
theorem W1.eq {st : Stmt} {o o' : Out} (h : W1 prog w n env cx vals st o) (e : o = o') : W1 prog w n env cx vals st o' := e ▸ h
theorem W.eq {st : List Stmt} {o o' : Out} (h : W prog w n env cx vals st o) (e : o = o') : W prog w n env cx vals st o' := e ▸ h
theorem W1.assign {e : Expr} {p p' : Pos} {x : Str} {b : Bool} {pv : V} (k : Nat) (hx : cx.ns[k]? = some (x, b)) (he : Ev prog w n env cx vals e pv) (hm : May vals k pv)
    (hs : EnvOk env cx → swapsWith e (some (.Name x p')) p.line env = pure false) : W1 prog w n env cx vals (.Assign [.Name x p'] e p) (.next (vals.set k pv)) :=
  fun A s Q E base hA ⟨ρ, x⟩ q => wpAny_Assign_Name (he A s _ _ hA x.g x.rep fun v s₁ x₁ r₁ f₁ => x.store_ev x₁ hx r₁ f₁ hm fun h' tk _ st' => q _ _ ⟨x₁.os, x₁.gens, st'⟩) (hs x.eo)
theorem W1.ret {e : Expr} {p : Pos} {pv : V} (he : Ev prog w n env cx vals e pv) : W1 prog w n env cx vals (.Return (some e) p) (.ret pv) :=
  fun A s Q E base hA st q => wpAny_Return_some (he A s _ _ hA st.g st.rep fun v s₁ x₁ r₁ _ => q _ _ ⟨x₁.os, x₁.gens, fun a o e => x₁.keep a o (st.bk a o e), r₁⟩)
theorem W1.brk {p : Pos} : W1 prog w n env cx vals (.Break p) (.brk vals) := fun A s Q E base hA st q => wpAny_Break (q _ s ⟨rfl, .refl _, st⟩)
theorem W1.ite {t : Expr} {b1 b2 : List Stmt} {p : Pos} {c : Bool} {o : Out} (ht : Tv prog w n env cx vals t c) (h1 : c = true → W prog w n env cx vals b1 o) (h2 : c = false → W prog w n env cx vals b2 o) : W1 prog w n env cx vals (.If t b1 b2 p) o :=
  fun A s Q E base hA st q => wpAny_If (ht A s _ _ hA st.g st.rep fun s₁ x₁ => by
    cases c with
    | true => exact h1 rfl A s₁ _ _ base hA (st.keep x₁.keep) fun fl s' o => q fl s' (o.back x₁.os x₁.gens)
    | false => exact h2 rfl A s₁ _ _ base hA (st.keep x₁.keep) fun fl s' o => q fl s' (o.back x₁.os x₁.gens))
theorem W1.while (f : Nat → List V) (N : Nat) {t : Expr} {body : List Stmt} {p : Pos} (step : ∀ i, i < N → Tv prog w n env cx (f i) t true ∧ W prog w n env cx (f i) body (.next (f (i + 1)))) (last : Tv prog w n env cx (f N) t false) :
    W1 prog w n env cx (f 0) (.While t body [] p) (.next (f N)) := fun A s Q E base hA st q => by
  refine wpAny_While (codeAny_whileLoop (fun k s' => ∃ i, i ≤ N ∧ k = N - i ∧ StOk w base env cx (f i) s'.heap ∧ s'.os = s.os ∧ GX s.gens s'.gens) ?_ N ⟨0, Nat.zero_le _, rfl, st, rfl, .refl _⟩)
  rintro k s' ⟨i, hi, rfl, st', os', g'⟩
  by_cases hN : i = N
  · subst hN
    refine last A s' _ _ hA st'.g st'.rep fun s₁ x₁ => ?_
    exact wpAny_execs_nil (q _ _ ⟨x₁.os.trans os', g'.trans x₁.gens, st'.keep x₁.keep⟩)
  · have hlt : i < N := by omega
    refine (step i hlt).1 A s' _ _ hA st'.g st'.rep fun s₁ x₁ => ?_
    refine (step i hlt).2 A s₁ _ _ base hA (st'.keep x₁.keep) fun fl s₂ o => ?_
    obtain ⟨rfl, st₂, os₂, g₂⟩ := o.next'
    exact ⟨N - (i + 1), by omega, i + 1, hlt, rfl, st₂, os₂.trans (x₁.os.trans os'), (g'.trans x₁.gens).trans g₂⟩
/-- two names at once, from a pair -/
theorem W1.pair {e : Expr} {p p' : Pos} {x y : Str} {px py : Pos} {kk : Nat} {b c : Bool} {a1 a2 : Nat} (k1 k2 : Nat) (hx : cx.ns[k1]? = some (x, b)) (hy : cx.ns[k2]? = some (y, c)) (he : Ev prog w n env cx vals e (.s (.pair a1 a2)))
    (hs : swapsWith e (some (.Tuple [.Name x px, .Name y py] kk p')) p.line env = pure false) (hw : swappedStores [.Tuple [.Name x px, .Name y py] kk p'] e env = pure none) :
    W1 prog w n env cx vals (.Assign [.Tuple [.Name x px, .Name y py] kk p'] e p) (.next ((vals.set k1 (.s (.nat a1))).set k2 (.s (.nat a2)))) := fun A s Q E base hA ⟨ρ, st⟩ q => by
  refine Assign_Tuple (he A s _ _ hA st.g st.rep fun v s₁ x₁ r₁ f₁ => ?_) hs hw
  obtain ⟨t, ta, tb, rfl, ht⟩ := r₁
  refine wpAny_assign_Tuple hA.hd ht rfl rfl fun h₂ hb₂ => ?_
  have x₂ : Ext s₁ { s₁ with heap := h₂ } := ⟨fun b o e => hb₂ b o (fun e' => by subst e'; exact Nat.lt_irrefl _ (Heap.lt_size e)) e, rfl, .refl _⟩
  show wpAny _ _ (do holding [Value.int (a2 : Int) tb] (PySem.assign (.Name x px) env (.int (a1 : Int) ta)); assignInOrder [PySem.assign (.Name y py) env] [.int (a2 : Int) tb]) _ _ _
  refine wpAny_bind (wpAny_holding (wpAny_assign_Name ?_))
  have nf : ∀ {a : Nat}, (V.s (S.nat a)).listy = false := rfl
  refine st.store_ev (x₁.trans x₂) hx (pv := .s (.nat a1)) ⟨ta, rfl⟩ (.no rfl) (.inr (.inl rfl)) fun h₃ tk₃ _ st₃ => ?_
  show wpAny _ _ (do holding [] (PySem.assign (.Name y py) env (.int (a2 : Int) tb)); assignInOrder [] []) _ _ _
  refine wpAny_bind (wpAny_holding (wpAny_assign_Name ?_))
  obtain ⟨ρ₃, st₃⟩ := st₃
  refine st₃.store (s := { s₁ with heap := h₃, toks := tk₃ }) hy (pv := .s (.nat a2)) ⟨tb, rfl⟩ (.inr (.inl rfl)) (fun h => nomatch h) fun h₄ tk₄ _ st₄ => ?_
  exact wpAny_pure (q _ _ ⟨x₁.os, x₁.gens, st₄⟩)
theorem use_post {base : Addr → Option Obj} {A : Around} {s : Shared} {Q : Flow → Shared → Prop} {E : Value → Shared → Prop} {ρ : Nat → Addr} {x : Str} {p' : Pos} {b : Bool} {res : List S} {k : Nat} (hx : cx.ns[k]? = some (x, b)) (st : StO w base env cx vals s.heap ρ)
    (q : ∀ fl s', OutOk w base env cx s s' fl (.next (vals.set k (.lst .own res))) → Q fl s') : ∀ s₁, Ext s s₁ → ∀ D C s' m vs, s₁.heap.get? D = none → s₁.heap.get? C = none → D ≠ C → KeepA s₁.heap s'.heap → s'.heap.PlainList D (List.toArray vs) → All2 (RepS s'.heap) vs res → s'.heap.Ns C m → m hdrName = none → s'.os = s₁.os → GX s₁.gens s'.gens →
      compPost (model prog w) A E (some (PySem.assign (.Name x p') env)) (fun _ s' => Q .next s') (.ref D) C (.ok .next) s' := by
  intro s₁ x₁ D C s' m vs hD hC hDC kk hp ha hn hm ho hg
  show wpAny _ A (PySem.assign (.Name x p') env (.ref D)) (fun _ s'' => ∃ m, s''.heap.Ns C m ∧ ∀ h', Heap.SameBut C s''.heap h' → Q .next { s'' with heap := h' }) E s'
  have xx : Ext s s' := ⟨x₁.keep.trans kk, ho.trans x₁.os, x₁.gens.trans hg⟩
  refine wpAny_assign_Name (st.store_ev xx hx (pv := .lst .own res) ⟨D, rfl, vs, hp, ha⟩ (fun a e => by cases e; exact none_back x₁ hD) (.inl rfl) fun h' tk k' st' => ?_)
  have tC : ¬ Tch env cx.ns C := by
    intro t
    have : ∃ o, s.heap.get? C = some o := by
      rcases t with rfl | ⟨y, hy, e⟩
      · obtain ⟨m, ⟨o, _, _, ho, _⟩, _⟩ := st.F.lns; exact ⟨o, ho⟩
      · obtain ⟨_, c, v, e', _, o, ho, _⟩ := st.F.cel y hy
        rw [e] at e'; cases e'; exact ⟨o, ho⟩
    obtain ⟨o, ho⟩ := this
    rw [x₁.keep C o ho] at hC; cases hC
  have hn' : h'.Ns C m := hn.at fun o e => k' C o tC e
  refine ⟨m, hn', fun h'' sb => q _ _ ⟨xx.os, xx.gens, ?_⟩⟩
  obtain ⟨ρ', st'⟩ := st'
  refine ⟨ρ', st'.oddX sb.extBut (fun o e => ns_odd hn' e) tC ?_ fun x dx lh r => dx_ns hn' hm r⟩
  cases hb : base C with
  | none => rfl
  | some o => rw [x₁.keep C o (st.bk C o hb)] at hC; cases hC
theorem W1.comp1 {elt target iter : Expr} {ifs : List Expr} {scope : Scope} {pos p p' : Pos} {x : Str} {b : Bool} {res : List S} (k : Nat) (hx : cx.ns[k]? = some (x, b)) (c : C1 prog w n env cx vals elt target iter ifs scope res) (hs : ∀ x, foldedSetIterable iter env x = pure x)
    (hsw : EnvOk env cx → (∀ y, (y, false) ∈ cx.ns → env.kindOf y = some .local) → swapsWith (.ListComp elt [⟨target, iter, ifs, 0⟩] scope pos) (some (.Name x p')) p.line env = pure true) :
    W1 prog w n env cx vals (.Assign [.Name x p'] (.ListComp elt [⟨target, iter, ifs, 0⟩] scope pos) p) (.next (vals.set k (.lst .own res))) := fun A s Q E base hA ⟨ρ, st⟩ q => by
  obtain ⟨h1, h2⟩ := comp1_run (pos := pos) (E := E) (RR := compPost (model prog w) A E (some (PySem.assign (.Name x p') env)) (fun _ s' => Q .next s')) c hA st.g st.rep (use_post hx st q)
  rw [exec_Assign_Name_used _ _ _ _ (hsw st.eo st.F.loc)]
  refine wpAny_bind (wpAny_standAt (wpAny_bind ?_))
  show wpAny _ A (do let _ ← comprehension (.ListComp elt [⟨target, iter, ifs, 0⟩] scope pos) scope env _ (newList []) false (eval iter env) (some (PySem.assign (.Name x p') env))) _ _ s
  exact wpAny_bind (wpAny_mono (wpAny_comprehension_free (use := some (PySem.assign (.Name x p') env)) (Q := fun _ s' => Q .next s') rfl hs h1 c.pc.1 c.pc.2 h2) (fun _ s' hq => wpAny_pure (wpAny_pure hq)) fun _ _ e => e)
theorem W1.comp2 {elt iter0 iter1 : Expr} {x0 x1 : Str} {p0 p1 : Pos} {ifs1 : List Expr} {scope : Scope} {pos p p' : Pos} {x : Str} {b : Bool} {res : List S} (k : Nat) (hx : cx.ns[k]? = some (x, b)) (c : C2 prog w n env cx vals elt x0 x1 p0 p1 iter0 iter1 ifs1 scope res)
    (hs : ∀ x, foldedSetIterable iter0 env x = pure x) (hs1 : ∀ env x, foldedSetIterable iter1 env x = pure x)
    (hsw : EnvOk env cx → (∀ y, (y, false) ∈ cx.ns → env.kindOf y = some .local) → swapsWith (.ListComp elt [⟨.Name x0 p0, iter0, [], 0⟩, ⟨.Name x1 p1, iter1, ifs1, 0⟩] scope pos) (some (.Name x p')) p.line env = pure true) :
    W1 prog w n env cx vals (.Assign [.Name x p'] (.ListComp elt [⟨.Name x0 p0, iter0, [], 0⟩, ⟨.Name x1 p1, iter1, ifs1, 0⟩] scope pos) p) (.next (vals.set k (.lst .own res))) := fun A s Q E base hA ⟨ρ, st⟩ q => by
  obtain ⟨h1, h2⟩ := comp2_run (pos := pos) (E := E) (RR := compPost (model prog w) A E (some (PySem.assign (.Name x p') env)) (fun _ s' => Q .next s')) c hs1 hA st.g st.rep (use_post hx st q)
  rw [exec_Assign_Name_used _ _ _ _ (hsw st.eo st.F.loc)]
  refine wpAny_bind (wpAny_standAt (wpAny_bind ?_))
  show wpAny _ A (do let _ ← comprehension (.ListComp elt [⟨.Name x0 p0, iter0, [], 0⟩, ⟨.Name x1 p1, iter1, ifs1, 0⟩] scope pos) scope env _ (newList []) false (eval iter0 env) (some (PySem.assign (.Name x p') env))) _ _ s
  exact wpAny_bind (wpAny_mono (wpAny_comprehension_free (use := some (PySem.assign (.Name x p') env)) (Q := fun _ s' => Q .next s') rfl hs h1 c.pc.1 c.pc.2 h2) (fun _ s' hq => wpAny_pure (wpAny_pure hq)) fun _ _ e => e)
end
end Mine
end
section
open PySem PySem.W PyProof.Rows PySem.Calls PySem.Spec
set_option Elab.async false
set_option maxRecDepth 100000
set_option maxHeartbeats 8000000
set_option linter.unusedVariables false
set_option genSizeOf false
namespace Mine
section
variable {prog : Program} {w : World} {A : Around} {s : Shared}
theorem forLoopU {R : Result → Shared → Prop} {target : Expr} {it : Value} {body : List Stmt} {env : Env} (I : Nat → Shared → Prop)
    (turn : ∀ n s, I n s → wpAny (model prog w) A (pyNext it) (fun r s₁ => match r with
      | none => R (.ok .next) s₁
      | some v => wpAny (model prog w) A (letOwnedTupleGo target it v) (fun _ s₁ => wpAny (model prog w) A (assign target env v) (fun _ s₂ => wpAny (model prog w) A (execs body env) (fun f s₃ => match f with
          | .next | .cont => ∃ m, m < n ∧ I m s₃
          | .brk => R (.ok .next) s₃
          | .ret v => R (.ok (.ret v)) s₃) (notedBy (model prog w) A env fun e s' => R (.error e) s') s₂) (notedBy (model prog w) A env fun e s' => R (.error e) s') s₁) (notedBy (model prog w) A env fun e s' => R (.error e) s') s₁) (notedBy (model prog w) A env fun e s' => R (.error e) s') s)
    (n : Nat) (h : I n s) : codeAny (model prog w) A (.forLoop target it body [] env) R s := by
  refine codeAny_loop' rfl I (fun n s hI => ?_) n h
  show wpAny _ _ ((forTurn target it body [] env).onRaise (fun x => do noteFrame x env; theTreesLotGoes x)) _ _ s
  refine wpAny_noted ?_
  simp only [forTurn]
  refine wpAny_bind (wpAny_standAt (wpAny_bind (wpAny_onRaise (wpAny_mono (turn n s hI) (fun r s₁ h₁ => ?_) fun _ _ h' => wpAny_standAt h'))))
  cases r with
  | none => exact wpAny_pure (.inr ⟨rfl, codeAny_block (wpAny_execs_nil h₁)⟩)
  | some v =>
    refine wpAny_bind (wpAny_mono h₁ (fun _ s₁' h₁' => ?_) fun _ _ h' => h')
    refine wpAny_bind (wpAny_mono h₁' (fun _ s₂ h₂ => wpAny_bind (wpAny_mono h₂ (fun f s₃ h₃ => ?_) fun _ _ h' => h')) fun _ _ h' => h')
    cases f with
    | next => exact wpAny_pure (.inl ⟨rfl, h₃⟩)
    | cont => exact wpAny_pure (.inl ⟨rfl, h₃⟩)
    | brk => exact wpAny_pure h₃
    | ret v => exact wpAny_pure h₃
end
noncomputable def pin (base : Addr → Option Obj) (y : Addr) (o : Obj) : Addr → Option Obj := fun z => if z = y then some o else base z
section
variable {w : World} {base : Addr → Option Obj} {env : Env} {cx : Cx} {vals : List V} {h h' : Heap} {ρ : Nat → Addr}
theorem StO.pin (x : StO w base env cx vals h ρ) {y : Addr} {o : Obj} (hy : h.get? y = some o) (ht : ¬ Tch env cx.ns y) (hr : ∀ i pv, vals[i]? = some pv → pv.fresh = true → ρ i ≠ y) : StO w (pin base y o) env cx vals h ρ := by
  refine ⟨fun a o' e => ?_, fun h' b => ?_, x.eo, x.F, x.var, fun a t => ?_, fun i pv h1 h2 => ?_, x.sep, x.len⟩
  · unfold Mine.pin at e
    split at e
    · rename_i ha; cases e; rw [ha]; exact hy
    · exact x.bk a o' e
  · refine x.glob h' fun a o' e => ?_
    refine b a o' ?_
    unfold Mine.pin
    split
    · rename_i ha; subst ha; rw [x.bk _ _ e] at hy; exact hy.symm
    · exact e
  · unfold Mine.pin
    rw [if_neg (fun e : a = y => ht (e ▸ t))]
    exact x.tn a t
  · unfold Mine.pin
    rw [if_neg (hr i pv h1 h2)]
    exact x.rn i pv h1 h2
theorem BK.unpin {y : Addr} {o : Obj} (hb : ∀ o', base y = some o' → o' = o) (x : BK (pin base y o) h) : BK base h := fun a o' e => x a o' (by
  unfold Mine.pin
  split
  · rename_i ha; subst ha; rw [hb _ e]
  · exact e)
theorem StOk.unpin {y : Addr} {o : Obj} (hb : ∀ o', base y = some o' → o' = o) (g : ∀ h, BK base h → Glob w h) (x : StOk w (pin base y o) env cx vals h) : StOk w base env cx vals h := by
  obtain ⟨ρ, x⟩ := x
  have le : ∀ a, Mine.pin base y o a = none → base a = none := fun a e => by
    unfold Mine.pin at e
    split at e
    · cases e
    · exact e
  exact ⟨ρ, x.bk.unpin hb, g, x.eo, x.F, x.var, fun a t => le a (x.tn a t), fun i pv h1 h2 => le _ (x.rn i pv h1 h2), x.sep, x.len⟩
theorem OutOk.unpin {s s' : Shared} {fl : Flow} {ot : Out} {y : Addr} {o : Obj} (hb : ∀ o', base y = some o' → o' = o) (g : ∀ h, BK base h → Glob w h) (x : OutOk w (pin base y o) env cx s s' fl ot) : OutOk w base env cx s s' fl ot := by
  obtain ⟨a, b, c⟩ := x
  refine ⟨a, b, ?_⟩
  cases ot with
  | next v => cases fl <;> first | exact c.elim | exact StOk.unpin hb g c
  | brk v => cases fl <;> first | exact c.elim | exact StOk.unpin hb g c
  | ret pv => cases fl <;> first | exact c.elim | exact ⟨BK.unpin hb c.1, c.2⟩
end
section
variable (prog : Program) (w : World) (n : Nat) (env : Env) (cx : Cx)
/-- what a for's target does with an item -/
noncomputable def AsW (target : Expr) (vals : List V) (it : S) (vals' : List V) : Prop :=
  ∀ (A : Around) (s : Shared) (Q : Unit → Shared → Prop) (E : Value → Shared → Prop) (v : Value) (base : Addr → Option Obj) (ρ : Nat → Addr), Ok A n → StO w base env cx vals s.heap ρ → RepS s.heap v it →
    (∀ h' tk, KeepX (Tch env cx.ns) s.heap h' → StOk w base env cx vals' h' → Q () { s with heap := h', toks := tk }) → wpAny (model prog w) A (assign target env v) Q E s
noncomputable def FinF (body : List Stmt) (items : List S) (f : Nat → List V) (g : List V → S → List V) (m : Nat) (o : Out) : Prop :=
  (m = items.length ∧ o = .next (f m)) ∨ ∃ it o', items[m]? = some it ∧ W prog w n env cx (g (f m) it) body o' ∧ ((∃ v, o' = .brk v ∧ o = .next v) ∨ ∃ pv, o' = .ret pv ∧ o = .ret pv)
end
section
variable {prog : Program} {w : World} {n : Nat} {env : Env} {cx : Cx} {vals : List V}
theorem AsW.name {k : Nat} {x : Str} {b : Bool} {p : Pos} {it : S} (hx : cx.ns[k]? = some (x, b)) : AsW prog w n env cx (.Name x p) vals it (vals.set k (.s it)) :=
  fun A s Q E v base ρ hA st hr q => wpAny_assign_Name (st.store hx (pv := .s it) hr (.inr (.inl rfl)) (fun h => nomatch h) q)
theorem for_core {target : Expr} {body : List Stmt} {items : List S} {f : Nat → List V} {g : List V → S → List V} {m : Nat} {o : Out} {A : Around} {s : Shared} {Q : Flow → Shared → Prop} {E : Value → Shared → Prop}
    {base : Addr → Option Obj} {b : Heap} {isl : Bool} {av : Value} {I : Addr} {fp : List Addr} {P : Nat → Value → Prop} {St : Nat → Heap → Prop} (IR : ItR prog w isl av b I items fp P St)
    (hA : Ok A n) (lg : LG isl target) (as : ∀ i it, items[i]? = some it → AsW prog w n env cx target (f i) it (g (f i) it)) (hm : m ≤ items.length) (step : ∀ i it, i < m → items[i]? = some it → W prog w n env cx (g (f i) it) body (.next (f (i + 1))))
    (fin : FinF prog w n env cx body items f g m o) (hI : base I = none) (hIT : ¬ Tch env cx.ns I) (hfp : ∀ y ∈ fp, y = I ∨ ∃ o, base y = some o) (hrep : ∀ h, BK base h → ∀ i v it, items[i]? = some it → P i v → RepS h v it) (st : St 0 s.heap) (x : StOk w base env cx (f 0) s.heap)
    (q : ∀ fl s', OutOk w base env cx s s' fl o → Q fl s') : codeAny (model prog w) A (.forLoop target (.ref I) body [] env) (fun r s' => match r with | .ok f => Q f s' | .error e => cameBackBy (model prog w) A env E e s') s := by
  refine forLoopU (fun k s' => ∃ i, i ≤ m ∧ k = items.length + 1 - i ∧ StOk w base env cx (f i) s'.heap ∧ St i s'.heap ∧ s'.os = s.os ∧ GX s.gens s'.gens) ?_ (items.length + 1) ⟨0, Nat.zero_le _, rfl, x, st, rfl, .refl _⟩
  rintro k s' ⟨i, hi, rfl, ⟨ρ, x'⟩, st', os', g'⟩
  obtain ⟨oI, vsI, hoI, hdI, hcI⟩ := IR.ty i _ st'
  have oddI : ∀ o, s'.heap.get? I = some o → Odd o := fun o e => by rw [hoI] at e; cases e; exact .inr (.inr ⟨⟨_, hdI⟩, hcI⟩)
  have dxI : ∀ x dx lh, HdrRaw s'.heap x dx lh → dx ≠ I := by
    rintro x dx lh ⟨_, hs, t, r2⟩ rfl
    rw [r2] at hoI; cases hoI; cases hdI
  have after : ∀ h₁, (∀ b o, b ∉ [I] → s'.heap.get? b = some o → h₁.get? b = some o) → StO w base env cx (f i) h₁ ρ ∧ KeepT s'.heap h₁ := fun h₁ hk => by
    have xb : Heap.ExtBut I s'.heap h₁ := fun b o hb e => hk b o (by simpa using hb) e
    exact ⟨x'.oddX xb oddI hIT hI dxI, keepT_of (T := fun z => z = I) (fun b o hb e => xb b o hb e) fun b o e ho items n hc hd => by subst e; exact (oddI o ho).noSeq hd⟩
  rcases Nat.lt_or_ge i items.length with hlt | hge
  · obtain ⟨it, hit⟩ : ∃ it, items[i]? = some it := ⟨items[i], by simp [hlt]⟩
    refine (IR.W A hA.hd).item i s' _ _ hlt st' fun v h₁ tk₁ hP st₁ hk₁ => ?_
    obtain ⟨x₁, kt₁⟩ := after h₁ hk₁
    have hrep : RepS h₁ v it := hrep h₁ x₁.bk i v it hit hP
    refine lg.run IR A _ v _ _ (i + 1) st₁ ?_
    refine as i it hit A _ _ _ v base ρ hA x₁ hrep fun h₂ tk₂ k₂ x₂ => ?_
    have st₂ : St (i + 1) h₂ := by
      refine (IR.W A hA.hd).frame (i + 1) h₁ h₂ st₁ fun y hy o ho => ?_
      rcases hfp y hy with rfl | ⟨o', ho'⟩
      · exact k₂ _ _ hIT ho
      · have := x₁.bk _ _ ho'
        rw [this] at ho; cases ho
        obtain ⟨_, x₂⟩ := x₂
        exact x₂.bk _ _ ho'
    obtain ⟨oI2, vsI2, hoI2, hdI2, hcI2⟩ := IR.ty _ _ st₂
    have kt₂ : KeepT h₁ h₂ := keepT_of k₂ fun b o t ho items n hc hd => (x₁.F.odd t ho).noSeq hd
    obtain ⟨ρ₂, x₂⟩ := x₂
    have xp : StO w (pin base I oI2) env cx (g (f i) it) h₂ ρ₂ := x₂.pin hoI2 hIT fun j pv h1 h2 e => by
      have hl : pv.listy = true := by cases pv <;> first | rfl | cases h2
      have hlt : j < cx.ns.length := by rw [← x₂.len]; exact (List.getElem?_eq_some_iff.mp h1).1
      obtain ⟨u, _, c, _⟩ := x₂.var j cx.ns[j].1 cx.ns[j].2 pv (by simp [hlt]) h1 (fun e => by subst e; cases hl)
      obtain ⟨its, o, ho, _, n, hd⟩ := c.obj hl
      rw [e, hoI2] at ho; cases ho; rw [hd] at hdI2; cases hdI2
    have hbI : ∀ o', base I = some o' → o' = oI2 := fun o' e => by rw [hI] at e; cases e
    have backst : ∀ h₃, BK (pin base I oI2) h₃ → St (i + 1) h₃ := fun h₃ bk => by
      refine (IR.W A hA.hd).frame (i + 1) h₂ h₃ st₂ fun y hy o ho => ?_
      rcases hfp y hy with rfl | ⟨o', ho'⟩
      · rw [hoI2] at ho; cases ho
        exact bk _ _ (by unfold pin; rw [if_pos rfl])
      · have := x₂.bk _ _ ho'
        rw [this] at ho; cases ho
        exact bk.unpin hbI _ _ ho'
    by_cases him : i < m
    · refine step i it him hit A _ _ _ (pin base I oI2) hA ⟨ρ₂, xp⟩ fun fl s₃ o₃ => ?_
      obtain ⟨rfl, x₃, os₃, g₃⟩ := o₃.next'
      have bk₃ := x₃.bk
      refine ⟨items.length + 1 - (i + 1), by omega, i + 1, him, rfl, x₃.unpin hbI x₂.glob, backst _ bk₃, os₃.trans os', g'.trans g₃⟩
    · have hie : i = m := by omega
      subst hie
      rcases fin with ⟨e, _⟩ | ⟨it', o', hit', hw, hfin⟩
      · omega
      · rw [hit] at hit'; cases hit'
        refine hw A _ _ _ (pin base I oI2) hA ⟨ρ₂, xp⟩ fun fl s₃ o₃ => ?_
        have o₄ := (o₃.unpin hbI x₂.glob).back os' g'
        rcases hfin with ⟨v, rfl, rfl⟩ | ⟨pv, rfl, rfl⟩
        · obtain ⟨a1, a2, a3⟩ := o₄
          cases fl <;> first | exact a3.elim | exact q _ _ ⟨a1, a2, a3⟩
        · obtain ⟨a1, a2, a3⟩ := o₄
          cases fl <;> first | exact a3.elim | exact q _ _ ⟨a1, a2, a3⟩
  · have hie : i = items.length := by omega
    have hme : m = items.length := by omega
    subst hie
    refine (IR.W A hA.hd).done s' _ _ st' fun h₁ tk₁ hk₁ => ?_
    obtain ⟨x₁, kt₁⟩ := after h₁ hk₁
    rcases fin with ⟨_, rfl⟩ | ⟨it', o', hit', _⟩
    · exact q _ _ ⟨os', g', ρ, hme ▸ x₁⟩
    · rw [hme] at hit'
      rw [List.getElem?_eq_none (Nat.le_refl _)] at hit'; cases hit'
noncomputable def S.simple : S → Bool
  | .pair _ _ => false
  | .spair _ _ => false
  | _ => true
theorem RepS.any {h h' : Heap} {v : Value} : ∀ {x : S}, x.simple = true → RepS h v x → RepS h' v x
  | .none, _, r => r | .bool _, _, r => r | .nat _, _, r => r | .int _, _, r => r | .str _, _, r => r | .bytes _, _, r => r
theorem size_none (h : Heap) : h.get? h.objs.size = none := by
  cases e : h.get? h.objs.size with
  | none => rfl
  | some o' => exact absurd (Heap.lt_size e) (Nat.lt_irrefl _)
theorem StO.tch_lt {base : Addr → Option Obj} {h : Heap} {ρ : Nat → Addr} (st : StO w base env cx vals h ρ) {a : Addr} (t : Tch env cx.ns a) : ∃ o, h.get? a = some o ∧ Odd o := by
  rcases id t with rfl | ⟨y, hy, e⟩
  · obtain ⟨m, n, _⟩ := st.F.lns
    obtain ⟨o, _, _, ho, _⟩ := id n
    exact ⟨o, ho, ns_odd n ho⟩
  · obtain ⟨_, c, v, e', _, n⟩ := st.F.cel y hy
    rw [e] at e'; cases e'
    obtain ⟨o, ho, _⟩ := id n
    exact ⟨o, ho, cell_odd n ho⟩
theorem StO.root_lt {base : Addr → Option Obj} {h : Heap} {ρ : Nat → Addr} (st : StO w base env cx vals h ρ) {j : Nat} {qv : V} (hj : vals[j]? = some qv) (hl : qv.listy = true) : ∃ (v : Value) (o : Obj), RepR h v qv (ρ j) ∧ h.get? (ρ j) = some o := by
  have hlt : j < cx.ns.length := by rw [← st.len]; exact (List.getElem?_eq_some_iff.mp hj).1
  obtain ⟨u, _, c, _⟩ := st.var j cx.ns[j].1 cx.ns[j].2 qv (by simp [hlt]) hj (fun e => by subst e; cases hl)
  obtain ⟨its, o, ho, _⟩ := c.obj hl
  exact ⟨u, o, c, ho⟩
/-- over what is just made -/
theorem W1.forT {iter target : Expr} {body : List Stmt} {p : Pos} {pv : V} {isl : Bool} {items : List S} (f : Nat → List V) (g : List V → S → List V) (m : Nat) {o : Out}
    (he : Ev prog w n env cx (f 0) iter pv) (hio : IterOf prog w n isl pv items) (hp : isl = false ∨ ∃ l, pv = .lst .own l) (hsi : items.all S.simple = true) (lg : LG isl target)
    (as : ∀ i it, items[i]? = some it → AsW prog w n env cx target (f i) it (g (f i) it)) (hm : m ≤ items.length) (step : ∀ i it, i < m → items[i]? = some it → W prog w n env cx (g (f i) it) body (.next (f (i + 1))))
    (fin : FinF prog w n env cx body items f g m o) (hs : ∀ x, foldedSetIterable iter env x = pure x) : W1 prog w n env cx (f 0) (.For target iter body [] p) o := fun A s Q E base hA ⟨ρ, st⟩ q => by
  refine wpAny_For (he A s _ _ hA st.g st.rep fun v s₁ x₁ r₁ f₁ => ?_) hs
  have st₁ := st.keep x₁.keep
  refine hio A s₁ _ _ v hA st₁.g r₁ fun ob fp P St IR hst => ?_
  have kp : KeepA s₁.heap (s₁.heap.push ob) := KeepA.push _ _
  have st₂ := st₁.keep kp
  have bI : base s₁.heap.objs.size = none := by
    cases hb : base s₁.heap.objs.size with
    | none => rfl
    | some o => have := st₁.bk _ _ hb; rw [size_none] at this; cases this
  have tI : ¬ Tch env cx.ns s₁.heap.objs.size := fun t => by
    obtain ⟨o, ho, _⟩ := st₁.tch_lt t
    rw [size_none] at ho; cases ho
  have rep : ∀ (h : Heap) i v it, items[i]? = some it → P i v → RepS h v it := fun h i v it hi hP => (IR.item i v it hi hP).any (List.all_eq_true.mp hsi it (mem_get hi))
  rcases hp with rfl | ⟨l, rfl⟩
  · refine for_core IR hA lg as hm step fin bI tI (fun y hy => (IR.fp y hy).imp id fun h => nomatch h.1) (fun h _ => rep h) hst ⟨ρ, st₂⟩ fun fl s' o' => q fl s' (o'.back x₁.os x₁.gens)
  · obtain ⟨a, rfl, vs, ⟨_, k⟩, _⟩ := id r₁
    have an : s.heap.get? a = none := f₁ a rfl
    have ba : base a = none := by
      cases hb : base a with
      | none => rfl
      | some o => rw [st.bk _ _ hb] at an; cases an
    have tA : ¬ Tch env cx.ns a := fun t => by
      obtain ⟨o, ho, _⟩ := st.tch_lt t
      rw [an] at ho; cases ho
    have stp := st₂.pin (kp _ _ k) tA fun i pv h1 h2 e => by
      obtain ⟨u, o, c, ho⟩ := st.root_lt h1 (by cases pv <;> first | rfl | cases h2)
      rw [e, an] at ho; cases ho
    have aI : s₁.heap.objs.size ≠ a := fun e => by rw [← e, size_none] at k; cases k
    refine for_core IR hA lg as hm step fin (by unfold pin; rw [if_neg aI]; exact bI) tI (fun y hy => (IR.fp y hy).imp id fun h => ?_) (fun h _ => rep h) hst ⟨ρ, stp⟩ fun fl s' o' => q fl s' ((o'.unpin (fun o' e => by rw [ba] at e; cases e) st₂.glob).back x₁.os x₁.gens)
    obtain ⟨_, e, _⟩ := h
    cases e
    exact ⟨_, by unfold pin; rw [if_pos rfl]⟩
/-- over a variable's list, which the body leaves alone -/
theorem W1.forV {x : Str} {bx : Bool} {px : Pos} {target : Expr} {body : List Stmt} {p : Pos} {pv : V} {items : List S} (f : Nat → List V) (g : List V → S → List V) (m : Nat) {o : Out} (j : Nat) (hx : cx.ns[j]? = some (x, bx)) (hv : (f 0)[j]? = some pv)
    (hp : (∃ fl, fl ≠ Fl.own ∧ pv = .lst fl items) ∨ ∃ a, pv = .at a items) (hd : (x == ("__debug__" : Str)) = false) (hsi : items.all S.simple = true) (lg : LG true target)
    (as : ∀ i it, items[i]? = some it → AsW prog w n env cx target (f i) it (g (f i) it)) (hm : m ≤ items.length) (step : ∀ i it, i < m → items[i]? = some it → W prog w n env cx (g (f i) it) body (.next (f (i + 1))))
    (fin : FinF prog w n env cx body items f g m o) : W1 prog w n env cx (f 0) (.For target (.Name x px) body [] p) o := fun A s Q E base hA ⟨ρ, st⟩ q => by
  have hnf : pv.fresh = false ∧ pv.listy = true ∧ pv ≠ .unset := by
    rcases hp with ⟨fl, h, rfl⟩ | ⟨a, rfl⟩
    · cases fl <;> first | exact absurd rfl h | exact ⟨rfl, rfl, fun h => nomatch h⟩
    · exact ⟨rfl, rfl, fun h => nomatch h⟩
  obtain ⟨v, hb, hr, _⟩ := st.var j x bx pv hx hv hnf.2.2
  have hre : v = .ref (ρ j) ∧ RepL s.heap (ρ j) items := by
    rcases hp with ⟨fl, h, rfl⟩ | ⟨a, rfl⟩
    · obtain ⟨⟨a, e, x⟩, e'⟩ := hr
      change v = .ref (ρ j) at e'
      rw [e] at e'; cases e'; exact ⟨e, x⟩
    · obtain ⟨⟨e, x⟩, e'⟩ := hr
      change v = .ref (ρ j) at e'
      rw [e] at e'; cases e'; exact ⟨e, x⟩
  obtain ⟨rfl, hl⟩ := hre
  refine wpAny_For (wpAny_Name (wp_bound st.eo.kind hb ?_) hd)
  refine IterOf.list (o := .arg) A s _ _ _ hA st.g ⟨_, rfl, hl⟩ fun ob fp P St IR hst => ?_
  have kp : KeepA s.heap (s.heap.push ob) := KeepA.push _ _
  have st₂ := st.keep kp
  obtain ⟨vs, ⟨_, hpl⟩, _⟩ := id hl
  have bI : base s.heap.objs.size = none := by
    cases hb : base s.heap.objs.size with
    | none => rfl
    | some o => have := st.bk _ _ hb; rw [size_none] at this; cases this
  have tI : ¬ Tch env cx.ns s.heap.objs.size := fun t => by
    obtain ⟨o, ho, _⟩ := st.tch_lt t
    rw [size_none] at ho; cases ho
  have tA : ¬ Tch env cx.ns (ρ j) := fun t => by
    obtain ⟨o, ho, od⟩ := st.tch_lt t
    rw [hpl] at ho; cases ho
    exact od.noSeq rfl
  have stp := st₂.pin (kp _ _ hpl) tA fun i pv' h1 h2 => st.sep i j pv' pv (fun e => by subst e; rw [hv] at h1; cases h1; rw [hnf.1] at h2; cases h2) h1 h2 hv hnf.2.1
  have aI : s.heap.objs.size ≠ ρ j := fun e => by rw [← e, size_none] at hpl; cases hpl
  have rep : ∀ (h : Heap) i v it, items[i]? = some it → P i v → RepS h v it := fun h i v it hi hP => (IR.item i v it hi hP).any (List.all_eq_true.mp hsi it (mem_get hi))
  refine for_core IR hA lg as hm step fin (by unfold pin; rw [if_neg aI]; exact bI) tI (fun y hy => (IR.fp y hy).imp id fun h => ?_) (fun h _ => rep h) hst ⟨ρ, stp⟩ fun fl s' o' => q fl s' (o'.unpin (fun o' e => ?_) st₂.glob)
  · obtain ⟨_, e, _⟩ := h
    cases e
    exact ⟨_, by unfold pin; rw [if_pos rfl]⟩
  · have := st.bk _ _ e
    rw [hpl] at this; cases this; rfl
end
end Mine
end
section
open PySem PySem.W PyProof.Rows PySem.Calls PySem.Spec
set_option Elab.async false
set_option maxRecDepth 100000
set_option maxHeartbeats 8000000
set_option linter.unusedVariables false
set_option genSizeOf false
namespace Mine
theorem All2.eraseIdx {α β : Type} {P : α → β → Prop} : ∀ {as : List α} {bs : List β} (n : Nat), All2 P as bs → All2 P (as.eraseIdx n) (bs.eraseIdx n)
  | _, _, _, .nil => .nil
  | _, _, 0, .cons _ t => t
  | _, _, n + 1, .cons h t => .cons h (t.eraseIdx n)
theorem plain_update {h : Heap} {a : Addr} {its : Array Value} (f : Array Value → Array Value) (p : h.PlainList a its) : (h.update a (Obj.mapSeq f)).PlainList a (f its) := by
  obtain ⟨m, ho⟩ := p
  exact ⟨if (f its).size == its.size then m else m + 1, Heap.get?_update_self _ ho rfl⟩
theorem interactive_false {env : Env} (h : env.scope.kind = .function) : interactive env = false := by
  unfold interactive; rw [h]; rfl
section
variable {prog : Program} {w : World} {A : Around} {E : Value → Shared → Prop} {s : Shared}
theorem setItem_plain {l : Addr} {items : Array Value} {k : Int} {t : Tok} {v : Value} {Q : Unit → Shared → Prop} (hp : s.heap.PlainList l items)
    (h0 : 0 ≤ k) (hfit : k < 2 ^ 63) (hn : k < items.size)
    (hQ : ∀ h', h'.PlainList l (items.setIfInBounds k.toNat v) → Heap.SameBut l s.heap h' → Q () { s with heap := h' }) :
    wpAny (model prog w) A (setItem (.ref l) (.int k t) v) Q E s := by
  have hl := hp.isList
  obtain ⟨ne, ho⟩ := hp
  unfold setItem
  try with_reducible refine wpAny_holding ?_
  first | refine wpAny_bind (wpAny_pure ?_) | skip
  refine wpAny_bind (wpAny_sequenceKey hl.typeIs (by decide) ?_)
  refine wpAny_bind (wpAny_callSpecial?_slot (name := Str.ofString "__setitem__") hl.typeIs slot_list_setitem
    (wpAny_call_entry slot_list_setitem hl.typeIs entry_list_setitem ?_ (args_list_setitem _ _ _)))
  show wpAny _ _ (Builtin.List.listSubscript? (.int k t) >>= _) _ _ s
  refine wpAny_bind (wpAny_listSubscript_int (fitsIndex_of h0 hfit) ?_)
  clear hfit
  obtain ⟨j, rfl⟩ := Int.eq_ofNat_of_zero_le h0
  have hj : j < items.size := by omega
  have hx' : items[j]? = some items[j] := Array.getElem?_eq_getElem hj
  show wpAny _ _ ((seqItemAt l j >>= fun r => pure (r.map (j, ·))) >>= _) _ _ s
  refine wpAny_bind (wpAny_bind (wpAny_seqItemAt ho rfl (wpAny_pure ?_)))
  rw [hx']
  show wpAny _ _ (setSeqItemAt l j v >>= _) _ _ s
  have hfin : (s.heap.update l (Obj.mapSeq (·.setIfInBounds j v))).PlainList l (items.setIfInBounds j v) := by
    refine ⟨if (items.setIfInBounds j v).size == items.size then ne else ne + 1, ?_⟩
    exact Heap.get?_update_self _ ho rfl
  refine wpAny_bind (wpAny_setSeqItemAt ho rfl ?_)
  first
    | exact wpAny_bind (wpAny_pure (wpAny_pure ⟨.none, rfl, wpAny_pure (hQ _ hfin (Heap.SameBut.update ..))⟩))
    | exact wpAny_pure ⟨.none, rfl, wpAny_pure (hQ _ hfin (Heap.SameBut.update ..))⟩
end
section
variable {prog : Program} {w : World} {n : Nat} {env : Env} {cx : Cx} {vals : List V} {base : Addr → Option Obj} {ρ : Nat → Addr}
theorem StO.setlist {h h' : Heap} (x : StO w base env cx vals h ρ) {k : Nat} {l l' : List S} (hk : vals[k]? = some (.lst .own l)) {its : Array Value} (hl : h.PlainList (ρ k) its) (sb : Heap.SameBut (ρ k) h h') {vs' : List Value} (hp : h'.PlainList (ρ k) vs'.toArray) (ha : All2 (RepS h) vs' l') :
    StOk w base env cx (vals.set k (.lst .own l')) h' := by
  have kt := KeepT.of_list hl.isList sb
  refine ⟨ρ, x.mut hk rfl rfl hl.isList sb (fun v r => ?_) fun v r o => trivial⟩
  have e := r.2
  change v = .ref (ρ k) at e
  exact ⟨⟨_, e, vs', hp, ha.mono fun _ _ y => y.keep kt⟩, e⟩
/-- an own list, as found -/
theorem StO.own {h : Heap} (x : StO w base env cx vals h ρ) {k : Nat} {nm : Str} {b : Bool} {l : List S} (hx : cx.ns[k]? = some (nm, b)) (hk : vals[k]? = some (.lst .own l)) :
    Bound env h nm b (.ref (ρ k)) ∧ ∃ vs : List Value, h.PlainList (ρ k) vs.toArray ∧ All2 (RepS h) vs l := by
  obtain ⟨v, hb, hr, _⟩ := x.var k nm b _ hx hk (fun h => nomatch h)
  obtain ⟨⟨a, e, vs, hp, ha⟩, e'⟩ := hr
  change v = .ref (ρ k) at e'
  rw [e] at e'; cases e'
  subst e
  exact ⟨hb, vs, hp, ha⟩
theorem setarr (vs : List Value) (i : Nat) (v : Value) : vs.toArray.setIfInBounds i v = (vs.set i v).toArray := by simp
theorem W1.setitem {x : Str} {b : Bool} {px p p' : Pos} {idx e : Expr} {l : List S} {i : Nat} {y : S} (k : Nat) (hx : cx.ns[k]? = some (x, b)) (hk : vals[k]? = some (.lst .own l)) (hd : (x == ("__debug__" : Str)) = false)
    (he : Ev prog w n env cx vals e (.s y)) (hi : Ev prog w n env cx vals idx (.s (.nat i))) (hlt : i < l.length) (hsz : l.length < 2 ^ 62) (hs : swapsWith e (some (.Subscript (.Name x px) idx p')) p.line env = pure false) :
    W1 prog w n env cx vals (.Assign [.Subscript (.Name x px) idx p'] e p) (.next (vals.set k (.lst .own (l.set i y)))) := fun A s Q E base hA ⟨ρ, st⟩ q => by
  refine wpAny_Assign_Subscript (he A s _ _ hA st.g st.rep fun v s₁ x₁ r₁ _ => ?_) hs
  have st₁ := st.keep x₁.keep
  obtain ⟨hb, _⟩ := st₁.own hx hk
  refine wpAny_Name (wp_bound st.eo.kind hb ?_) hd
  refine hi A s₁ _ _ hA st₁.g st₁.rep fun u s₂ x₂ r₂ _ => ?_
  have st₂ := st₁.keep x₂.keep
  obtain ⟨_, vs, hp, ha⟩ := st₂.own hx hk
  obtain ⟨t, rfl⟩ := r₂
  refine setItem_plain hp (by omega) (by omega) (by rw [List.size_toArray, ha.length]; omega) fun h' hp' sb => ?_
  rw [Int.toNat_natCast, setarr] at hp'
  exact q _ _ ⟨x₂.os.trans x₁.os, x₁.gens.trans x₂.gens, st₂.setlist hk hp sb hp' (ha.set (RepS.keep x₂.keep.toT r₁) i)⟩
theorem W1.augitem {x : Str} {b : Bool} {px p p' : Pos} {op : Operator} {idx e : Expr} {l : List S} {i : Nat} {y y' : S} {pe : V} (k : Nat) (hx : cx.ns[k]? = some (x, b)) (hk : vals[k]? = some (.lst .own l)) (hd : (x == ("__debug__" : Str)) = false)
    (hi : Ev prog w n env cx vals idx (.s (.nat i))) (hy : l[i]? = some y) (hsz : l.length < 2 ^ 62) (he : Ev prog w n env cx vals e pe) (ho : Iop2 prog w n op (.s y) pe (.s y'))
    (hs : ∀ ov iv new, augStore idx ov iv new = (do holding [new, ov, iv] (setItem ov iv new); release [new, ov, iv] []; pure .next)) :
    W1 prog w n env cx vals (.AugAssign (.Subscript (.Name x px) idx p') op e p) (.next (vals.set k (.lst .own (l.set i y')))) := fun A s Q E base hA ⟨ρ, st⟩ q => by
  have hlt : i < l.length := (List.getElem?_eq_some_iff.mp hy).1
  refine wpAny_AugAssign_Subscript_any ?_ hs
  obtain ⟨hb, _⟩ := st.own hx hk
  refine wpAny_Name (wp_bound st.eo.kind hb ?_) hd
  refine hi A s _ _ hA st.g st.rep fun u s₁ x₁ r₁ _ => ?_
  have st₁ := st.keep x₁.keep
  obtain ⟨_, vs, hp, ha⟩ := st₁.own hx hk
  obtain ⟨t, rfl⟩ := r₁
  obtain ⟨v0, hv0, rv0⟩ := ha.get hy
  refine wpAny_getItem_list hp.isList (by omega) (by omega) (x := v0) (by simpa using hv0) ?_
  refine he A s₁ _ _ hA st₁.g st₁.rep fun v2 s₂ x₂ r₂ _ => ?_
  refine ho A s₂ _ _ v0 v2 hA (st₁.g.keep x₂.keep) (RepS.keep x₂.keep.toT rv0) r₂ fun v3 s₃ x₃ r₃ _ => ?_
  have st₃ := (st₁.keep x₂.keep).keep x₃.keep
  obtain ⟨_, vs3, hp3, ha3⟩ := st₃.own hx hk
  refine setItem_plain hp3 (by omega) (by omega) (by rw [List.size_toArray, ha3.length]; omega) fun h' hp' sb => ?_
  rw [Int.toNat_natCast, setarr] at hp'
  exact q _ _ ⟨(x₃.os.trans x₂.os).trans x₁.os, (x₁.gens.trans x₂.gens).trans x₃.gens, st₃.setlist hk hp3 sb hp' (All2.set (P := RepS s₃.heap) r₃ i ha3)⟩
theorem W1.append {x : Str} {b : Bool} {px apos cpos epos : Pos} {e : Expr} {l : List S} {y : S} (k : Nat) (hx : cx.ns[k]? = some (x, b)) (hk : vals[k]? = some (.lst .own l)) (hd : (x == ("__debug__" : Str)) = false)
    (he : Ev prog w n env cx vals e (.s y)) (hsz : l.length < 2 ^ 20) (hline : (apos.endLine == cpos.line) = true) (ht : backTo cpos (starEach [e] env) = [(false, eval e env)]) (hbase : attributeBase (.Name x px) "append" env (eval (.Name x px) env) = eval (.Name x px) env)
    (hs : swapsWith (.Call (.Attribute (.Name x px) "append" apos) [e] [] cpos) none epos.line env = pure false) :
    W1 prog w n env cx vals (.Expr (.Call (.Attribute (.Name x px) "append" apos) [e] [] cpos) epos) (.next (vals.set k (.lst .own (l ++ [y])))) := fun A s Q E base hA ⟨ρ, st⟩ q => by
  refine wpAny_Expr ?_ (interactive_false st.eo.kind) hs
  refine wpAny_Call_method hbase (by rw [ht]; rfl) hline F.plainAttrs_list F.slot_list_append F.type_list_append ?_
  obtain ⟨hb, vs, hp, ha⟩ := st.own hx hk
  refine wpAny_Name (wp_bound st.eo.kind hb ⟨hp.isList.typeIs, fun a e => ?_, ?_⟩) hd
  · cases e; obtain ⟨m, ho⟩ := hp; exact ⟨_, ho, rfl⟩
  rw [ht]
  refine P.append_list (he A s _ _ hA st.g st.rep fun v s₁ x₁ r₁ _ => ?_)
  have st₁ := st.keep x₁.keep
  obtain ⟨_, vs1, hp1, ha1⟩ := st₁.own hx hk
  obtain ⟨m, ho⟩ := id hp1
  refine ⟨_, m, by rw [List.size_toArray, ha1.length, sizeLine_eq]; omega, ho, ?_⟩
  refine q _ _ ⟨x₁.os, x₁.gens, st₁.setlist hk hp1 (Heap.SameBut.update ..) (vs' := vs1 ++ [v]) ?_ (ha1.snoc r₁)⟩
  refine ⟨m + 1, ?_⟩
  rw [Heap.get?_update_self _ ho (by rw [Obj.mapSeq_push_plain]; rfl), Obj.mapSeq_push_plain]
  simp
theorem W1.pop {x : Str} {b : Bool} {px apos cpos epos : Pos} {l : List S} {y : S} (k : Nat) (hx : cx.ns[k]? = some (x, b)) (hk : vals[k]? = some (.lst .own (l ++ [y]))) (hd : (x == ("__debug__" : Str)) = false)
    (hsz : l.length < 2 ^ 20) (hy : y.simple = true) (hline : (apos.endLine == cpos.line) = true) (ht : backTo cpos (starEach [] env) = []) (hbase : attributeBase (.Name x px) "pop" env (eval (.Name x px) env) = eval (.Name x px) env)
    (hs : swapsWith (.Call (.Attribute (.Name x px) "pop" apos) [] [] cpos) none epos.line env = pure false) :
    W1 prog w n env cx vals (.Expr (.Call (.Attribute (.Name x px) "pop" apos) [] [] cpos) epos) (.next (vals.set k (.lst .own l))) := fun A s Q E base hA ⟨ρ, st⟩ q => by
  refine wpAny_Expr ?_ (interactive_false st.eo.kind) hs
  refine wpAny_Call_method hbase (by rw [ht]; rfl) hline F.plainAttrs_list F.slot_list_pop F.type_list_pop ?_
  obtain ⟨hb, vs, hp, ha⟩ := st.own hx hk
  refine wpAny_Name (wp_bound st.eo.kind hb ⟨hp.isList.typeIs, fun a e => ?_, ?_⟩) hd
  · cases e; obtain ⟨m, ho⟩ := hp; exact ⟨_, ho, rfl⟩
  rw [ht]
  obtain ⟨m, ho⟩ := id hp
  have hlen : vs.length = l.length + 1 := by rw [ha.length]; simp
  obtain ⟨v, hv, rv⟩ := ha.get (i := l.length) (b := y) (by simp)
  refine P.pop_list ho (y := v) (by rw [List.size_toArray, hlen]; simpa using hv) ?_ (by rw [List.size_toArray, hlen, sizeLine_eq]; omega)
  have fin : OutOk w base env cx s { s with heap := s.heap.update (ρ k) (Obj.mapSeq fun xs => xs.eraseIdxIfInBounds (vs.toArray.size - 1)) } .next (.next (vals.set k (.lst .own l))) := by
    refine ⟨rfl, .refl _, st.setlist hk hp (Heap.SameBut.update ..) (vs' := vs.take l.length) ?_ (by have := ha.take l.length; simpa using this)⟩
    have e : vs.toArray.eraseIdxIfInBounds (vs.toArray.size - 1) = (vs.take l.length).toArray := by
      apply Array.ext'
      rw [List.size_toArray, hlen]
      rw [Array.eraseIdxIfInBounds_eq, dif_pos (by rw [List.size_toArray, hlen]; omega)]
      simp [List.eraseIdx_eq_take_drop_succ, hlen]
    rw [← e]
    exact plain_update _ hp
  cases y with
  | pair a b => cases hy
  | spair a b => cases hy
  | none => cases rv; exact q _ _ fin
  | bool c => cases rv; exact q _ _ fin
  | nat c => obtain ⟨t, rfl⟩ := rv; exact q _ _ fin
  | int c => obtain ⟨t, rfl⟩ := rv; exact q _ _ fin
  | str c => obtain ⟨t, rfl⟩ := rv; exact q _ _ fin
  | bytes c => obtain ⟨t, rfl⟩ := rv; exact q _ _ fin
end
end Mine
end
section
open PySem PySem.W PyProof.Rows PySem.Calls PySem.Spec
set_option Elab.async false
set_option maxRecDepth 100000
set_option maxHeartbeats 8000000
set_option linter.unusedVariables false
set_option genSizeOf false
namespace Mine
noncomputable def isNat (i : Nat) : Value → Bool
  | .int k _ => k == (i : Int)
  | _ => false
theorem eraseIdx_idxOf : ∀ (L : List Nat) (i : Nat), L.eraseIdx (L.idxOf i) = L.erase i
  | [], i => by simp
  | a :: r, i => by
    by_cases h : a = i
    · subst h; simp [List.idxOf_cons]
    · have hb : (a == i) = false := by simpa using h
      rw [List.idxOf_cons, hb, List.erase_cons, hb]
      simp [eraseIdx_idxOf r i]
theorem eraseIdx_map' {α β : Type} (f : α → β) : ∀ (l : List α) (i : Nat), (l.map f).eraseIdx i = (l.eraseIdx i).map f
  | [], _ => rfl
  | _ :: _, 0 => rfl
  | a :: r, i + 1 => by simp [eraseIdx_map' f r i]
theorem nats_at {h : Heap} {vs : List Value} {L : List Nat} (ha : All2 (RepS h) vs (L.map .nat)) : ∀ (j : Nat) (hj : j < vs.length), ∃ (hj' : j < L.length), ∃ t, vs[j] = .int (L[j] : Int) t := by
  intro j hj
  have hlen := ha.length
  rw [List.length_map] at hlen
  obtain ⟨b, hb, r⟩ := ha.get' (i := j) (a := vs[j]) (by simp [hj])
  rw [List.getElem?_map] at hb
  have hj' : j < L.length := by omega
  rw [List.getElem?_eq_getElem hj'] at hb
  cases hb
  exact ⟨hj', r⟩
section
variable {prog : Program} {w : World} {n : Nat} {env : Env} {cx : Cx} {vals : List V} {base : Addr → Option Obj} {ρ : Nat → Addr}
theorem W1.remove {x : Str} {b : Bool} {px apos cpos epos : Pos} {e : Expr} {L : List Nat} {i : Nat} (k : Nat) (hx : cx.ns[k]? = some (x, b)) (hk : vals[k]? = some (.lst .own (L.map .nat))) (hd : (x == ("__debug__" : Str)) = false)
    (he : Ev prog w n env cx vals e (.s (.nat i))) (hi : i ∈ L) (hsz : L.length < 2 ^ 20) (hline : (apos.endLine == cpos.line) = true) (ht : backTo cpos (starEach [e] env) = [(false, eval e env)]) (hbase : attributeBase (.Name x px) "remove" env (eval (.Name x px) env) = eval (.Name x px) env)
    (hs : swapsWith (.Call (.Attribute (.Name x px) "remove" apos) [e] [] cpos) none epos.line env = pure false) :
    W1 prog w n env cx vals (.Expr (.Call (.Attribute (.Name x px) "remove" apos) [e] [] cpos) epos) (.next (vals.set k (.lst .own ((L.erase i).map .nat)))) := fun A s Q E base hA ⟨ρ, st⟩ q => by
  refine wpAny_Expr ?_ (interactive_false st.eo.kind) hs
  refine wpAny_Call_method hbase (by rw [ht]; rfl) hline F.plainAttrs_list F.slot_list_remove F.type_list_remove ?_
  obtain ⟨hb, vs, hp, ha⟩ := st.own hx hk
  refine wpAny_Name (wp_bound st.eo.kind hb ⟨hp.isList.typeIs, fun a e => ?_, ?_⟩) hd
  · cases e; obtain ⟨m, ho⟩ := hp; exact ⟨_, ho, rfl⟩
  rw [ht]
  refine P.remove_list (he A s _ _ hA st.g st.rep fun v s₁ x₁ r₁ _ => ?_)
  have st₁ := st.keep x₁.keep
  obtain ⟨_, vs1, hp1, ha1⟩ := st₁.own hx hk
  obtain ⟨m, ho⟩ := id hp1
  obtain ⟨t, rfl⟩ := r₁
  have hlen := ha1.length
  rw [List.length_map] at hlen
  have hidx : L.idxOf i < L.length := List.idxOf_lt_length_of_mem hi
  refine ⟨vs1.toArray, m, isNat i, L.idxOf i, by rw [List.size_toArray]; omega, by rw [List.size_toArray, sizeLine_eq]; omega, ho, fun y hy => ?_, ?_, fun j hj hlt => ?_, ?_⟩
  · rw [List.mem_toArray] at hy
    obtain ⟨j, hj, rfl⟩ := List.mem_iff_getElem.mp hy
    obtain ⟨hj', u, e⟩ := nats_at ha1 j hj
    rw [e]
    exact MeetsSeq.EqGives.int _ _ _ _
  · obtain ⟨hj', u, e⟩ := nats_at ha1 (L.idxOf i) (by omega)
    show isNat i (vs1.toArray[L.idxOf i]'_) = true
    rw [List.getElem_toArray, e, List.getElem_idxOf hidx]
    exact beq_self_eq_true (i : Int)
  · rw [List.size_toArray] at hj
    obtain ⟨hj', u, e⟩ := nats_at ha1 j hj
    rw [List.getElem_toArray, e]
    show ((L[j] : Int) == (i : Int)) = false
    have := List.not_of_lt_findIdx (p := fun x => x == i) (xs := L) (i := j) hlt
    have hne : L[j] ≠ i := by simpa using this
    simp only [beq_eq_false_iff_ne, ne_eq]
    omega
  · refine q _ _ ⟨x₁.os, x₁.gens, st₁.setlist hk hp1 (Heap.SameBut.update ..) (vs' := vs1.eraseIdx (L.idxOf i)) ?_ ?_⟩
    · have e : vs1.toArray.eraseIdxIfInBounds (L.idxOf i) = (vs1.eraseIdx (L.idxOf i)).toArray := by
        apply Array.ext'
        rw [Array.eraseIdxIfInBounds_eq, dif_pos (by rw [List.size_toArray]; omega)]
        simp
      rw [← e]
      exact plain_update _ hp1
    · have := ha1.eraseIdx (L.idxOf i)
      rw [← eraseIdx_idxOf, ← eraseIdx_map']
      exact this
theorem StO.reown {h : Heap} {j : Nat} {a : Addr} {l : List S} (x : StO w base env cx vals h ρ) (hj : vals[j]? = some (.at a l)) (ha : base a = none) (hs : ∀ i qv, i ≠ j → vals[i]? = some qv → qv.listy = true → qv.fresh = true ∨ ∃ b l', qv = .at b l' ∧ b ≠ a) :
    StO w base env cx (vals.set j (.lst .own l)) h ρ := by
  have root : ∀ i b l', vals[i]? = some (.at b l') → ρ i = b := fun i b l' hi => by
    obtain ⟨v, vs, ⟨⟨e, _⟩, e'⟩, _⟩ := x.root_lt hi rfl
    change v = .ref (ρ i) at e'
    rw [e] at e'; cases e'; rfl
  have hja := root j a l hj
  refine ⟨x.bk, x.glob, x.eo, x.F, fun i y b pv h1 h2 h3 => ?_, x.tn, fun i qv h2 h3 => ?_, fun i i' p q hij h1 h2 h3 h4 => ?_, by rw [List.length_set]; exact x.len⟩
  · rcases get_set h2 with ⟨rfl, rfl, _⟩ | ⟨hne, h2⟩
    · obtain ⟨v, a1, ⟨⟨e, r⟩, e'⟩, _⟩ := x.var i y b _ h1 hj (fun h => nomatch h)
      exact ⟨v, a1, ⟨⟨_, e, r⟩, e'⟩, trivial⟩
    · exact x.var i y b pv h1 h2 h3
  · rcases get_set h2 with ⟨rfl, rfl, _⟩ | ⟨hne, h2⟩
    · rw [hja]; exact ha
    · exact x.rn i qv h2 h3
  · rcases get_set h1 with ⟨rfl, rfl, _⟩ | ⟨hne, g1⟩
    · rcases get_set h3 with ⟨rfl, rfl, _⟩ | ⟨hne', g3⟩
      · exact absurd rfl hij
      · rcases hs i' q hne' g3 h4 with hf | ⟨b, l', rfl, hb⟩
        · exact (x.sep i' i q _ (Ne.symm hij) g3 hf hj rfl).symm
        · rw [hja, root i' b l' g3]; exact hb.symm
    · rcases get_set h3 with ⟨rfl, rfl, _⟩ | ⟨hne', g3⟩
      · exact x.sep i i' p _ hij g1 h2 hj rfl
      · exact x.sep i i' p q hij g1 h2 g3 h4
/-- over an own list, which the body leaves alone -/
theorem W1.forOwn {x : Str} {bx : Bool} {px : Pos} {target : Expr} {body : List Stmt} {p : Pos} {items : List S} (f : Nat → List V) (g : List V → S → List V) (j : Nat) (hx : cx.ns[j]? = some (x, bx)) (hv : (f 0)[j]? = some (.lst .own items))
    (hd : (x == ("__debug__" : Str)) = false) (hsi : items.all S.simple = true) (lg : LG true target)
    (as : ∀ a i it, items[i]? = some it → AsW prog w n env cx target ((f i).set j (.at a items)) it (g ((f i).set j (.at a items)) it))
    (step : ∀ a i it, i < items.length → items[i]? = some it → W prog w n env cx (g ((f i).set j (.at a items)) it) body (.next ((f (i + 1)).set j (.at a items))))
    (hlen : (f items.length).length = (f 0).length)
    (hside : ∀ i qv, i ≠ j → (f items.length)[i]? = some qv → qv.listy = true → qv.fresh = true ∨ ((∃ b l', qv = .at b l') ∧ (f 0)[i]? = some qv)) :
    W1 prog w n env cx (f 0) (.For target (.Name x px) body [] p) (.next ((f items.length).set j (.lst .own items))) := fun A s Q E base hA ⟨ρ, st⟩ q => by
  have stw : StO w base env cx ((f 0).set j (.at (ρ j) items)) s.heap ρ := st.weak hv _ (fun v r => by
    obtain ⟨⟨a, e, r⟩, e'⟩ := r
    change v = .ref (ρ j) at e'
    rw [e] at e'; cases e'
    exact ⟨⟨e, r⟩, e⟩) rfl (fun _ _ => trivial) (fun _ => rfl) (fun h => nomatch h)
  have hjlt : j < (f 0).length := (List.getElem?_eq_some_iff.mp hv).1
  refine W1.forV (fun i => (f i).set j (.at (ρ j) items)) g items.length j hx (List.getElem?_set_self hjlt) (.inr ⟨_, rfl⟩) hd hsi lg (as _) (Nat.le_refl _) (fun i it hi h => step _ i it hi h) (.inl ⟨rfl, rfl⟩) A s _ _ base hA ⟨ρ, stw⟩ fun fl s' o => ?_
  obtain ⟨rfl, ⟨ρ', st'⟩, os', g'⟩ := o.next'
  have hj' : j < (f items.length).length := by omega
  have r := st'.reown (List.getElem?_set_self hj') (st.rn j _ hv rfl) fun i qv hne hq hl => by
    rw [List.getElem?_set_ne (Ne.symm hne)] at hq
    rcases hside i qv hne hq hl with h | ⟨⟨b, l', rfl⟩, h0⟩
    · exact .inl h
    · refine .inr ⟨b, l', rfl, fun e => ?_⟩
      subst e
      obtain ⟨v, vs, ⟨⟨e, _⟩, e'⟩, _⟩ := st.root_lt h0 rfl
      change v = .ref (ρ i) at e'
      rw [e] at e'
      exact st.sep j i _ _ (Ne.symm hne) hv rfl h0 rfl (by injection e')
  rw [List.set_set] at r
  exact q _ _ ⟨os', g', ρ', r⟩
end
end Mine
end
section
open PySem PySem.W PyProof.Rows PySem.Calls PySem.Spec
set_option Elab.async false
set_option maxRecDepth 100000
set_option maxHeartbeats 8000000
set_option linter.unusedVariables false
set_option genSizeOf false
namespace Mine
theorem All2.one {α β : Type} {P : α → β → Prop} {as : List α} {b : β} (h : All2 P as [b]) : ∃ a, as = [a] ∧ P a b := by
  cases h with
  | cons h t => cases t; exact ⟨_, rfl, h⟩
theorem All2.two {α β : Type} {P : α → β → Prop} {as : List α} {b c : β} (h : All2 P as [b, c]) : ∃ a a', as = [a, a'] ∧ P a b ∧ P a' c := by
  cases h with
  | cons h t => obtain ⟨a', rfl, h'⟩ := t.one; exact ⟨_, _, rfl, h, h'⟩
theorem ints_of {h : Heap} : ∀ {vs : List Value} {L : List Nat}, All2 (RepS h) vs (L.map .nat) → ∃ xs : List (Int × Tok), vs = xs.map (fun p => .int p.1 p.2) ∧ xs.map (·.1) = L.map Int.ofNat
  | [], [], _ => ⟨[], rfl, rfl⟩
  | v :: vs, a :: L, x => by
    cases x with
    | cons h t =>
      obtain ⟨xs, e1, e2⟩ := ints_of t
      obtain ⟨u, rfl⟩ := h
      exact ⟨((a : Int), u) :: xs, by rw [e1]; rfl, by simp [e2]⟩
theorem sum_ofNat (L : List Nat) : (L.map Int.ofNat).sum = (L.sum : Int) := by
  induction L with
  | nil => rfl
  | cons a r ih => simp [ih]
section
variable {prog : Program} {w : World} {n : Nat}
theorem CallOk.lenL {o : Fl} {l : List S} (hl : l.length < 2 ^ 62) : CallOk prog w n (.builtin "len") [.lst o l] (.s (.nat l.length)) := by
  intro A s Q E vs hA g r q
  obtain ⟨v, rfl, a, rfl, vs, hp, ha⟩ := r.one
  have hlen := ha.length
  refine call_len_list hp.isList (by rw [List.size_toArray, hlen]; omega) (q _ _ (Ext.tok s _) ⟨_, by rw [List.size_toArray, hlen]⟩ (.no rfl))
theorem CallOk.lenRaw {l : List S} (hl : l.length < 2 ^ 62) : CallOk prog w n (.builtin "len") [.raw l] (.s (.nat l.length)) := by
  intro A s Q E vs hA g r q
  obtain ⟨v, rfl, a, rfl, vs, hp, ha⟩ := r.one
  have hlen := ha.length
  refine call_len_list hp (by rw [List.size_toArray, hlen]; omega) (q _ _ (Ext.tok s _) ⟨_, by rw [List.size_toArray, hlen]⟩ (.no rfl))
theorem GetOk.raw {l : List S} {i : Nat} {x : S} (hi : i < 2 ^ 62) (hx : l[i]? = some x) : GetOk prog w n (.raw l) (.s (.nat i)) (.s x) := by
  rintro A s Q E _ _ hA g ⟨a, rfl, vs, hl, r⟩ ⟨t, rfl⟩ q
  obtain ⟨v, hv, rv⟩ := r.get hx
  exact ⟨⟨_, _, hl.typeIs, slot_list_getitem.lookup⟩, wpAny_getItem_list hl (by omega) (by omega) (by simpa using hv) (q v s (Ext.refl s) rv (.no rfl))⟩
theorem CallOk.lenB {b : Array UInt8} (hl : b.size ≤ 1099511627776) : CallOk prog w n (.builtin "len") [.s (.bytes b)] (.s (.nat b.size)) := by
  intro A s Q E vs hA g r q
  obtain ⟨v, rfl, t, rfl⟩ := r.one
  exact len_bytes hl (q _ _ (Ext.tok s _) ⟨_, rfl⟩ (.no rfl))
theorem CallOk.min2 {a b : Nat} : CallOk prog w n (.builtin "min") [.s (.nat a), .s (.nat b)] (.s (.nat (min a b))) := by
  intro A s Q E vs hA g r q
  obtain ⟨v, v', rfl, ⟨t, rfl⟩, ⟨u, rfl⟩⟩ := r.two
  refine min_two_ints hA.hd fun h' tk hk => ?_
  refine q _ _ ⟨hk, rfl, .refl _⟩ ?_ (.no rfl)
  by_cases h : (b : Int) < (a : Int)
  · rw [if_pos h, Nat.min_eq_right (by omega)]; exact ⟨_, rfl⟩
  · rw [if_neg h, Nat.min_eq_left (by omega)]; exact ⟨_, rfl⟩
theorem CallOk.sum {o : Fl} {L : List Nat} : CallOk prog w n (.builtin "sum") [.lst o (L.map .nat)] (.s (.nat L.sum)) := by
  intro A s Q E vs hA g r q
  obtain ⟨v, rfl, a, rfl, vs, hp, ha⟩ := r.one
  obtain ⟨xs, rfl, e⟩ := ints_of ha
  have hl : s.heap.IsList a (intItems xs.toArray) := by
    have : intItems xs.toArray = (xs.map (fun p => Value.int p.1 p.2)).toArray := by simp [intItems]
    rw [this]; exact hp.isList
  refine sum_intListG hA.hd hl fun h' tk t' hk => q _ _ ⟨hk, rfl, .refl _⟩ ⟨t', ?_⟩ (.no rfl)
  rw [preSum_eq, List.take_of_length_le (by simp)]
  show Value.int (List.map (·.1) xs.toArray.toList).sum t' = _
  rw [show xs.toArray.toList = xs from rfl, e, sum_ofNat]
theorem CallOk.rng {m : Nat} (hm : m < 2 ^ 62) : CallOk prog w n (.type "range") [.s (.nat m)] (.rng m) := by
  intro A s Q E vs hA g r q
  obtain ⟨v, rfl, t, rfl⟩ := r.one
  exact call_range_1 (q _ _ ⟨KeepA.push _ _, rfl, .refl _⟩ ⟨_, _, _, _, rfl, Heap.get?_push_size _ rfl, hm⟩ (.no rfl))
theorem CallOk.listrng {m : Nat} (hm : m ≤ 2 ^ 24) : CallOk prog w n (.type "list") [.rng m] (.lst .own ((List.range m).map .nat)) := by
  intro A s Q E vs hA g r q
  obtain ⟨v, rfl, a, t, u, w', rfl, hr, _⟩ := r.one
  have e : Builtin.Range.rangeSize 0 (m : Int) 1 = (m : Int) := by
    rw [PySem.rangeSize_one]
    by_cases h0 : (0 : Int) < m
    · rw [if_pos h0]; simp
    · have : m = 0 := by omega
      subst this; rfl
  refine call_list_range hA.hd hr (PySem.small_one (by decide) (by decide) (by omega) (by omega)) e hm fun h' tk acc c hk ho hi => ?_
  refine q _ _ ⟨hk, rfl, .refl _⟩ ⟨_, rfl, acc.toList, ⟨c, by simpa using ho⟩, ?_⟩ (fun a e => by cases e; exact size_none _)
  have : ∀ (l : List Value) (k : Nat), (∀ j v, l[j]? = some v → ∃ t, v = Value.int (((k + j : Nat) : Int)) t) → All2 (RepS h') l ((List.range' k l.length).map .nat) := by
    intro l
    induction l with
    | nil => intro k _; exact .nil
    | cons a r ih =>
      intro k h
      refine .cons (h 0 a rfl) (ih (k + 1) fun j v hj => ?_)
      have := h (j + 1) v (by simpa using hj)
      rwa [show k + 1 + j = k + (j + 1) by omega]
  have := this acc.toList 0 fun j v hj => by
    obtain ⟨t, e⟩ := hi.2 j v (by simpa using hj)
    exact ⟨t, by rw [e]; congr 1; omega⟩
  rw [Array.length_toList, hi.1, ← List.range_eq_range'] at this
  exact this
theorem CallOk.chr {c : Nat} (hc : c < 1114112) : CallOk prog w n (.builtin "chr") [.s (.nat c)] (.s (.str ⟨#[c]⟩)) := by
  intro A s Q E vs hA g r q
  obtain ⟨v, rfl, t, rfl⟩ := r.one
  exact chr_of_range (by omega) (by omega) (q _ _ (Ext.tok s _) ⟨_, rfl⟩ (.no rfl))
theorem CallOk.ord {c : Nat} : CallOk prog w n (.builtin "ord") [.s (.str ⟨#[c]⟩)] (.s (.nat c)) := by
  intro A s Q E vs hA g r q
  obtain ⟨v, rfl, t, rfl⟩ := r.one
  exact ord_of_one rfl (q _ _ (Ext.tok s _) ⟨_, rfl⟩ (.no rfl))
theorem CallOk.intN {a : Nat} : CallOk prog w n (.type "int") [.s (.nat a)] (.s (.nat a)) := by
  intro A s Q E vs hA g r q
  obtain ⟨v, rfl, t, rfl⟩ := r.one
  exact call_int_int (q _ _ (Ext.refl s) ⟨_, rfl⟩ (.no rfl))
theorem CallOk.abs {a : Int} : CallOk prog w n (.builtin "abs") [.s (.int a)] (.s (.nat a.natAbs)) := by
  intro A s Q E vs hA g r q
  obtain ⟨v, rfl, t, rfl⟩ := r.one
  refine call_abs_int fun u tk => q _ _ (Ext.tok s _) ⟨u, ?_⟩ (.no rfl)
  congr 1
  split <;> omega
theorem CallOk.divmod {a b : Nat} (hb : 0 < b) (hb' : b < 1073741824) : CallOk prog w n (.builtin "divmod") [.s (.nat a), .s (.nat b)] (.s (.pair (a / b) (a % b))) := by
  intro A s Q E vs hA g r q
  obtain ⟨v, v', rfl, ⟨t, rfl⟩, ⟨u, rfl⟩⟩ := r.two
  refine divmod_int (by omega) (q _ _ ⟨KeepA.push _ _, rfl, .refl _⟩ ⟨_, s.toks, s.toks + 1, rfl, _, Heap.get?_push_size _ rfl, rfl, 0, ?_⟩ (.no rfl)) (Or.inl (PyProof.noPylong_small (by omega)))
  rw [Int.fdiv_eq_ediv_of_nonneg _ (by omega), Int.fmod_eq_emod_of_nonneg _ (by omega), ← Int.natCast_ediv, ← Int.natCast_emod]
theorem CallOk.bin {a : Nat} (ha : a < 2 ^ 60) : CallOk prog w n (.builtin "bin") [.s (.nat a)] (.s (.str (baseText "0b" 2 (a : Int)))) := by
  intro A s Q E vs hA g r q
  obtain ⟨v, rfl, t, rfl⟩ := r.one
  exact P.bin_of_int (q _ _ (Ext.tok s _) ⟨_, rfl⟩ (.no rfl)) (baseText_under (by decide) (by decide) (by omega))
theorem CallOk.weak {f : Value} {pvs pvs' : List V} {res : V} (h : CallOk prog w n f pvs' res) (hw : ∀ (hp : Heap) vs, All2 (RepV hp) vs pvs → All2 (RepV hp) vs pvs') : CallOk prog w n f pvs res :=
  fun A s Q E vs hA g r q => h A s Q E vs hA g (hw _ _ r) q
end
end Mine
end
section
open PySem PySem.W PyProof.Rows PySem.Calls PySem.Spec
set_option Elab.async false
set_option maxRecDepth 100000
set_option maxHeartbeats 8000000
set_option linter.unusedVariables false
set_option genSizeOf false
namespace Mine
section
variable (prog : Program) (w : World) (n : Nat) (env : Env) (cx : Cx) (vals : List V)
noncomputable def EvP (x : Option Expr) (lo : Option Int) : Prop := ∀ (A : Around) (s : Shared) (Q E : Value → Shared → Prop), Ok A n → Glob w s.heap → RepE env cx vals s.heap →
  (∀ v s' p, Ext s s' → v = partValue p → p.map (·.1) = lo → Q v s') → wpAny (model prog w) A (evalPart x env) Q E s
end
section
variable {prog : Program} {w : World} {n : Nat} {env : Env} {cx : Cx} {vals : List V}
theorem isPart_of {p : Option (Int × Tok)} {lo : Option Int} (h : p.map (·.1) = lo) : IsPart (partValue p) lo := by
  subst h
  cases p with
  | none => exact .none
  | some q => exact .int _ _
theorem EvP.none : EvP prog w n env cx vals Option.none Option.none := fun A s Q E hA g r q => wpAny_pure (q _ s Option.none (Ext.refl s) rfl rfl)
theorem EvP.nat {e : Expr} {k : Nat} (h : Ev prog w n env cx vals e (.s (.nat k))) : EvP prog w n env cx vals (some e) (some (k : Int)) :=
  fun A s Q E hA g r q => h A s _ _ hA g r fun v s₁ x₁ ⟨t, e⟩ _ => q v s₁ (some (_, t)) x₁ e rfl
theorem EvP.int {e : Expr} {k : Int} (h : Ev prog w n env cx vals e (.s (.int k))) : EvP prog w n env cx vals (some e) (some k) :=
  fun A s Q E hA g r q => h A s _ _ hA g r fun v s₁ x₁ ⟨t, e⟩ _ => q v s₁ (some (_, t)) x₁ e rfl
theorem Ev.sliceL {value : Expr} {lower upper : Option Expr} {p pos : Pos} {o : Fl} {l : List S} {lo hi : Option Int} (a b : Nat) (hv : Ev prog w n env cx vals value (.lst o l)) (hl : EvP prog w n env cx vals lower lo) (hu : EvP prog w n env cx vals upper hi)
    (hsz : l.length ≤ 16777216) (hc : ∀ vs : List Value, vs.length = l.length → slicePick vs.toArray lo hi none = ((vs.drop a).take b).toArray) (ht : ∀ o r, letTemporaryGo value o r = pure ()) :
    Ev prog w n env cx vals (.Subscript value (.Slice lower upper none p) pos) (.lst .own ((l.drop a).take b)) := by
  intro A s Q E hA g r q
  refine wpAny_Subscript_list_slice (hv A s _ _ hA g r fun v s₁ x₁ r₁ _ => hl A s₁ _ _ hA (g.keep x₁.keep) (r.keep x₁.keep) fun vl s₂ pl x₂ e2 e2' => hu A s₂ _ _ hA (g.keep (x₁.trans x₂).keep) (r.keep (x₁.trans x₂).keep) fun vu s₃ pu x₃ e3 e3' => ?_) ht
  obtain ⟨d, rfl, vs, hp, ha⟩ := r₁.keep (x₂.trans x₃).keep
  refine ⟨d, vs.toArray, lo, hi, rfl, hp.isList, by rw [List.size_toArray, ha.length, sizeLine_eq]; exact hsz, e2 ▸ isPart_of e2', e3 ▸ isPart_of e3', ?_⟩
  rw [hc vs ha.length]
  have k1 : KeepA s₃.heap ((s₃.heap.push { cls := .type "slice", data := .fields #[vl, vu, .none] }).push { cls := .type "list", data := .seq ((vs.drop a).take b).toArray }) := (KeepA.push _ _).trans (KeepA.push _ _)
  refine q _ _ (((x₁.trans x₂).trans x₃).trans ⟨k1, rfl, .refl _⟩) ⟨_, rfl, (vs.drop a).take b, ⟨0, ?_⟩, ((ha.drop a).take b).mono fun _ _ y => y.keep k1.toT⟩ (fun c e => ?_)
  · rw [show s₃.heap.objs.size + 1 = (s₃.heap.push { cls := .type "slice", data := .fields #[vl, vu, .none] }).objs.size by rw [Heap.size_push]]
    exact Heap.get?_push_size _ rfl
  · cases e
    refine none_back ((x₁.trans x₂).trans x₃) ?_
    cases e : s₃.heap.get? (s₃.heap.objs.size + 1) with
    | none => rfl
    | some o' => exact absurd (Heap.lt_size e) (Nat.not_lt.mpr (Nat.le_succ _))
theorem Ev.from {value lo : Expr} {p pos : Pos} {o : Fl} {l : List S} {k : Nat} (hv : Ev prog w n env cx vals value (.lst o l)) (hl : Ev prog w n env cx vals lo (.s (.nat k)))
    (hsz : l.length ≤ 16777216) (ht : ∀ o r, letTemporaryGo value o r = pure ()) : Ev prog w n env cx vals (.Subscript value (.Slice (some lo) none none p) pos) (.lst .own (l.drop k)) := by
  have := Ev.sliceL (pos := pos) (p := p) k l.length hv (.nat hl) EvP.none hsz (fun vs e => by
    rw [slicePick_from']
    show (vs.drop k).toArray = _
    rw [List.take_of_length_le (by rw [List.length_drop]; omega)]) ht
  rwa [List.take_of_length_le (by rw [List.length_drop]; omega)] at this
theorem Ev.upto {value hi : Expr} {p pos : Pos} {o : Fl} {l : List S} {k : Nat} (hv : Ev prog w n env cx vals value (.lst o l)) (hl : Ev prog w n env cx vals hi (.s (.nat k)))
    (hsz : l.length ≤ 16777216) (ht : ∀ o r, letTemporaryGo value o r = pure ()) : Ev prog w n env cx vals (.Subscript value (.Slice none (some hi) none p) pos) (.lst .own (l.take k)) := by
  have := Ev.sliceL (pos := pos) (p := p) 0 k hv EvP.none (.nat hl) hsz (fun vs e => by
    rw [slicePick_upto']
    rfl) ht
  exact this
theorem subscripted_slice {lower upper : Option Expr} {p : Pos} (o i : Value) : subscripted (.Slice lower upper none p) false o i = operate [i, o] (getItem o i) := rfl
theorem Ev.sliceB {value : Expr} {lower upper : Option Expr} {p pos : Pos} {x : Array UInt8} {lo hi : Option Int} (hv : Ev prog w n env cx vals value (.s (.bytes x))) (hl : EvP prog w n env cx vals lower lo) (hu : EvP prog w n env cx vals upper hi)
    (hsz : x.size ≤ 16777216) (ht : ∀ o r, letTemporaryGo value o r = pure ()) : Ev prog w n env cx vals (.Subscript value (.Slice lower upper none p) pos) (.s (.bytes (KBy.picked x lo hi))) := by
  intro A s Q E hA g r q
  refine wpAny_Subscript_Slice (T := "bytes") FB.slot_bytes_getitem.lookup (hv A s _ _ hA g r fun v s₁ x₁ r₁ _ => wpAny_Slice (hl A s₁ _ _ hA (g.keep x₁.keep) (r.keep x₁.keep) fun vl s₂ pl x₂ e2 e2' => hu A s₂ _ _ hA (g.keep (x₁.trans x₂).keep) (r.keep (x₁.trans x₂).keep) fun vu s₃ pu x₃ e3 e3' => ?_)) ht
  obtain ⟨t, rfl⟩ := r₁
  refine wpAny_pure ⟨typeIs_bytes _ _ _, ?_⟩
  refine getItem_meets (typeIs_bytes _ _ _) (by decide) FB.slot_bytes_getitem FB.entry_bytes_getitem (FB.args_bytes_getitem_2 _ _) (KBc.meets_slice2 x t _ (e2 ▸ isPart_of e2') (e3 ▸ isPart_of e3')) ⟨Heap.IsSliceOf.new _ _ _ _, Nat.le_trans (KBc.size_picked_le x lo hi) (by rw [sizeLine_eq]; exact hsz), fun t' k => ?_⟩
  exact q _ _ (((x₁.trans x₂).trans x₃).trans ⟨KeepA.push _ _, rfl, .refl _⟩) ⟨_, rfl⟩ (.no rfl)
theorem Ev.sliceS {value : Expr} {lower upper : Option Expr} {p pos : Pos} {x : Str} {lo hi : Option Int} (hv : Ev prog w n env cx vals value (.s (.str x))) (hl : EvP prog w n env cx vals lower lo) (hu : EvP prog w n env cx vals upper hi)
    (hsz : x.length ≤ 16777216) (ht : ∀ o r, letTemporaryGo value o r = pure ()) : Ev prog w n env cx vals (.Subscript value (.Slice lower upper none p) pos) (.s (.str (StrLaws.sliceText x lo hi))) := by
  intro A s Q E hA g r q
  refine wpAny_Subscript_str_slice (hv A s _ _ hA g r fun v s₁ x₁ r₁ _ => hl A s₁ _ _ hA (g.keep x₁.keep) (r.keep x₁.keep) fun vl s₂ pl x₂ e2 e2' => hu A s₂ _ _ hA (g.keep (x₁.trans x₂).keep) (r.keep (x₁.trans x₂).keep) fun vu s₃ pu x₃ e3 e3' => ?_) ht
  obtain ⟨t, rfl⟩ := r₁
  refine ⟨x, t, pl, pu, rfl, e2, e3, ?_⟩
  subst e2' e3'
  have e : sliceMade x t pl pu Option.none = if ((1 : Int) == 1 && (Builtin.Str.strSliceIndices (pl.map (·.1)) (pu.map (·.1)) 1 x.length).length == x.length) = true then .val (.str x t) else .str ⟨((Builtin.Str.strSliceIndices (pl.map (·.1)) (pu.map (·.1)) 1 x.length).filterMap (x.cps[·]?)).toArray⟩ := rfl
  rw [e]
  clear e
  unfold StrLaws.sliceText at q
  have xx : ∀ tk, Ext s { s₃ with heap := s₃.heap.push { cls := .type "slice", data := .fields #[vl, vu, .none] }, toks := tk } := fun tk => ((x₁.trans x₂).trans x₃).trans ⟨KeepA.push _ _, rfl, .refl _⟩
  split
  · rename_i h
    rw [if_pos h] at q
    exact q _ _ (xx _) ⟨_, rfl⟩ (.no rfl)
  · rename_i h
    rw [if_neg h] at q
    refine ⟨?_, q _ _ (xx _) ⟨_, rfl⟩ (.no rfl)⟩
    refine Nat.le_trans ?_ (Nat.le_trans hsz (by rw [sizeLine_eq]; exact Nat.le_refl _))
    show (List.filterMap _ _).toArray.size ≤ _
    rw [List.size_toArray]
    exact Nat.le_trans (List.length_filterMap_le _ _) (sliceIndices_le _ _ _)
theorem Op2.addL {o o' : Fl} {a b : List S} (h : a.length + b.length ≤ 16777216) : Op2 prog w n .Add (.lst o a) (.lst o' b) (.lst .own (a ++ b)) := by
  rintro A s Q E _ _ hA g ⟨x, rfl, vs, ⟨n1, h1⟩, ha⟩ ⟨y, rfl, us, ⟨n2, h2⟩, hb⟩ q
  refine P.add_list h1 h2 ?_ (by rw [List.size_toArray, List.size_toArray, ha.length, hb.length, sizeLine_eq]; exact h)
  have k := KeepA.push s.heap { cls := .type "list", data := .seq (vs.toArray ++ us.toArray) }
  refine q _ _ ⟨k, rfl, .refl _⟩ ⟨_, rfl, vs ++ us, ⟨0, ?_⟩, (ha.append hb).mono fun _ _ y => y.keep k.toT⟩ (fun c e => by cases e; exact size_none _)
  rw [← List.append_toArray]
  exact Heap.get?_push_size _ rfl
theorem mul_list' {A : Around} {E : Value → Shared → Prop} {s : Shared} {l : Addr} {items : Array Value} {k : Nat} {x : Int} {u : Tok} {Q : Value → Shared → Prop}
    (hl : s.heap.get? l = some { cls := .type "list", dict := none, data := .seq items k, slots := #[] })
    (hlo : -(2 ^ 63 : Int) ≤ x) (hhi : x < 2 ^ 63) (hsz : items.size * x.toNat ≤ 2 ^ 24)
    (h : Q (.ref s.heap.objs.size) { s with heap := s.heap.push { cls := .type "list", data := .seq (List.foldl (fun x1 x2 => x1 ++ x2) #[] (List.replicate (if items.isEmpty = true then 0 else x.toNat) items)) } }) :
    wpAny (model prog w) A (binaryOp .Mult (.ref l) (.int x u)) Q E s :=
  wpAny_binaryOp_repeat_ref (T := "list") (U := "int") (by decide) ⟨_, hl, rfl⟩ (fun s' => typeIs_int s' x u) noFill_list_mul F.fills_int_mul F.slot_int_rmul repeat_list F.slot_int_index.lookup
    (call_meets F.slot_int_rmul (typeIs_int s x u) F.entry_int_rmul (F.args_int_rmul_2 _ _) (int___rmul___int_list x u l items k)
      ⟨hl, rfl, ⟨_, hl, rfl⟩, call_meets F.slot_list_mul ⟨_, hl, rfl⟩ F.entry_list_mul (F.args_list_mul_2 _ _)
        (AutoListH.list___mul___list_int_3 l items k x u (by simp [Builtin.List.listFitsIndex]; omega) (by omega) (by simp [Builtin.List.listTooLong, sizeLine]; omega))
        ⟨hl, h⟩⟩)
theorem Op2.mulL {o : Fl} {a : List S} {m : Nat} (h : a.length * m ≤ 2 ^ 24) (hm : m < 2 ^ 60) (ha0 : a ≠ []) : Op2 prog w n .Mult (.lst o a) (.s (.nat m)) (.lst .own (List.replicate m a).flatten) := by
  rintro A s Q E _ _ hA g ⟨l, rfl, vs, ⟨k, hl⟩, ha⟩ ⟨u, rfl⟩ q
  have hlen := ha.length
  have hsz : vs.toArray.size * (m : Int).toNat ≤ 2 ^ 24 := by rw [List.size_toArray, hlen, Int.toNat_natCast]; exact h
  refine mul_list' hl (by omega) (by omega) hsz ?_
  have hne : vs.toArray.isEmpty = false := by
    cases vs with
    | nil => cases a with
      | nil => exact absurd rfl ha0
      | cons _ _ => simp at hlen
    | cons _ _ => rfl
  have e : List.foldl (fun x1 x2 => x1 ++ x2) #[] (List.replicate (if vs.toArray.isEmpty = true then 0 else (m : Int).toNat) vs.toArray) = (List.replicate m vs).flatten.toArray := by
    rw [hne]
    simp only [Bool.false_eq_true, if_false, Int.toNat_natCast]
    have : ∀ (j : Nat) (acc : List Value), List.foldl (fun x1 x2 => x1 ++ x2) acc.toArray (List.replicate j vs.toArray) = (acc ++ (List.replicate j vs).flatten).toArray := by
      intro j
      induction j with
      | zero => intro acc; simp
      | succ j ih =>
        intro acc
        rw [List.replicate_succ, List.foldl_cons, List.append_toArray, ih, List.replicate_succ]
        simp
    simpa using this m []
  rw [e]
  have kk := KeepA.push s.heap { cls := .type "list", data := .seq (List.replicate m vs).flatten.toArray }
  refine q _ _ ⟨kk, rfl, .refl _⟩ ⟨_, rfl, (List.replicate m vs).flatten, ⟨0, Heap.get?_push_size _ rfl⟩, ?_⟩ (fun c e => by cases e; exact size_none _)
  have : ∀ j, All2 (RepS s.heap) (List.replicate j vs).flatten (List.replicate j a).flatten := by
    intro j
    induction j with
    | zero => exact .nil
    | succ j ih => rw [List.replicate_succ, List.replicate_succ]; exact ha.append ih
  exact (this m).mono fun _ _ y => y.keep kk.toT
end
end Mine
end
section
open PySem PySem.W PyProof.Rows PySem.Calls PySem.Spec
set_option Elab.async false
set_option maxRecDepth 100000
set_option maxHeartbeats 8000000
set_option linter.unusedVariables false
set_option genSizeOf false
namespace Mine
theorem wp_toks {X : Type} {post : X → Pos → Shared → Prop} {exc : Value → Pos → Shared → Prop} (M : Model) (Γ : PySem.Ctx) (tree : Sem X) : ∀ (k : Nat) (pos : Pos) (sh : Shared), k ≤ sh.toks → Sem.wp M Γ tree post exc pos sh →
    Sem.wp M Γ tree (fun x p s => post x p s ∧ k ≤ s.toks) (fun v p s => exc v p s ∧ k ≤ s.toks) pos sh := by
  induction tree with
  | pure x => exact fun k pos sh hk h => ⟨h, hk⟩
  | raise v => exact fun k pos sh hk h => ⟨h, hk⟩
  | unsupported | finish | yield | fork | await | register => exact fun k pos sh hk h => h
  | rule _ k ih | «at» _ k ih | alloc _ k ih | loadIfAlive _ k ih | point _ k ih | ask k ih | os _ _ k ih | handled _ k ih | newGen _ k ih | stack k ih | thread k ih => exact fun j pos sh hk h => ih _ j _ _ hk h
  | fresh k ih => exact fun j pos sh hk h => ih _ j _ _ (Nat.le_succ_of_le hk) h
  | load a _ k ih | genState a k ih => exact fun j pos sh hk ⟨o, ho, h⟩ => ⟨o, ho, ih _ j _ _ hk h⟩
  | update a _ f k ih | choose _ _ k ih => exact fun j pos sh hk ⟨ha, h⟩ => ⟨ha, ih _ j _ _ hk h⟩
  | call c h g l k ih => exact fun j pos sh hk ⟨r, s', hr, h⟩ => ⟨r, s', hr, ih _ j _ _ (Nat.le_trans hk (Returns.toks_le hr)) h⟩
  | resume g r l k ih => exact fun j pos sh hk ⟨res, s', hw, h⟩ => ⟨res, s', hw, ih _ j _ _ (Nat.le_trans hk (Wakes.toks_le hw)) h⟩
theorem wpAny_toks {X : Type} {M : Model} {A : Around} {t : Sem X} {Q : X → Shared → Prop} {E : Value → Shared → Prop} {s : Shared} (k : Nat) (hk : k ≤ s.toks) (h : wpAny M A t (fun a s' => k ≤ s'.toks → Q a s') (fun e s' => E e s') s) : wpAny M A t Q E s :=
  fun Γ p hΓ => Sem.wp_mono M Γ t (post := fun a _ s' => (k ≤ s'.toks → Q a s') ∧ k ≤ s'.toks) (exc := fun e _ s' => E e s' ∧ k ≤ s'.toks) (fun _ _ _ x => x.1 x.2) (fun _ _ _ x => x.1) p s (wp_toks M Γ t k p s hk (h Γ p hΓ))
section
variable {prog : Program} {w : World} {n : Nat} {env : Env} {cx : Cx} {vals : List V}
/-- a method of a built-in, called -/
theorem Ev.meth {o : Expr} {name : Str} {apos pos : Pos} {e : Expr} {es : List Expr} {T id : String} {po : V} {pvs : List V} {res : V} (pa : PlainAttrs T) (slot : Slot T name id) (hty : typeOf (.builtin id) = pure (.type "method_descriptor"))
    (ho : Ev prog w n env cx vals o po) (hT : ∀ (s : Shared) v, Glob w s.heap → RepV s.heap v po → s.TypeIs v T ∧ ∀ a, v = .ref a → ∃ ob, s.heap.get? a = some ob ∧ ob.dict = none)
    (ha : EvA prog w n env cx vals pos (e :: es) pvs) (hc : CallOk prog w n (.builtin id) (po :: pvs) res)
    (hbase : attributeBase o name env (eval o env) = eval o env) (he : starEach (e :: es) env = (false, eval e env) :: starEach es env) (hp : (backTo pos (starEach es env)).any (·.1) = false) (hlen : es.length < 28) (hline : (apos.endLine == pos.line) = true) :
    Ev prog w n env cx vals (.Call (.Attribute o name apos) (e :: es) [] pos) res := by
  intro A s Q E hA g re q
  have hplain : (backTo pos (starEach (e :: es) env)).any (·.1) = false := by
    rw [he]; show (false || (backTo pos (starEach es env)).any (·.1)) = false; rw [hp]; rfl
  have hall : (backTo pos (starEach (e :: es) env)).all (fun x => !x.1) = true := by
    rw [List.all_eq_true]
    intro x hx
    have := List.any_eq_false.mp hplain x hx
    cases h : x.1 <;> simp_all
  refine wpAny_Call_method hbase ?_ hline pa slot hty (ho A s _ _ hA g re fun v s₁ x₁ r₁ _ => ?_)
  · have hkw : (backToKw pos (keywordEach [] env)).all (fun x => x.1.isSome) = true := rfl
    rw [hall, hkw]
    simp only [Bool.true_and, decide_eq_true_eq, List.length_nil, List.length_cons, List.isEmpty_nil, if_true]
    omega
  obtain ⟨h1, h2⟩ := hT s₁ v (g.keep x₁.keep) r₁
  refine ⟨h1, h2, Calls.callWith_builtin hplain ?_⟩
  have h' := ha A s₁ (fun vs s₂ => wpAny (model prog w) A (call (.builtin id) ([v] ++ vs) []) Q E s₂) E hA (g.keep x₁.keep) (re.keep x₁.keep) fun vs s₂ x₂ r₂ => hc A s₂ _ _ (v :: vs) hA (g.keep (x₁.trans x₂).keep) (.cons (r₁.keep x₂.keep) r₂) fun u s₃ x₃ r₃ f₃ => q u s₃ ((x₁.trans x₂).trans x₃) r₃ (f₃.back (x₁.trans x₂))
  rw [he] at h' ⊢
  exact evalArgs_plain h'
theorem Ev.meth0 {o : Expr} {name : Str} {apos pos : Pos} {T id : String} {po : V} {res : V} (pa : PlainAttrs T) (slot : Slot T name id) (hty : typeOf (.builtin id) = pure (.type "method_descriptor"))
    (ho : Ev prog w n env cx vals o po) (hT : ∀ (s : Shared) v, Glob w s.heap → RepV s.heap v po → s.TypeIs v T ∧ ∀ a, v = .ref a → ∃ ob, s.heap.get? a = some ob ∧ ob.dict = none)
    (hc : CallOk prog w n (.builtin id) [po] res) (hbase : attributeBase o name env (eval o env) = eval o env) (hline : (apos.endLine == pos.line) = true) :
    Ev prog w n env cx vals (.Call (.Attribute o name apos) [] [] pos) res := by
  intro A s Q E hA g re q
  refine wpAny_Call_method hbase rfl hline pa slot hty (ho A s _ _ hA g re fun v s₁ x₁ r₁ _ => ?_)
  obtain ⟨h1, h2⟩ := hT s₁ v (g.keep x₁.keep) r₁
  refine ⟨h1, h2, Calls.callWith_builtin rfl ?_⟩
  exact PySem.evalArgs_none (hc A s₁ _ _ [v] hA (g.keep x₁.keep) (.cons r₁ .nil) fun u s₃ x₃ r₃ f₃ => q u s₃ (x₁.trans x₃) r₃ (f₃.back x₁))
theorem recv_str {x : Str} (s : Shared) (v : Value) (_ : Glob w s.heap) (r : RepV s.heap v (.s (.str x))) : s.TypeIs v "str" ∧ ∀ a, v = .ref a → ∃ ob, s.heap.get? a = some ob ∧ ob.dict = none := by
  obtain ⟨t, rfl⟩ := r
  exact ⟨typeIs_str _ _ _, fun a e => nomatch e⟩
theorem recv_bytes {x : Array UInt8} (s : Shared) (v : Value) (_ : Glob w s.heap) (r : RepV s.heap v (.s (.bytes x))) : s.TypeIs v "bytes" ∧ ∀ a, v = .ref a → ∃ ob, s.heap.get? a = some ob ∧ ob.dict = none := by
  obtain ⟨t, rfl⟩ := r
  exact ⟨typeIs_bytes _ _ _, fun a e => nomatch e⟩
theorem CallOk.count {x y : Str} {m : Nat} (h : Txt.count x y = (m : Int)) : CallOk prog w n (.builtin "str.count") [.s (.str x), .s (.str y)] (.s (.nat m)) := by
  intro A s Q E vs hA g r q
  obtain ⟨v, v', rfl, ⟨t, rfl⟩, ⟨u, rfl⟩⟩ := r.two
  exact SC.count (q _ _ (Ext.tok s _) ⟨_, by rw [h]⟩ (.no rfl))
theorem CallOk.index {x y : Str} {i : Nat} {rest : List Nat} (h : Builtin.Str.occurrences x y 0 x.length 1 = i :: rest) : CallOk prog w n (.builtin "str.index") [.s (.str x), .s (.str y)] (.s (.nat i)) := by
  intro A s Q E vs hA g r q
  obtain ⟨v, v', rfl, ⟨t, rfl⟩, ⟨u, rfl⟩⟩ := r.two
  exact SC.index h (q _ _ (Ext.tok s _) ⟨_, rfl⟩ (.no rfl))
theorem strs_of {h : Heap} : ∀ {vs : List Value} {L : List Str}, All2 (RepS h) vs (L.map .str) → StrsAre vs L
  | [], [], _ => .nil
  | v :: vs, a :: L, x => by
    cases x with
    | cons h t =>
      obtain ⟨u, rfl⟩ := h
      exact .cons a u (strs_of t)
theorem CallOk.join {x : Str} {o : Fl} {L : List Str} (h : (L.map (·.length)).sum + L.length * x.length ≤ 16777216) : CallOk prog w n (.builtin "str.join") [.s (.str x), .lst o (L.map .str)] (.s (.str (Txt.join x L))) := by
  intro A s Q E vs hA g r q
  obtain ⟨v, v', rfl, ⟨t, rfl⟩, a, rfl, us, hp, ha⟩ := r.two
  exact PyProof.Rows.join_list hp.isList (strs_of ha) h fun t' k => q _ _ (Ext.tok s k) ⟨_, rfl⟩ (.no rfl)
end
end Mine
end
section
open PySem PySem.W PyProof.Rows PySem.Calls PySem.Spec
set_option Elab.async false
set_option maxRecDepth 100000
set_option maxHeartbeats 8000000
set_option linter.unusedVariables false
set_option genSizeOf false
namespace Mine
theorem cellsFrom_acc : ∀ (names : List (Str × NameKind)) (n : Nat) (acc : List (Str × Addr)) (x : Str), (x, NameKind.cell) ∈ names ∨ (∃ c, acc.lookup x = some c) → ∃ c, (cellsFrom n names acc).lookup x = some c
  | [], n, acc, x, h => by rcases h with h | h; · cases h
                           · exact h
  | (y, k) :: r, n, acc, x, h => by
    unfold cellsFrom
    by_cases hk : k = .cell
    · subst hk
      simp only [beq_self_eq_true, if_true]
      refine cellsFrom_acc r _ _ x ?_
      by_cases hx : x = y
      · subst hx; exact .inr ⟨n, by simp [List.lookup_cons]⟩
      · rcases h with h | ⟨c, h⟩
        · rcases List.mem_cons.mp h with e | e
          · cases e; exact absurd rfl hx
          · exact .inl e
        · refine .inr ⟨c, ?_⟩
          have : (x == y) = false := by simpa using hx
          rw [List.lookup_cons, this]; exact h
    · have hkf : (k == NameKind.cell) = false := by simpa using hk
      rw [hkf]
      simp only [Bool.false_eq_true, if_false]
      refine cellsFrom_acc r _ _ x ?_
      rcases h with h | h
      · rcases List.mem_cons.mp h with e | e
        · cases e; exact absurd rfl hk
        · exact .inl e
      · exact .inr h
theorem bindL_skip {kindOf : Str → Option NameKind} {x : Str} : ∀ (bs : List (Str × Value)) (m : Str → Option Value), (∀ b ∈ bs, b.1 ≠ x) → bindL kindOf bs m x = m x
  | [], m, _ => rfl
  | (y, u) :: r, m, h => by
    unfold bindL
    rw [bindL_skip r _ fun b hb => h b (List.mem_cons_of_mem _ hb)]
    split
    · exact if_neg (fun e => h _ List.mem_cons_self e.symm)
    · rfl
theorem bindL_get {kindOf : Str → Option NameKind} {x : Str} {v : Value} (hk : kindOf x = some .local) : ∀ (bs : List (Str × Value)) (m : Str → Option Value), (bs.map (·.1)).Nodup → (x, v) ∈ bs → bindL kindOf bs m x = some v
  | (y, u) :: r, m, hn, h => by
    rw [List.map_cons, List.nodup_cons] at hn
    unfold bindL
    rcases List.mem_cons.mp h with e | e
    · cases e
      rw [bindL_skip r _ fun b hb e => hn.1 (List.mem_map.mpr ⟨b, hb, e⟩), if_pos hk]
      exact if_pos rfl
    · exact bindL_get hk r _ hn.2 e
theorem bindC_skip {kindOf : Str → Option NameKind} {x : Str} : ∀ (bs : List (Str × Value)) (m : Str → Option Value), (∀ b ∈ bs, b.1 ≠ x) → bindC kindOf bs m x = m x
  | [], m, _ => rfl
  | (y, u) :: r, m, h => by
    unfold bindC
    rw [bindC_skip r _ fun b hb => h b (List.mem_cons_of_mem _ hb)]
    split
    · rfl
    · exact if_neg (fun e => h _ List.mem_cons_self e.symm)
theorem bindC_get {kindOf : Str → Option NameKind} {x : Str} {v : Value} (hk : kindOf x = some .cell) : ∀ (bs : List (Str × Value)) (m : Str → Option Value), (bs.map (·.1)).Nodup → (x, v) ∈ bs → bindC kindOf bs m x = some v
  | (y, u) :: r, m, hn, h => by
    rw [List.map_cons, List.nodup_cons] at hn
    unfold bindC
    rcases List.mem_cons.mp h with e | e
    · cases e
      rw [bindC_skip r _ fun b hb e => hn.1 (List.mem_map.mpr ⟨b, hb, e⟩), if_neg (by rw [hk]; decide)]
      exact if_pos rfl
    · exact bindC_get hk r _ hn.2 e
structure FnOk (scope : Scope) (ns : List (Str × Bool)) (gs : List Str) (pn : List Str) : Prop where
  kind : scope.kind = .function
  co : scope.isCoroutine = false
  loc : ∀ x, (x, false) ∈ ns → scope.names.lookup x = some .local
  cel : ∀ x, (x, true) ∈ ns → scope.names.lookup x = some .cell ∧ (x, NameKind.cell) ∈ scope.names
  gl : ∀ g ∈ gs, scope.names.lookup g = some .globalImplicit
  nd : (ns.map (·.1)).Nodup
  nh : ∀ p ∈ ns, p.1 ≠ hdrName
  pn : (ns.take pn.length).map (·.1) = pn
theorem entry_st {w : World} {s s₁ : Shared} {name : Str} {scope : Scope} {f : Addr} {cdv : Value} {ns : List (Str × Bool)} {gs : List Str} {pn : List Str} {vs : List Value} {pvs : List V} (fo : FnOk scope ns gs pn) (g : Glob w s.heap) (r : All2 (RepV s.heap) vs pvs) (hl : vs.length = pn.length)
    (hf : pvs.all (fun v => !v.fresh) = true)
    (x : InCallC s s.heap.objs.size (bindL (envOfC name scope s.heap.objs.size f cdv).kindOf (pn.zip vs) fun _ => none) (envOfC name scope s.heap.objs.size f cdv).cells (bindC (envOfC name scope s.heap.objs.size f cdv).kindOf (pn.zip vs) fun _ => none) s₁) :
    StOk w (fun a => s.heap.get? a) (envOfC name scope s.heap.objs.size f cdv) ⟨ns, gs⟩ (pvs ++ List.replicate (ns.length - pn.length) .unset) s₁.heap := by
  have hk := x.toInCall.keep
  have hpl : pn.length ≤ ns.length := by rw [← fo.pn]; simp; omega
  have hpvl : pvs.length = pn.length := by rw [← r.length]; exact hl
  have hpnd : pn.Nodup := by rw [← fo.pn, List.map_take]; exact fo.nd.sublist (List.take_sublist _ _)
  have hzf : (pn.zip vs).map (·.1) = pn := by rw [List.map_fst_zip (by omega)]
  have tch : ∀ a, Tch (envOfC name scope s.heap.objs.size f cdv) ns a → s.heap.objs.size ≤ a := by
    rintro a (rfl | ⟨y, hy, e⟩)
    · exact Nat.le_refl _
    · exact Nat.le_of_lt (x.above y a (PySem.mem_of_lookup e))
  have none_ : ∀ a, s.heap.objs.size ≤ a → s.heap.get? a = none := fun a ha => by
    cases e : s.heap.get? a with
    | none => rfl
    | some o' => exact absurd (Heap.lt_size e) (Nat.not_lt.mpr ha)
  have celo : ∀ y, (y, true) ∈ ns → ∃ c, (envOfC name scope s.heap.objs.size f cdv).cells.lookup y = some c := fun y hy => cellsFrom_acc _ _ _ y (.inl (fo.cel y hy).2)
  have hroots : ∃ ρ : Nat → Addr, ∀ (i : Nat) (v : Value) (pv : V), vs[i]? = some v → pvs[i]? = some pv → RepR s.heap v pv (ρ i) := by
    have : ∀ i : Nat, ∃ a : Addr, ∀ (v : Value) (pv : V), vs[i]? = some v → pvs[i]? = some pv → RepR s.heap v pv a := fun i => by
      cases hv : vs[i]? with
      | none => exact ⟨0, fun v pv h => nomatch h⟩
      | some v =>
        obtain ⟨pv, hpv, rv⟩ := r.get' hv
        obtain ⟨a, ha⟩ := rv.root
        exact ⟨a, fun v' pv' e e' => by cases e; rw [hpv] at e'; cases e'; exact ha⟩
    exact ⟨fun i => Classical.choose (this i), fun i => Classical.choose_spec (this i)⟩
  obtain ⟨ρ, hρ⟩ := hroots
  have F : Frm (envOfC name scope s.heap.objs.size f cdv) ns s₁.heap := by
    refine ⟨fun y hy => fo.loc y hy, fun y hy => ?_, fun y z c hy hz e1 e2 => ?_, ⟨_, x.toInCall.ns, ?_⟩, fo.nd, fo.nh⟩
    · obtain ⟨c, hc⟩ := celo y hy
      exact ⟨(fo.cel y hy).1, c, _, hc, Nat.ne_of_gt (x.above y c (PySem.mem_of_lookup hc)), x.cell y c hc⟩
    · exact PySem.name_of_addr x.apart (PySem.mem_of_lookup e1) (PySem.mem_of_lookup e2)
    · refine bindL_skip _ _ fun b hb e => ?_
      have : b.1 ∈ pn := by rw [← hzf]; exact List.mem_map_of_mem hb
      rw [← fo.pn] at this
      obtain ⟨p, hp, e'⟩ := List.mem_map.mp this
      exact fo.nh p (List.mem_of_mem_take hp) (e'.trans e)
  refine ⟨ρ, fun a o e => hk a o e, fun h b => g.keep fun a o e => b a o e, ⟨fo.kind, rfl, rfl, fo.gl, fun y hy => ⟨(fo.cel y hy).1, celo y hy⟩⟩, F, fun i y b pv h1 h2 h3 => ?_, fun a t => none_ a (tch a t), fun i pv h1 h2 => ?_, fun i j p q hij h1 h2 => ?_, ?_⟩
  · rcases Nat.lt_or_ge i pvs.length with hi | hi
    · rw [List.getElem?_append_left hi] at h2
      have hiv : i < vs.length := by rw [r.length]; exact hi
      obtain ⟨v, hv⟩ : ∃ v, vs[i]? = some v := ⟨vs[i], by simp [hiv]⟩
      have rr := (hρ i v pv hv h2).keep hk
      have hpn : pn[i]? = some y := by
        rw [← fo.pn, List.getElem?_map, List.getElem?_take_of_lt (by omega), h1]; rfl
      have hm : (y, v) ∈ pn.zip vs := by
        refine List.mem_of_getElem? (i := i) ?_
        rw [List.getElem?_zip_eq_some]
        exact ⟨hpn, hv⟩
      refine ⟨v, ?_, rr, F.off pv⟩
      cases b with
      | false =>
        have hkl := fo.loc y (mem_get h1)
        exact ⟨hkl, _, x.toInCall.ns, bindL_get hkl _ _ (by rw [hzf]; exact hpnd) hm⟩
      | true =>
        obtain ⟨c, hc⟩ := celo y (mem_get h1)
        have hkc := (fo.cel y (mem_get h1)).1
        have := x.cell y c hc
        rw [bindC_get (kindOf := (envOfC name scope s.heap.objs.size f cdv).kindOf) hkc _ _ (by rw [hzf]; exact hpnd) hm] at this
        exact ⟨hkc, c, hc, this⟩
    · rw [List.getElem?_append_right hi] at h2
      have := List.mem_of_getElem? h2
      rw [List.mem_replicate] at this
      exact absurd this.2 h3
  all_goals try (
    have nf : ∀ (i : Nat) (pv : V), (pvs ++ List.replicate (ns.length - pn.length) V.unset)[i]? = some pv → pv.fresh = true → False := fun i pv h1 h2 => by
      rcases List.mem_append.mp (List.mem_of_getElem? h1) with h | h
      · have := List.all_eq_true.mp hf pv h
        rw [h2] at this; cases this
      · rw [(List.mem_replicate.mp h).2] at h2; cases h2)
  · exact (nf i pv h1 h2).elim
  · exact (nf i p h1 h2).elim
  · show (pvs ++ List.replicate (ns.length - pn.length) V.unset).length = ns.length
    rw [List.length_append, List.length_replicate]; omega
/-- statements at one base -/
noncomputable def Wb (prog : Program) (w : World) (n : Nat) (env : Env) (cx : Cx) (base : Addr → Option Obj) (vals : List V) (st : List Stmt) (o : Out) : Prop := ∀ (A : Around) (s : Shared) (Q : Flow → Shared → Prop) (E : Value → Shared → Prop), Ok A n → StOk w base env cx vals s.heap →
  (∀ fl s', OutOk w base env cx s s' fl o → Q fl s') → wpAny (model prog w) A (execs st env) Q E s
theorem W.at {prog : Program} {w : World} {n : Nat} {env : Env} {cx : Cx} {base : Addr → Option Obj} {vals : List V} {st : List Stmt} {o : Out} (h : W prog w n env cx vals st o) : Wb prog w n env cx base vals st o := fun A s Q E hA x q => h A s Q E base hA x q
theorem entry_raw {prog : Program} {w : World} {n : Nat} {A : Around} {s : Shared} {Q E : Value → Shared → Prop} {name qual : Str} {params : Arguments} {body : List Stmt} {scope : Scope} {dV kV doc pm cdv ct oc : Value} {an od : Option Addr} {osl : Array (Option Value)} {f : Addr}
    {ns : List (Str × Bool)} {gs : List Str} {pn : List Str} {args : Args} {vs : List Value} {pvs : List V}
    (X : (hd.heap_1 w.params).In s.heap) (hA : Ok A (n + 1)) (g : Glob w s.heap) (r : All2 (RepV s.heap) vs pvs)
    (hl : vs.length = pn.length) (hf : pvs.all (fun v => !v.fresh) = true)
    (ho : (hd.heap_1 w.params).lookup f = some ⟨oc, od, .func (fnOf name qual params body scope dV kV doc pm an cdv ct), osl⟩) (hcd : codeIn (hd.heap_1 w.params) cdv qual = true)
    (hbind : BindsTo s (fnOf name qual params body scope dV kV doc pm an cdv ct) args (pn.zip vs)) (hgen : scope.isGenerator = false) (fo : FnOk scope ns gs pn) (hpk : ((pn.zip vs).all fun y => scope.names.lookup y.1 == some .local || scope.names.lookup y.1 == some .cell) = true)
    (hW : ∀ L A' s', Ok A' n → StOk w (fun a => s.heap.get? a) (envOfC qual scope L f cdv) ⟨ns, gs⟩ (pvs ++ List.replicate (ns.length - pn.length) .unset) s'.heap → s'.os = s.os → s'.gens = s.gens →
      wpAny (model prog w) A' (execs body (envOfC qual scope L f cdv)) (fun fl s' => Q (match fl with | .ret v => v | _ => .none) s') (fun _ _ => False) s') :
    wpAny (model prog w) A (call (.ref f) args.pos args.kw) Q E s := by
  refine wpAny_call ?_
  refine codeAny_call_function (fd := fnOf name qual params body scope dV kV doc pm an cdv ct) (by have := hA.dp; omega) (X _ _ ho) rfl fo.co hgen rfl (codeRec_of X hcd) (hbind _ _ _ _ ?_)
  refine wpAny_newFunctionEnv_cells fo.kind (kindsX hpk _) fun env' he s' x => ?_
  subst he
  refine ⟨g.nolimit.keeps x.toInCall.keep, codeAny_func ?_⟩
  obtain ⟨h₁, tk, rfl⟩ := x.toInCall.same
  have st := entry_st (name := qual) (f := f) (cdv := cdv) fo g r hl hf x
  exact wpAny_mono (hW s.heap.objs.size (A.deeper _) _ ⟨hA.hd, by have := hA.dp; show A.depth + 1 + n < _; omega, by have := hA.un; show A.units + 3 + 10 * n + 100 < _; omega⟩ st rfl rfl) (fun fl s₂ hq => hq) fun _ _ y => y.elim
theorem entry_okA {prog : Program} {w : World} {n : Nat} {A : Around} {s : Shared} {Q E : Value → Shared → Prop} {name qual : Str} {params : Arguments} {body : List Stmt} {scope : Scope} {dV kV doc pm cdv ct oc : Value} {an od : Option Addr} {osl : Array (Option Value)} {f : Addr}
    {ns : List (Str × Bool)} {gs : List Str} {pn : List Str} {args : Args} {vs : List Value} {pvs : List V} {res : V}
    (X : (hd.heap_1 w.params).In s.heap) (hA : Ok A (n + 1)) (g : Glob w s.heap) (r : All2 (RepV s.heap) vs pvs) (q : ∀ v s', Ext s s' → RepV s'.heap v res → Q v s')
    (hl : vs.length = pn.length) (hf : pvs.all (fun v => !v.fresh) = true)
    (ho : (hd.heap_1 w.params).lookup f = some ⟨oc, od, .func (fnOf name qual params body scope dV kV doc pm an cdv ct), osl⟩) (hcd : codeIn (hd.heap_1 w.params) cdv qual = true)
    (hbind : BindsTo s (fnOf name qual params body scope dV kV doc pm an cdv ct) args (pn.zip vs)) (hgen : scope.isGenerator = false) (fo : FnOk scope ns gs pn) (hpk : ((pn.zip vs).all fun y => scope.names.lookup y.1 == some .local || scope.names.lookup y.1 == some .cell) = true)
    (hW : ∀ L, Wb prog w n (envOfC qual scope L f cdv) ⟨ns, gs⟩ (fun a => s.heap.get? a) (pvs ++ List.replicate (ns.length - pn.length) .unset) body (.ret res)) :
    wpAny (model prog w) A (call (.ref f) args.pos args.kw) Q E s := by
  refine entry_raw X hA g r hl hf ho hcd hbind hgen fo hpk fun L A' s' hA' st eo eg => ?_
  refine wpAny_mono (hW L A' s' (fun fl s₂ => ∃ v, fl = .ret v ∧ Q v s₂) (fun _ _ => False) hA' st fun fl s₂ o => ?_) (fun fl s₂ ⟨v, e, hq⟩ => by subst e; exact hq) fun _ _ y => y
  obtain ⟨a1, a2, a3⟩ := o
  cases fl with
  | ret v => exact ⟨v, rfl, q v s₂ ⟨a3.1, a1.trans eo, eg ▸ a2⟩ a3.2⟩
  | _ => exact a3.elim
theorem entry_ok {prog : Program} {w : World} {n : Nat} {A : Around} {s : Shared} {Q E : Value → Shared → Prop} {name qual : Str} {params : Arguments} {body : List Stmt} {scope : Scope} {dV kV doc pm cdv ct oc : Value} {an od : Option Addr} {osl : Array (Option Value)} {f : Addr}
    {ns : List (Str × Bool)} {gs : List Str} {pn : List Str} {vs : List Value} {pvs : List V} {res : V}
    (X : (hd.heap_1 w.params).In s.heap) (hA : Ok A (n + 1)) (g : Glob w s.heap) (r : All2 (RepV s.heap) vs pvs) (q : ∀ v s', Ext s s' → RepV s'.heap v res → Q v s')
    (hl : vs.length = pn.length) (hf : pvs.all (fun v => !v.fresh) = true)
    (ho : (hd.heap_1 w.params).lookup f = some ⟨oc, od, .func (fnOf name qual params body scope dV kV doc pm an cdv ct), osl⟩) (hcd : codeIn (hd.heap_1 w.params) cdv qual = true)
    (hbind : bindArgs (fnOf name qual params body scope dV kV doc pm an cdv ct) ⟨vs, []⟩ = pure (pn.zip vs)) (hgen : scope.isGenerator = false) (fo : FnOk scope ns gs pn) (hpk : ((pn.zip vs).all fun y => scope.names.lookup y.1 == some .local || scope.names.lookup y.1 == some .cell) = true)
    (hW : ∀ L, W prog w n (envOfC qual scope L f cdv) ⟨ns, gs⟩ (pvs ++ List.replicate (ns.length - pn.length) .unset) body (.ret res)) :
    wpAny (model prog w) A (call (.ref f) vs) Q E s :=
  entry_okA (args := ⟨vs, []⟩) X hA g r q hl hf ho hcd (BindsTo.of_eq hbind) hgen fo hpk fun L => (hW L).at
end Mine
end
section
open PySem PySem.W PyProof.Rows PySem.Calls PySem.Spec
set_option Elab.async false
set_option maxRecDepth 100000
set_option maxHeartbeats 8000000
set_option linter.unusedVariables false
set_option genSizeOf false
namespace Mine
section
variable {prog : Program} {w : World} {n : Nat} {env : Env} {cx : Cx} {vals : List V}
theorem noG_len (w : World) : nsIn (hd.heap_1 w.params) mainGlobals (Str.ofString "len") = some none := by with_unfolding_all rfl
theorem boot_len : bootBuiltins (Str.ofString "len") = some (.builtin "len") := by decide +kernel
theorem Ev.c_len {p0 p : Pos} {e : Expr} {es : List Expr} {pvs : List V} {res : V} (ha : EvA prog w n env cx vals p (e :: es) pvs) (hc : CallOk prog w n (.builtin "len") pvs res) (hx : cx.gs.contains (Str.ofString "len") = true := by rfl)
    (he : starEach (e :: es) env = (false, eval e env) :: starEach es env := by rfl) (hp : (backTo p (starEach es env)).any (·.1) = false := by rfl) : Ev prog w n env cx vals (.Call (.Name (Str.ofString "len") p0) (e :: es) [] p) res :=
  Ev.callB (List.contains_iff_mem.mp hx) (noG_len w) boot_len (by decide) (by decide) (.inl ⟨_, rfl⟩) ha hc he hp
theorem noG_min (w : World) : nsIn (hd.heap_1 w.params) mainGlobals (Str.ofString "min") = some none := by with_unfolding_all rfl
theorem boot_min : bootBuiltins (Str.ofString "min") = some (.builtin "min") := by decide +kernel
theorem Ev.c_min {p0 p : Pos} {e : Expr} {es : List Expr} {pvs : List V} {res : V} (ha : EvA prog w n env cx vals p (e :: es) pvs) (hc : CallOk prog w n (.builtin "min") pvs res) (hx : cx.gs.contains (Str.ofString "min") = true := by rfl)
    (he : starEach (e :: es) env = (false, eval e env) :: starEach es env := by rfl) (hp : (backTo p (starEach es env)).any (·.1) = false := by rfl) : Ev prog w n env cx vals (.Call (.Name (Str.ofString "min") p0) (e :: es) [] p) res :=
  Ev.callB (List.contains_iff_mem.mp hx) (noG_min w) boot_min (by decide) (by decide) (.inl ⟨_, rfl⟩) ha hc he hp
theorem noG_sum (w : World) : nsIn (hd.heap_1 w.params) mainGlobals (Str.ofString "sum") = some none := by with_unfolding_all rfl
theorem boot_sum : bootBuiltins (Str.ofString "sum") = some (.builtin "sum") := by decide +kernel
theorem Ev.c_sum {p0 p : Pos} {e : Expr} {es : List Expr} {pvs : List V} {res : V} (ha : EvA prog w n env cx vals p (e :: es) pvs) (hc : CallOk prog w n (.builtin "sum") pvs res) (hx : cx.gs.contains (Str.ofString "sum") = true := by rfl)
    (he : starEach (e :: es) env = (false, eval e env) :: starEach es env := by rfl) (hp : (backTo p (starEach es env)).any (·.1) = false := by rfl) : Ev prog w n env cx vals (.Call (.Name (Str.ofString "sum") p0) (e :: es) [] p) res :=
  Ev.callB (List.contains_iff_mem.mp hx) (noG_sum w) boot_sum (by decide) (by decide) (.inl ⟨_, rfl⟩) ha hc he hp
theorem noG_range (w : World) : nsIn (hd.heap_1 w.params) mainGlobals (Str.ofString "range") = some none := by with_unfolding_all rfl
theorem boot_range : bootBuiltins (Str.ofString "range") = some (.type "range") := by decide +kernel
theorem Ev.c_range {p0 p : Pos} {e : Expr} {es : List Expr} {pvs : List V} {res : V} (ha : EvA prog w n env cx vals p (e :: es) pvs) (hc : CallOk prog w n (.type "range") pvs res) (hx : cx.gs.contains (Str.ofString "range") = true := by rfl)
    (he : starEach (e :: es) env = (false, eval e env) :: starEach es env := by rfl) (hp : (backTo p (starEach es env)).any (·.1) = false := by rfl) : Ev prog w n env cx vals (.Call (.Name (Str.ofString "range") p0) (e :: es) [] p) res :=
  Ev.callB (List.contains_iff_mem.mp hx) (noG_range w) boot_range (by decide) (by decide) (.inr ⟨_, rfl⟩) ha hc he hp
theorem noG_list (w : World) : nsIn (hd.heap_1 w.params) mainGlobals (Str.ofString "list") = some none := by with_unfolding_all rfl
theorem boot_list : bootBuiltins (Str.ofString "list") = some (.type "list") := by decide +kernel
theorem Ev.c_list {p0 p : Pos} {e : Expr} {es : List Expr} {pvs : List V} {res : V} (ha : EvA prog w n env cx vals p (e :: es) pvs) (hc : CallOk prog w n (.type "list") pvs res) (hx : cx.gs.contains (Str.ofString "list") = true := by rfl)
    (he : starEach (e :: es) env = (false, eval e env) :: starEach es env := by rfl) (hp : (backTo p (starEach es env)).any (·.1) = false := by rfl) : Ev prog w n env cx vals (.Call (.Name (Str.ofString "list") p0) (e :: es) [] p) res :=
  Ev.callB (List.contains_iff_mem.mp hx) (noG_list w) boot_list (by decide) (by decide) (.inr ⟨_, rfl⟩) ha hc he hp
theorem noG_chr (w : World) : nsIn (hd.heap_1 w.params) mainGlobals (Str.ofString "chr") = some none := by with_unfolding_all rfl
theorem boot_chr : bootBuiltins (Str.ofString "chr") = some (.builtin "chr") := by decide +kernel
theorem Ev.c_chr {p0 p : Pos} {e : Expr} {es : List Expr} {pvs : List V} {res : V} (ha : EvA prog w n env cx vals p (e :: es) pvs) (hc : CallOk prog w n (.builtin "chr") pvs res) (hx : cx.gs.contains (Str.ofString "chr") = true := by rfl)
    (he : starEach (e :: es) env = (false, eval e env) :: starEach es env := by rfl) (hp : (backTo p (starEach es env)).any (·.1) = false := by rfl) : Ev prog w n env cx vals (.Call (.Name (Str.ofString "chr") p0) (e :: es) [] p) res :=
  Ev.callB (List.contains_iff_mem.mp hx) (noG_chr w) boot_chr (by decide) (by decide) (.inl ⟨_, rfl⟩) ha hc he hp
theorem noG_ord (w : World) : nsIn (hd.heap_1 w.params) mainGlobals (Str.ofString "ord") = some none := by with_unfolding_all rfl
theorem boot_ord : bootBuiltins (Str.ofString "ord") = some (.builtin "ord") := by decide +kernel
theorem Ev.c_ord {p0 p : Pos} {e : Expr} {es : List Expr} {pvs : List V} {res : V} (ha : EvA prog w n env cx vals p (e :: es) pvs) (hc : CallOk prog w n (.builtin "ord") pvs res) (hx : cx.gs.contains (Str.ofString "ord") = true := by rfl)
    (he : starEach (e :: es) env = (false, eval e env) :: starEach es env := by rfl) (hp : (backTo p (starEach es env)).any (·.1) = false := by rfl) : Ev prog w n env cx vals (.Call (.Name (Str.ofString "ord") p0) (e :: es) [] p) res :=
  Ev.callB (List.contains_iff_mem.mp hx) (noG_ord w) boot_ord (by decide) (by decide) (.inl ⟨_, rfl⟩) ha hc he hp
theorem noG_int (w : World) : nsIn (hd.heap_1 w.params) mainGlobals (Str.ofString "int") = some none := by with_unfolding_all rfl
theorem boot_int : bootBuiltins (Str.ofString "int") = some (.type "int") := by decide +kernel
theorem Ev.c_int {p0 p : Pos} {e : Expr} {es : List Expr} {pvs : List V} {res : V} (ha : EvA prog w n env cx vals p (e :: es) pvs) (hc : CallOk prog w n (.type "int") pvs res) (hx : cx.gs.contains (Str.ofString "int") = true := by rfl)
    (he : starEach (e :: es) env = (false, eval e env) :: starEach es env := by rfl) (hp : (backTo p (starEach es env)).any (·.1) = false := by rfl) : Ev prog w n env cx vals (.Call (.Name (Str.ofString "int") p0) (e :: es) [] p) res :=
  Ev.callB (List.contains_iff_mem.mp hx) (noG_int w) boot_int (by decide) (by decide) (.inr ⟨_, rfl⟩) ha hc he hp
theorem noG_abs (w : World) : nsIn (hd.heap_1 w.params) mainGlobals (Str.ofString "abs") = some none := by with_unfolding_all rfl
theorem boot_abs : bootBuiltins (Str.ofString "abs") = some (.builtin "abs") := by decide +kernel
theorem Ev.c_abs {p0 p : Pos} {e : Expr} {es : List Expr} {pvs : List V} {res : V} (ha : EvA prog w n env cx vals p (e :: es) pvs) (hc : CallOk prog w n (.builtin "abs") pvs res) (hx : cx.gs.contains (Str.ofString "abs") = true := by rfl)
    (he : starEach (e :: es) env = (false, eval e env) :: starEach es env := by rfl) (hp : (backTo p (starEach es env)).any (·.1) = false := by rfl) : Ev prog w n env cx vals (.Call (.Name (Str.ofString "abs") p0) (e :: es) [] p) res :=
  Ev.callB (List.contains_iff_mem.mp hx) (noG_abs w) boot_abs (by decide) (by decide) (.inl ⟨_, rfl⟩) ha hc he hp
theorem noG_divmod (w : World) : nsIn (hd.heap_1 w.params) mainGlobals (Str.ofString "divmod") = some none := by with_unfolding_all rfl
theorem boot_divmod : bootBuiltins (Str.ofString "divmod") = some (.builtin "divmod") := by decide +kernel
theorem Ev.c_divmod {p0 p : Pos} {e : Expr} {es : List Expr} {pvs : List V} {res : V} (ha : EvA prog w n env cx vals p (e :: es) pvs) (hc : CallOk prog w n (.builtin "divmod") pvs res) (hx : cx.gs.contains (Str.ofString "divmod") = true := by rfl)
    (he : starEach (e :: es) env = (false, eval e env) :: starEach es env := by rfl) (hp : (backTo p (starEach es env)).any (·.1) = false := by rfl) : Ev prog w n env cx vals (.Call (.Name (Str.ofString "divmod") p0) (e :: es) [] p) res :=
  Ev.callB (List.contains_iff_mem.mp hx) (noG_divmod w) boot_divmod (by decide) (by decide) (.inl ⟨_, rfl⟩) ha hc he hp
theorem noG_bin (w : World) : nsIn (hd.heap_1 w.params) mainGlobals (Str.ofString "bin") = some none := by with_unfolding_all rfl
theorem boot_bin : bootBuiltins (Str.ofString "bin") = some (.builtin "bin") := by decide +kernel
theorem Ev.c_bin {p0 p : Pos} {e : Expr} {es : List Expr} {pvs : List V} {res : V} (ha : EvA prog w n env cx vals p (e :: es) pvs) (hc : CallOk prog w n (.builtin "bin") pvs res) (hx : cx.gs.contains (Str.ofString "bin") = true := by rfl)
    (he : starEach (e :: es) env = (false, eval e env) :: starEach es env := by rfl) (hp : (backTo p (starEach es env)).any (·.1) = false := by rfl) : Ev prog w n env cx vals (.Call (.Name (Str.ofString "bin") p0) (e :: es) [] p) res :=
  Ev.callB (List.contains_iff_mem.mp hx) (noG_bin w) boot_bin (by decide) (by decide) (.inl ⟨_, rfl⟩) ha hc he hp
theorem noG_sorted (w : World) : nsIn (hd.heap_1 w.params) mainGlobals (Str.ofString "sorted") = some none := by with_unfolding_all rfl
theorem boot_sorted : bootBuiltins (Str.ofString "sorted") = some (.builtin "sorted") := by decide +kernel
theorem Ev.c_sorted {p0 p : Pos} {e : Expr} {es : List Expr} {pvs : List V} {res : V} (ha : EvA prog w n env cx vals p (e :: es) pvs) (hc : CallOk prog w n (.builtin "sorted") pvs res) (hx : cx.gs.contains (Str.ofString "sorted") = true := by rfl)
    (he : starEach (e :: es) env = (false, eval e env) :: starEach es env := by rfl) (hp : (backTo p (starEach es env)).any (·.1) = false := by rfl) : Ev prog w n env cx vals (.Call (.Name (Str.ofString "sorted") p0) (e :: es) [] p) res :=
  Ev.callB (List.contains_iff_mem.mp hx) (noG_sorted w) boot_sorted (by decide) (by decide) (.inl ⟨_, rfl⟩) ha hc he hp
theorem noG_set (w : World) : nsIn (hd.heap_1 w.params) mainGlobals (Str.ofString "set") = some none := by with_unfolding_all rfl
theorem boot_set : bootBuiltins (Str.ofString "set") = some (.type "set") := by decide +kernel
theorem Ev.c_set {p0 p : Pos} {e : Expr} {es : List Expr} {pvs : List V} {res : V} (ha : EvA prog w n env cx vals p (e :: es) pvs) (hc : CallOk prog w n (.type "set") pvs res) (hx : cx.gs.contains (Str.ofString "set") = true := by rfl)
    (he : starEach (e :: es) env = (false, eval e env) :: starEach es env := by rfl) (hp : (backTo p (starEach es env)).any (·.1) = false := by rfl) : Ev prog w n env cx vals (.Call (.Name (Str.ofString "set") p0) (e :: es) [] p) res :=
  Ev.callB (List.contains_iff_mem.mp hx) (noG_set w) boot_set (by decide) (by decide) (.inr ⟨_, rfl⟩) ha hc he hp
theorem EvA.one {p : Pos} {e : Expr} {a : V} (h : Ev prog w n env cx vals e a) (he : starEach [e] env = [(false, eval e env)] := by rfl) : EvA prog w n env cx vals p [e] [a] := EvA.cons h EvA.nil he
theorem EvA.two {p : Pos} {e e' : Expr} {a b : V} (h : Ev prog w n env cx vals e a) (h' : Ev prog w n env cx vals e' b) (he : starEach [e, e'] env = (false, eval e env) :: starEach [e'] env := by rfl) (he' : starEach [e'] env = [(false, eval e' env)] := by rfl) : EvA prog w n env cx vals p [e, e'] [a, b] := EvA.cons h (EvA.cons h' EvA.nil he') he
end
end Mine
end
section
open PySem PySem.W PyProof.Rows PySem.Calls PySem.Spec
set_option Elab.async false
set_option maxRecDepth 100000
set_option maxHeartbeats 8000000
set_option linter.unusedVariables false
set_option genSizeOf false
namespace Mine
noncomputable abbrev P0 : Program := PySem.Challenge.rw_wk0031_01.prog
noncomputable def fnB (scope : Scope) (ns : List (Str × Bool)) (gs : List Str) (pn : List Str) : Bool :=
  scope.kind == .function && !scope.isCoroutine && ns.all (fun p => if p.2 then scope.names.lookup p.1 == some .cell && scope.names.contains (p.1, NameKind.cell) else scope.names.lookup p.1 == some .local) &&
    gs.all (fun g => scope.names.lookup g == some .globalImplicit) && decide ((ns.map (·.1)).Nodup) && ns.all (fun p => p.1 != hdrName) && (ns.take pn.length).map (·.1) == pn
theorem FnOk.of {scope : Scope} {ns : List (Str × Bool)} {gs pn : List Str} (h : fnB scope ns gs pn = true) : FnOk scope ns gs pn := by
  unfold fnB at h
  simp only [Bool.and_eq_true, List.all_eq_true, beq_iff_eq, decide_eq_true_eq, Bool.not_eq_true', bne_iff_ne, ne_eq] at h
  obtain ⟨⟨⟨⟨⟨⟨h1, h2⟩, h3⟩, h4⟩, h5⟩, h6⟩, h7⟩ := h
  refine ⟨h1, h2, fun x hx => ?_, fun x hx => ?_, h4, h5, h6, h7⟩
  · have := h3 _ hx
    simpa using this
  · have := h3 _ hx
    simp only [if_true, Bool.and_eq_true, beq_iff_eq, List.contains_iff_mem] at this
    exact this
noncomputable def pcB (scope : Scope) (cns : List (Str × Bool)) (own : List (Str × Bool)) (oc : Option Str) (cn : List Str) (gs : List Str) : Bool :=
  scope.kind == .function && scope.names.all (fun x => x.2 != .local || scope.names.lookup x.1 == some .local) &&
    own.all (fun p => if p.2 then oc == some p.1 && scope.names.lookup p.1 == some .cell else scope.names.lookup p.1 == some .local) && decide ((own.map (·.1)).Nodup) && own.all (fun p => p.1 != hdrName) &&
    cn.all (fun c => scope.names.lookup c == some .free && scope.names.contains (c, NameKind.free) && oc != some c) && scope.names.all (fun x => x.2 != .free || cns.contains (x.1, true)) && gs.all (fun g => scope.names.lookup g == some .globalImplicit)
theorem PC.of {scope : Scope} {cx : Cx} {vals : List V} {own : List (Str × Bool)} {oc : Option Str} {caps : List (Str × V)} {gs : List Str} (js : List Nat) (h : pcB scope cx.ns own oc (caps.map (·.1)) gs = true)
    (cf : ∀ n cl, cellsFrom n scope.names cl = ocl oc n cl) (pc : ∀ h, pushCells h scope.names = och oc h)
    (hc : All2 (fun (p : Str × V) (j : Nat) => cx.ns[j]? = some (p.1, true) ∧ vals[j]? = some p.2 ∧ p.2.noHdr = true) caps js) : PC scope cx vals own oc caps gs := by
  unfold pcB at h
  simp only [Bool.and_eq_true, List.all_eq_true, beq_iff_eq, decide_eq_true_eq, bne_iff_ne, ne_eq, Bool.or_eq_true, List.contains_iff_mem] at h
  obtain ⟨⟨⟨⟨⟨⟨⟨h1, h2⟩, h3⟩, h4⟩, h5⟩, h6⟩, h7⟩, h8⟩ := h
  refine ⟨h1, cf, pc, fun x hx hl => ?_, fun x hx => ?_, fun x hx => ?_, h4, h5, fun p hp => ?_, fun x hx => ?_, h8⟩
  · rcases h2 x hx with e | e
    · exact absurd hl e
    · exact e
  · have := h3 _ hx; simpa using this
  · have := h3 _ hx
    simp only [if_true, Bool.and_eq_true, beq_iff_eq] at this
    exact this
  · have := h6 p.1 (List.mem_map_of_mem hp)
    obtain ⟨i, hi, e⟩ := List.mem_iff_getElem.mp hp
    obtain ⟨j, hj, r1, r2, r3⟩ := hc.get' (i := i) (a := p) (by rw [← e]; simp [hi])
    exact ⟨this.1, r3, this.2, j, r1, r2⟩
  · rcases h7 _ hx with e | e
    · exact absurd rfl e
    · exact e
section
variable {prog : Program} {w : World} {n : Nat} {env cenv : Env} {cx : Cx} {vals : List V}
theorem C1.mk1 {elt iter : Expr} {ifs : List Expr} {scope : Scope} {x : Str} {b : Bool} {px : Pos} {oc : Option Str} {caps : List (Str × V)} {gs : List Str} {pv : V} {isl : Bool} {items : List S} (ok : S → Bool) (f : S → S)
    (p : PC scope cx vals [(x, b)] oc caps gs) (hi : Ev prog w n env cx vals iter pv) (hio : IterOf prog w n isl pv items)
    (ts : ∀ cenv, ∀ it ∈ items, TsT prog w n cenv (cxOf [(x, b)] caps gs) (.s it :: caps.map (·.2)) ifs (ok it))
    (el : ∀ cenv, ∀ it ∈ items, ok it = true → Ev prog w n cenv (cxOf [(x, b)] caps gs) (.s it :: caps.map (·.2)) elt (.s (f it))) (sz : items.length ≤ 16777216) :
    C1 prog w n env cx vals elt (.Name x px) iter ifs scope ((items.filter ok).map f) :=
  ⟨⟨[(x, b)], oc, caps, gs, pv, isl, items, fun it => [.s it], ok, f, p, hi, hio, .inl fun _ _ => rfl, fun _ => rfl, fun _ => rfl, fun cenv hk it hm => AsT.name (k := 0) hk rfl, ts, el, sz, rfl⟩⟩
theorem AsT.pair {own : List (Str × Bool)} {x y : Str} {px py p' : Pos} {kk : Nat} {b c : Bool} {ov : List V} {a1 a2 : Nat} (k1 k2 : Nat) (hk : env.scope.kind = .function) (hx : own[k1]? = some (x, b)) (hy : own[k2]? = some (y, c)) :
    AsT prog w n env own (.Tuple [.Name x px, .Name y py] kk p') ov (.pair a1 a2) ((ov.set k1 (.s (.nat a1))).set k2 (.s (.nat a2))) := fun A s Q E v hA F hv hr q => by
  obtain ⟨t, ta, tb, rfl, ht⟩ := hr
  refine wpAny_assign_Tuple hA.hd ht rfl rfl fun h₂ hb₂ => ?_
  have kA : KeepA s.heap h₂ := fun b o e => hb₂ b o (fun e' => by subst e'; exact Nat.lt_irrefl _ (Heap.lt_size e)) e
  have F2 : Frm env own h₂ := F.keep fun b o _ e => kA b o e
  have V2 := hv.keep kA
  show wpAny _ _ (do holding [Value.int (a2 : Int) tb] (PySem.assign (.Name x px) env (.int (a1 : Int) ta)); assignInOrder [PySem.assign (.Name y py) env] [.int (a2 : Int) tb]) _ _ _
  refine wpAny_bind (wpAny_holding (wpAny_assign_Name (store_ok (s := { s with heap := h₂ }) hk V2 F2 hx (pv := .s (.nat a1)) ⟨ta, rfl⟩ trivial fun h₃ tk₃ d₃ t₃ sb₃ F₃ V₃ _ _ => ?_)))
  show wpAny _ _ (do holding [] (PySem.assign (.Name y py) env (.int (a2 : Int) tb)); assignInOrder [] []) _ _ _
  refine wpAny_bind (wpAny_holding (wpAny_assign_Name (store_ok (s := { s with heap := h₃, toks := tk₃ }) hk V₃ F₃ hy (pv := .s (.nat a2)) ⟨tb, rfl⟩ trivial fun h₄ tk₄ d₄ t₄ sb₄ F₄ V₄ _ _ => ?_)))
  refine wpAny_pure (q h₄ tk₄ (fun b o nb e => ?_) F₄ V₄)
  exact sb₄.extBut b o (fun e' => nb (e' ▸ t₄)) (sb₃.extBut b o (fun e' => nb (e' ▸ t₃)) (kA b o e))
noncomputable def up2 : S → List V
  | .pair a b => [.s (.nat a), .s (.nat b)]
  | _ => [.unset, .unset]
theorem C1.mkP {elt iter : Expr} {ifs : List Expr} {scope : Scope} {x y : Str} {kk : Nat} {p' px py : Pos} {caps : List (Str × V)} {gs : List Str} {o : Fl} {items : List (Nat × Nat)} (ok : Nat → Nat → Bool) (f : Nat → Nat → S)
    (p : PC scope cx vals [(x, false), (y, false)] Option.none caps gs) (hi : Ev prog w n env cx vals iter (.lst o (items.map fun p => .pair p.1 p.2)))
    (ts : ∀ cenv, ∀ it ∈ items, TsT prog w n cenv (cxOf [(x, false), (y, false)] caps gs) (.s (.nat it.1) :: .s (.nat it.2) :: caps.map (·.2)) ifs (ok it.1 it.2))
    (el : ∀ cenv, ∀ it ∈ items, ok it.1 it.2 = true → Ev prog w n cenv (cxOf [(x, false), (y, false)] caps gs) (.s (.nat it.1) :: .s (.nat it.2) :: caps.map (·.2)) elt (.s (f it.1 it.2))) (sz : items.length ≤ 16777216) :
    C1 prog w n env cx vals elt (.Tuple [.Name x px, .Name y py] kk p') iter ifs scope ((items.filter fun p => ok p.1 p.2).map fun p => f p.1 p.2) := by
  let okS : S → Bool := fun | .pair a b => ok a b | _ => false
  let fS : S → S := fun | .pair a b => f a b | x => x
  refine ⟨⟨[(x, false), (y, false)], Option.none, caps, gs, _, true, items.map fun p => .pair p.1 p.2, up2, okS, fS, p, hi, IterOf.list, .inr ⟨rfl, _, _, _, rfl⟩, fun it => by cases it <;> rfl, fun it => by cases it <;> rfl, ?_, ?_, ?_, by simpa using sz, ?_⟩⟩
  · intro cenv hk it hm
    obtain ⟨q, _, rfl⟩ := List.mem_map.mp hm
    exact AsT.pair 0 1 hk rfl rfl
  · intro cenv it hm
    obtain ⟨q, hq, rfl⟩ := List.mem_map.mp hm
    exact ts cenv q hq
  · intro cenv it hm hok
    obtain ⟨q, hq, rfl⟩ := List.mem_map.mp hm
    exact el cenv q hq hok
  · rw [List.filter_map, List.map_map]
    rfl
theorem C2.mk2 {elt : Expr} {x0 x1 : Str} {p0 p1 : Pos} {iter0 iter1 : Expr} {ifs1 : List Expr} {scope : Scope} {caps : List (Str × V)} {gs : List Str} {pv : V} {isl : Bool} {items : List S} (items1 : S → List S) (ok : S → S → Bool) (f : S → S → S)
    (p : PC scope cx vals [(x0, false), (x1, false)] Option.none caps gs) (hi : Ev prog w n env cx vals iter0 pv) (hio : IterOf prog w n isl pv items)
    (hin : ∀ cenv, ∀ it ∈ items, EvI prog w n cenv (cxOf [(x0, false), (x1, false)] caps gs) [(x0, false), (x1, false)] (caps.map (·.2)) [.s it, .unset] iter1 (items1 it))
    (ts : ∀ cenv, ∀ it ∈ items, ∀ jt ∈ items1 it, TsT prog w n cenv (cxOf [(x0, false), (x1, false)] caps gs) (.s it :: .s jt :: caps.map (·.2)) ifs1 (ok it jt))
    (el : ∀ cenv, ∀ it ∈ items, ∀ jt ∈ items1 it, ok it jt = true → Ev prog w n cenv (cxOf [(x0, false), (x1, false)] caps gs) (.s it :: .s jt :: caps.map (·.2)) elt (.s (f it jt)))
    (sz : (items.flatMap fun it => ((items1 it).filter (ok it)).map (f it)).length ≤ 16777216) :
    C2 prog w n env cx vals elt x0 x1 p0 p1 iter0 iter1 ifs1 scope (items.flatMap fun it => ((items1 it).filter (ok it)).map (f it)) :=
  ⟨⟨Option.none, caps, gs, pv, isl, items, items1, ok, f, p, hi, hio, hin, ts, el, rfl, sz⟩⟩
theorem TsT.nil : TsT prog w n cenv cx vals [] true := .inl ⟨rfl, rfl⟩
theorem TsT.one {c : Expr} {b : Bool} (h : Tv prog w n cenv cx vals c b) : TsT prog w n cenv cx vals [c] b := .inr ⟨c, rfl, h⟩
theorem Ev.nm {x : Str} {p : Pos} (i : Nat) {b : Bool} {pv pv' : V} (h1 : cx.ns[i]? = some (x, b)) (h2 : vals[i]? = some pv) (h3 : pv ≠ .unset) (e : pv.seen = pv') (hd : (x == ("__debug__" : Str)) = false := by rfl) :
    Ev prog w n env cx vals (.Name x p) pv' := e ▸ Ev.name i h1 h2 h3 hd
theorem Ev.nmS {x : Str} {p : Pos} (i : Nat) {b : Bool} {y : S} (h1 : cx.ns[i]? = some (x, b)) (h2 : vals[i]? = some (.s y)) (hd : (x == ("__debug__" : Str)) = false := by rfl) :
    Ev prog w n env cx vals (.Name x p) (.s y) := Ev.name i h1 h2 (fun h => nomatch h) hd
theorem Ev.nmL {x : Str} {p : Pos} (i : Nat) {b : Bool} {o : Fl} {l : List S} (h1 : cx.ns[i]? = some (x, b)) (h2 : vals[i]? = some (.lst o l)) (hd : (x == ("__debug__" : Str)) = false := by rfl) :
    Ev prog w n env cx vals (.Name x p) (.lst (if o = .own then .arg else o) l) := by
  have := Ev.name (prog := prog) (w := w) (n := n) (env := env) (p := p) i h1 h2 (fun h => nomatch h) hd
  cases o <;> exact this
end
end Mine
end
section
open PySem PySem.W PyProof.Rows PySem.Calls PySem.Spec
set_option Elab.async false
set_option maxRecDepth 100000
set_option maxHeartbeats 8000000
set_option linter.unusedVariables false
set_option genSizeOf false
namespace Mine
noncomputable def S.toN : S → Nat
  | .nat a => a
  | _ => 0
section
variable {prog : Program} {w : World} {n : Nat} {env cenv : Env} {cx : Cx} {vals : List V}
theorem C1.mkN {elt iter : Expr} {ifs : List Expr} {scope : Scope} {x : Str} {b : Bool} {px : Pos} {oc : Option Str} {caps : List (Str × V)} {gs : List Str} {pv : V} {isl : Bool} {L : List Nat} (ok : Nat → Bool) (f : Nat → S)
    (p : PC scope cx vals [(x, b)] oc caps gs) (hi : Ev prog w n env cx vals iter pv) (hio : IterOf prog w n isl pv (L.map .nat))
    (ts : ∀ cenv, ∀ i ∈ L, TsT prog w n cenv (cxOf [(x, b)] caps gs) (.s (.nat i) :: caps.map (·.2)) ifs (ok i))
    (el : ∀ cenv, ∀ i ∈ L, ok i = true → Ev prog w n cenv (cxOf [(x, b)] caps gs) (.s (.nat i) :: caps.map (·.2)) elt (.s (f i))) (sz : L.length ≤ 16777216) :
    C1 prog w n env cx vals elt (.Name x px) iter ifs scope ((L.filter ok).map f) := by
  have := C1.mk1 (elt := elt) (ifs := ifs) (px := px) (fun it => ok it.toN) (fun it => f it.toN) p hi hio (fun cenv it hm => by obtain ⟨i, hi, rfl⟩ := List.mem_map.mp hm; exact ts cenv i hi)
    (fun cenv it hm hok => by obtain ⟨i, hi, rfl⟩ := List.mem_map.mp hm; exact el cenv i hi hok) (by simpa using sz)
  rw [List.filter_map, List.map_map] at this
  exact this
theorem C2.mkN {elt : Expr} {x0 x1 : Str} {p0 p1 : Pos} {iter0 iter1 : Expr} {ifs1 : List Expr} {scope : Scope} {caps : List (Str × V)} {gs : List Str} {pv : V} {isl : Bool} {L : List Nat} (M : Nat → List Nat) (ok : Nat → Nat → Bool) (f : Nat → Nat → S)
    (p : PC scope cx vals [(x0, false), (x1, false)] Option.none caps gs) (hi : Ev prog w n env cx vals iter0 pv) (hio : IterOf prog w n isl pv (L.map .nat))
    (hin : ∀ cenv, ∀ i ∈ L, EvI prog w n cenv (cxOf [(x0, false), (x1, false)] caps gs) [(x0, false), (x1, false)] (caps.map (·.2)) [.s (.nat i), .unset] iter1 ((M i).map .nat))
    (ts : ∀ cenv, ∀ i ∈ L, ∀ j ∈ M i, TsT prog w n cenv (cxOf [(x0, false), (x1, false)] caps gs) (.s (.nat i) :: .s (.nat j) :: caps.map (·.2)) ifs1 (ok i j))
    (el : ∀ cenv, ∀ i ∈ L, ∀ j ∈ M i, ok i j = true → Ev prog w n cenv (cxOf [(x0, false), (x1, false)] caps gs) (.s (.nat i) :: .s (.nat j) :: caps.map (·.2)) elt (.s (f i j)))
    (sz : (L.flatMap fun i => ((M i).filter (ok i)).map (f i)).length ≤ 16777216) :
    C2 prog w n env cx vals elt x0 x1 p0 p1 iter0 iter1 ifs1 scope (L.flatMap fun i => ((M i).filter (ok i)).map (f i)) := by
  have e : (L.map S.nat).flatMap (fun it => (((M it.toN).map S.nat).filter fun jt => ok it.toN jt.toN).map fun jt => f it.toN jt.toN) = L.flatMap fun i => ((M i).filter (ok i)).map (f i) := by
    rw [List.flatMap_map]
    congr 1
    funext i
    rw [List.filter_map, List.map_map]
    rfl
  have := C2.mk2 (elt := elt) (p0 := p0) (p1 := p1) (ifs1 := ifs1) (fun it => (M it.toN).map .nat) (fun it jt => ok it.toN jt.toN) (fun it jt => f it.toN jt.toN) p hi hio
    (fun cenv it hm => by obtain ⟨i, hi, rfl⟩ := List.mem_map.mp hm; exact hin cenv i hi)
    (fun cenv it hm jt hj => by obtain ⟨i, hi, rfl⟩ := List.mem_map.mp hm; obtain ⟨j, hj', rfl⟩ := List.mem_map.mp hj; exact ts cenv i hi j hj')
    (fun cenv it hm jt hj hok => by obtain ⟨i, hi, rfl⟩ := List.mem_map.mp hm; obtain ⟨j, hj', rfl⟩ := List.mem_map.mp hj; exact el cenv i hi j hj' hok) (by rw [e]; exact sz)
  rw [e] at this
  exact this
theorem C1.eq {elt target iter : Expr} {ifs : List Expr} {scope : Scope} {res res' : List S} (c : C1 prog w n env cx vals elt target iter ifs scope res) (e : res = res') : C1 prog w n env cx vals elt target iter ifs scope res' := e ▸ c
theorem C2.eq {elt : Expr} {x0 x1 : Str} {p0 p1 : Pos} {iter0 iter1 : Expr} {ifs1 : List Expr} {scope : Scope} {res res' : List S} (c : C2 prog w n env cx vals elt x0 x1 p0 p1 iter0 iter1 ifs1 scope res) (e : res = res') : C2 prog w n env cx vals elt x0 x1 p0 p1 iter0 iter1 ifs1 scope res' := e ▸ c
theorem GetOk.nats {o : Fl} {L : List Nat} {i : Nat} (hi : i < L.length) (hb : L.length ≤ 16777216) : GetOk prog w n (.lst o (L.map .nat)) (.s (.nat i)) (.s (.nat (L.getD i 0))) :=
  GetOk.list (by omega) (by rw [List.getElem?_map, List.getElem?_eq_getElem hi, List.getD_eq_getElem?_getD, List.getElem?_eq_getElem hi]; rfl)
end
end Mine
end
section
open PySem PySem.W PyProof.Rows PySem.Calls PySem.Spec
set_option Elab.async false
set_option maxRecDepth 100000
set_option maxHeartbeats 8000000
set_option linter.unusedVariables false
set_option genSizeOf false
namespace Mine
section
variable {prog : Program} {w : World} {n : Nat} {env cenv : Env} {cx : Cx} {vals : List V}
theorem StOk.forget {base : Addr → Option Obj} {h : Heap} (x : StOk w base env cx vals h) (k : Nat) : StOk w base env cx (vals.set k .unset) h := by
  obtain ⟨ρ, x⟩ := x
  by_cases hk : k < vals.length
  · obtain ⟨pv, hpv⟩ : ∃ pv, vals[k]? = some pv := ⟨vals[k], by simp [hk]⟩
    exact ⟨ρ, x.weak hpv .unset (fun v _ => ⟨trivial, trivial⟩) rfl (fun _ _ => trivial) (fun h => nomatch h) (fun _ => rfl)⟩
  · rw [List.set_eq_of_length_le (by omega)]
    exact ⟨ρ, x⟩
/-- an own list is no more turned -/
theorem StOk.share {base : Addr → Option Obj} {h : Heap} (x : StOk w base env cx vals h) {k : Nat} {l : List S} (hk : vals[k]? = some (.lst .own l)) : StOk w base env cx (vals.set k (.lst .arg l)) h := by
  obtain ⟨ρ, x⟩ := x
  exact ⟨ρ, x.weak hk (.lst .arg l) (fun v r => r) rfl (fun _ _ => trivial) (fun _ => rfl) (fun h => nomatch h)⟩
theorem W.mapNext {st : List Stmt} {v v' : List V} (h : W prog w n env cx vals st (.next v)) (hm : ∀ base h, StOk w base env cx v h → StOk w base env cx v' h) : W prog w n env cx vals st (.next v') :=
  fun A s Q E base hA x q => h A s Q E base hA x fun fl s' o => by
    obtain ⟨rfl, st, os, g⟩ := o.next'
    exact q _ _ ⟨os, g, hm _ _ st⟩
theorem W1.mapNext {st : Stmt} {v v' : List V} (h : W1 prog w n env cx vals st (.next v)) (hm : ∀ base h, StOk w base env cx v h → StOk w base env cx v' h) : W1 prog w n env cx vals st (.next v') :=
  fun A s Q E base hA x q => h A s Q E base hA x fun fl s' o => by
    obtain ⟨rfl, st, os, g⟩ := o.next'
    exact q _ _ ⟨os, g, hm _ _ st⟩
theorem W.forget {st : List Stmt} {v : List V} (k : Nat) (h : W prog w n env cx vals st (.next v)) : W prog w n env cx vals st (.next (v.set k .unset)) := h.mapNext fun _ _ x => x.forget k
theorem W1.share {st : Stmt} {v : List V} (k : Nat) {l : List S} (hk : v[k]? = some (.lst .own l)) (h : W1 prog w n env cx vals st (.next v)) : W1 prog w n env cx vals st (.next (v.set k (.lst .arg l))) := h.mapNext fun _ _ x => x.share hk
theorem nat_item {L : List Nat} {i : Nat} {it : S} (h : (L.map S.nat)[i]? = some it) : ∃ a, it = .nat a ∧ L[i]? = some a := by
  rw [List.getElem?_map] at h
  cases hq : L[i]? with
  | none => rw [hq] at h; cases h
  | some a => rw [hq] at h; cases h; exact ⟨a, rfl, rfl⟩
theorem simple_nats (L : List Nat) : (L.map S.nat).all S.simple = true := by rw [List.all_map]; exact List.all_eq_true.mpr fun _ _ => rfl
theorem W1.forN {iter : Expr} {body : List Stmt} {p px : Pos} {x : Str} {b : Bool} {pv : V} {isl : Bool} {L : List Nat} (k : Nat) (f : Nat → List V) (hx : cx.ns[k]? = some (x, b)) (he : Ev prog w n env cx (f 0) iter pv) (hio : IterOf prog w n isl pv (L.map .nat)) (hp : isl = false ∨ ∃ l, pv = .lst .own l)
    (step : ∀ i a, L[i]? = some a → W prog w n env cx ((f i).set k (.s (.nat a))) body (.next (f (i + 1)))) (hs : ∀ x, foldedSetIterable iter env x = pure x) :
    W1 prog w n env cx (f 0) (.For (.Name x px) iter body [] p) (.next (f L.length)) :=
  W1.forT f (fun v it => v.set k (.s it)) L.length he hio hp (simple_nats L) (.inl fun _ _ => rfl) (fun i it h => AsW.name hx) (by simp)
    (fun i it hi h => by obtain ⟨a, rfl, ha⟩ := nat_item h; exact step i a ha) (.inl ⟨by simp, by simp⟩) hs
theorem range_get {m i a : Nat} (h : (List.range m)[i]? = some a) : a = i ∧ i < m := by
  obtain ⟨h1, h2⟩ := List.getElem?_eq_some_iff.mp h
  rw [List.getElem_range] at h2
  exact ⟨h2.symm, by simpa using h1⟩
theorem W1.forR {iter : Expr} {body : List Stmt} {p px : Pos} {x : Str} {b : Bool} {m : Nat} (k : Nat) (f : Nat → List V) (hx : cx.ns[k]? = some (x, b)) (he : Ev prog w n env cx (f 0) iter (.rng m))
    (step : ∀ i, i < m → W prog w n env cx ((f i).set k (.s (.nat i))) body (.next (f (i + 1)))) (hs : ∀ x, foldedSetIterable iter env x = pure x) :
    W1 prog w n env cx (f 0) (.For (.Name x px) iter body [] p) (.next (f m)) := by
  have := W1.forN (p := p) (px := px) (L := List.range m) k f hx he IterOf.rng (.inl rfl) (fun i a h => by obtain ⟨rfl, hi⟩ := range_get h; exact step _ hi) hs
  rwa [List.length_range] at this
theorem Ev.nmO {x : Str} {p : Pos} (i : Nat) {b : Bool} {l : List S} (h1 : cx.ns[i]? = some (x, b)) (h2 : vals[i]? = some (.lst .own l)) (hd : (x == ("__debug__" : Str)) = false := by rfl) :
    Ev prog w n env cx vals (.Name x p) (.lst .arg l) := Ev.name (pv := .lst .own l) i h1 h2 (fun h => nomatch h) hd
theorem Ev.nmA {x : Str} {p : Pos} (i : Nat) {b : Bool} {l : List S} (h1 : cx.ns[i]? = some (x, b)) (h2 : vals[i]? = some (.lst .arg l)) (hd : (x == ("__debug__" : Str)) = false := by rfl) :
    Ev prog w n env cx vals (.Name x p) (.lst .arg l) := Ev.name (pv := .lst .arg l) i h1 h2 (fun h => nomatch h) hd
theorem Ev.nmR {x : Str} {p : Pos} (i : Nat) {b : Bool} {l : List S} (h1 : cx.ns[i]? = some (x, b)) (h2 : vals[i]? = some (.raw l)) (hd : (x == ("__debug__" : Str)) = false := by rfl) :
    Ev prog w n env cx vals (.Name x p) (.raw l) := Ev.name (pv := .raw l) i h1 h2 (fun h => nomatch h) hd
theorem Ev.nmAt {x : Str} {p : Pos} (i : Nat) {b : Bool} {a : Addr} {l : List S} (h1 : cx.ns[i]? = some (x, b)) (h2 : vals[i]? = some (.at a l)) (hd : (x == ("__debug__" : Str)) = false := by rfl) :
    Ev prog w n env cx vals (.Name x p) (.lst .arg l) := Ev.name (pv := .at a l) i h1 h2 (fun h => nomatch h) hd
theorem Ev.binN {l r : Expr} {op : Operator} {p : Pos} {a b : Nat} {c : V} (hl : Ev prog w n env cx vals l (.s (.nat a))) (hr : Ev prog w n env cx vals r (.s (.nat b))) (ho : Op2 prog w n op (.s (.nat a)) (.s (.nat b)) c) : Ev prog w n env cx vals (.BinOp l op r p) c := Ev.bin hl hr ho
theorem Tv.nz {e : Expr} {a : Nat} (h : Ev prog w n env cx vals e (.s (.nat a))) (he : isTrue e env (eval e env) = (do let v ← eval e env; standAt e.pos; holding [v] (truthy v)) := by rfl) : Tv prog w n env cx vals e (decide (a ≠ 0)) := Tv.val h Tr.nat he
theorem Tv.eq {e : Expr} {a b : Bool} (h : Tv prog w n env cx vals e a) (hm : a = b) : Tv prog w n env cx vals e b := hm ▸ h
end
end Mine
end
section
open PySem PySem.W PyProof.Rows PySem.Calls PySem.Spec
set_option Elab.async false
set_option maxRecDepth 100000
set_option maxHeartbeats 8000000
set_option linter.unusedVariables false
set_option genSizeOf false
namespace Mine
section
variable {prog : Program} {w : World} {n : Nat} {env cenv : Env} {cx : Cx} {vals : List V}
theorem isG_Int2AP (w : World) : nsIn (hd.heap_1 w.params) mainGlobals (Str.ofString "Int2AP") = some (some (.ref 195)) := by with_unfolding_all rfl
theorem kpG_Int2AP (w : World) : keepIn (hd.heap_1 w.params) (.ref 195) = true := by with_unfolding_all rfl
theorem Ev.f_Int2AP {p0 p : Pos} {e : Expr} {es : List Expr} {pvs : List V} {res : V} (ha : EvA prog w n env cx vals p (e :: es) pvs) (hc : CallOk prog w n (.ref 195) pvs res) (hx : cx.gs.contains (Str.ofString "Int2AP") = true := by rfl)
    (he : starEach (e :: es) env = (false, eval e env) :: starEach es env := by rfl) (hp : (backTo p (starEach es env)).any (·.1) = false := by rfl) : Ev prog w n env cx vals (.Call (.Name (Str.ofString "Int2AP") p0) (e :: es) [] p) res :=
  Ev.callF (List.contains_iff_mem.mp hx) (isG_Int2AP w) (kpG_Int2AP w) (by decide) ha hc he hp
theorem isG_law_cells (w : World) : nsIn (hd.heap_1 w.params) mainGlobals (Str.ofString "_law_cells") = some (some (.ref 226)) := by with_unfolding_all rfl
theorem kpG_law_cells (w : World) : keepIn (hd.heap_1 w.params) (.ref 226) = true := by with_unfolding_all rfl
theorem Ev.f_law_cells {p0 p : Pos} {e : Expr} {es : List Expr} {pvs : List V} {res : V} (ha : EvA prog w n env cx vals p (e :: es) pvs) (hc : CallOk prog w n (.ref 226) pvs res) (hx : cx.gs.contains (Str.ofString "_law_cells") = true := by rfl)
    (he : starEach (e :: es) env = (false, eval e env) :: starEach es env := by rfl) (hp : (backTo p (starEach es env)).any (·.1) = false := by rfl) : Ev prog w n env cx vals (.Call (.Name (Str.ofString "_law_cells") p0) (e :: es) [] p) res :=
  Ev.callF (List.contains_iff_mem.mp hx) (isG_law_cells w) (kpG_law_cells w) (by decide) ha hc he hp
theorem isG_law_words (w : World) : nsIn (hd.heap_1 w.params) mainGlobals (Str.ofString "_law_words") = some (some (.ref 233)) := by with_unfolding_all rfl
theorem kpG_law_words (w : World) : keepIn (hd.heap_1 w.params) (.ref 233) = true := by with_unfolding_all rfl
theorem Ev.f_law_words {p0 p : Pos} {e : Expr} {es : List Expr} {pvs : List V} {res : V} (ha : EvA prog w n env cx vals p (e :: es) pvs) (hc : CallOk prog w n (.ref 233) pvs res) (hx : cx.gs.contains (Str.ofString "_law_words") = true := by rfl)
    (he : starEach (e :: es) env = (false, eval e env) :: starEach es env := by rfl) (hp : (backTo p (starEach es env)).any (·.1) = false := by rfl) : Ev prog w n env cx vals (.Call (.Name (Str.ofString "_law_words") p0) (e :: es) [] p) res :=
  Ev.callF (List.contains_iff_mem.mp hx) (isG_law_words w) (kpG_law_words w) (by decide) ha hc he hp
theorem isG_law_cut (w : World) : nsIn (hd.heap_1 w.params) mainGlobals (Str.ofString "_law_cut") = some (some (.ref 238)) := by with_unfolding_all rfl
theorem kpG_law_cut (w : World) : keepIn (hd.heap_1 w.params) (.ref 238) = true := by with_unfolding_all rfl
theorem Ev.f_law_cut {p0 p : Pos} {e : Expr} {es : List Expr} {pvs : List V} {res : V} (ha : EvA prog w n env cx vals p (e :: es) pvs) (hc : CallOk prog w n (.ref 238) pvs res) (hx : cx.gs.contains (Str.ofString "_law_cut") = true := by rfl)
    (he : starEach (e :: es) env = (false, eval e env) :: starEach es env := by rfl) (hp : (backTo p (starEach es env)).any (·.1) = false := by rfl) : Ev prog w n env cx vals (.Call (.Name (Str.ofString "_law_cut") p0) (e :: es) [] p) res :=
  Ev.callF (List.contains_iff_mem.mp hx) (isG_law_cut w) (kpG_law_cut w) (by decide) ha hc he hp
theorem isG_law_mailed (w : World) : nsIn (hd.heap_1 w.params) mainGlobals (Str.ofString "_law_mailed") = some (some (.ref 243)) := by with_unfolding_all rfl
theorem kpG_law_mailed (w : World) : keepIn (hd.heap_1 w.params) (.ref 243) = true := by with_unfolding_all rfl
theorem Ev.f_law_mailed {p0 p : Pos} {e : Expr} {es : List Expr} {pvs : List V} {res : V} (ha : EvA prog w n env cx vals p (e :: es) pvs) (hc : CallOk prog w n (.ref 243) pvs res) (hx : cx.gs.contains (Str.ofString "_law_mailed") = true := by rfl)
    (he : starEach (e :: es) env = (false, eval e env) :: starEach es env := by rfl) (hp : (backTo p (starEach es env)).any (·.1) = false := by rfl) : Ev prog w n env cx vals (.Call (.Name (Str.ofString "_law_mailed") p0) (e :: es) [] p) res :=
  Ev.callF (List.contains_iff_mem.mp hx) (isG_law_mailed w) (kpG_law_mailed w) (by decide) ha hc he hp
theorem isG_law_folded (w : World) : nsIn (hd.heap_1 w.params) mainGlobals (Str.ofString "_law_folded") = some (some (.ref 248)) := by with_unfolding_all rfl
theorem kpG_law_folded (w : World) : keepIn (hd.heap_1 w.params) (.ref 248) = true := by with_unfolding_all rfl
theorem Ev.f_law_folded {p0 p : Pos} {e : Expr} {es : List Expr} {pvs : List V} {res : V} (ha : EvA prog w n env cx vals p (e :: es) pvs) (hc : CallOk prog w n (.ref 248) pvs res) (hx : cx.gs.contains (Str.ofString "_law_folded") = true := by rfl)
    (he : starEach (e :: es) env = (false, eval e env) :: starEach es env := by rfl) (hp : (backTo p (starEach es env)).any (·.1) = false := by rfl) : Ev prog w n env cx vals (.Call (.Name (Str.ofString "_law_folded") p0) (e :: es) [] p) res :=
  Ev.callF (List.contains_iff_mem.mp hx) (isG_law_folded w) (kpG_law_folded w) (by decide) ha hc he hp
theorem isG_law_lands (w : World) : nsIn (hd.heap_1 w.params) mainGlobals (Str.ofString "_law_lands") = some (some (.ref 255)) := by with_unfolding_all rfl
theorem kpG_law_lands (w : World) : keepIn (hd.heap_1 w.params) (.ref 255) = true := by with_unfolding_all rfl
theorem Ev.f_law_lands {p0 p : Pos} {e : Expr} {es : List Expr} {pvs : List V} {res : V} (ha : EvA prog w n env cx vals p (e :: es) pvs) (hc : CallOk prog w n (.ref 255) pvs res) (hx : cx.gs.contains (Str.ofString "_law_lands") = true := by rfl)
    (he : starEach (e :: es) env = (false, eval e env) :: starEach es env := by rfl) (hp : (backTo p (starEach es env)).any (·.1) = false := by rfl) : Ev prog w n env cx vals (.Call (.Name (Str.ofString "_law_lands") p0) (e :: es) [] p) res :=
  Ev.callF (List.contains_iff_mem.mp hx) (isG_law_lands w) (kpG_law_lands w) (by decide) ha hc he hp
theorem isG_law_stiff (w : World) : nsIn (hd.heap_1 w.params) mainGlobals (Str.ofString "_law_stiff") = some (some (.ref 260)) := by with_unfolding_all rfl
theorem kpG_law_stiff (w : World) : keepIn (hd.heap_1 w.params) (.ref 260) = true := by with_unfolding_all rfl
theorem Ev.f_law_stiff {p0 p : Pos} {e : Expr} {es : List Expr} {pvs : List V} {res : V} (ha : EvA prog w n env cx vals p (e :: es) pvs) (hc : CallOk prog w n (.ref 260) pvs res) (hx : cx.gs.contains (Str.ofString "_law_stiff") = true := by rfl)
    (he : starEach (e :: es) env = (false, eval e env) :: starEach es env := by rfl) (hp : (backTo p (starEach es env)).any (·.1) = false := by rfl) : Ev prog w n env cx vals (.Call (.Name (Str.ofString "_law_stiff") p0) (e :: es) [] p) res :=
  Ev.callF (List.contains_iff_mem.mp hx) (isG_law_stiff w) (kpG_law_stiff w) (by decide) ha hc he hp
theorem isG_law_holes (w : World) : nsIn (hd.heap_1 w.params) mainGlobals (Str.ofString "_law_holes") = some (some (.ref 265)) := by with_unfolding_all rfl
theorem kpG_law_holes (w : World) : keepIn (hd.heap_1 w.params) (.ref 265) = true := by with_unfolding_all rfl
theorem Ev.f_law_holes {p0 p : Pos} {e : Expr} {es : List Expr} {pvs : List V} {res : V} (ha : EvA prog w n env cx vals p (e :: es) pvs) (hc : CallOk prog w n (.ref 265) pvs res) (hx : cx.gs.contains (Str.ofString "_law_holes") = true := by rfl)
    (he : starEach (e :: es) env = (false, eval e env) :: starEach es env := by rfl) (hp : (backTo p (starEach es env)).any (·.1) = false := by rfl) : Ev prog w n env cx vals (.Call (.Name (Str.ofString "_law_holes") p0) (e :: es) [] p) res :=
  Ev.callF (List.contains_iff_mem.mp hx) (isG_law_holes w) (kpG_law_holes w) (by decide) ha hc he hp
theorem isG_quotedata (w : World) : nsIn (hd.heap_1 w.params) mainGlobals (Str.ofString "quotedata") = some (some (.ref 219)) := by with_unfolding_all rfl
theorem kpG_quotedata (w : World) : keepIn (hd.heap_1 w.params) (.ref 219) = true := by with_unfolding_all rfl
theorem Ev.f_quotedata {p0 p : Pos} {e : Expr} {es : List Expr} {pvs : List V} {res : V} (ha : EvA prog w n env cx vals p (e :: es) pvs) (hc : CallOk prog w n (.ref 219) pvs res) (hx : cx.gs.contains (Str.ofString "quotedata") = true := by rfl)
    (he : starEach (e :: es) env = (false, eval e env) :: starEach es env := by rfl) (hp : (backTo p (starEach es env)).any (·.1) = false := by rfl) : Ev prog w n env cx vals (.Call (.Name (Str.ofString "quotedata") p0) (e :: es) [] p) res :=
  Ev.callF (List.contains_iff_mem.mp hx) (isG_quotedata w) (kpG_quotedata w) (by decide) ha hc he hp
end
end Mine
end
section
open PySem PySem.W PyProof.Rows PySem.Calls PySem.Spec
set_option Elab.async false
set_option maxRecDepth 100000
set_option maxHeartbeats 8000000
set_option linter.unusedVariables false
set_option genSizeOf false
namespace Mine
noncomputable def pairsUpTo (n : Nat) : List (Nat × Nat) := (List.range n).flatMap fun i => ((List.range n).filter fun j => decide (i ≠ j)).map fun j => (i, j)
noncomputable def stiffP (L : List Nat) : Bool := ((pairsUpTo L.length).filter fun p => decide (L.getD p.1 0 &&& L.getD p.2 0 = L.getD p.1 0)).isEmpty
theorem mem_range_lt {n i : Nat} (h : i ∈ List.range n) : i < n := List.mem_range.mp h
theorem mem_pairs {n : Nat} {p : Nat × Nat} (h : p ∈ pairsUpTo n) : p.1 < n ∧ p.2 < n := by
  unfold pairsUpTo at h
  obtain ⟨i, hi, h⟩ := List.mem_flatMap.mp h
  obtain ⟨j, hj, rfl⟩ := List.mem_map.mp h
  exact ⟨List.mem_range.mp hi, List.mem_range.mp (List.mem_filter.mp hj).1⟩
theorem pairs_len {n : Nat} (hn : n ≤ 10) : (pairsUpTo n).length ≤ 16777216 := by
  unfold pairsUpTo
  have h1 : ∀ (l : List Nat) (f : Nat → List (Nat × Nat)) (m : Nat), (∀ x, (f x).length ≤ m) → (l.flatMap f).length ≤ l.length * m := by
    intro l f m h
    induction l with
    | nil => simp
    | cons a r ih => rw [List.flatMap_cons, List.length_append, List.length_cons, Nat.succ_mul]; have := h a; omega
  have := h1 (List.range n) (fun i => ((List.range n).filter fun j => decide (i ≠ j)).map fun j => (i, j)) 10 (fun x => by
    rw [List.length_map]
    exact Nat.le_trans (List.length_filter_le _ _) (by simpa using hn))
  rw [List.length_range] at this
  omega
theorem stiff_ok {w : World} {n : Nat} (L : List Nat) (hL : L.length ≤ 10) : CallOk PySem.Challenge.rw_wk0031_01.prog w (n + 1) (.ref 260) [.lst .arg (L.map .nat)] (.s (.bool (stiffP L))) := by
  intro A s Q E vs hA g r q
  have X := g.K
  revert X; k_fill; intro X
  obtain ⟨v, rfl, r1⟩ := r.one
  refine' entry_ok (n := n) (ns := [(Str.ofString "sets", true), (Str.ofString "pairs", false)]) (gs := [Str.ofString "range", Str.ofString "len"]) (pn := [Str.ofString "sets"]) X hA g r (fun v s' x r' => q v s' x r' (.no rfl)) rfl rfl ?ho ?hcd ?hbind ?hgen ?fo ?hpk ?_
  case ho => k_is
  case hcd => k_is
  case hbind => rfl
  case hgen => rfl
  case hpk => rfl
  case fo => exact FnOk.of (by decide +kernel)
  intro L'
  refine W.cons (W1.comp2 (res := (pairsUpTo L.length).map fun p => .pair p.1 p.2) 1 rfl (C2.eq (C2.mkN (L := List.range L.length) (caps := [(Str.ofString "sets", .lst .arg (L.map .nat))]) (gs := [Str.ofString "range", Str.ofString "len"]) (fun _ => List.range L.length) (fun i j => decide (i ≠ j)) (fun i j => .pair i j) (PC.of [0] rfl (fun _ _ => rfl) (fun _ => rfl) (.cons ⟨rfl, rfl, rfl⟩ .nil))
      (Ev.c_range (EvA.one (Ev.c_len (EvA.one (Ev.nmL 0 rfl rfl)) (CallOk.lenL (by simp; omega)))) (CallOk.rng (by simp; omega)))
      (by simpa using IterOf.rng) (fun cenv i hi => EvI.rng rfl (Ev.c_range (EvA.one (Ev.c_len (EvA.one (Ev.nmL 2 rfl rfl)) (CallOk.lenL (by simp; omega)))) (CallOk.rng (by simp; omega)) |>.eq (by simp)))
      (fun cenv i hi j hj => .one (Tv.cmp (Ev.nmS 0 rfl rfl) (Ev.nmS 1 rfl rfl) Cm2.neN rfl))
      (fun cenv i hi j hj hok => Ev.pair (EvA.two (Ev.nmS 0 rfl rfl) (Ev.nmS 1 rfl rfl))) ?_) ?_) (fun _ => rfl) (fun _ _ => rfl) (fun eo hl => ?_)) ?_
  · have := pairs_len hL
    simpa [pairsUpTo, List.length_flatMap] using this
  · unfold pairsUpTo; rw [List.map_flatMap]; congr 1; funext i; rw [List.map_map]; rfl
  · rfl
  refine W.one (W1.ret (Ev.cmp (b := .lst .own []) (Ev.comp1 (C1.mkP (items := pairsUpTo L.length) (caps := [(Str.ofString "sets", .lst .arg (L.map .nat))]) (gs := []) (fun i j => decide (L.getD i 0 &&& L.getD j 0 = L.getD i 0)) (fun _ _ => .nat 1) (PC.of [0] rfl (fun _ _ => rfl) (fun _ => rfl) (.cons ⟨rfl, rfl, rfl⟩ .nil)) (Ev.nmL 1 rfl rfl)
     (fun cenv p hp => .one (Tv.cmp (Ev.bin (Ev.sub (Ev.nmL 2 rfl rfl) (Ev.nmS 0 rfl rfl) (GetOk.nats ?_ ?_) (fun _ _ => rfl)) (Ev.sub (Ev.nmL 2 rfl rfl) (Ev.nmS 1 rfl rfl) (GetOk.nats ?_ ?_) (fun _ _ => rfl)) Op2.andN) (Ev.sub (Ev.nmL 2 rfl rfl) (Ev.nmS 0 rfl rfl) (GetOk.nats ?_ ?_) (fun _ _ => rfl)) Cm2.eqN rfl))
     (fun cenv p hp hok => Ev.cnat) ?_) (fun _ => rfl)) (Ev.list (xs := []) EvA.nil (by decide)) (Cm2.eqNil ?_ |> fun h => h) rfl) |>.eq ?_)
  · exact (mem_pairs hp).1
  · omega
  · exact (mem_pairs hp).2
  · omega
  · exact (mem_pairs hp).1
  · omega
  · exact pairs_len hL
  · rw [List.all_map]; exact List.all_eq_true.mpr fun _ _ => rfl
  · unfold stiffP; congr 3; rw [List.isEmpty_map]
end Mine
end
section
open PySem PySem.W PyProof.Rows PySem.Calls PySem.Spec
set_option Elab.async false
set_option maxRecDepth 100000
set_option maxHeartbeats 8000000
set_option linter.unusedVariables false
set_option genSizeOf false
namespace Mine
/-- the digits, the last first -/
noncomputable def apL : Nat → Nat → List UInt8
  | 0, _ => []
  | k + 1, m => if m = 0 then [] else apL k (m / 16) ++ [UInt8.ofNat (65 + m % 16)]
noncomputable def AP16 : List UInt8 := [65, 66, 67, 68, 69, 70, 71, 72, 73, 74, 75, 76, 77, 78, 79, 80]
theorem ap_pick : ∀ d : Nat, d < 16 → KBy.picked AP16.toArray (some (d : Int)) (some ((d + 1 : Nat) : Int)) = #[UInt8.ofNat (65 + d)] := by decide +kernel
theorem apL_len : ∀ (k m : Nat), (apL k m).length ≤ k
  | 0, _ => Nat.le_refl _
  | k + 1, m => by
    unfold apL
    split
    · simp
    · have := apL_len k (m / 16); simp; omega
noncomputable def apS : Nat → Nat × List UInt8 → Nat × List UInt8
  | 0, p => p
  | i + 1, p => apS i (p.1 / 16, UInt8.ofNat (65 + p.1 % 16) :: p.2)
theorem apS_step : ∀ (i : Nat) (p : Nat × List UInt8), apS (i + 1) p = ((apS i p).1 / 16, UInt8.ofNat (65 + (apS i p).1 % 16) :: (apS i p).2)
  | 0, p => rfl
  | i + 1, p => apS_step i _
theorem apS_end : ∀ (k m : Nat) (acc : List UInt8), m < 16 ^ k → ∃ N, N ≤ k ∧ (apS N (m, acc)).1 = 0 ∧ (∀ i, i < N → (apS i (m, acc)).1 ≠ 0) ∧ (apS N (m, acc)).2 = apL k m ++ acc
  | 0, m, acc, h => ⟨0, Nat.le_refl _, by simp at h; exact h, fun i hi => by omega, rfl⟩
  | k + 1, m, acc, h => by
    by_cases h0 : m = 0
    · subst h0
      exact ⟨0, Nat.zero_le _, rfl, fun i hi => by omega, by unfold apL; simp [apS]⟩
    · obtain ⟨N, h1, h2, h3, h4⟩ := apS_end k (m / 16) (UInt8.ofNat (65 + m % 16) :: acc) (by rw [Nat.pow_succ] at h; exact Nat.div_lt_of_lt_mul (by omega))
      refine ⟨N + 1, by omega, h2, fun i hi => ?_, ?_⟩
      · cases i with
        | zero => exact h0
        | succ i => exact h3 i (by omega)
      · show (apS N _).2 = _
        rw [h4, show apL (k + 1) m = if m = 0 then [] else apL k (m / 16) ++ [UInt8.ofNat (65 + m % 16)] from rfl, if_neg h0]
        simp
theorem apS_len : ∀ (i : Nat) (p : Nat × List UInt8), (apS i p).2.length = p.2.length + i
  | 0, p => rfl
  | i + 1, p => by show (apS i _).2.length = _; rw [apS_len i]; simp; omega
theorem int2ap_ok {w : World} {n : Nat} (i : Int) (k : Nat) (hk : k ≤ 1000) (hi : i.natAbs < 16 ^ k) : CallOk PySem.Challenge.rw_wk0031_01.prog w (n + 1) (.ref 195) [.s (.int i)] (.s (.bytes (apL k i.natAbs).toArray)) := by
  intro A s Q E vs hA g r q
  have X := g.K
  revert X; k_fill; intro X
  obtain ⟨v, rfl, r1⟩ := r.one
  refine' entry_ok (n := n) (ns := [(Str.ofString "num", false), (Str.ofString "val", false), (Str.ofString "AP", false), (Str.ofString "mod", false)]) (gs := [Str.ofString "int", Str.ofString "abs", Str.ofString "divmod"]) (pn := [Str.ofString "num"]) X hA g r (fun v s' x r' => q v s' x r' (.no rfl)) rfl rfl ?ho ?hcd ?hbind ?hgen ?fo ?hpk ?_
  case ho => k_is
  case hcd => k_is
  case hbind => rfl
  case hgen => rfl
  case hpk => rfl
  case fo => exact FnOk.of (by decide +kernel)
  intro L'
  obtain ⟨N, h1, h2, h3, h4⟩ := apS_end k i.natAbs [] hi
  rw [List.append_nil] at h4
  refine W.cons (W1.assign (pv := .s (.bytes #[])) 1 rfl Ev.cbytes (.inr (.inl rfl)) (fun _ => rfl)) ?_
  refine W.cons (W1.assign (pv := .s (.bytes AP16.toArray)) 2 rfl Ev.cbytes (.inr (.inl rfl)) (fun _ => rfl)) ?_
  refine W.cons (W1.assign (pv := .s (.nat i.natAbs)) 0 rfl (Ev.c_int (EvA.one (Ev.c_abs (EvA.one (Ev.nmS 0 rfl rfl)) CallOk.abs)) CallOk.intN) (.inr (.inl rfl)) (fun _ => rfl)) ?_
  refine W.cons (W1.while (fun j => [.s (.nat (apS j (i.natAbs, [])).1), .s (.bytes (apS j (i.natAbs, [])).2.toArray), .s (.bytes AP16.toArray), .unset]) N (fun j hj => ⟨(Tv.nz (Ev.nmS 0 rfl rfl)).eq (decide_eq_true (h3 j hj)), ?_⟩) ((Tv.nz (Ev.nmS 0 rfl rfl)).eq (by rw [h2]; rfl))) ?_
  · have hl := apS_len j (i.natAbs, [])
    rw [apS_step]
    have hd : (apS j (i.natAbs, [])).1 % 16 < 16 := Nat.mod_lt _ (by decide)
    refine W.forget 3 (v := [.s (.nat ((apS j (i.natAbs, [])).1 / 16)), .s (.bytes (UInt8.ofNat (65 + (apS j (i.natAbs, [])).1 % 16) :: (apS j (i.natAbs, [])).2).toArray), .s (.bytes AP16.toArray), .s (.nat ((apS j (i.natAbs, [])).1 % 16))]) ?_
    generalize apS j (i.natAbs, []) = z at hl hd
    refine W.cons (W1.pair 0 3 rfl rfl (Ev.c_divmod (EvA.two (Ev.nmS 0 rfl rfl) Ev.cnat) (CallOk.divmod (by decide) (by decide))) rfl rfl) ?_
    refine W.one ((W1.assign (pv := .s (.bytes (#[UInt8.ofNat (65 + z.1 % 16)] ++ z.2.toArray))) 1 rfl (Ev.bin (Ev.eq (Ev.sliceB (Ev.nmS 2 rfl rfl) (.nat (Ev.nmS 3 rfl rfl)) (.nat (Ev.bin (Ev.nmS 3 rfl rfl) Ev.cnat Op2.addN)) (by decide) (fun _ _ => rfl)) ?_) (Ev.nmS 1 rfl rfl) (Op2.addB ?_)) (.inr (.inl rfl)) (fun _ => rfl)).eq ?_)
    · rw [← ap_pick _ hd]
    · simp at hl ⊢; omega
    · simp
  exact W.one ((W1.ret (Ev.nmS 1 rfl rfl)).eq (by rw [h4]))
end Mine
end
section
open PySem PySem.W PyProof.Rows PySem.Calls PySem.Spec
set_option Elab.async false
set_option maxRecDepth 100000
set_option maxHeartbeats 8000000
set_option linter.unusedVariables false
set_option genSizeOf false
namespace Mine
noncomputable def bumpC (c : List Nat) (i : Nat) (x : Nat) : List Nat := c.set i (c.getD i 0 + x)
noncomputable def cellsAt (sc : List Int) : Nat → List Nat
  | 0 => [103, 75, 156, 108, 276]
  | i + 1 => bumpC (cellsAt sc i) (i % 5) ((sc.getD i 0) % 1000).toNat
theorem cellsAt_len (sc : List Int) : ∀ i, (cellsAt sc i).length = 5
  | 0 => rfl
  | i + 1 => by unfold cellsAt bumpC; rw [List.length_set]; exact cellsAt_len sc i
noncomputable def cellsP (sc : List Int) : List Nat := cellsAt sc (min sc.length 10)
section
variable {prog : Program} {w : World} {n : Nat}
theorem Iop2.addN {a b : Nat} : Iop2 prog w n .Add (.s (.nat a)) (.s (.nat b)) (.s (.nat (a + b))) := by
  rintro A s Q E _ _ hA g ⟨t, rfl⟩ ⟨u, rfl⟩ q
  exact PyProof.Rows.iadd_int (q _ _ (Ext.tok s _) ⟨_, by rw [Int.natCast_add]⟩ (.no rfl))
end
theorem cells_ok {w : World} {n : Nat} (sc : List Int) (hn : sc.length ≤ 1000) : CallOk PySem.Challenge.rw_wk0031_01.prog w (n + 1) (.ref 226) [.raw (sc.map .int)] (.lst .arg ((cellsP sc).map .nat)) := by
  intro A s Q E vs hA g r q
  have X := g.K
  revert X; k_fill; intro X
  obtain ⟨v, rfl, r1⟩ := r.one
  refine' entry_ok (n := n) (ns := [(Str.ofString "script", false), (Str.ofString "cells", false), (Str.ofString "place", false)]) (gs := [Str.ofString "range", Str.ofString "min", Str.ofString "len"]) (pn := [Str.ofString "script"]) X hA g r (fun v s' x r' => q v s' x r' (.no rfl)) rfl rfl ?ho ?hcd ?hbind ?hgen ?fo ?hpk ?_
  case ho => k_is
  case hcd => k_is
  case hbind => rfl
  case hgen => rfl
  case hpk => rfl
  case fo => exact FnOk.of (by decide +kernel)
  intro L'
  refine W.cons (W1.assign (pv := .lst .own (([103, 75, 156, 108, 276] : List Nat).map .nat)) 1 rfl (Ev.list (xs := ([103, 75, 156, 108, 276] : List Nat).map .nat) (EvA.cons Ev.cnat (EvA.cons Ev.cnat (EvA.cons Ev.cnat (EvA.cons Ev.cnat (EvA.cons Ev.cnat EvA.nil rfl) rfl) rfl) rfl) rfl) (by decide)) (.inl rfl) (fun _ => rfl)) ?_
  refine W.cons (W1.forR (m := min sc.length 10) 2 (fun i => [.raw (sc.map .int), .lst .own ((cellsAt sc i).map .nat), .unset]) rfl (Ev.c_range (EvA.one (Ev.c_min (EvA.two (Ev.c_len (EvA.one (Ev.nmR 0 rfl rfl)) (CallOk.lenRaw (by simp; omega)) |>.eq (by rw [List.length_map])) Ev.cnat) CallOk.min2)) (CallOk.rng (by omega))) (fun i hi => ?_) (fun _ => rfl)) ?_
  · have hl := cellsAt_len sc i
    have hi5 : i % 5 < 5 := Nat.mod_lt _ (by decide)
    refine (W.forget 2 (v := [.raw (sc.map .int), .lst .own ((cellsAt sc (i + 1)).map .nat), .s (.nat i)]) (W.one ((W1.augitem (i := i % 5) (y := .nat ((cellsAt sc i).getD (i % 5) 0)) (y' := .nat ((cellsAt sc i).getD (i % 5) 0 + ((sc.getD i 0) % 1000).toNat)) 1 rfl rfl rfl (Ev.bin (Ev.nmS 2 rfl rfl) Ev.cnat (Op2.modN (by decide))) ?_ ?_ (Ev.bin (Ev.sub (Ev.nmR 0 rfl rfl) (Ev.nmS 2 rfl rfl) (GetOk.raw (x := .int (sc.getD i 0)) (by omega) ?_) (fun _ _ => rfl)) Ev.cnat (Op2.modI (by decide))) Iop2.addN (fun _ _ _ => rfl)).eq ?_)))
    · rw [List.getElem?_map, List.getD_eq_getElem?_getD, List.getElem?_eq_getElem (by omega)]; rfl
    · simp; omega
    · rw [List.getElem?_map, List.getD_eq_getElem?_getD, List.getElem?_eq_getElem (by omega)]; rfl
    · show Out.next [_, .lst .own (((cellsAt sc i).map S.nat).set (i % 5) _), _] = Out.next [_, .lst .own ((bumpC (cellsAt sc i) (i % 5) ((sc.getD i 0) % 1000).toNat).map .nat), _]
      unfold bumpC
      rw [List.map_set]
  exact W.one (W1.ret (Ev.nmO 1 rfl rfl))
end Mine
end
section
open PySem PySem.W PyProof.Rows PySem.Calls PySem.Spec
set_option Elab.async false
set_option maxRecDepth 100000
set_option maxHeartbeats 8000000
set_option linter.unusedVariables false
set_option genSizeOf false
namespace Mine
noncomputable def numP (r : Nat) : Nat → Nat
  | 0 => 0
  | k + 1 => if r >>> k &&& 1 ≠ 0 then 16 * numP r k + k + 1 else numP r k
theorem numP_lt (r : Nat) : ∀ k, k ≤ 5 → numP r k < 16 ^ k
  | 0, _ => by show 0 < 1; decide
  | k + 1, h => by
    have := numP_lt r k (by omega)
    unfold numP
    rw [Nat.pow_succ]
    split <;> omega
noncomputable def wordP (r : Nat) : List UInt8 := apL 5 (numP r 5)
noncomputable def wordsAt (R : List Nat) (p : Nat) : List S := (List.range p).map fun j => .bytes (wordP (R.getD j 0)).toArray
theorem wordsAt_succ (R : List Nat) (p : Nat) : wordsAt R (p + 1) = wordsAt R p ++ [.bytes (wordP (R.getD p 0)).toArray] := by
  unfold wordsAt; rw [List.range_succ, List.map_append]; rfl
theorem words_ok {w : World} {n : Nat} (R : List Nat) (hR : R.length = 5) : CallOk PySem.Challenge.rw_wk0031_01.prog w (n + 2) (.ref 233) [.lst .arg (R.map .nat)] (.lst .arg (wordsAt R 5)) := by
  intro A s Q E vs hA g r q
  have X := g.K
  revert X; k_fill; intro X
  obtain ⟨v, rfl, r1⟩ := r.one
  refine' entry_ok (n := n + 1) (ns := [(Str.ofString "rows", false), (Str.ofString "words", false), (Str.ofString "place", false), (Str.ofString "number", false), (Str.ofString "k", false)]) (gs := [Str.ofString "range", Str.ofString "Int2AP"]) (pn := [Str.ofString "rows"]) X hA g r (fun v s' x r' => q v s' x r' (.no rfl)) rfl rfl ?ho ?hcd ?hbind ?hgen ?fo ?hpk ?_
  case ho => k_is
  case hcd => k_is
  case hbind => rfl
  case hgen => rfl
  case hpk => rfl
  case fo => exact FnOk.of (by decide +kernel)
  intro L'
  refine W.cons (W1.assign (pv := .lst .own []) 1 rfl (Ev.list (xs := []) EvA.nil (by decide)) (.inl rfl) (fun _ => rfl)) ?_
  refine W.cons (W1.forR (m := 5) 2 (fun i => [.lst .arg (R.map .nat), .lst .own (wordsAt R i), .unset, .unset, .unset]) rfl (Ev.c_range (EvA.one Ev.cnat) (CallOk.rng (by decide))) (fun i hi => ?_) (fun _ => rfl)) ?_
  · refine W.forget 4 (v := [.lst .arg (R.map .nat), .lst .own (wordsAt R (i + 1)), .unset, .unset, .unset]) ?_
    refine W.forget 3 (v := [.lst .arg (R.map .nat), .lst .own (wordsAt R (i + 1)), .unset, .s (.nat (numP (R.getD i 0) 5)), .unset]) ?_
    refine W.forget 2 (v := [.lst .arg (R.map .nat), .lst .own (wordsAt R (i + 1)), .s (.nat i), .s (.nat (numP (R.getD i 0) 5)), .unset]) ?_
    refine W.cons (W1.assign (pv := .s (.nat 0)) 3 rfl Ev.cnat (.inr (.inl rfl)) (fun _ => rfl)) ?_
    refine W.cons (W1.forR (m := 5) 4 (fun k => [.lst .arg (R.map .nat), .lst .own (wordsAt R i), .s (.nat i), .s (.nat (numP (R.getD i 0) k)), .unset]) rfl (Ev.c_range (EvA.one Ev.cnat) (CallOk.rng (by decide))) (fun k hk => ?_) (fun _ => rfl)) ?_
    · refine W.forget 4 (v := [.lst .arg (R.map .nat), .lst .own (wordsAt R i), .s (.nat i), .s (.nat (numP (R.getD i 0) (k + 1))), .s (.nat k)]) ?_
      have hlt := numP_lt (R.getD i 0) k (by omega)
      have h5 : 16 ^ k ≤ 16 ^ 5 := Nat.pow_le_pow_right (by decide) (by omega)
      refine W.one (W1.ite (c := decide (R.getD i 0 >>> k &&& 1 ≠ 0)) (Tv.nz (Ev.bin (Ev.bin (Ev.sub (Ev.nmA 0 rfl rfl) (Ev.nmS 2 rfl rfl) (GetOk.nats (by omega) (by omega)) (fun _ _ => rfl)) (Ev.nmS 4 rfl rfl) Op2.shr) Ev.cnat Op2.andN)) (fun h => ?_) (fun h => ?_))
      · refine W.one ((W1.assign (pv := .s (.nat (16 * numP (R.getD i 0) k + k + 1))) 3 rfl (Ev.bin (Ev.bin (Ev.bin Ev.cnat (Ev.nmS 3 rfl rfl) (Op2.mulN (by decide) (by omega))) (Ev.nmS 4 rfl rfl) Op2.addN) Ev.cnat Op2.addN) (.inr (.inl rfl)) (fun _ => rfl)).eq ?_)
        rw [show numP (R.getD i 0) (k + 1) = 16 * numP (R.getD i 0) k + k + 1 from if_pos (of_decide_eq_true h)]; rfl
      · refine W.nil.eq ?_
        rw [show numP (R.getD i 0) (k + 1) = numP (R.getD i 0) k from if_neg (of_decide_eq_false h)]; rfl
    · have hz : (if i % 2 ≠ 0 then (numP (R.getD i 0) 5 : Int) else -(numP (R.getD i 0) 5 : Int)).natAbs = numP (R.getD i 0) 5 := by split <;> omega
      have hlt := numP_lt (R.getD i 0) 5 (by omega)
      refine W.one ((W1.append (y := .bytes (wordP (R.getD i 0)).toArray) 1 rfl rfl rfl (Ev.f_Int2AP (EvA.one (a := .s (.int (if i % 2 ≠ 0 then (numP (R.getD i 0) 5 : Int) else -(numP (R.getD i 0) 5 : Int)))) (Ev.ifexp (b := decide (i % 2 ≠ 0)) (Tv.nz (Ev.bin (Ev.nmS 2 rfl rfl) Ev.cnat (Op2.modN (by decide)))) (fun h => ?_) (fun h => ?_))) ?_) ?_ rfl rfl rfl rfl).eq ?_)
      · exact (Ev.nmS 3 rfl rfl).toInt.eq (by rw [if_pos (of_decide_eq_true h)])
      · exact (Ev.neg (Ev.nmS 3 rfl rfl)).eq (by rw [if_neg (of_decide_eq_false h)])
      · have := int2ap_ok (w := w) (n := n) (if i % 2 ≠ 0 then (numP (R.getD i 0) 5 : Int) else -(numP (R.getD i 0) 5 : Int)) 5 (by decide) (by rw [hz]; exact hlt)
        rw [hz] at this
        exact this
      · unfold wordsAt; simp; omega
      · rw [wordsAt_succ]; rfl
  exact W.one (W1.ret (Ev.nmO 1 rfl rfl))
end Mine
end
section
open PySem PySem.W PyProof.Rows PySem.Calls PySem.Spec
set_option Elab.async false
set_option maxRecDepth 100000
set_option maxHeartbeats 8000000
set_option linter.unusedVariables false
set_option genSizeOf false
namespace Mine
noncomputable def bitsP (f : Nat) : List Nat := (List.range 5).filter fun k => decide (f >>> k &&& 1 ≠ 0)
noncomputable def popP (f : Nat) : Nat := (bitsP f).length
theorem pop_ok : ∀ f : Nat, f < 32 → Txt.count (baseText "0b" 2 (f : Int)) (Str.ofString "1") = (popP f : Int) := by decide +kernel
noncomputable def facesP (L : List Nat) : List Nat := (List.range 32).filter fun f => !(L.filter fun o => decide (o &&& f = f)).isEmpty
noncomputable def vecP (f : Nat) : Nat := ((bitsP f).map fun k => 1 <<< (f ^^^ (1 <<< k))).sum
noncomputable def redP (basis : List Nat) (v : Nat) : Nat := basis.foldl (fun v o => min v (v ^^^ o)) v
noncomputable def faceStep (size : Nat) (cb : Nat × List Nat) (f : Nat) : Nat × List Nat :=
  if popP f = size then (cb.1 + 1, if redP cb.2 (vecP f) ≠ 0 then cb.2 ++ [redP cb.2 (vecP f)] else cb.2) else cb
noncomputable def runSize (L : List Nat) (size : Nat) : Nat × List Nat := (facesP L).foldl (faceStep size) (0, [])
noncomputable def runAt (L : List Nat) (size j : Nat) : Nat × List Nat := ((facesP L).take j).foldl (faceStep size) (0, [])
noncomputable def countsAt (L : List Nat) (i : Nat) : List Nat := (List.range 6).map fun s => if s < i then (runSize L s).1 else 0
noncomputable def ranksAt (L : List Nat) (i : Nat) : List Nat := (List.range 7).map fun s => if s < i then (runSize L s).2.length else 0
noncomputable def holesP (L : List Nat) : List Int := (List.range 6).map fun s => (((runSize L s).1 : Int) - ((runSize L s).2.length : Int)) - (((ranksAt L 6).getD (s + 1) 0 : Nat) : Int)
section
variable {prog : Program} {w : World} {n : Nat}
theorem Op2.subII {a : Int} {b : Nat} : Op2 prog w n .Sub (.s (.int a)) (.s (.nat b)) (.s (.int (a - b))) := by
  rintro A s Q E _ _ hA g ⟨t, rfl⟩ ⟨u, rfl⟩ q
  exact sub_int (q _ _ (Ext.tok s _) ⟨_, rfl⟩ (.no rfl))
theorem Iop2.addN' {a b : Nat} : Iop2 prog w n .Add (.s (.nat a)) (.s (.nat b)) (.s (.nat (a + b))) := by
  rintro A s Q E _ _ hA g ⟨t, rfl⟩ ⟨u, rfl⟩ q
  exact PyProof.Rows.iadd_int (q _ _ (Ext.tok s _) ⟨_, by rw [Int.natCast_add]⟩ (.no rfl))
end
theorem takeS {L : List Nat} {j a : Nat} (h : L[j]? = some a) : L.take (j + 1) = L.take j ++ [a] := by rw [List.take_add_one, h]; rfl
theorem runAt_succ (L : List Nat) (size j a : Nat) (h : (facesP L)[j]? = some a) : runAt L size (j + 1) = faceStep size (runAt L size j) a := by
  unfold runAt; rw [takeS h, List.foldl_append]; rfl
theorem redP_succ (b : List Nat) (v j a : Nat) (h : b[j]? = some a) : redP (b.take (j + 1)) v = min (redP (b.take j) v) (redP (b.take j) v ^^^ a) := by
  unfold redP; rw [takeS h, List.foldl_append]; rfl
theorem runAt_len (L : List Nat) (size : Nat) : ∀ j, (runAt L size j).2.length ≤ j
  | 0 => Nat.le_refl _
  | j + 1 => by
    have ih := runAt_len L size j
    cases h : (facesP L)[j]? with
    | none =>
      unfold runAt at *
      rw [List.take_of_length_le (by have := List.getElem?_eq_none_iff.mp h; omega)]
      rw [List.take_of_length_le (by have := List.getElem?_eq_none_iff.mp h; omega)] at ih
      omega
    | some a =>
      rw [runAt_succ L size j a h]
      unfold faceStep
      split
      · split
        · rw [List.length_append]; simp; omega
        · exact Nat.le_succ_of_le ih
      · exact Nat.le_succ_of_le ih
theorem faces_len (L : List Nat) : (facesP L).length ≤ 32 := Nat.le_trans (List.length_filter_le _ _) (by simp)
theorem faces_lt {L : List Nat} {f : Nat} (h : f ∈ facesP L) : f < 32 := List.mem_range.mp (List.mem_filter.mp h).1
theorem bits_lt {f k : Nat} (h : k ∈ bitsP f) : k < 5 := List.mem_range.mp (List.mem_filter.mp h).1
theorem exp_small : ∀ f k : Nat, f < 32 → k < 5 → f ^^^ (1 <<< k) < 32 := by
  intro f k hf hk
  have h1 : 1 <<< k < 2 ^ 5 := by rw [Nat.one_shiftLeft]; exact Nat.pow_lt_pow_right (by decide) hk
  exact Nat.xor_lt_two_pow (n := 5) (by omega) h1
noncomputable abbrev hvs (a : Addr) (L : List Nat) (face one faces counts ranks size basis vector : V) : List V := [.at a (L.map .nat), face, one, faces, counts, ranks, size, basis, vector]
section
variable {prog : Program} {w : World} {n : Nat} {env : Env} {cx : Cx} {vals : List V}
theorem W1.forOwnN {x y : Str} {bx by_ : Bool} {px py : Pos} {body : List Stmt} {p : Pos} {L : List Nat} (k j : Nat) (f : Nat → List V) (hx : cx.ns[k]? = some (x, bx)) (hy : cx.ns[j]? = some (y, by_)) (hv : (f 0)[j]? = some (.lst .own (L.map .nat)))
    (step : ∀ a i c, L[i]? = some c → W prog w n env cx (((f i).set j (.at a (L.map .nat))).set k (.s (.nat c))) body (.next ((f (i + 1)).set j (.at a (L.map .nat)))))
    (hlen : (f L.length).length = (f 0).length)
    (hside : ∀ i qv, i ≠ j → (f L.length)[i]? = some qv → qv.listy = true → qv.fresh = true ∨ ((∃ b l', qv = .at b l') ∧ (f 0)[i]? = some qv)) (hd : (y == ("__debug__" : Str)) = false := by rfl) :
    W1 prog w n env cx (f 0) (.For (.Name x px) (.Name y py) body [] p) (.next ((f L.length).set j (.lst .own (L.map .nat)))) := by
  have e : (L.map S.nat).length = L.length := List.length_map _
  have := W1.forOwn (prog := prog) (w := w) (n := n) (env := env) (cx := cx) (x := y) (bx := by_) (px := py) (target := .Name x px) (body := body) (p := p) (items := L.map .nat) f (fun v it => v.set k (.s it)) j hy hv hd (simple_nats L) (.inl fun _ _ => rfl)
    (fun a i it h => AsW.name hx) (fun a i it hi h => by obtain ⟨c, rfl, hc⟩ := nat_item h; exact step a i c hc) (by rw [e]; exact hlen) (by rw [e]; exact hside)
  rw [e] at this
  exact this
theorem W1.cast {st : Stmt} {vals' : List V} {o : Out} (e : vals = vals') (h : W1 prog w n env cx vals' st o) : W1 prog w n env cx vals st o := e ▸ h
theorem W1.nextEq {st : Stmt} {v v' : List V} (h : W1 prog w n env cx vals st (.next v)) (e : v = v') : W1 prog w n env cx vals st (.next v') := e ▸ h
theorem W.nextEq {st : List Stmt} {v v' : List V} (h : W prog w n env cx vals st (.next v)) (e : v = v') : W prog w n env cx vals st (.next v') := e ▸ h
end
theorem countsAt_get (L : List Nat) (i k : Nat) (hk : k < 6) : (countsAt L i)[k]? = some (if k < i then (runSize L k).1 else 0) := by
  unfold countsAt; rw [List.getElem?_map, List.getElem?_eq_getElem (by simpa using hk), List.getElem_range]; rfl
theorem ranksAt_get (L : List Nat) (i k : Nat) (hk : k < 7) : (ranksAt L i)[k]? = some (if k < i then (runSize L k).2.length else 0) := by
  unfold ranksAt; rw [List.getElem?_map, List.getElem?_eq_getElem (by simpa using hk), List.getElem_range]; rfl
theorem countsAt_len (L : List Nat) (i : Nat) : (countsAt L i).length = 6 := by unfold countsAt; simp
theorem ranksAt_len (L : List Nat) (i : Nat) : (ranksAt L i).length = 7 := by unfold ranksAt; simp
theorem set_ext {l l' : List Nat} {i c : Nat} (hl : l.length = l'.length) (h1 : i < l.length → l'[i]? = some c) (h2 : ∀ k, k ≠ i → l[k]? = l'[k]?) : l.set i c = l' := by
  apply List.ext_getElem?
  intro k
  by_cases h : i = k
  · subst h
    by_cases hi : i < l.length
    · rw [List.getElem?_set_self hi, h1 hi]
    · rw [List.getElem?_eq_none (by rw [List.length_set]; omega), List.getElem?_eq_none (by omega)]
  · rw [List.getElem?_set_ne h]; exact h2 k (Ne.symm h)
theorem countsAt_set0 (L : List Nat) (i : Nat) : (countsAt L i).set i 0 = countsAt L i :=
  set_ext rfl (fun h => by rw [countsAt_get L i i (by rw [countsAt_len] at h; exact h), if_neg (Nat.lt_irrefl _)]) fun k _ => rfl
theorem countsAt_next (L : List Nat) (i : Nat) : (countsAt L i).set i (runSize L i).1 = countsAt L (i + 1) :=
  set_ext (by rw [countsAt_len, countsAt_len]) (fun h => by rw [countsAt_get L _ i (by rw [countsAt_len] at h; exact h), if_pos (Nat.lt_succ_self _)]) fun k hk => by
    by_cases h6 : k < 6
    · rw [countsAt_get L _ k h6, countsAt_get L _ k h6]
      by_cases h1 : k < i
      · rw [if_pos h1, if_pos (by omega)]
      · rw [if_neg h1, if_neg (by omega)]
    · rw [List.getElem?_eq_none (by rw [countsAt_len]; omega), List.getElem?_eq_none (by rw [countsAt_len]; omega)]
theorem ranksAt_next (L : List Nat) (i : Nat) : (ranksAt L i).set i (runSize L i).2.length = ranksAt L (i + 1) :=
  set_ext (by rw [ranksAt_len, ranksAt_len]) (fun h => by rw [ranksAt_get L _ i (by rw [ranksAt_len] at h; exact h), if_pos (Nat.lt_succ_self _)]) fun k hk => by
    by_cases h6 : k < 7
    · rw [ranksAt_get L _ k h6, ranksAt_get L _ k h6]
      by_cases h1 : k < i
      · rw [if_pos h1, if_pos (by omega)]
      · rw [if_neg h1, if_neg (by omega)]
    · rw [List.getElem?_eq_none (by rw [ranksAt_len]; omega), List.getElem?_eq_none (by rw [ranksAt_len]; omega)]
theorem runAt_all (L : List Nat) (size : Nat) : runAt L size (facesP L).length = runSize L size := by unfold runAt runSize; rw [List.take_length]
theorem getS {l : List Nat} {i : Nat} {c : Nat} (h : i < l.length) : ((l.set i c).map S.nat)[i]? = some (.nat c) := by rw [List.getElem?_map, List.getElem?_set_self h]; rfl
theorem holes_ok {w : World} {n : Nat} (L : List Nat) (hL : L.length ≤ 10) : CallOk PySem.Challenge.rw_wk0031_01.prog w (n + 1) (.ref 265) [.lst .arg (L.map .nat)] (.lst .arg ((holesP L).map .int)) := by
  intro A s Q E vs hA g r q
  have X := g.K
  revert X; k_fill; intro X
  obtain ⟨v, rfl, a, rfl, r1⟩ := r.one
  refine' entry_ok (n := n) (pvs := [.at a (L.map .nat)]) (ns := [(Str.ofString "sets", true), (Str.ofString "face", true), (Str.ofString "one", false), (Str.ofString "faces", false), (Str.ofString "counts", true), (Str.ofString "ranks", true), (Str.ofString "size", false), (Str.ofString "basis", false), (Str.ofString "vector", false)]) (gs := [Str.ofString "range", Str.ofString "bin", Str.ofString "sum", Str.ofString "min", Str.ofString "len"]) (pn := [Str.ofString "sets"]) X hA g (.cons ⟨rfl, r1⟩ .nil) (fun v s' x r' => q v s' x r' (.no rfl)) rfl rfl ?ho ?hcd ?hbind ?hgen ?fo ?hpk ?_
  case ho => k_is
  case hcd => k_is
  case hbind => rfl
  case hgen => rfl
  case hpk => rfl
  case fo => exact FnOk.of (by decide +kernel)
  intro L'
  refine W.cons (W1.comp1 (res := (facesP L).map .nat) 3 rfl (C1.eq (C1.mkN (b := true) (L := List.range 32) (oc := some (Str.ofString "face")) (caps := [(Str.ofString "sets", .at a (L.map .nat))]) (gs := []) (fun f => !(L.filter fun o => decide (o &&& f = f)).isEmpty) (fun f => .nat f) (PC.of [0] rfl (fun _ _ => rfl) (fun _ => rfl) (.cons ⟨rfl, rfl, rfl⟩ .nil))
      (Ev.c_range (EvA.one Ev.cnat) (CallOk.rng (by decide))) IterOf.rng
      (fun cenv f hf => .one ((Tv.cmp (b := .lst .own []) (Ev.comp1 (C1.mkN (b := false) (L := L) (oc := Option.none) (caps := [(Str.ofString "face", .s (.nat f))]) (gs := []) (fun o => decide (o &&& f = f)) (fun o => .nat o) (PC.of [0] rfl (fun _ _ => rfl) (fun _ => rfl) (.cons ⟨rfl, rfl, rfl⟩ .nil)) (Ev.nmAt 1 rfl rfl) IterOf.list
          (fun cenv o ho => .one (Tv.cmp (Ev.bin (Ev.nmS 0 rfl rfl) (Ev.nmS 1 rfl rfl) Op2.andN) (Ev.nmS 1 rfl rfl) Cm2.eqN rfl)) (fun cenv o ho hok => Ev.nmS 0 rfl rfl) (by omega)) (fun _ => rfl)) (Ev.list (xs := []) EvA.nil (by decide)) (Cm2.neNil (plain_nats _)) rfl).eq (by rw [List.isEmpty_map])))
      (fun cenv f hf hok => Ev.nmS 0 rfl rfl) (by simp)) rfl) (fun _ => rfl) (fun _ _ => rfl)) ?_
  refine W.cons (W1.assign (pv := .lst .own ((countsAt L 0).map .nat)) 4 rfl ((Ev.bin (Ev.list (xs := [.nat 0]) (EvA.one Ev.cnat) (by decide)) Ev.cnat (Op2.mulL (by decide) (by decide) (by simp))).eq rfl) (.inl rfl) (fun _ => rfl)) ?_
  refine W.cons (W1.assign (pv := .lst .own ((ranksAt L 0).map .nat)) 5 rfl ((Ev.bin (Ev.list (xs := [.nat 0]) (EvA.one Ev.cnat) (by decide)) Ev.cnat (Op2.mulL (by decide) (by decide) (by simp))).eq rfl) (.inl rfl) (fun _ => rfl)) ?_
  refine W.cons (W1.forR (m := 6) 6 (fun i => hvs a L .unset .unset (.lst .own ((facesP L).map .nat)) (.lst .own ((countsAt L i).map .nat)) (.lst .own ((ranksAt L i).map .nat)) .unset .unset .unset) rfl (Ev.c_range (EvA.one Ev.cnat) (CallOk.rng (by decide))) (fun size hs => ?_) (fun _ => rfl)) ?_
  · refine W.mapNext (v := hvs a L .unset .unset (.lst .own ((facesP L).map .nat)) (.lst .own ((countsAt L (size + 1)).map .nat)) (.lst .own ((ranksAt L (size + 1)).map .nat)) (.s (.nat size)) (.lst .own ((runSize L size).2.map .nat)) .unset) ?_ (fun base h x => (x.forget 6).forget 7)
    refine W.cons (W1.assign (pv := .lst .own []) 7 rfl (Ev.list (xs := []) EvA.nil (by decide)) (.inl rfl) (fun _ => rfl)) ?_
    refine W.cons (v1 := hvs a L .unset .unset (.lst .own ((facesP L).map .nat)) (.lst .own ((countsAt L (size + 1)).map .nat)) (.lst .own ((ranksAt L size).map .nat)) (.s (.nat size)) (.lst .own ((runSize L size).2.map .nat)) .unset) (W1.cast (vals' := hvs a L .unset .unset (.lst .own ((facesP L).map .nat)) (.lst .own (((countsAt L size).set size 0).map .nat)) (.lst .own ((ranksAt L size).map .nat)) (.s (.nat size)) (.lst .own []) .unset) (by rw [countsAt_set0]; rfl)
       (W1.nextEq (W1.forOwnN (L := facesP L) 1 3 (fun j => hvs a L .unset .unset (.lst .own ((facesP L).map .nat)) (.lst .own (((countsAt L size).set size (runAt L size j).1).map .nat)) (.lst .own ((ranksAt L size).map .nat)) (.s (.nat size)) (.lst .own ((runAt L size j).2.map .nat)) .unset) rfl rfl rfl (fun b j f hf => ?_) rfl ?_) (by rw [runAt_all, countsAt_next]; rfl))) ?_
    · have hfl := faces_lt (mem_get hf)
      have hrl := runAt_len L size j
      have hjl : j < 32 := Nat.lt_of_lt_of_le (List.getElem?_eq_some_iff.mp hf).1 (faces_len L)
      rw [runAt_succ L size j f hf]
      generalize runAt L size j = cb at hrl
      obtain ⟨c, bs⟩ := cb
      refine W.mapNext (v := hvs a L (.s (.nat f)) .unset (.at b ((facesP L).map .nat)) (.lst .own (((countsAt L size).set size (faceStep size (c, bs) f).1).map .nat)) (.lst .own ((ranksAt L size).map .nat)) (.s (.nat size)) (.lst .own ((faceStep size (c, bs) f).2.map .nat)) .unset) ?_ (fun base h x => x.forget 1)
      refine W.one (W1.ite (c := decide (popP f = size)) (Tv.cmp (Ev.meth F.plainAttrs_str F.slot_str_count F.type_str_count (Ev.c_bin (EvA.one (Ev.nmS 1 rfl rfl)) (CallOk.bin (by omega))) recv_str (EvA.one Ev.cstr) (CallOk.count (pop_ok f hfl)) rfl rfl rfl (by decide) rfl) (Ev.nmS 6 rfl rfl) Cm2.eqN rfl) (fun h => ?_) (fun h => ?_))
      · have hp : popP f = size := of_decide_eq_true h
        have e1 : faceStep size (c, bs) f = (c + 1, if redP bs (vecP f) ≠ 0 then bs ++ [redP bs (vecP f)] else bs) := if_pos hp
        rw [e1]
        refine W.mapNext (v := hvs a L (.s (.nat f)) .unset (.at b ((facesP L).map .nat)) (.lst .own (((countsAt L size).set size (c + 1)).map .nat)) (.lst .own ((ranksAt L size).map .nat)) (.s (.nat size)) (.lst .own ((if redP bs (vecP f) ≠ 0 then bs ++ [redP bs (vecP f)] else bs).map .nat)) (.s (.nat (redP bs (vecP f))))) ?_ (fun base h x => x.forget 8)
        refine W.cons (v1 := hvs a L (.s (.nat f)) .unset (.at b ((facesP L).map .nat)) (.lst .own (((countsAt L size).set size (c + 1)).map .nat)) (.lst .own ((ranksAt L size).map .nat)) (.s (.nat size)) (.lst .own (bs.map .nat)) .unset) (W1.nextEq (W1.augitem (i := size) (y := .nat c) (y' := .nat (c + 1)) 4 rfl rfl rfl (Ev.nmS 6 rfl rfl) (getS (by rw [countsAt_len]; exact hs)) (by simp [countsAt_len]) Ev.cnat Iop2.addN' (fun _ _ _ => rfl)) ?_) ?_
        · show hvs a L _ _ _ (.lst .own ((((countsAt L size).set size c).map S.nat).set size (.nat (c + 1)))) _ _ _ _ = _
          rw [← List.map_set, List.set_set]
        refine W.cons (v1 := hvs a L (.s (.nat f)) .unset (.at b ((facesP L).map .nat)) (.lst .own (((countsAt L size).set size (c + 1)).map .nat)) (.lst .own ((ranksAt L size).map .nat)) (.s (.nat size)) (.lst .own (bs.map .nat)) (.s (.nat (vecP f)))) (W1.assign (pv := .s (.nat (vecP f))) 8 rfl (Ev.c_sum (EvA.one (Ev.comp1 (C1.eq (C1.mkN (b := false) (L := List.range 5) (oc := Option.none) (caps := [(Str.ofString "face", .s (.nat f))]) (gs := []) (fun k => decide (f >>> k &&& 1 ≠ 0)) (fun k => .nat (1 <<< (f ^^^ (1 <<< k)))) (PC.of [1] rfl (fun _ _ => rfl) (fun _ => rfl) (.cons ⟨rfl, rfl, rfl⟩ .nil))
            (Ev.c_range (EvA.one Ev.cnat) (CallOk.rng (by decide))) IterOf.rng
            (fun cenv k hk => .one (Tv.nz (Ev.bin (Ev.bin (Ev.nmS 1 rfl rfl) (Ev.nmS 0 rfl rfl) Op2.shr) Ev.cnat Op2.andN)))
            (fun cenv k hk hok => Ev.bin Ev.cnat (Ev.bin (Ev.nmS 1 rfl rfl) (Ev.bin Ev.cnat (Ev.nmS 0 rfl rfl) (Op2.shl (by decide) (by have := List.mem_range.mp hk; omega))) Op2.xorN) (Op2.shl (by decide) (Nat.le_trans (Nat.le_of_lt (exp_small f k hfl (List.mem_range.mp hk))) (by decide)))) (by simp)) (res' := ((bitsP f).map fun k => 1 <<< (f ^^^ (1 <<< k))).map .nat) (by rw [List.map_map]; rfl)) (fun _ => rfl))) CallOk.sum) (.inr (.inl rfl)) (fun _ => rfl)) ?_
        refine W.cons (v1 := hvs a L (.s (.nat f)) .unset (.at b ((facesP L).map .nat)) (.lst .own (((countsAt L size).set size (c + 1)).map .nat)) (.lst .own ((ranksAt L size).map .nat)) (.s (.nat size)) (.lst .own (bs.map .nat)) (.s (.nat (redP bs (vecP f))))) (W1.nextEq (W1.forOwnN (L := bs) 2 7 (fun t => hvs a L (.s (.nat f)) .unset (.at b ((facesP L).map .nat)) (.lst .own (((countsAt L size).set size (c + 1)).map .nat)) (.lst .own ((ranksAt L size).map .nat)) (.s (.nat size)) (.lst .own (bs.map .nat)) (.s (.nat (redP (bs.take t) (vecP f))))) rfl rfl rfl (fun d t o ho => ?_) rfl ?_) (by rw [List.take_length]; rfl)) ?_
        · rw [redP_succ _ _ _ _ ho]
          refine W.mapNext (v := hvs a L (.s (.nat f)) (.s (.nat o)) (.at b ((facesP L).map .nat)) (.lst .own (((countsAt L size).set size (c + 1)).map .nat)) (.lst .own ((ranksAt L size).map .nat)) (.s (.nat size)) (.at d (bs.map .nat)) (.s (.nat (min (redP (bs.take t) (vecP f)) (redP (bs.take t) (vecP f) ^^^ o))))) ?_ (fun base h x => x.forget 2)
          exact W.one (W1.assign (pv := .s (.nat (min (redP (bs.take t) (vecP f)) (redP (bs.take t) (vecP f) ^^^ o)))) 8 rfl (Ev.c_min (EvA.two (Ev.nmS 8 rfl rfl) (Ev.bin (Ev.nmS 8 rfl rfl) (Ev.nmS 2 rfl rfl) Op2.xorN)) CallOk.min2) (.inr (.inl rfl)) (fun _ => rfl))
        · intro i qv hne hq hl
          rcases i with _|_|_|_|_|_|_|_|_|i
          · cases hq; exact .inr ⟨⟨_, _, rfl⟩, rfl⟩
          · cases hq; cases hl
          · cases hq; cases hl
          · cases hq; exact .inr ⟨⟨_, _, rfl⟩, rfl⟩
          · cases hq; exact .inl rfl
          · cases hq; exact .inl rfl
          · cases hq; cases hl
          · exact absurd rfl hne
          · cases hq; cases hl
          · cases hq
        refine W.one (W1.ite (c := decide (redP bs (vecP f) ≠ 0)) (Tv.cmp (Ev.nmS 8 rfl rfl) Ev.cnat Cm2.neN rfl) (fun h => ?_) (fun h => ?_))
        · refine W.one (W1.nextEq (W1.append (y := .nat (redP bs (vecP f))) 7 rfl rfl rfl (Ev.nmS 8 rfl rfl) (by rw [List.length_map]; simp at hrl; omega) rfl rfl rfl rfl) ?_)
          rw [if_pos (of_decide_eq_true h), List.map_append]; rfl
        · refine W.nextEq W.nil ?_
          rw [if_neg (of_decide_eq_false h)]
      · have e1 : faceStep size (c, bs) f = (c, bs) := if_neg (of_decide_eq_false h)
        rw [e1]
        exact W.nil
    · intro i qv hne hq hl
      rcases i with _|_|_|_|_|_|_|_|_|i
      · cases hq; exact .inr ⟨⟨_, _, rfl⟩, rfl⟩
      · cases hq; cases hl
      · cases hq; cases hl
      · exact absurd rfl hne
      · cases hq; exact .inl rfl
      · cases hq; exact .inl rfl
      · cases hq; cases hl
      · cases hq; exact .inl rfl
      · cases hq; cases hl
      · cases hq
    · have hrs : (runSize L size).2.length ≤ 32 := by rw [← runAt_all]; exact Nat.le_trans (runAt_len _ _ _) (faces_len L)
      refine W.one (W1.nextEq (W1.setitem (i := size) (y := .nat (runSize L size).2.length) 5 rfl rfl rfl ((Ev.c_len (EvA.one (Ev.nmO 7 rfl rfl)) (CallOk.lenL (by rw [List.length_map]; omega))).eq (by rw [List.length_map])) (Ev.nmS 6 rfl rfl) (by rw [List.length_map, ranksAt_len]; omega) (by rw [List.length_map, ranksAt_len]; decide) rfl) ?_)
      show hvs a L _ _ _ _ (.lst .own (((ranksAt L size).map S.nat).set size _)) _ _ _ = _
      rw [← ranksAt_next, List.map_set]
  refine W.one ((W1.ret ((Ev.comp1 (C1.eq (C1.mkN (b := false) (L := List.range 6) (oc := Option.none) (caps := [(Str.ofString "counts", .lst .own ((countsAt L 6).map .nat)), (Str.ofString "ranks", .lst .own ((ranksAt L 6).map .nat))]) (gs := []) (fun _ => true) (fun s => .int ((((countsAt L 6).getD s 0 : Nat) : Int) - (((ranksAt L 6).getD s 0 : Nat) : Int) - (((ranksAt L 6).getD (s + 1) 0 : Nat) : Int))) (PC.of [4, 5] rfl (fun _ _ => rfl) (fun _ => rfl) (.cons ⟨rfl, rfl, rfl⟩ (.cons ⟨rfl, rfl, rfl⟩ .nil)))
      (Ev.c_range (EvA.one Ev.cnat) (CallOk.rng (by decide))) IterOf.rng (fun cenv k hk => .nil)
      (fun cenv k hk hok => Ev.bin (Ev.bin (Ev.sub (Ev.nmO 1 rfl rfl) (Ev.nmS 0 rfl rfl) (GetOk.nats (by rw [countsAt_len]; exact List.mem_range.mp hk) (by rw [countsAt_len]; decide)) (fun _ _ => rfl)) (Ev.sub (Ev.nmO 2 rfl rfl) (Ev.nmS 0 rfl rfl) (GetOk.nats (by rw [ranksAt_len]; have := List.mem_range.mp hk; omega) (by rw [ranksAt_len]; decide)) (fun _ _ => rfl)) Op2.subI) (Ev.sub (Ev.nmO 2 rfl rfl) (Ev.bin (Ev.nmS 0 rfl rfl) Ev.cnat Op2.addN) (GetOk.nats (by rw [ranksAt_len]; have := List.mem_range.mp hk; omega) (by rw [ranksAt_len]; decide)) (fun _ _ => rfl)) Op2.subII) (by simp)) (res' := (holesP L).map .int) ?_) (fun _ => rfl)).weak (fun h => nomatch h))))
  unfold holesP
  rw [List.filter_eq_self.mpr (fun _ _ => rfl), List.map_map]
  refine List.map_congr_left fun s hs => ?_
  have h6 := List.mem_range.mp hs
  show S.int _ = S.int _
  rw [List.getD_eq_getElem?_getD, countsAt_get L 6 s h6, if_pos h6, List.getD_eq_getElem?_getD, ranksAt_get L 6 s (by omega), if_pos h6]
  rfl
end Mine
end
section
open PySem PySem.W PyProof.Rows PySem.Calls PySem.Spec
set_option Elab.async false
set_option maxRecDepth 100000
set_option maxHeartbeats 8000000
set_option linter.unusedVariables false
set_option genSizeOf false
namespace Mine
/-- the machine comes to an end that has P, within n steps -/
noncomputable def Ends (P : Sre.M → Prop) (n : Nat) (m : Sre.M) : Prop := ∃ k, k ≤ n ∧ (m.runFor k).outcome.isSome = true ∧ P (m.runFor k)
theorem run_succ (m : Sre.M) (k : Nat) : m.runFor (k + 1) = if m.outcome.isSome then m else m.step.runFor k := rfl
theorem Ends.step {P : Sre.M → Prop} {n : Nat} {m : Sre.M} (h : Ends P n m.step) (ho : m.outcome = none := by rfl) : Ends P (n + 1) m := by
  obtain ⟨k, h1, h2, h3⟩ := h
  have e : m.runFor (k + 1) = m.step.runFor k := by rw [run_succ, ho]; rfl
  exact ⟨k + 1, by omega, by rw [e]; exact h2, by rw [e]; exact h3⟩
theorem Ends.mono {P : Sre.M → Prop} {n n' : Nat} {m : Sre.M} (h : Ends P n m) (hn : n ≤ n') : Ends P n' m := let ⟨k, h1, h2⟩ := h; ⟨k, by omega, h2⟩
theorem run_done {m : Sre.M} (h : m.outcome.isSome = true) : ∀ k, m.runFor k = m
  | 0 => rfl
  | k + 1 => by rw [run_succ, if_pos h]
theorem run_add : ∀ (a b : Nat) (m : Sre.M), m.runFor (a + b) = (m.runFor a).runFor b
  | 0, b, m => by rw [Nat.zero_add]; rfl
  | a + 1, b, m => by
    rw [show a + 1 + b = (a + b) + 1 by omega, run_succ, run_succ]
    split
    · rename_i h; rw [run_done h]
    · exact run_add a b _
theorem drive {M : Model} {A : Around} {E : Value → Shared → Prop} {s : Shared} {Q : Sre.M → Shared → Prop} : ∀ (turns k : Nat) (m : Sre.M), 0 < turns → k ≤ 4 * turns → (m.runFor k).outcome.isSome = true → Q (m.runFor k) s → wpAny M A (Builtin.Re.reDrive turns m) Q E s
  | 0, _, _, h, _, _, _ => absurd h (by decide)
  | turns + 1, k, m, _, hk, ho, q => by
    unfold Builtin.Re.reDrive
    have e4 : Builtin.Re.reTurnSteps = 4 := rfl
    rw [e4]
    refine wpAny_ite ?_
    split
    · rename_i h4
      refine wpAny_pure ?_
      rcases Nat.le_total k 4 with h | h
      · have := run_add k (4 - k) m
        rw [run_done ho, show k + (4 - k) = 4 by omega] at this
        rw [this]; exact q
      · have := run_add 4 (k - 4) m
        rw [run_done h4, show 4 + (k - 4) = k by omega] at this
        rw [← this]; exact q
    · rename_i h4
      have h : 4 < k := by
        rcases Nat.lt_or_ge 4 k with h | h
        · exact h
        · have := run_add k (4 - k) m
          rw [run_done ho, show k + (4 - k) = 4 by omega] at this
          rw [this] at h4; exact absurd ho h4
      have e : m.runFor k = (m.runFor 4).runFor (k - 4) := by rw [← run_add, show 4 + (k - 4) = k by omega]
      refine wpAny_bind (wpAny_rule ?_)
      refine drive turns (k - 4) _ (by omega) (by omega) (by rw [← e]; exact ho) (by rw [← e]; exact q)
theorem run_to_end {M : Model} {A : Around} {E : Value → Shared → Prop} {s : Shared} {Q : Option Sre.M → Shared → Prop} {m : Sre.M} {P : Sre.M → Prop} {n : Nat} (h : Ends P n m) (hn : n ≤ 1000000000000)
    (q : ∀ m', P m' → ∃ r, (m'.outcome = some .matched ∧ r = some m' ∨ m'.outcome = some .failed ∧ r = none) ∧ Q r s) : wpAny M A (Builtin.Re.reRunToEnd m) Q E s := by
  obtain ⟨k, h1, h2, h3⟩ := h
  unfold Builtin.Re.reRunToEnd
  refine wpAny_bind (drive _ k m (by decide) (by omega) h2 ?_)
  refine wpAny_bind (wpAny_forIn_list _ (fun _ _ s' => s' = s) _ (fun x rest b s' hs => ?_) (fun b s' hs => ?_) _ _ rfl)
  · subst hs
    refine wpAny_ite ?_
    split
    · exact wpAny_bind (wpAny_rule (wpAny_pure rfl))
    · exact wpAny_pure rfl
  · subst hs
    obtain ⟨r, hr, hq⟩ := q _ h3
    rcases hr with ⟨e, rfl⟩ | ⟨e, rfl⟩
    · rw [e]; exact wpAny_pure hq
    · rw [e]; exact wpAny_pure hq
noncomputable abbrev vm (code T : Array Nat) (lim ls s pc pos handed : Nat) (out : Bool) (frames : List Sre.Frame) (wt : Nat) (ans : Option Bool) (seen : Sre.Seen) : Sre.M :=
  { code := code, text := T, lim := lim, start := s, lastStart := ls, pc := pc, pos := pos, handed := handed, outermost := out, marks := #[], frames := frames, weight := wt, answer := ans, seen := seen }
section
variable {code T : Array Nat} {lim ls s pc pos handed : Nat} {out : Bool} {fr : List Sre.Frame} {wt : Nat} {seen : Sre.Seen}
theorem step_lit (hpc : pc < code.size) (hop : Sre.ops[code.getD pc 0]? = some .LITERAL) : ∃ seen', (vm code T lim ls s pc pos handed out fr wt none seen).step =
    if pos ≥ lim then vm code T lim ls s pc pos handed out fr wt (some false) seen' else if T.getD pos 0 = code.getD (pc + 1) 0 then vm code T lim ls s (pc + 2) (pos + 1) handed out fr wt none seen' else vm code T lim ls s pc pos handed out fr wt (some false) seen' := by
  refine ⟨seen.add (code.getD pc 0), ?_⟩
  show (if pc < code.size then _ else _) = _
  rw [if_pos hpc]
  unfold Sre.M.exec Sre.M.word
  simp only [Nat.add_zero, hop]
  by_cases h : pos ≥ lim
  · rw [if_pos h, if_pos h]; rfl
  · rw [if_neg h, if_neg h]
    have ha : ∀ sn, Sre.accepts code pc (T.getD pos 0) sn = .ok (T.getD pos 0 == code.getD (pc + 1) 0, sn) := fun sn => by unfold Sre.accepts; simp only [hop]
    have hw : Sre.itemWidth code pc = 2 := by unfold Sre.itemWidth; simp only [hop]
    rw [ha]
    by_cases e : T.getD pos 0 = code.getD (pc + 1) 0
    · rw [if_pos e, beq_iff_eq.mpr e, hw]
    · rw [if_neg e, beq_eq_false_iff_ne.mpr e]; rfl
theorem step_jump (hpc : pc < code.size) (hop : Sre.ops[code.getD pc 0]? = some .JUMP) : ∃ seen', (vm code T lim ls s pc pos handed out fr wt none seen).step = vm code T lim ls s (pc + 1 + code.getD (pc + 1) 0) pos handed out fr wt none seen' := by
  refine ⟨seen.add (code.getD pc 0), ?_⟩
  show (if pc < code.size then _ else _) = _
  rw [if_pos hpc]
  unfold Sre.M.exec Sre.M.word
  simp only [Nat.add_zero, hop]
noncomputable abbrev bfr (alt pos : Nat) (out : Bool) : Sre.Frame := { wait := .nextBranch, pc := alt, pos := pos, outermost := out }
noncomputable abbrev nfr (pc pos : Nat) (out : Bool) : Sre.Frame := { wait := .lookNot, pc := pc, pos := pos, outermost := out }
noncomputable abbrev sfr (pc pos : Nat) (out : Bool) : Sre.Frame := { wait := .nextStart, pc := pc, pos := pos, outermost := out }
theorem attempt_vm {f : Sre.Frame} {target frm : Nat} {out' : Bool} {a : Option Bool} (hf : f.kept.marks = #[]) (hwt : wt ≤ 1000) : (vm code T lim ls s pc pos handed out fr wt a seen).attempt f target frm out' = vm code T lim ls s target frm frm out' (f :: fr) (wt + 1) a seen := by
  unfold Sre.M.attempt
  rw [hf]
  rw [if_neg (by simp; omega)]
  rfl
theorem alt_vm {alt : Nat} (h0 : code.getD alt 0 ≠ 0) (hwt : wt ≤ 1000) : (vm code T lim ls s pc pos handed out fr wt none seen).alternative alt {} = vm code T lim ls s (alt + 1) pos pos out (bfr alt pos out :: fr) (wt + 1) none seen := by
  unfold Sre.M.alternative
  rw [if_neg (by simpa using h0)]
  exact attempt_vm rfl hwt
theorem step_branch (hpc : pc < code.size) (hop : Sre.ops[code.getD pc 0]? = some .BRANCH) (h0 : code.getD (pc + 1) 0 ≠ 0) (hwt : wt ≤ 1000) : ∃ seen', (vm code T lim ls s pc pos handed out fr wt none seen).step = vm code T lim ls s (pc + 2) pos pos out (bfr (pc + 1) pos out :: fr) (wt + 1) none seen' := by
  refine ⟨seen.add (code.getD pc 0), ?_⟩
  show (if pc < code.size then _ else _) = _
  rw [if_pos hpc]
  unfold Sre.M.exec Sre.M.word
  simp only [Nat.add_zero, hop]
  exact alt_vm h0 hwt
theorem step_not (hpc : pc < code.size) (hop : Sre.ops[code.getD pc 0]? = some .ASSERT_NOT) (h0 : code.getD (pc + 2) 0 = 0) (hwt : wt ≤ 1000) : ∃ seen', (vm code T lim ls s pc pos handed out fr wt none seen).step = vm code T lim ls s (pc + 3) pos pos false (nfr pc pos out :: fr) (wt + 1) none seen' := by
  refine ⟨seen.add (code.getD pc 0), ?_⟩
  show (if pc < code.size then _ else _) = _
  rw [if_pos hpc]
  unfold Sre.M.exec Sre.M.word
  simp only [Nat.add_zero, hop, h0, Nat.sub_zero, Nat.not_lt_zero, if_false]
  exact attempt_vm rfl hwt
theorem step_success (hpc : pc < code.size) (hop : Sre.ops[code.getD pc 0]? = some .SUCCESS) : ∃ seen', (vm code T lim ls s pc pos handed out fr wt none seen).step = vm code T lim ls s pc pos pos out fr wt (some true) seen' := by
  refine ⟨seen.add (code.getD pc 0), ?_⟩
  show (if pc < code.size then _ else _) = _
  rw [if_pos hpc]
  unfold Sre.M.exec Sre.M.word
  simp only [Nat.add_zero, hop, Bool.false_and, Bool.or_self, Bool.and_false, Bool.false_eq_true, if_false]
  rfl
theorem step_at (hpc : pc < code.size) (hop : Sre.ops[code.getD pc 0]? = some .AT) (h1 : code.getD (pc + 1) 0 = 1) : ∃ seen', (vm code T lim ls s pc pos handed out fr wt none seen).step =
    if pos = 0 ∨ T.getD (pos - 1) 0 = 10 then vm code T lim ls s (pc + 2) pos handed out fr wt none seen' else vm code T lim ls s pc pos handed out fr wt (some false) seen' := by
  refine ⟨(seen.add (code.getD pc 0)).add (43 + code.getD (pc + 1) 0), ?_⟩
  show (if pc < code.size then _ else _) = _
  rw [if_pos hpc]
  unfold Sre.M.exec Sre.M.word
  simp only [Nat.add_zero, hop, h1]
  unfold Sre.M.isAt
  simp only
  by_cases h : pos = 0 ∨ T.getD (pos - 1) 0 = 10
  · rw [if_pos h, if_pos (by simpa using h)]
  · rw [if_neg h, if_neg (by simpa using h)]; rfl
theorem res_start_yes {fpc fpos : Nat} {fo : Bool} : (vm code T lim ls s pc pos handed out (sfr fpc fpos fo :: fr) wt (some true) seen).step = vm code T lim ls s fpc fpos handed fo fr (wt - 1) (some true) seen := rfl
theorem res_branch_yes {fpc fpos : Nat} {fo : Bool} : (vm code T lim ls s pc pos handed out (bfr fpc fpos fo :: fr) wt (some true) seen).step = vm code T lim ls s fpc fpos handed fo fr (wt - 1) (some true) seen := rfl
theorem res_branch_no {fpc fpos : Nat} {fo : Bool} (h0 : code.getD (fpc + code.getD fpc 0) 0 ≠ 0) (hwt : wt ≤ 1000) : (vm code T lim ls s pc pos handed out (bfr fpc fpos fo :: fr) wt (some false) seen).step =
    vm code T lim ls s (fpc + code.getD fpc 0 + 1) fpos fpos fo (bfr (fpc + code.getD fpc 0) fpos fo :: fr) (wt - 1 + 1) none seen :=
  alt_vm (pc := fpc) (pos := fpos) (handed := handed) (out := fo) (fr := fr) (wt := wt - 1) h0 (by omega)
theorem res_not_no {fpc fpos : Nat} {fo : Bool} : (vm code T lim ls s pc pos handed out (nfr fpc fpos fo :: fr) wt (some false) seen).step = vm code T lim ls s (fpc + 1 + code.getD (fpc + 1) 0) fpos handed fo fr (wt - 1) none seen := rfl
theorem res_end {yes : Bool} : (vm code T lim ls s pc pos handed out [] wt (some yes) seen).step = { vm code T lim ls s pc pos handed out [] wt (some yes) seen with outcome := some (if yes then .matched else .failed) } := rfl
theorem res_start_no {fpc fpos : Nat} {fo : Bool} : (vm code T lim ls s pc pos handed out (sfr fpc fpos fo :: fr) wt (some false) seen).step =
    if fpos < ls then (vm code T lim ls s fpc fpos handed fo fr (wt - 1) none seen).attemptFrom (fpos + 1) false else vm code T lim ls s fpc fpos handed fo fr (wt - 1) (some false) seen := rfl
theorem attemptAt_vm {x : Nat} {first : Bool} (hwt : wt ≤ 1000) : (vm code T lim ls s pc pos handed out fr wt none seen).attemptAt x first = vm code T lim ls x pc x x first (sfr pc x first :: fr) (wt + 1) none seen := by
  unfold Sre.M.attemptAt
  exact attempt_vm (s := x) (pos := x) rfl hwt
end
/-- a pattern without groups, for text -/
noncomputable def IsPat (h : Heap) (P : Addr) (code : Array Nat) : Prop := ∃ o pat fl gr f3 f4 C w oc cs n, h.get? P = some o ∧ o.cls = .type "re.Pattern" ∧ o.dict = none ∧ o.data = .fields #[pat, fl, .int 0 gr, f3, f4, .ref C, .int 0 w] ∧ h.get? C = some oc ∧ oc.data = .seq cs n ∧ (cs.map Builtin.Re.reRawOf).map (·.toNat) = code
theorem IsPat.keep {h h' : Heap} {P : Addr} {code : Array Nat} (x : IsPat h P code) (k : ∀ b o, h.get? b = some o → h'.get? b = some o) : IsPat h' P code := by
  obtain ⟨o, pat, fl, gr, f3, f4, C, w, oc, cs, n, h1, h2, h3, h4, h5, h6, h7⟩ := x
  exact ⟨o, pat, fl, gr, f3, f4, C, w, oc, cs, n, k _ _ h1, h2, h3, h4, k _ _ h5, h6, h7⟩
end Mine
end
section
open PySem PySem.W PyProof.Rows PySem.Calls PySem.Spec
set_option Elab.async false
set_option maxRecDepth 100000
set_option maxHeartbeats 8000000
set_option linter.unusedVariables false
set_option genSizeOf false
namespace Mine
noncomputable def nmChars : List Nat := [66, 67, 68, 69, 70, 118, 119, 120, 121, 122, 98, 99, 100, 101, 102, 86, 87, 88, 89, 90]
noncomputable def vlChars : List Nat := [98, 99, 100, 101, 102, 86, 87, 88, 89, 90]
theorem slot_search : Slot "re.Pattern" "search" "re.Pattern.search" :=
  .of (owner := "re.Pattern") (n := "search") (by rw [typeLookup_type, builtinLookup_eq_fast]; kernel_rfl) (by decide +kernel) (by decide +kernel) (by decide +kernel)
    (by first | exact .inl (by decide +kernel) | exact .inr (by decide +kernel)) (by rw [isSubtype_type]; kernel_rfl)
theorem entry_search : entryFor table "re.Pattern.search" = some Builtin.«re.Pattern.search» := entryFor_of_fast (by kernel_rfl)
theorem args_search (a b : Value) : argsOk "re.Pattern.search" ⟨[a, b], []⟩ := by unfold argsOk; kernel_rfl
theorem named_search (a : Value) : Builtin.Re.reNamed "re.Pattern.search" "search" ["string", "pos", "endpos"] 1 [a] [] = pure [some a, none, none] := by kernel_rfl
noncomputable def codeN : Array Nat := #[14, 10, 4, 1, 1, 22, 0, 31, 16, 127, 0, 13, 7, 22, 0, 31, 16, 127, 0, 1]
noncomputable def codeV : Array Nat := #[14, 14, 4, 1, 1, 9, 4294966783, 0, 0, 2147483648, 0, 0, 0, 0, 0, 13, 11, 9, 4294966783, 0, 0, 2147483648, 0, 0, 0, 0, 0, 1]
theorem isPat48 {w : World} {h : Heap} (g : Glob w h) : IsPat h 48 codeN :=
  ⟨_, _, _, _, _, _, _, _, _, _, _, g.K 48 _ (by with_unfolding_all rfl), rfl, rfl, rfl, g.K 47 _ (by with_unfolding_all rfl), rfl, by decide +kernel⟩
theorem isPat53 {w : World} {h : Heap} (g : Glob w h) : IsPat h 53 codeV :=
  ⟨_, _, _, _, _, _, _, _, _, _, _, g.K 53 _ (by with_unfolding_all rfl), rfl, rfl, rfl, g.K 52 _ (by with_unfolding_all rfl), rfl, by decide +kernel⟩
/-- the machine says no to a text of one sign -/
noncomputable def noHit (code : Array Nat) (c : Nat) : Bool := match ((Sre.forSearch code #[c] 0 0 1 false).runFor 30).outcome with
  | some .failed => true
  | _ => false
theorem no_hitN0 : nmChars.all (noHit codeN) = true := by kernel_rfl
theorem no_hitN : ∀ c ∈ nmChars, noHit codeN c = true := List.all_eq_true.mp no_hitN0
theorem no_hitV0 : vlChars.all (noHit codeV) = true := by kernel_rfl
theorem no_hitV : ∀ c ∈ vlChars, noHit codeV c = true := List.all_eq_true.mp no_hitV0
theorem failed_of : ∀ {o : Option Sre.Outcome}, (match o with
  | some .failed => true
  | _ => false) = true → o = some .failed
  | some .failed, _ => rfl
theorem noHit_ends {code : Array Nat} {c : Nat} (hc : noHit code c = true) : Ends (fun m => m.outcome = some .failed) 30 (Sre.forSearch code #[c] 0 0 1 false) := by
  unfold noHit at hc
  generalize Sre.forSearch code #[c] 0 0 1 false = m at hc ⊢
  have hm := failed_of hc
  exact ⟨30, Nat.le_refl _, by rw [hm]; rfl, hm⟩
theorem srch_none {prog : Program} {w : World} {A : Around} {s : Shared} {Q E : Value → Shared → Prop} {P : Addr} {code : Array Nat} {c : Nat} {t : Tok} (hp : IsPat s.heap P code) (hc : noHit code c = true) (q : Q .none s) :
    wpAny (model prog w) A (call (.builtin "re.Pattern.search") [.ref P, .str ⟨#[c]⟩ t]) Q E s := by
  obtain ⟨o, pat, fl, gr, f3, f4, C, wi, oc, cs, nn, h1, h2, h3, h4, h5, h6, h7⟩ := hp
  refine wpAny_call (codeAny_call_builtin slot_search.plain entry_search (slot_search.check _ _ _ _ _ _ _ _ (show s.TypeIs (.ref P) "re.Pattern" from ⟨o, h1, h2⟩) (args_search _ _) ?_))
  unfold Builtin.«re.Pattern.search» Builtin.Re.reTarget fieldsOf
  refine wpAny_bind (wpAny_bind (wpAny_of_eq (named_search _) ?_))
  refine wpAny_bind (wpAny_pure ?_)
  refine wpAny_bind (wpAny_pure ?_)
  refine wpAny_bind (wpAny_bind (wpAny_load h1 ?_))
  rw [h4]
  refine wpAny_pure ?_
  refine wpAny_bind (wpAny_of_eq (a := (#[c], 0)) rfl ?_)
  refine wpAny_bind (wpAny_of_eq (a := ()) rfl ?_)
  show wpAny _ _ (Builtin.Re.reRawItems (.ref C) >>= _) _ E s
  refine wpAny_bind ?_
  unfold Builtin.Re.reRawItems
  refine wpAny_bind (wpAny_seqItems h5 h6 ?_)
  refine wpAny_pure (wpAny_pure ?_)
  have hL : min (2 ^ 63 - 1 : Int).toNat (#[c] : Array Nat).size = 1 := by kernel_rfl
  have hZ : min (Int.toNat 0) (#[c] : Array Nat).size = 0 := by kernel_rfl
  have hG : Builtin.Re.reRawNat (#[pat, fl, Value.int 0 gr, f3, f4, Value.ref C, Value.int 0 wi].getD 2 Value.none) = 0 := by kernel_rfl
  have hC : (some cs).getD #[] = cs := rfl
  dsimp only
  rw [hL, hZ, hG, hC]
  unfold Builtin.Re.reAnswer
  rw [h7]
  refine wpAny_bind (run_to_end (noHit_ends hc) (by decide) fun m' hm' => ⟨none, .inr ⟨hm', rfl⟩, ?_⟩)
  exact wpAny_pure q
end Mine
end
section
open PySem PySem.W PyProof.Rows PySem.Calls PySem.Spec
set_option Elab.async false
set_option maxRecDepth 100000
set_option maxHeartbeats 8000000
set_option linter.unusedVariables false
set_option genSizeOf false
namespace Mine
theorem plainAttrs_pat : PlainAttrs "re.Pattern" :=
  ⟨⟨"object.__getattribute__", by rw [typeLookup_type, builtinLookup_eq_fast]; kernel_rfl, by decide +kernel⟩, by rw [typeLookup_type, builtinLookup_eq_fast]; kernel_rfl⟩
theorem type_search : typeOf (.builtin "re.Pattern.search") = pure (.type "method_descriptor") := by show builtinType _ = _; rw [builtinType_eq_fast]; kernel_rfl
theorem pat48 (w : World) : ∃ d sl, (hd.heap_1 w.params).lookup 48 = some ⟨.type "re.Pattern", none, d, sl⟩ := ⟨_, _, by with_unfolding_all rfl⟩
theorem pat53 (w : World) : ∃ d sl, (hd.heap_1 w.params).lookup 53 = some ⟨.type "re.Pattern", none, d, sl⟩ := ⟨_, _, by with_unfolding_all rfl⟩
theorem isG_nre (w : World) : nsIn (hd.heap_1 w.params) mainGlobals (Str.ofString "_name_disallowed_re") = some (some (.ref 48)) := by with_unfolding_all rfl
theorem isG_vre (w : World) : nsIn (hd.heap_1 w.params) mainGlobals (Str.ofString "_value_disallowed_re") = some (some (.ref 53)) := by with_unfolding_all rfl
theorem noG_type (w : World) : nsIn (hd.heap_1 w.params) mainGlobals (Str.ofString "type") = some none := by with_unfolding_all rfl
theorem noG_str (w : World) : nsIn (hd.heap_1 w.params) mainGlobals (Str.ofString "str") = some none := by with_unfolding_all rfl
theorem boot_type : bootBuiltins (Str.ofString "type") = some (.type "type") := by decide +kernel
theorem boot_str : bootBuiltins (Str.ofString "str") = some (.type "str") := by decide +kernel
section
variable {prog : Program} {w : World} {n : Nat} {env cenv : Env} {cx : Cx} {vals : List V}
theorem Ev.boot {x : Str} {p : Pos} {v : Value} (e : nsIn (hd.heap_1 w.params) mainGlobals x = some none) (hv : bootBuiltins x = some v) (hn : x ≠ "__name__") (hd' : (x == ("__debug__" : Str)) = false) (hx : cx.gs.contains x = true := by rfl) : Ev prog w n env cx vals (.Name x p) (.val v) :=
  fun A s Q E hA g re q => wp_boot re.eo g (List.contains_iff_mem.mp hx) e hv hn hd' (q v s (Ext.refl s) rfl (.no rfl))
theorem Ev.glob {x : Str} {p : Pos} {v : Value} (e : nsIn (hd.heap_1 w.params) mainGlobals x = some (some v)) (hd' : (x == ("__debug__" : Str)) = false) (hx : cx.gs.contains x = true := by rfl) : Ev prog w n env cx vals (.Name x p) (.val v) :=
  fun A s Q E hA g re q => wp_glob re.eo g (List.contains_iff_mem.mp hx) e hd' (q v s (Ext.refl s) rfl (.no rfl))
theorem Ev.nmV {x : Str} {p : Pos} (i : Nat) {b : Bool} {v : Value} (h1 : cx.ns[i]? = some (x, b)) (h2 : vals[i]? = some (.val v)) (hd : (x == ("__debug__" : Str)) = false := by rfl) :
    Ev prog w n env cx vals (.Name x p) (.val v) := Ev.name (pv := .val v) i h1 h2 (fun h => nomatch h) hd
theorem CallOk.typeS {x : Str} : CallOk prog w n (.type "type") [.s (.str x)] (.val (.type "str")) := by
  intro A s Q E vs hA g r q
  obtain ⟨v, rfl, t, rfl⟩ := r.one
  exact call_type_of (typeIs_str _ _ _) (by decide) (q _ _ (Ext.refl s) rfl (.no rfl))
theorem Cm2.isV {a : Value} (hp : plainIs a a = true) : Cm2 prog w n .Is (.val a) (.val a) true := by
  rintro A s Q E _ _ hA g rfl rfl q
  exact wpAny_is_self hp (q s (Ext.refl s))
theorem Tr.none : Tr prog w n (.s .none) false := by
  rintro A s Q E _ hA g rfl q
  exact PyProof.Rows.truthy_none (q s (Ext.refl s))
theorem recv_pat {a : Addr} (h : ∃ d sl, (hd.heap_1 w.params).lookup a = some ⟨.type "re.Pattern", none, d, sl⟩) (s : Shared) (v : Value) (g : Glob w s.heap) (r : RepV s.heap v (.val (.ref a))) : s.TypeIs v "re.Pattern" ∧ ∀ a, v = .ref a → ∃ ob, s.heap.get? a = some ob ∧ ob.dict = none := by
  obtain ⟨d, sl, e⟩ := h
  have := g.K _ _ e
  cases r
  exact ⟨⟨_, this, rfl⟩, fun a e => by cases e; exact ⟨_, this, rfl⟩⟩
end
theorem srch_ok {w : World} {n : Nat} {P : Addr} {code : Array Nat} {c : Nat} (hP : ∀ h, Glob w h → IsPat h P code) (hc : noHit code c = true) : CallOk PySem.Challenge.rw_wk0031_01.prog w n (.builtin "re.Pattern.search") [.val (.ref P), .s (.str ⟨#[c]⟩)] (.s .none) := by
  intro A s Q E vs hA g r q
  obtain ⟨v, v', rfl, rfl, t, rfl⟩ := r.two
  exact srch_none (hP _ g) hc (q _ s (Ext.refl s) rfl (.no rfl))
theorem srchN_ok {w : World} {n : Nat} {c : Nat} (hc : c ∈ nmChars) : CallOk PySem.Challenge.rw_wk0031_01.prog w n (.builtin "re.Pattern.search") [.val (.ref 48), .s (.str ⟨#[c]⟩)] (.s .none) :=
  srch_ok (fun _ g => isPat48 g) (no_hitN c hc)
theorem srchV_ok {w : World} {n : Nat} {c : Nat} (hc : c ∈ vlChars) : CallOk PySem.Challenge.rw_wk0031_01.prog w n (.builtin "re.Pattern.search") [.val (.ref 53), .s (.str ⟨#[c]⟩)] (.s .none) :=
  srch_ok (fun _ g => isPat53 g) (no_hitV c hc)
theorem conv_ok {w : World} {n : Nat} (b : Bool) {c : Nat} (hc : c ∈ if b then nmChars else vlChars) {A : Around} {s : Shared} {Q E : Value → Shared → Prop} {self : Value} {t : Tok} (hA : Ok A (n + 1)) (g : Glob w s.heap)
    (q : ∀ v s', Ext s s' → RepV s'.heap v (.s (.str ⟨#[c]⟩)) → Q v s') : wpAny (model PySem.Challenge.rw_wk0031_01.prog w) A (call (.ref 83) [self, .str ⟨#[c]⟩ t] [(Str.ofString "name", .bool b)]) Q E s := by
  have X := g.K
  revert X; k_fill; intro X
  refine' entry_okA (n := n) (args := ⟨[self, .str ⟨#[c]⟩ t], [(Str.ofString "name", .bool b)]⟩) (vs := [self, .str ⟨#[c]⟩ t, .bool b]) (pvs := [.val self, .s (.str ⟨#[c]⟩), .s (.bool b)]) (ns := [(Str.ofString "self", false), (Str.ofString "value", false), (Str.ofString "name", false), (Str.ofString "regex", false)]) (gs := [Str.ofString "type", Str.ofString "str", Str.ofString "_name_disallowed_re", Str.ofString "_value_disallowed_re"]) (pn := [Str.ofString "self", Str.ofString "value", Str.ofString "name"]) X hA g (.cons rfl (.cons ⟨t, rfl⟩ (.cons rfl .nil))) q rfl rfl ?ho ?hcd ?hbind ?hgen ?fo ?hpk ?_
  case ho => k_is
  case hcd => k_is
  case hbind => exact BindsTo.of_eq rfl
  case hgen => rfl
  case hpk => rfl
  case fo => exact FnOk.of (by decide +kernel)
  intro L'
  refine W.at ?_
  refine W.stop (W1.ite (c := true) (Tv.cmp (a := .val (.type "str")) (b := .val (.type "str")) (Ev.callB (by decide) (noG_type w) boot_type (by decide) (by decide) (.inr ⟨_, rfl⟩) (EvA.one (Ev.nmS 1 rfl rfl)) CallOk.typeS rfl rfl) (Ev.boot (noG_str w) boot_str (by decide) (by decide)) (Cm2.isV rfl) rfl) (fun _ => ?_) (fun h => nomatch h)) rfl
  cases b with
  | true =>
    refine W.cons (W1.assign (pv := .val (.ref 48)) 3 rfl (Ev.ifexp (b := true) (Tv.val (Ev.nmS 2 rfl rfl) Tr.bool rfl) (fun _ => Ev.glob (isG_nre w) (by decide)) (fun h => nomatch h)) (.inr (.inl rfl)) (fun _ => rfl)) ?_
    refine W.cons (W1.ite (c := false) (Tv.val (Ev.meth plainAttrs_pat slot_search type_search (Ev.nmV 3 rfl rfl) (recv_pat (pat48 w)) (EvA.one (Ev.nmS 1 rfl rfl)) (srchN_ok hc) rfl rfl rfl (by decide) rfl) Tr.none rfl) (fun h => nomatch h) (fun _ => W.nil)) ?_
    exact W.one (W1.ret (Ev.nmS 1 rfl rfl))
  | false =>
    refine W.cons (W1.assign (pv := .val (.ref 53)) 3 rfl (Ev.ifexp (b := false) (Tv.val (Ev.nmS 2 rfl rfl) Tr.bool rfl) (fun h => nomatch h) (fun _ => Ev.glob (isG_vre w) (by decide))) (.inr (.inl rfl)) (fun _ => rfl)) ?_
    refine W.cons (W1.ite (c := false) (Tv.val (Ev.meth plainAttrs_pat slot_search type_search (Ev.nmV 3 rfl rfl) (recv_pat (pat53 w)) (EvA.one (Ev.nmS 1 rfl rfl)) (srchV_ok hc) rfl rfl rfl (by decide) rfl) Tr.none rfl) (fun h => nomatch h) (fun _ => W.nil)) ?_
    exact W.one (W1.ret (Ev.nmS 1 rfl rfl))
end Mine
end
section
open PySem PySem.W PyProof.Rows PySem.Calls PySem.Spec
set_option Elab.async false
set_option maxRecDepth 100000
set_option maxHeartbeats 8000000
set_option linter.unusedVariables false
set_option genSizeOf false
namespace Mine
noncomputable abbrev hdrDict (hs : Int) (t : Tok) (lh : Addr) : Obj := dictOf [⟨hs, .str (Str.ofString "_headers") t, .ref lh⟩] 1
theorem HdrRaw.inst {h : Heap} {x dx lh : Addr} (r : HdrRaw h x dx lh) : ∃ hs t, InstAt h x (instObj 184 dx) 184 (some (dictOf [⟨hs, .str (Str.ofString "_headers") t, .ref lh⟩] 1)) := by
  obtain ⟨a, hs, t, b⟩ := r
  exact ⟨hs, t, a, rfl, rfl, b⟩
theorem hd_ga (w : World) : findIn (hd.heap_1 w.params) (.ref 184) "__getattribute__" = some (some (.builtin "object.__getattribute__")) := by with_unfolding_all rfl
theorem hd_gk (w : World) : findIn (hd.heap_1 w.params) (.ref 184) "__getattr__" = some none := by with_unfolding_all rfl
theorem hd_conv (w : World) : findIn (hd.heap_1 w.params) (.ref 184) (Str.ofString "_convert_string_type") = some (some (.ref 83)) := by with_unfolding_all rfl
theorem hd_get (w : World) : findIn (hd.heap_1 w.params) (.ref 184) (Str.ofString "get") = some (some (.ref 131)) := by with_unfolding_all rfl
theorem hd_add (w : World) : findIn (hd.heap_1 w.params) (.ref 184) (Str.ofString "add_header") = some (some (.ref 181)) := by with_unfolding_all rfl
theorem hd_fn83 (w : World) : typeIn (hd.heap_1 w.params) (.ref 83) = some (.type "function") := by with_unfolding_all rfl
theorem hd_fn131 (w : World) : typeIn (hd.heap_1 w.params) (.ref 131) = some (.type "function") := by with_unfolding_all rfl
theorem hd_fn181 (w : World) : typeIn (hd.heap_1 w.params) (.ref 181) = some (.type "function") := by with_unfolding_all rfl
theorem hd_k83 (w : World) : keepIn (hd.heap_1 w.params) (.ref 83) = true := by with_unfolding_all rfl
theorem hd_k131 (w : World) : keepIn (hd.heap_1 w.params) (.ref 131) = true := by with_unfolding_all rfl
theorem hd_k181 (w : World) : keepIn (hd.heap_1 w.params) (.ref 181) = true := by with_unfolding_all rfl
theorem hd_sh83 (hs : Int) (t : Tok) (lh : Addr) : shadowIn (some (dictOf [⟨hs, .str (Str.ofString "_headers") t, .ref lh⟩] 1)) (Str.ofString "_convert_string_type") = some false := by with_unfolding_all rfl
theorem hd_sh131 (hs : Int) (t : Tok) (lh : Addr) : shadowIn (some (dictOf [⟨hs, .str (Str.ofString "_headers") t, .ref lh⟩] 1)) (Str.ofString "get") = some false := by with_unfolding_all rfl
theorem hd_sh181 (hs : Int) (t : Tok) (lh : Addr) : shadowIn (some (dictOf [⟨hs, .str (Str.ofString "_headers") t, .ref lh⟩] 1)) (Str.ofString "add_header") = some false := by with_unfolding_all rfl
theorem hd_val (w : World) (hs : Int) (t : Tok) (lh : Addr) : findObj (hd.heap_1 w.params) 184 (some (dictOf [⟨hs, .str (Str.ofString "_headers") t, .ref lh⟩] 1)) (Str.ofString "_headers") = some (.value (.ref lh)) := by
  with_unfolding_all rfl
section
variable {w : World} {n : Nat} {env : Env} {cx : Cx} {vals : List V}
theorem Ev.nmH {prog : Program} {x : Str} {p : Pos} (i : Nat) {b : Bool} {o : Fl} {l : List (Str × Str)} (h1 : cx.ns[i]? = some (x, b)) (h2 : vals[i]? = some (.hdr o l)) (hd : (x == ("__debug__" : Str)) = false := by rfl) :
    Ev prog w n env cx vals (.Name x p) (.hdr (if o = .own then .arg else o) l) := by
  have := Ev.name (prog := prog) (w := w) (n := n) (env := env) (p := p) i h1 h2 (fun h => nomatch h) hd
  cases o <;> exact this
theorem Call_meth {prog : Program} {A : Around} {E : Value → Shared → Prop} {s : Shared} {o : Expr} {name : Str} {apos pos : Pos} {args : List Expr} {kws : List Keyword} {Q : Value → Shared → Prop}
    (hbase : attributeBase o name env (eval o env) = eval o env)
    (hfew : methodCallForm (args.length + kws.length) (backTo pos (starEach args env)) (backToKw pos (keywordEach kws env)) = true)
    (hline : (apos.endLine == pos.line) = true)
    (h : wpAny (model prog w) A (eval o env) (fun ov s₁ => ∀ pl, wpAny (model prog w) A (getMethod ov name pl) (fun fx s₂ => wpAny (model prog w) A (callWith pos fx.1 fx.2 (backTo pos (starEach args env)) (backToKw pos (keywordEach kws env))) Q E s₂) E s₁) E s) :
    wpAny (model prog w) A (eval (.Call (.Attribute o name apos) args kws pos) env) Q E s := by
  rw [arm_eval_Call, hbase]
  refine wpAny_bind (wpAny_mono h (fun ov s₁ h₁ => ?_) fun _ _ e => e)
  refine wpAny_bind (wpAny_standAt ?_)
  have hpos : methodCallPos true o env apos pos = pure pos := by unfold methodCallPos; simp [hline]
  unfold methodCall
  rw [hfew]
  refine wpAny_bind (wpAny_holding (wpAny_mono (h₁ _) (fun fx s₂ h₂ => ?_) fun _ _ e => e))
  exact wpAny_bind (wpAny_of_eq hpos h₂)
theorem hdr_method {prog : Program} {A : Around} {E : Value → Shared → Prop} {s : Shared} {name : Str} {f x dx lh : Addr} {pl : Sem Bool} {Q : Value × List Value → Shared → Prop} (g : Glob w s.heap) (r : HdrRaw s.heap x dx lh)
    (hf : findIn (hd.heap_1 w.params) (.ref 184) name = some (some (.ref f))) (ht : typeIn (hd.heap_1 w.params) (.ref f) = some (.type "function"))
    (hs : ∀ hs t lh, shadowIn (some (dictOf [⟨hs, .str (Str.ofString "_headers") t, .ref lh⟩] 1)) name = some false) (q : Q (.ref f, [.ref x]) s) : wpAny (model prog w) A (getMethod (.ref x) name pl) Q E s := by
  obtain ⟨h, t, I⟩ := r.inst
  exact method_fn g.K I (hd_ga w) (hd_gk w) hf ht (hs _ _ _) q
/-- what an expression gives where the base stands -/
noncomputable def Evb (w : World) (n : Nat) (env : Env) (cx : Cx) (vals : List V) (base : Addr → Option Obj) (e : Expr) (pv : V) : Prop :=
  ∀ (A : Around) (s : Shared) (Q E : Value → Shared → Prop), Ok A n → BK base s.heap → Glob w s.heap → RepE env cx vals s.heap →
    (∀ v s', Ext s s' → RepV s'.heap v pv → Fresh pv s s' v → Q v s') → wpAny (model P0 w) A (eval e env) Q E s
theorem BK.keep {base : Addr → Option Obj} {h h' : Heap} (b : BK base h) (k : KeepA h h') : BK base h' := fun a o e => k a o (b a o e)
theorem Ev.b {base : Addr → Option Obj} {e : Expr} {pv : V} (h : Ev P0 w n env cx vals e pv) : Evb w n env cx vals base e pv := fun A s Q E hA _ g re q => h A s Q E hA g re q
theorem Evb.conv {base : Addr → Option Obj} {o e : Expr} {x dx lh : Addr} {p1 p2 apos pos : Pos} (b : Bool) {c : Nat} (hc : c ∈ if b then nmChars else vlChars) (ho : Ev P0 w (n + 1) env cx vals o (.val (.ref x))) (hr : ∀ h, BK base h → HdrRaw h x dx lh) (he : Ev P0 w (n + 1) env cx vals e (.s (.str ⟨#[c]⟩)))
    (hb : attributeBase o (Str.ofString "_convert_string_type") env (eval o env) = eval o env) (hst : starEach [e] env = [(false, eval e env)]) (hl : (apos.endLine == pos.line) = true) :
    Evb w (n + 1) env cx vals base (.Call (.Attribute o (Str.ofString "_convert_string_type") apos) [e] [⟨some (Str.ofString "name"), .Constant (.bool b) 0 p1, p2⟩] pos) (.s (.str ⟨#[c]⟩)) := by
  intro A s Q E hA bk g re q
  refine Call_meth hb (by unfold methodCallForm; rw [hst]; rfl) hl (ho A s _ _ hA g re fun v s₁ x₁ r₁ _ pl => ?_)
  cases r₁
  refine hdr_method (g.keep x₁.keep) (hr _ (bk.keep x₁.keep)) (hd_conv w) (hd_fn83 w) hd_sh83 ?_
  refine callWith_KW (h₀ := s₁.heap) (g.keep x₁.keep).K (hd_k83 w) rfl (wpAny_items_cons (he A s₁ _ _ hA (g.keep x₁.keep) (re.keep x₁.keep) fun v₂ s₂ x₂ r₂ _ => wpAny_items_nil ?_) hst) (by rw [hst]; rfl) hst
  obtain ⟨t, rfl⟩ := r₂
  refine wpAny_evalAll_cons ?_
  show wpAny _ _ (do let v ← eval (.Constant (.bool b) 0 p1) env; standAt pos; pure v) _ _ _
  refine wpAny_bind (wpAny_Constant_bool (wpAny_bind (wpAny_standAt (wpAny_pure ?_))))
  refine wpAny_evalAll_nil ⟨(g.keep (x₁.trans x₂).keep).K, ?_⟩
  exact conv_ok b hc hA (g.keep (x₁.trans x₂).keep) fun v₃ s₃ x₃ r₃ => q v₃ s₃ ((x₁.trans x₂).trans x₃) r₃ (.no rfl)
end
end Mine
end
section
open PySem PySem.W PyProof.Rows PySem.Calls PySem.Spec
set_option Elab.async false
set_option maxRecDepth 100000
set_option maxHeartbeats 8000000
set_option linter.unusedVariables false
set_option genSizeOf false
namespace Mine
/-- a call whose binding makes objects -/
theorem entry_raw2 {prog : Program} {w : World} {n : Nat} {A : Around} {s s₁ : Shared} {Q E : Value → Shared → Prop} {name qual : Str} {params : Arguments} {body : List Stmt} {scope : Scope} {dV kV doc pm cdv ct oc : Value} {an od : Option Addr} {osl : Array (Option Value)} {f : Addr}
    {ns : List (Str × Bool)} {gs : List Str} {pn : List Str} {args : Args} {vs : List Value} {pvs : List V}
    (X : (hd.heap_1 w.params).In s.heap) (hA : Ok A (n + 1)) (g : Glob w s.heap) (x₁ : Ext s s₁) (r : All2 (RepV s₁.heap) vs pvs)
    (hl : vs.length = pn.length) (hf : pvs.all (fun v => !v.fresh) = true)
    (ho : (hd.heap_1 w.params).lookup f = some ⟨oc, od, .func (fnOf name qual params body scope dV kV doc pm an cdv ct), osl⟩) (hcd : codeIn (hd.heap_1 w.params) cdv qual = true)
    (hbind : ∀ (M : Model) (A : Around) (E : Value → Shared → Prop) (Q : List (Str × Value) → Shared → Prop), Q (pn.zip vs) s₁ → wpAny M A (bindArgs (fnOf name qual params body scope dV kV doc pm an cdv ct) args) Q E s)
    (hgen : scope.isGenerator = false) (fo : FnOk scope ns gs pn) (hpk : ((pn.zip vs).all fun y => scope.names.lookup y.1 == some .local || scope.names.lookup y.1 == some .cell) = true)
    (hW : ∀ L A' s', Ok A' n → StOk w (fun a => s₁.heap.get? a) (envOfC qual scope L f cdv) ⟨ns, gs⟩ (pvs ++ List.replicate (ns.length - pn.length) .unset) s'.heap → s'.os = s₁.os → s'.gens = s₁.gens →
      wpAny (model prog w) A' (execs body (envOfC qual scope L f cdv)) (fun fl s' => Q (match fl with | .ret v => v | _ => .none) s') (fun _ _ => False) s') :
    wpAny (model prog w) A (call (.ref f) args.pos args.kw) Q E s := by
  refine wpAny_call ?_
  refine codeAny_call_function (fd := fnOf name qual params body scope dV kV doc pm an cdv ct) (by have := hA.dp; omega) (X _ _ ho) rfl fo.co hgen rfl (codeRec_of X hcd) (hbind _ _ _ _ ?_)
  refine wpAny_newFunctionEnv_cells fo.kind (kindsX hpk _) fun env' he s' x => ?_
  subst he
  refine ⟨(g.keep x₁.keep).nolimit.keeps x.toInCall.keep, codeAny_func ?_⟩
  obtain ⟨h₁, tk, rfl⟩ := x.toInCall.same
  have st := entry_st (name := qual) (f := f) (cdv := cdv) fo (g.keep x₁.keep) r hl hf x
  exact wpAny_mono (hW s₁.heap.objs.size (A.deeper _) _ ⟨hA.hd, by have := hA.dp; show A.depth + 1 + n < _; omega, by have := hA.un; show A.units + 3 + 10 * n + 100 < _; omega⟩ st rfl rfl) (fun fl s₂ hq => hq) fun _ _ y => y.elim
theorem W1.then {prog : Program} {w : World} {n : Nat} {env : Env} {cx : Cx} {vals v1 : List V} {st : Stmt} {rest : List Stmt} {A : Around} {s : Shared} {Q : Flow → Shared → Prop} {E : Value → Shared → Prop} {base : Addr → Option Obj}
    (h1 : W1 prog w n env cx vals st (.next v1)) (hA : Ok A n) (x : StOk w base env cx vals s.heap)
    (k : ∀ s₁, StOk w base env cx v1 s₁.heap → s₁.os = s.os → GX s.gens s₁.gens → wpAny (model prog w) A (execs rest env) Q E s₁) : wpAny (model prog w) A (execs (st :: rest) env) Q E s :=
  wpAny_execs_cons (h1 A s _ _ base hA x fun fl s₁ o1 => by
    obtain ⟨rfl, x₁, os₁, g₁⟩ := o1.next'
    exact k s₁ x₁ os₁ g₁)
theorem assign_then {w : World} {n : Nat} {env : Env} {cx : Cx} {vals : List V} {rest : List Stmt} {A : Around} {s : Shared} {Q : Flow → Shared → Prop} {E : Value → Shared → Prop} {base : Addr → Option Obj}
    {e : Expr} {p p' : Pos} {x : Str} {b : Bool} {pv : V} (k : Nat) (hx : cx.ns[k]? = some (x, b)) (he : Evb w n env cx vals base e pv) (hm : May vals k pv) (hs : EnvOk env cx → swapsWith e (some (.Name x p')) p.line env = pure false) (hA : Ok A n) (st : StOk w base env cx vals s.heap)
    (h : ∀ s₁, StOk w base env cx (vals.set k pv) s₁.heap → s₁.os = s.os → GX s.gens s₁.gens → wpAny (model P0 w) A (execs rest env) Q E s₁) : wpAny (model P0 w) A (execs (.Assign [.Name x p'] e p :: rest) env) Q E s := by
  obtain ⟨ρ, x⟩ := st
  exact wpAny_execs_cons (wpAny_Assign_Name (he A s _ _ hA x.bk x.g x.rep fun v s₁ x₁ r₁ f₁ => x.store_ev x₁ hx r₁ f₁ hm fun h' tk _ st' => h _ st' x₁.os x₁.gens) (hs x.eo))
theorem ite_then {w : World} {n : Nat} {env : Env} {cx : Cx} {vals : List V} {rest : List Stmt} {A : Around} {s : Shared} {Q : Flow → Shared → Prop} {E : Value → Shared → Prop} {base : Addr → Option Obj}
    {t : Expr} {b1 b2 : List Stmt} {p : Pos} (ht : Tv P0 w n env cx vals t true) (hA : Ok A n) (st : StOk w base env cx vals s.heap)
    (h : ∀ s₁, StOk w base env cx vals s₁.heap → s₁.os = s.os → GX s.gens s₁.gens → wpAny (model P0 w) A (execs b1 env) (fun fl s₂ => match fl with | .next => wpAny (model P0 w) A (execs rest env) Q E s₂ | fl => Q fl s₂) E s₁) : wpAny (model P0 w) A (execs (.If t b1 b2 p :: rest) env) Q E s :=
  wpAny_execs_cons (wpAny_If (ht A s _ _ hA st.g st.rep fun s₁ x₁ => h s₁ (st.keep x₁.keep) x₁.os x₁.gens))
theorem dictAt_nil {prog : Program} {w : World} {h : Heap} {d : Addr} {ep : Nat} (e : h.get? d = some (dictOf [] ep)) : h.DictAt (strKind prog w) d [] ep :=
  ⟨_, #[], e, ⟨rfl, rfl, rfl⟩, rfl, (fun e he => by simp at he), (by constructor), by simp⟩
/-- a for over the items of an empty dict -/
theorem for_items0 {prog : Program} {w : World} {n : Nat} {env : Env} {cx : Cx} {vals : List V} {target : Expr} {body : List Stmt} {x : Str} {px apos pos p : Pos} {rest : List Stmt} {b : Bool} {A : Around} {s : Shared} {Q : Flow → Shared → Prop} {E : Value → Shared → Prop} {base : Addr → Option Obj} {d : Addr} {ep : Nat} (j : Nat)
    (hA : Ok A n) (x0 : StOk w base env cx vals s.heap) (hx : cx.ns[j]? = some (x, b)) (hv : vals[j]? = some (.val (.ref d))) (hd0 : base d = some (dictOf [] ep)) (hsys : (d == sysModules) = false) (hdb : (x == ("__debug__" : Str)) = false)
    (hbase : attributeBase (.Name x px) "items" env (eval (.Name x px) env) = eval (.Name x px) env) (hline : (apos.endLine == pos.line) = true)
    (hs : ∀ y, foldedSetIterable (.Call (.Attribute (.Name x px) "items" apos) [] [] pos) env y = pure y)
    (k : ∀ s₁, StOk w base env cx vals s₁.heap → s₁.os = s.os → GX s.gens s₁.gens → wpAny (model prog w) A (execs rest env) Q E s₁) :
    wpAny (model prog w) A (execs (.For target (.Call (.Attribute (.Name x px) "items" apos) [] [] pos) body [] p :: rest) env) Q E s := by
  obtain ⟨ρ, st⟩ := x0
  refine wpAny_execs_cons (wpAny_For ?_ hs)
  refine wpAny_Call_method hbase rfl hline PySem.F.plainAttrs_dict PySem.F.slot_dict_items PySem.F.type_dict_items ?_
  obtain ⟨v, hb, hr, _⟩ := st.var j x b _ hx hv (fun h => nomatch h)
  have hr := hr.1
  change v = .ref d at hr
  subst hr
  have hdh := st.bk _ _ hd0
  have hD : s.heap.DictOf (strKind prog w) d [] := let ⟨o, es, e⟩ := dictAt_nil hdh; ⟨o, es, ep, e⟩
  refine wpAny_Name (wp_bound st.eo.kind hb ⟨⟨_, hdh, rfl⟩, fun a e => by cases e; exact ⟨_, hdh, rfl⟩, ?_⟩) hdb
  refine Calls.callWith_builtin rfl (PySem.evalArgs_none ?_)
  refine call_meetsIn PySem.F.slot_dict_items ⟨_, hdh, rfl⟩ PySem.F.entry_dict_items (PySem.F.args_dict_items_1 _) (meets_dict_items (strKind prog w) d hsys) ⟨⟨[], hD⟩, ?_⟩
  have k1 := KeepA.push s.heap { cls := .type "dict_items", data := .fields #[.ref d] }
  have st1 := st.keep k1
  refine wpAny_pyIter_items (knd := strKind prog w) (d := d) (kvs := []) (ep := ep) ⟨_, Heap.get?_push_size _ rfl, rfl, rfl⟩ (dictAt_nil (k1 _ _ hdh)) ?_
  let h2 := (s.heap.push { cls := .type "dict_items", data := .fields #[.ref d] }).push { cls := .type "dict_itemiterator", data := .fields #[.none, .bool false, .ref d, .int 0 0, .int ([] : List (Str × Value)).length 0, .int ep 0, .none, .none] }
  have k2 : KeepA _ h2 := KeepA.push (s.heap.push { cls := .type "dict_items", data := .fields #[.ref d] }) _
  have st2 := st1.keep k2
  refine forLoopU (fun m s' => m = 0 ∧ s' = { s with heap := h2 }) ?_ 0 ⟨rfl, rfl⟩
  rintro _ _ ⟨rfl, rfl⟩
  refine wpAny_pyNext_items_end (knd := strKind prog w) (kvs := []) (ep := ep) (i := 0) (ok := .none) (ov := .none) hA.hd (Heap.get?_push_size _ rfl) (dictAt_nil (k2 _ _ (k1 _ _ hdh))) rfl fun h3 hx3 => ?_
  refine k _ ⟨ρ, st2.oddX hx3 (fun o e => ?_) (fun t => ?_) ?_ fun x' dx lh r e => ?_⟩ rfl (.refl _)
  · rw [show h2.get? (s.heap.push { cls := .type "dict_items", data := .fields #[.ref d] }).objs.size = _ from Heap.get?_push_size _ rfl] at e
    cases e
    exact .inr (.inr ⟨⟨_, rfl⟩, (by decide : Value.type "dict_itemiterator" ≠ .type "range")⟩)
  · obtain ⟨o, ho, _⟩ := st1.tch_lt t
    rw [size_none] at ho; cases ho
  · cases hb : base (s.heap.push { cls := .type "dict_items", data := .fields #[.ref d] }).objs.size with
    | none => rfl
    | some o => have := st1.bk _ _ hb; rw [size_none] at this; cases this
  · subst e
    obtain ⟨_, _, _, r2⟩ := r
    rw [show h2.get? (s.heap.push { cls := .type "dict_items", data := .fields #[.ref d] }).objs.size = _ from Heap.get?_push_size _ rfl] at r2
    exact absurd (congrArg Obj.cls (Option.some.inj r2)) (by decide : Value.type "dict_itemiterator" ≠ .type "dict")
end Mine
end
section
open PySem PySem.W PyProof.Rows PySem.Calls PySem.Spec
set_option Elab.async false
set_option maxRecDepth 100000
set_option maxHeartbeats 8000000
set_option linter.unusedVariables false
set_option genSizeOf false
namespace Mine
section
variable {prog : Program} {w : World} {n : Nat} {env cenv : Env} {cx : Cx} {vals : List V}
theorem Evb.spair {base : Addr → Option Obj} {p : Pos} {e1 e2 : Expr} {k : Nat} {a b : Str} (h1 : Evb w n env cx vals base e1 (.s (.str a))) (h2 : Ev P0 w n env cx vals e2 (.s (.str b)))
    (he1 : starEach [e1, e2] env = (false, eval e1 env) :: starEach [e2] env) (he2 : starEach [e2] env = (false, eval e2 env) :: starEach [] env) : Evb w n env cx vals base (.Tuple [e1, e2] k p) (.s (.spair a b)) := by
  intro A s Q E hA bk g re q
  refine wpAny_Tuple (wpAny_items_cons (h1 A s _ _ hA bk g re fun v₁ s₁ x₁ r₁ _ => wpAny_items_cons (h2 A s₁ _ _ hA (g.keep x₁.keep) (re.keep x₁.keep) fun v₂ s₂ x₂ r₂ _ => wpAny_items_nil ⟨by rw [sizeLine_eq]; show 2 ≤ 16777216; decide, ?_⟩) he2) he1)
  obtain ⟨ta, rfl⟩ := r₁
  obtain ⟨tb, rfl⟩ := r₂
  exact q _ _ ((x₁.trans x₂).trans ⟨KeepA.push _ _, rfl, .refl _⟩) ⟨_, ta, tb, rfl, _, Heap.get?_push_size _ rfl, rfl, _, rfl⟩ (.no rfl)
theorem Cm2.notNone {x : Str} : Cm2 prog w n .IsNot (.s (.str x)) (.s .none) true := by
  rintro A s Q E _ _ hA g ⟨t, rfl⟩ rfl q
  exact wpAny_isNot_other rfl (fun h => nomatch h) (q s (Ext.refl s))
end
theorem eval_headers {prog : Program} {w : World} {env : Env} {A : Around} {s : Shared} {Q E : Value → Shared → Prop} {nm : Str} {p pos : Pos} {b : Bool} {x dx lh : Addr} (hk : env.scope.kind = .function) (hb : Bound env s.heap nm b (.ref x)) (g : Glob w s.heap) (hr : HdrRaw s.heap x dx lh)
    (hd' : (nm == ("__debug__" : Str)) = false) (q : Q (.ref lh) { s with toks := s.toks + 1 }) : wpAny (model prog w) A (eval (.Attribute (.Name nm p) (Str.ofString "_headers") pos) env) Q E s := by
  rw [arm_eval_Attribute]
  obtain ⟨hs, t, I⟩ := hr.inst
  refine wpAny_bind (wpAny_Name (wp_bound hk hb (wpAny_bind (wpAny_standAt (wpAny_bind (wpAny_holding (get_value g.K I (hd_ga w) (hd_val w hs t lh) rfl ?_)))))) hd')
  exact wpAny_bind (wpAny_pure (wpAny_pure q))
theorem add_ok {w : World} {n : Nat} {a b : Nat} (ha : a ∈ nmChars) (hb : b ∈ vlChars) {A : Around} {s : Shared} {Q E : Value → Shared → Prop} {x dx lh : Addr} {l : List (Str × Str)} {ta tb : Tok} (hA : Ok A (n + 2)) (g : Glob w s.heap) (hr : HdrRaw s.heap x dx lh)
    (hl : RepL s.heap lh (l.map fun p => .spair p.1 p.2)) (hlen : l.length < 2 ^ 20)
    (q : ∀ s' h1 (vs vs' : List Value), KeepA s.heap h1 → Heap.SameBut lh h1 s'.heap → h1.PlainList lh vs.toArray → s'.heap.PlainList lh vs'.toArray → All2 (RepS h1) vs' ((l ++ [((⟨#[a]⟩ : Str), (⟨#[b]⟩ : Str))]).map fun p => .spair p.1 p.2) → s'.os = s.os → GX s.gens s'.gens → Q .none s') :
    wpAny (model P0 w) A (call (.ref 181) [.ref x, .str ⟨#[a]⟩ ta, .str ⟨#[b]⟩ tb]) Q E s := by
  have X := g.K
  unfold P0
  revert X; k_fill; intro X
  have hx1 : Ext s { s with heap := s.heap.push { cls := .type "dict", data := .dict #[] } } := ⟨KeepA.push _ _, rfl, .refl _⟩
  have hr1 := hr.keep hx1.keep
  have hl1 : RepL (s.heap.push { cls := .type "dict", data := .dict #[] }) lh (l.map fun p => .spair p.1 p.2) := hl.keep hx1.keep.toT fun o e => hx1.keep _ o e
  refine' entry_raw2 (n := n + 1) (args := ⟨[.ref x, .str ⟨#[a]⟩ ta, .str ⟨#[b]⟩ tb], []⟩) (s₁ := { s with heap := s.heap.push { cls := .type "dict", data := .dict #[] } }) (vs := [.ref x, .str ⟨#[a]⟩ ta, .str ⟨#[b]⟩ tb, .ref s.heap.objs.size]) (pvs := [.val (.ref x), .s (.str ⟨#[a]⟩), .s (.str ⟨#[b]⟩), .val (.ref s.heap.objs.size)])
    (ns := [(Str.ofString "self", false), (Str.ofString "_name", false), (Str.ofString "_value", false), (Str.ofString "_params", false), (Str.ofString "parts", false), (Str.ofString "k", false), (Str.ofString "v", false)]) (gs := []) (pn := [Str.ofString "self", Str.ofString "_name", Str.ofString "_value", Str.ofString "_params"]) X hA g hx1
    (.cons rfl (.cons ⟨ta, rfl⟩ (.cons ⟨tb, rfl⟩ (.cons rfl .nil)))) rfl rfl ?ho ?hcd ?hbind ?hgen ?fo ?hpk ?_
  case ho => k_is
  case hcd => k_is
  case hbind => intro M A E Q hq; exact (wpAny_bind (wpAny_alloc (wpAny_pure hq)) : wpAny M A (alloc { cls := .type "dict", data := .dict #[] } >>= fun d => pure [(Str.ofString "self", Value.ref x), (Str.ofString "_name", .str ⟨#[a]⟩ ta), (Str.ofString "_value", .str ⟨#[b]⟩ tb), (Str.ofString "_params", .ref d)]) Q E s)
  case hgen => rfl
  case hpk => rfl
  case fo => exact FnOk.of (by decide +kernel)
  intro L A' s' hA' st os' gs'
  refine W1.then (W1.assign (pv := .lst .own []) 4 rfl (Ev.list (xs := []) EvA.nil (by decide)) (.inl rfl) (fun _ => rfl)) hA' st fun s₁ st₁ os₁ g₁ => ?_
  have hrb : ∀ h, BK (fun a => (s.heap.push { cls := .type "dict", data := .dict #[] }).get? a) h → HdrRaw h x dx lh := fun h bk => hr1.keep fun a o e => bk a o e
  refine ite_then (Tv.cmp (Ev.nmS 2 rfl rfl) Ev.cnone Cm2.notNone rfl) hA' st₁ fun s₂ st₂ os₂ g₂ => ?_
  refine assign_then (pv := .s (.str ⟨#[b]⟩)) 2 rfl (Evb.conv false hb (Ev.nmV 0 rfl rfl) hrb (Ev.nmS 2 rfl rfl) rfl rfl rfl) (.inr (.inl rfl)) (fun _ => rfl) hA' st₂ fun s₃ st₃ os₃ g₃ => ?_
  refine W1.then (W1.append (l := []) (x := Str.ofString "parts") (y := .str ⟨#[b]⟩) 4 rfl rfl rfl (Ev.nmS 2 rfl rfl rfl) (by decide) rfl rfl rfl rfl) hA' st₃ fun s₄ st₄ os₄ g₄ => ?_
  refine wpAny_execs_nil ?_
  have hd0 : (s.heap.push { cls := .type "dict", data := .dict #[] }).get? s.heap.objs.size = some (dictOf [] 0) := Heap.get?_push_size _ rfl
  have hsys : (s.heap.objs.size == sysModules) = false := by
    obtain ⟨d, sl, e⟩ := pat48 w
    have := Heap.lt_size (g.K _ _ e)
    have h : s.heap.objs.size ≠ 1 := Nat.ne_of_gt (Nat.lt_trans (by decide) this)
    exact beq_eq_false_iff_ne.mpr h
  refine for_items0 (ep := 0) 3 hA' st₄ rfl rfl hd0 hsys rfl rfl rfl (fun _ => rfl) fun s₅ st₅ os₅ g₅ => ?_
  refine wpAny_execs_cons (wpAny_Expr ?_ (interactive_false st₅.eo.kind) rfl)
  refine wpAny_Call_method rfl rfl rfl F.plainAttrs_list F.slot_list_append F.type_list_append ?_
  have bk₅ := st₅.bk
  have k₅ : KeepA (s.heap.push { cls := .type "dict", data := .dict #[] }) s₅.heap := fun a o e => bk₅ a o e
  have g₅' := st₅.g
  obtain ⟨ρ, so⟩ := id st₅
  obtain ⟨v, hb₅, hv₅, _⟩ := so.var 0 (Str.ofString "self") false _ rfl rfl (fun h => nomatch h)
  have hv₅ := hv₅.1
  change v = .ref x at hv₅
  subst hv₅
  obtain ⟨vs0, hp0, ha0⟩ := hl1
  have hp5 : s₅.heap.PlainList lh vs0.toArray := let ⟨m, e⟩ := hp0; ⟨m, k₅ _ _ e⟩
  refine eval_headers so.eo.kind hb₅ g₅' (hr1.keep k₅) rfl ⟨hp5.isList.typeIs, fun a e => ?_, ?_⟩
  · cases e; obtain ⟨m, ho⟩ := hp5; exact ⟨_, ho, rfl⟩
  refine P.append_list (Evb.spair (k := 0) (b := ⟨#[b]⟩) (Evb.conv (x := x) (dx := dx) (lh := lh) true ha (Ev.nmV 0 rfl rfl) hrb (Ev.nmS 1 rfl rfl) rfl rfl rfl) ?_ rfl rfl A' _ _ _ hA' bk₅ g₅' st₅.rep fun v₆ s₆ x₆ r₆ _ => ?_)
  · refine (Ev.meth F.plainAttrs_str F.slot_str_join F.type_str_join Ev.cstr recv_str (EvA.one (Ev.nmL 4 rfl rfl)) (CallOk.join (L := [⟨#[b]⟩]) ?_) rfl rfl rfl (by decide) rfl).eq ?_
    · show (1 + 0) + 1 * (Str.ofString "; ").length ≤ 16777216; decide
    · rfl
  have hp6 : s₆.heap.PlainList lh vs0.toArray := let ⟨m, e⟩ := hp5; ⟨m, x₆.keep _ _ e⟩
  obtain ⟨m, ho6⟩ := id hp6
  refine ⟨vs0.toArray, m, by rw [List.size_toArray, ha0.length, List.length_map, sizeLine_eq]; omega, ho6, ?_⟩
  refine wpAny_execs_nil ?_
  have kk : KeepA s.heap s₆.heap := (hx1.keep.trans k₅).trans x₆.keep
  refine q _ s₆.heap vs0 (vs0 ++ [v₆]) kk (Heap.SameBut.update ..) hp6 ?_ ?_ ?_ ?_
  · refine ⟨m + 1, ?_⟩
    show (s₆.heap.update lh (Obj.mapSeq fun xs => xs.push v₆)).get? lh = _
    rw [Heap.get?_update_self _ ho6 (by rw [Obj.mapSeq_push_plain]; rfl), Obj.mapSeq_push_plain]
    simp
  · rw [List.map_append]
    exact (ha0.mono fun _ _ y => y.keep (k₅.trans x₆.keep).toT).snoc r₆
  · exact x₆.os.trans (os₅.trans (os₄.trans (os₃.trans (os₂.trans (os₁.trans os')))))
  · exact GX.trans (GX.trans (GX.trans (GX.trans (GX.trans (gs' ▸ g₁) g₂) g₃) g₄) g₅) x₆.gens
end Mine
end
section
open PySem PySem.W PyProof.Rows PySem.Calls PySem.Spec
set_option Elab.async false
set_option maxRecDepth 100000
set_option maxHeartbeats 8000000
set_option linter.unusedVariables false
set_option genSizeOf false
namespace Mine
theorem entry_code {prog : Program} {w : World} {n : Nat} {A : Around} {s : Shared} {R : Result → Shared → Prop} {name qual : Str} {params : Arguments} {body : List Stmt} {scope : Scope} {dV kV doc pm cdv ct oc : Value} {an od : Option Addr} {osl : Array (Option Value)} {f : Addr}
    {ns : List (Str × Bool)} {gs : List Str} {pn : List Str} {args : Args} {vs : List Value} {pvs : List V}
    (X : (hd.heap_1 w.params).In s.heap) (hA : Ok A (n + 1)) (g : Glob w s.heap) (r : All2 (RepV s.heap) vs pvs)
    (hl : vs.length = pn.length) (hf : pvs.all (fun v => !v.fresh) = true)
    (ho : (hd.heap_1 w.params).lookup f = some ⟨oc, od, .func (fnOf name qual params body scope dV kV doc pm an cdv ct), osl⟩) (hcd : codeIn (hd.heap_1 w.params) cdv qual = true)
    (hbind : BindsTo s (fnOf name qual params body scope dV kV doc pm an cdv ct) args (pn.zip vs)) (hgen : scope.isGenerator = false) (fo : FnOk scope ns gs pn) (hpk : ((pn.zip vs).all fun y => scope.names.lookup y.1 == some .local || scope.names.lookup y.1 == some .cell) = true)
    (hW : ∀ L A' s', Ok A' n → s.heap.objs.size ≤ L → StOk w (fun a => s.heap.get? a) (envOfC qual scope L f cdv) ⟨ns, gs⟩ (pvs ++ List.replicate (ns.length - pn.length) .unset) s'.heap → s'.os = s.os → s'.gens = s.gens →
      wpAny (model prog w) A' (execs body (envOfC qual scope L f cdv)) (fun fl s' => R (.ok (.ret (match fl with | .ret v => v | _ => .none))) s') (fun _ _ => False) s') :
    codeAny (model prog w) A (.call (.ref f) args) R s := by
  refine codeAny_call_function (fd := fnOf name qual params body scope dV kV doc pm an cdv ct) (by have := hA.dp; omega) (X _ _ ho) rfl fo.co hgen rfl (codeRec_of X hcd) (hbind _ _ _ _ ?_)
  refine wpAny_newFunctionEnv_cells fo.kind (kindsX hpk _) fun env' he s' x => ?_
  subst he
  refine ⟨g.nolimit.keeps x.toInCall.keep, codeAny_func ?_⟩
  obtain ⟨h₁, tk, rfl⟩ := x.toInCall.same
  have st := entry_st (name := qual) (f := f) (cdv := cdv) fo g r hl hf x
  exact wpAny_mono (hW s.heap.objs.size (A.deeper _) _ ⟨hA.hd, by have := hA.dp; show A.depth + 1 + n < _; omega, by have := hA.un; show A.units + 3 + 10 * n + 100 < _; omega⟩ (Nat.le_refl _) st rfl rfl) (fun fl s₂ hq => hq) fun _ _ y => y.elim
theorem hd_mk (w : World) : makesIn (hd.heap_1 w.params) 184 = true := by with_unfolding_all rfl
theorem hd_init (w : World) : findIn (hd.heap_1 w.params) (.ref 184) "__init__" = some (some (.ref 76)) := by with_unfolding_all rfl
theorem hd_fn76 (w : World) : typeIn (hd.heap_1 w.params) (.ref 76) = some (.type "function") := by with_unfolding_all rfl
theorem hd_setattr (w : World) : findIn (hd.heap_1 w.params) (.ref 184) "__setattr__" = some (some (.builtin "object.__setattr__")) := by with_unfolding_all rfl
theorem hd_over (w : World) : plainOver (hd.heap_1 w.params) 184 = true := by with_unfolding_all rfl
theorem hd_taker (w : World) : takerIn (hd.heap_1 w.params) 184 (Str.ofString "_headers") = some none := by with_unfolding_all rfl
theorem hd_hasd (w : World) : hasDictIn (hd.heap_1 w.params) 184 = true := by with_unfolding_all rfl
section
variable {prog : Program} {w : World} {n : Nat} {env cenv : Env} {cx : Cx} {vals : List V}
theorem Cm2.notNoneN : Cm2 prog w n .IsNot (.s .none) (.s .none) false := by
  rintro A s Q E _ _ hA g rfl rfl q
  exact wpAny_isNot_self rfl (q s (Ext.refl s))
theorem CallOk.typeL {o : Fl} {l : List S} : CallOk prog w n (.type "type") [.lst o l] (.val (.type "list")) := by
  intro A s Q E vs hA g r q
  obtain ⟨v, rfl, a, rfl, vs, hp, _⟩ := r.one
  exact call_type_of hp.isList.typeIs (by decide) (q _ _ (Ext.refl s) rfl (.no rfl))
theorem Cm2.isNotV {a : Value} (hp : plainIs a a = true) : Cm2 prog w n .IsNot (.val a) (.val a) false := by
  rintro A s Q E _ _ hA g rfl rfl q
  exact wpAny_isNot_self hp (q s (Ext.refl s))
end
theorem init_ok {w : World} {n : Nat} {A : Around} {h : Heap} {s : Shared} {R : Result → Shared → Prop} (hA : Ok A (n + 1)) (hs : s.heap = (h.push emptyDict).push (instObj 184 h.objs.size)) (g0 : Glob w h)
    (q : ∀ s' lh, (∀ a o, h.get? a = some o → s'.heap.get? a = some o) → HdrRaw s'.heap (h.objs.size + 1) h.objs.size lh → s'.heap.PlainList lh #[] → h.get? lh = none → s'.os = s.os → GX s.gens s'.gens → R (.ok (.ret .none)) s') :
    codeAny (model P0 w) A (.call (.ref 76) ⟨[.ref (h.objs.size + 1)], []⟩) R s := by
  have k0 : KeepA h s.heap := hs ▸ (KeepA.push _ _).trans (KeepA.push _ _)
  have g := g0.keep k0
  have X := g.K
  unfold P0
  revert X; k_fill; intro X
  refine' entry_code (n := n) (vs := [.ref (h.objs.size + 1), .none]) (pvs := [.val (.ref (h.objs.size + 1)), .s .none])
    (ns := [(Str.ofString "self", false), (Str.ofString "headers", false), (Str.ofString "k", false), (Str.ofString "v", false)]) (gs := [Str.ofString "type", Str.ofString "list"]) (pn := [Str.ofString "self", Str.ofString "headers"]) X hA g
    (.cons rfl (.cons rfl .nil)) rfl rfl ?ho ?hcd ?hbind ?hgen ?fo ?hpk ?_
  case ho => k_is
  case hcd => k_is
  case hbind => exact binds_K X rfl (by k_is) rfl rfl rfl
  case hgen => rfl
  case hpk => rfl
  case fo => exact FnOk.of (by decide +kernel)
  intro L A' s' hA' hL st os' gs'
  refine W1.then (W1.assign (pv := .lst .own []) 1 rfl (Ev.ifexp (b := false) (Tv.cmp (Ev.nmS 1 rfl rfl) Ev.cnone Cm2.notNoneN rfl) (fun h => nomatch h) (fun _ => Ev.list (xs := []) EvA.nil (by decide))) (.inl rfl) (fun _ => rfl)) hA' st fun s₁ st₁ os₁ g₁ => ?_
  refine W1.then (W1.ite (c := false) (Tv.cmp (a := .val (.type "list")) (b := .val (.type "list")) (Ev.callB (by decide) (noG_type w) boot_type (by decide) (by decide) (.inr ⟨_, rfl⟩) (EvA.one (Ev.nmO 1 rfl rfl)) CallOk.typeL rfl rfl) (Ev.boot (noG_list w) boot_list (by decide) (by decide)) (Cm2.isNotV rfl) rfl) (fun h => nomatch h) (fun _ => W.nil)) hA' st₁ fun s₂ st₂ os₂ g₂ => ?_
  obtain ⟨ρ, so⟩ := id st₂
  have hsz : s.heap.objs.size = h.objs.size + 1 + 1 := by rw [hs, Heap.size_push, Heap.size_push]
  have dx0 : s.heap.get? h.objs.size = some emptyDict := by rw [hs]; exact Heap.get?_push_of_some _ (Heap.get?_push_size _ rfl)
  have xx0 : s.heap.get? (h.objs.size + 1) = some (instObj 184 h.objs.size) := by rw [hs, ← Heap.size_push h emptyDict]; exact Heap.get?_push_size _ rfl
  have none_ : ∀ a : Nat, h.objs.size ≤ a → h.get? a = none := fun a ha => by
    cases e : h.get? a with
    | none => rfl
    | some o' => exact absurd (Heap.lt_size e) (Nat.not_lt.mpr ha)
  have noneS : ∀ a : Nat, s.heap.get? a = none → h.get? a = none := fun a ha => by
    cases e : h.get? a with
    | none => rfl
    | some o' => rw [k0 _ _ e] at ha; cases ha
  obtain ⟨hbh, vs2, hp2, ha2⟩ := so.own (k := 1) (nm := Str.ofString "headers") (b := false) (l := []) rfl rfl
  cases ha2
  have hr1 : s.heap.get? (ρ 1) = none := so.rn 1 _ rfl rfl
  obtain ⟨vv, hbs, hvs, _⟩ := so.var 0 (Str.ofString "self") false _ rfl rfl (fun h => nomatch h)
  have hvs := hvs.1
  change vv = .ref (h.objs.size + 1) at hvs
  subst hvs
  have kS : KeepA s.heap s₂.heap := fun a o e => so.bk a o e
  obtain ⟨m, hns, hm0⟩ := so.F.lns
  have hmh : m (Str.ofString "headers") = some (.ref (ρ 1)) := by
    obtain ⟨_, m', n', e'⟩ := hbh
    rw [hns.agree n']; exact e'
  have F : Fr h L s₂.heap m := ⟨hns, k0.trans kS, by have := hL; omega⟩
  obtain ⟨nl, hl2⟩ := id hp2
  have hLl : L ≠ ρ 1 := fun e => by
    obtain ⟨o, es, ep, ho, hd, _⟩ := hns
    rw [show (envOfC (Str.ofString "Headers.__init__") _ L 76 _).locals = ρ 1 from e, hl2] at ho
    cases ho; cases hd
  refine wpAny_execs_cons (plainObj_wpAny_Assign_Attribute (wpAny_Name (wp_bound so.eo.kind hbh (wpAny_Name (wp_bound so.eo.kind hbs ?_) rfl)) rfl) rfl)
  have nx : h.objs.size + 1 ≠ L := by have := hL; omega
  have nd : h.objs.size ≠ L := by have := hL; omega
  have nlx : ρ 1 ≠ h.objs.size + 1 := fun e => by rw [e, xx0] at hr1; cases hr1
  have nld : ρ 1 ≠ h.objs.size := fun e => by rw [e, dx0] at hr1; cases hr1
  refine set_dict (news := [(h.objs.size, dictOf [] 0), (h.objs.size + 1, instObj 184 h.objs.size), (ρ 1, { cls := .type "list", dict := none, data := .seq #[] nl, slots := #[] })]) F g0.K ?hN (I := ⟨kS _ _ xx0, rfl, rfl, kS _ _ dx0⟩) rfl (hd_setattr w) (hd_over w) (hd_taker w) (hd_hasd w) rfl rfl (.head ?hU) (show 1 ≤ 1000 by decide) ?_
  case hN =>
    intro p hp
    simp only [List.mem_cons, List.not_mem_nil, or_false] at hp
    rcases hp with rfl | rfl | rfl
    · exact ⟨kS _ _ dx0, nd, none_ _ (Nat.le_refl _)⟩
    · exact ⟨kS _ _ xx0, nx, none_ _ (Nat.le_succ _)⟩
    · exact ⟨hl2, Ne.symm hLl, noneS _ hr1⟩
  case hU =>
    intro p hp
    simp only [List.mem_cons, List.not_mem_nil, or_false] at hp
    rcases hp with rfl | rfl
    · exact Nat.succ_ne_self _
    · exact nld
  intro h3 F3 N3
  have d3 := (N3 _ (List.mem_cons_self ..)).1
  have x3 := (N3 _ (List.mem_cons_of_mem _ (List.mem_cons_self ..))).1
  have l3 := (N3 _ (List.mem_cons_of_mem _ (List.mem_cons_of_mem _ (List.mem_cons_self ..)))).1
  have g3 : Glob w h3 := g0.keep F3.keep
  refine wpAny_execs_cons (wpAny_If ((Tv.val (prog := P0) (w := w) (n := n) (cx := ⟨[], []⟩) (vals := []) Ev.cbool Tr.bool rfl) A' _ _ _ hA' g3 ⟨⟨so.eo.kind, so.eo.glo, so.eo.bui, (fun _ h => nomatch h), (fun _ h => nomatch h)⟩, (fun i x b pv h1 h2 => nomatch h2)⟩ fun s4 x4 => ?_))
  have hl4 : s4.heap.IsList (ρ 1) #[] := ⟨_, x4.keep _ _ l3, rfl, nl, rfl⟩
  refine wpAny_execs_cons (wpAny_For (wpAny_Name (wpAny_loadName_local so.eo.kind (so.F.loc (Str.ofString "headers") (by decide)) (F3.ns.keeps x4.keep) hmh ?_) rfl) (fun _ => rfl))
  refine wpAny_pyIter_list hl4 ?_
  refine forLoopU (fun m s' => m = 0 ∧ s' = { s4 with heap := s4.heap.push _ }) ?_ 0 ⟨rfl, rfl⟩
  rintro _ _ ⟨rfl, rfl⟩
  refine wpAny_pyNext_list_end hA'.hd ⟨_, Heap.get?_push_size _ rfl, rfl, rfl⟩ (hl4.at fun o e => Heap.get?_push_of_some _ e) rfl fun h5 x5 => ?_
  refine wpAny_execs_nil (wpAny_execs_nil ?_)
  have k5 : ∀ a o, s4.heap.get? a = some o → h5.get? a = some o := fun a o e => x5 a o (Nat.ne_of_lt (Heap.lt_size e)) (Heap.get?_push_of_some _ e)
  refine q _ (ρ 1) (fun a o e => k5 _ _ (x4.keep _ _ (F3.keep _ _ e))) ⟨k5 _ _ (x4.keep _ _ x3), _, _, k5 _ _ (x4.keep _ _ d3)⟩ ⟨nl, k5 _ _ (x4.keep _ _ l3)⟩ (noneS _ hr1) ?_ ?_
  · exact x4.os.trans (os₂.trans (os₁.trans os'))
  · exact GX.trans (GX.trans (gs' ▸ g₁) g₂) x4.gens
theorem Fresh_hdr {s s' : Shared} {x dx lh : Addr} {l : List (Str × Str)} (r : HdrRaw s'.heap x dx lh) (h1 : s.heap.get? x = none) (h2 : s.heap.get? dx = none) (h3 : s.heap.get? lh = none) : Fresh (.hdr .own l) s s' (.ref x) := by
  intro x' dx' lh' e r'
  cases e
  obtain ⟨rfl, rfl⟩ := r.uniq r'
  exact ⟨h1, h2, h3⟩
theorem mk_ok {w : World} {n : Nat} : CallOk P0 w (n + 3) (.ref 184) [] (.hdr .own []) := by
  intro A s Q E vs hA g r q
  cases r
  refine wpAny_call ?_
  obtain ⟨h, gg, d, t, os⟩ := s
  refine make_core (makes_of g.K (hd_mk w)) (looks_findIn g.K (hd_init w)) (fun self => bind_fn g.K self (hd_fn76 w)) (.inl rfl) ?_
  refine init_ok (n := n) (h := h) ?_ rfl g fun s' lh k hr hp hn ho hg => ⟨rfl, ?_⟩
  · have h1 := hA.hd
    have h2 := hA.dp
    have h3 := hA.un
    have w1 : (Code.builtin "type.__call__" ⟨[.ref 184], []⟩).weight ≤ 2 := by decide +kernel
    have w2 : (Code.builtin "type.__call__" ⟨[.ref 184], []⟩).cUnits ≤ 20 := by decide +kernel
    exact ⟨h1, by show A.depth + (Code.builtin "type.__call__" ⟨[.ref 184], []⟩).weight + (n + 1) < _; omega, by show A.units + (Code.builtin "type.__call__" ⟨[.ref 184], []⟩).cUnits + 10 * (n + 1) + 100 < _; omega⟩
  · have none_ : ∀ a : Nat, h.objs.size ≤ a → h.get? a = none := fun a ha => by
      cases e : h.get? a with
      | none => rfl
      | some o' => exact absurd (Heap.lt_size e) (Nat.not_lt.mpr ha)
    exact q _ s' ⟨k, ho, hg⟩ ⟨_, _, lh, rfl, hr, [], hp, .nil⟩ (Fresh_hdr hr (none_ _ (Nat.le_succ _)) (none_ _ (Nat.le_refl _)) hn)
end Mine
end
section
open PySem PySem.W PyProof.Rows PySem.Calls PySem.Spec
set_option Elab.async false
set_option maxRecDepth 100000
set_option maxHeartbeats 8000000
set_option linter.unusedVariables false
set_option genSizeOf false
namespace Mine
theorem All2.three {α β : Type} {P : α → β → Prop} {as : List α} {b c d : β} (h : All2 P as [b, c, d]) : ∃ a a' a'', as = [a, a', a''] ∧ P a b ∧ P a' c ∧ P a'' d := by
  cases h with
  | cons h t => obtain ⟨a', a'', rfl, h', h''⟩ := t.two; exact ⟨_, _, _, rfl, h, h', h''⟩
noncomputable def hdrL (P : List (Nat × Nat)) : List (Str × Str) := P.map fun p => (⟨#[p.1]⟩, ⟨#[p.2]⟩)
noncomputable def lowN (c : Nat) : Nat := if 65 ≤ c ∧ c ≤ 90 then c + 32 else c
theorem low_ok : ∀ c ∈ nmChars, Txt.lower ⟨#[c]⟩ = ⟨#[lowN c]⟩ := by
  intro c hc
  simp only [nmChars, List.mem_cons, List.not_mem_nil, or_false] at hc
  rcases hc with rfl | rfl | rfl | rfl | rfl | rfl | rfl | rfl | rfl | rfl | rfl | rfl | rfl | rfl | rfl | rfl | rfl | rfl | rfl | rfl <;> decide +kernel
theorem lowN_mem : ∀ c ∈ nmChars, lowN c ∈ nmChars := by decide
noncomputable def getP (P : List (Nat × Nat)) (c d : Nat) : Nat := match P.find? (fun p => lowN p.1 == lowN c) with
  | some p => p.2
  | none => d
theorem ch_eq (a b : Nat) : ((⟨#[a]⟩ : Str) == ⟨#[b]⟩) = decide (a = b) := by
  by_cases h : a = b
  · subst h; simp
  · rw [decide_eq_false h]
    refine beq_eq_false_iff_ne.mpr fun e => h ?_
    injection e with e
    simpa using e
section
variable {prog : Program} {w : World} {n : Nat} {env cenv : Env} {cx : Cx} {vals : List V}
theorem CallOk.lower {c : Nat} (hc : c ∈ nmChars) : CallOk prog w n (.builtin "str.lower") [.s (.str ⟨#[c]⟩)] (.s (.str ⟨#[lowN c]⟩)) := by
  intro A s Q E vs hA g r q
  obtain ⟨v, rfl, t, rfl⟩ := r.one
  have e := low_ok c hc
  refine SC.lower ?_ ?_
  · rw [e]; rfl
  · rw [e]; exact q _ _ (Ext.tok s _) ⟨_, rfl⟩ (.no rfl)
theorem AsW.spair {x y : Str} {px py p' : Pos} {kk : Nat} {b c : Bool} {a1 a2 : Str} (k1 k2 : Nat) (hx : cx.ns[k1]? = some (x, b)) (hy : cx.ns[k2]? = some (y, c)) :
    AsW prog w n env cx (.Tuple [.Name x px, .Name y py] kk p') vals (.spair a1 a2) ((vals.set k1 (.s (.str a1))).set k2 (.s (.str a2))) := fun A s Q E v base ρ hA st hr q => by
  obtain ⟨t, ta, tb, rfl, ht⟩ := hr
  refine wpAny_assign_Tuple hA.hd ht rfl rfl fun h₂ hb₂ => ?_
  have kA : KeepA s.heap h₂ := fun b o e => hb₂ b o (fun e' => by subst e'; exact Nat.lt_irrefl _ (Heap.lt_size e)) e
  have st2 := st.keep kA
  show wpAny _ _ (do holding [Value.str a2 tb] (PySem.assign (.Name x px) env (.str a1 ta)); assignInOrder [PySem.assign (.Name y py) env] [.str a2 tb]) _ _ _
  refine wpAny_bind (wpAny_holding (wpAny_assign_Name ?_))
  refine StO.store (s := { s with heap := h₂ }) st2 hx (pv := .s (.str a1)) ⟨ta, rfl⟩ (.inr (.inl rfl)) (fun h => nomatch h) fun h₃ tk₃ k₃ st₃ => ?_
  show wpAny _ _ (do holding [] (PySem.assign (.Name y py) env (.str a2 tb)); assignInOrder [] []) _ _ _
  refine wpAny_bind (wpAny_holding (wpAny_assign_Name ?_))
  obtain ⟨ρ₃, st₃⟩ := st₃
  refine StO.store (s := { s with heap := h₃, toks := tk₃ }) st₃ hy (pv := .s (.str a2)) ⟨tb, rfl⟩ (.inr (.inl rfl)) (fun h => nomatch h) fun h₄ tk₄ k₄ st₄ => ?_
  exact wpAny_pure (q _ _ (fun b o nb e => k₄ b o nb (k₃ b o nb (kA b o e))) st₄)
/-- the iterator of a list whose items are known at a base -/
theorem itr_list {prog : Program} {w : World} {l : List S} {h : Heap} {a : Addr} {vs : List Value} (hne : a ≠ h.objs.size) (hp : h.PlainList a vs.toArray) (x : All2 (RepS h) vs l) :
    ItR prog w true (.ref a) h h.objs.size l [h.objs.size, a] (fun i v => vs.toArray[i]? = some v) (fun i h' => h'.IsListIter h.objs.size a i ∧ h'.IsList a vs.toArray) := by
  refine ⟨fun A' hh => ?_, fun b hb => ?_, fun _ i h st => ⟨a, st.1⟩, fun i h st => ?_, fun i v it hi hp => ?_⟩
  · have := Walks.list (prog := prog) (w := w) hh h.objs.size a hne vs.toArray
    have e : vs.toArray.size = l.length := by rw [List.size_toArray, x.length]
    rw [e] at this
    exact this
  · simp at hb
    rcases hb with rfl | rfl
    · exact .inl rfl
    · obtain ⟨m, ho⟩ := hp; exact .inr ⟨rfl, rfl, _, ho⟩
  · obtain ⟨⟨o, ho, hc, hd⟩, _⟩ := st
    exact ⟨o, _, ho, hd, by rw [hc]; decide⟩
  · obtain ⟨it', h1, h2⟩ := x.get' (i := i) (a := v) (by simpa using hp)
    rw [hi] at h1; cases h1; exact h2
end
theorem find_first {α : Type} (p : α → Bool) : ∀ (l : List α), (l.find? p = none ∧ ∀ (i : Nat) (x : α), l[i]? = some x → p x = false) ∨ ∃ (m : Nat) (x : α), l[m]? = some x ∧ p x = true ∧ l.find? p = some x ∧ m < l.length ∧ ∀ (i : Nat) (y : α), i < m → l[i]? = some y → p y = false
  | [] => .inl ⟨rfl, fun i x h => by simp at h⟩
  | a :: r => by
    by_cases h : p a = true
    · exact .inr ⟨0, a, rfl, h, by rw [List.find?_cons_of_pos h], by simp, fun i y hi => by omega⟩
    · rcases find_first p r with ⟨h1, h2⟩ | ⟨m, x, h1, h2, h3, h4, h5⟩
      · refine .inl ⟨by rw [List.find?_cons_of_neg h]; exact h1, fun i x hx => ?_⟩
        cases i with
        | zero => cases hx; simpa using h
        | succ i => exact h2 i x (by simpa using hx)
      · refine .inr ⟨m + 1, x, by simpa using h1, h2, by rw [List.find?_cons_of_neg h]; exact h3, by simpa using h4, fun i y hi hy => ?_⟩
        cases i with
        | zero => cases hy; simpa using h
        | succ i => exact h5 i y (by omega) (by simpa using hy)
noncomputable def kvStep (v : List V) : S → List V
  | .spair a b => (v.set 3 (.s (.str a))).set 4 (.s (.str b))
  | _ => v
noncomputable abbrev nsG : List (Str × Bool) := [(Str.ofString "self", false), (Str.ofString "name", false), (Str.ofString "default", false), (Str.ofString "k", false), (Str.ofString "v", false)]
noncomputable abbrev valsG (x : Addr) (c d : Nat) : List V := [.val (.ref x), .s (.str ⟨#[lowN c]⟩), .s (.str ⟨#[d]⟩), .unset, .unset]
theorem get_loop {w : World} {n : Nat} {env : Env} (P : List (Nat × Nat)) (hP : ∀ p ∈ P, p.1 ∈ nmChars) {c d : Nat} (hc : c ∈ nmChars) {base : Addr → Option Obj} {A : Around} {s₂ : Shared} {Q : Flow → Shared → Prop} {E : Value → Shared → Prop} {x dx lh : Addr} {vs0 : List Value} {m0 : Nat}
    {pk pv pt ps pa p1 p2 p3 p4 p5 p6 p7 p8 p9 p10 p11 : Pos} (hA : Ok A n) (st₂ : StOk w base env ⟨nsG, []⟩ (valsG x c d) s₂.heap) (hr : ∀ h, BK base h → HdrRaw h x dx lh) (hp0 : base lh = some { cls := .type "list", dict := none, data := .seq vs0.toArray m0, slots := #[] })
    (ha0 : ∀ h, BK base h → All2 (RepS h) vs0 ((hdrL P).map fun p => .spair p.1 p.2)) (hl : (p2.endLine == p3.line) = true)
    (q : ∀ fl s', OutOk w base env ⟨nsG, []⟩ s₂ s' fl (.ret (.s (.str ⟨#[getP P c d]⟩))) → Q fl s') :
    wpAny (model P0 w) A (execs [.For (.Tuple [.Name (Str.ofString "k") pk, .Name (Str.ofString "v") pv] 0 pt) (.Attribute (.Name (Str.ofString "self") ps) (Str.ofString "_headers") pa)
      [.If (.Compare (.Call (.Attribute (.Name (Str.ofString "k") p1) (Str.ofString "lower") p2) [] [] p3) [.Eq] [.Name (Str.ofString "name") p4] p5) [.Return (some (.Name (Str.ofString "v") p6)) p7] [] p8] [] p9, .Return (some (.Name (Str.ofString "default") p10)) p11] env) Q E s₂ := by
  have bk := st₂.bk
  have hp2 : s₂.heap.PlainList lh vs0.toArray := ⟨m0, bk _ _ hp0⟩
  obtain ⟨ρ, so⟩ := id st₂
  obtain ⟨vv, hb₂, hv₂, _⟩ := so.var 0 (Str.ofString "self") false _ rfl rfl (fun h => nomatch h)
  have hv₂ := hv₂.1
  change vv = .ref x at hv₂
  subst hv₂
  have hne : lh ≠ s₂.heap.objs.size := Nat.ne_of_lt (Heap.lt_size (bk _ _ hp0))
  have bI : base s₂.heap.objs.size = none := by
    cases hb : base s₂.heap.objs.size with
    | none => rfl
    | some o => have := bk _ _ hb; rw [size_none] at this; cases this
  have tI : ¬ Tch env nsG s₂.heap.objs.size := fun t => by
    obtain ⟨o, ho, _⟩ := so.tch_lt t
    rw [size_none] at ho; cases ho
  refine wpAny_execs_cons (wpAny_For (eval_headers so.eo.kind hb₂ st₂.g (hr _ bk) rfl ?_) (fun _ => rfl))
  refine wpAny_pyIter_list (s := { s₂ with toks := s₂.toks + 1 }) hp2.isList ?_
  have hF : ∀ h, BK base h → ∀ (i : Nat) v it, ((hdrL P).map fun p => S.spair p.1 p.2)[i]? = some it → vs0.toArray[i]? = some v → RepS h v it := fun h bk i v it hit hv => by
    obtain ⟨it', h1, h2⟩ := (ha0 h bk).get' (i := i) (a := v) (by simpa using hv)
    rw [hit] at h1; cases h1
    exact h2
  have IR := itr_list (prog := P0) (w := w) hne hp2 (ha0 _ bk)
  have hst : (fun i (h' : Heap) => h'.IsListIter s₂.heap.objs.size lh i ∧ h'.IsList lh vs0.toArray) 0 (s₂.heap.push { cls := .type "list_iterator", data := .fields #[.ref lh, .int 0 0] }) := ⟨⟨_, Heap.get?_push_size _ rfl, rfl, rfl⟩, hp2.isList.at fun o e => Heap.get?_push_of_some _ e⟩
  have st3 := st₂.keep (KeepA.push s₂.heap { cls := .type "list_iterator", data := .fields #[.ref lh, .int 0 0] })
  let f : Nat → List V := fun _ => valsG x c d
  have hlen : ((hdrL P).map fun p => S.spair p.1 p.2).length = P.length := by unfold hdrL; rw [List.length_map, List.length_map]
  have hget : ∀ (i : Nat) it, ((hdrL P).map fun p => S.spair p.1 p.2)[i]? = some it → ∃ p, P[i]? = some p ∧ it = .spair ⟨#[p.1]⟩ ⟨#[p.2]⟩ := fun i it h => by
    unfold hdrL at h
    rw [List.getElem?_map, List.getElem?_map] at h
    cases hq : P[i]? with
    | none => rw [hq] at h; cases h
    | some p => rw [hq] at h; cases h; exact ⟨p, rfl, rfl⟩
  have as : ∀ (i : Nat) it, ((hdrL P).map fun p => S.spair p.1 p.2)[i]? = some it → AsW P0 w n env ⟨nsG, []⟩ (.Tuple [.Name (Str.ofString "k") pk, .Name (Str.ofString "v") pv] 0 pt) (f i) it (kvStep (f i) it) := fun i it h => by
    obtain ⟨p, hp, rfl⟩ := hget i it h
    exact AsW.spair 3 4 rfl rfl
  have tst : ∀ p : Nat × Nat, p.1 ∈ nmChars → Tv P0 w n env ⟨nsG, []⟩ (kvStep (valsG x c d) (.spair ⟨#[p.1]⟩ ⟨#[p.2]⟩)) (.Compare (.Call (.Attribute (.Name (Str.ofString "k") p1) (Str.ofString "lower") p2) [] [] p3) [.Eq] [.Name (Str.ofString "name") p4] p5) (lowN p.1 == lowN c) := fun p hp => by
    have := Tv.cmp (prog := P0) (w := w) (n := n) (env := env) (cx := ⟨nsG, []⟩) (vals := kvStep (valsG x c d) (.spair ⟨#[p.1]⟩ ⟨#[p.2]⟩)) (p := p5) (Ev.meth0 F.plainAttrs_str F.slot_str_lower F.type_str_lower (Ev.nmS (p := p1) 3 rfl rfl) recv_str (CallOk.lower hp) rfl hl) (Ev.nmS (p := p4) 1 rfl rfl) Cm2.eqS rfl
    rw [ch_eq] at this
    refine this.eq ?_
    by_cases h : lowN p.1 = lowN c <;> simp [h]
  rcases find_first (fun p : Nat × Nat => lowN p.1 == lowN c) P with ⟨hn, hno⟩ | ⟨m, p, hm, hp, hf, hml, hbe⟩
  · refine for_core (prog := P0) (w := w) (n := n) (f := f) (g := kvStep) (m := P.length) (o := .next (valsG x c d)) IR hA (.inr ⟨rfl, _, _, _, rfl⟩) as (Nat.le_of_eq hlen.symm) (fun i it hi hit => ?_) (.inl ⟨hlen.symm, rfl⟩) bI tI ?_ hF hst st3 ?_
    · obtain ⟨p, hp, rfl⟩ := hget i it hit
      refine W.mapNext (v := kvStep (f i) (.spair ⟨#[p.1]⟩ ⟨#[p.2]⟩)) (W.one (W1.ite (c := false) ((tst p (hP p (mem_get hp))).eq (hno i p hp)) (fun h => nomatch h) (fun _ => W.nil))) (fun base h x => (x.forget 3).forget 4)
    · intro y hy
      simp at hy
      rcases hy with rfl | rfl
      · exact .inl rfl
      · exact .inr ⟨_, hp0⟩
    · intro fl s' o'
      obtain ⟨rfl, st', os', g'⟩ := o'.next'
      refine W.one (W1.ret (Ev.nmS 2 rfl rfl)) A s' _ _ base hA st' fun fl s'' o'' => q fl s'' ?_
      have := o''.back os' g'
      unfold getP; rw [hn]; exact this
  · refine for_core (prog := P0) (w := w) (n := n) (f := f) (g := kvStep) (m := m) (o := .ret (.s (.str ⟨#[p.2]⟩))) IR hA (.inr ⟨rfl, _, _, _, rfl⟩) as (by rw [hlen]; omega) (fun i it hi hit => ?_) (.inr ⟨.spair ⟨#[p.1]⟩ ⟨#[p.2]⟩, .ret (.s (.str ⟨#[p.2]⟩)), ?_, ?_, .inr ⟨_, rfl, rfl⟩⟩) bI tI ?_ hF hst st3 ?_
    · obtain ⟨p', hp', rfl⟩ := hget i it hit
      refine W.mapNext (v := kvStep (f i) (.spair ⟨#[p'.1]⟩ ⟨#[p'.2]⟩)) (W.one (W1.ite (c := false) ((tst p' (hP p' (mem_get hp'))).eq (hbe i p' hi hp')) (fun h => nomatch h) (fun _ => W.nil))) (fun base h x => (x.forget 3).forget 4)
    · unfold hdrL; rw [List.getElem?_map, List.getElem?_map, hm]; rfl
    · refine W.one (W1.ite (c := true) ((tst p (hP p (mem_get hm))).eq hp) (fun _ => W.one (W1.ret (Ev.nmS 4 rfl rfl))) (fun h => nomatch h))
    · intro y hy
      simp at hy
      rcases hy with rfl | rfl
      · exact .inl rfl
      · exact .inr ⟨_, hp0⟩
    · intro fl s' o'
      have e : getP P c d = p.2 := by unfold getP; rw [hf]
      obtain ⟨a1, a2, a3⟩ := o'
      cases fl with
      | ret v => exact q _ _ ⟨a1, a2, by rw [e]; exact a3⟩
      | _ => exact a3.elim
theorem get_ok {w : World} {n : Nat} (P : List (Nat × Nat)) (hP : ∀ p ∈ P, p.1 ∈ nmChars) {c d : Nat} (hc : c ∈ nmChars) : CallOk P0 w (n + 2) (.ref 131) [.hdr .arg (hdrL P), .s (.str ⟨#[c]⟩), .s (.str ⟨#[d]⟩)] (.s (.str ⟨#[getP P c d]⟩)) := by
  intro A s Q E vs hA g r q
  have X := g.K
  unfold P0
  revert X; k_fill; intro X
  obtain ⟨v0, v1, v2, rfl, r0, r1, r2⟩ := r.three
  obtain ⟨x, dx, lh, rfl, hr, hl⟩ := r0
  obtain ⟨t1, rfl⟩ := r1
  obtain ⟨t2, rfl⟩ := r2
  refine' entry_okA (n := n + 1) (args := ⟨[.ref x, .str ⟨#[c]⟩ t1, .str ⟨#[d]⟩ t2], []⟩) (vs := [.ref x, .str ⟨#[c]⟩ t1, .str ⟨#[d]⟩ t2]) (pvs := [.val (.ref x), .s (.str ⟨#[c]⟩), .s (.str ⟨#[d]⟩)])
    (ns := [(Str.ofString "self", false), (Str.ofString "name", false), (Str.ofString "default", false), (Str.ofString "k", false), (Str.ofString "v", false)]) (gs := []) (pn := [Str.ofString "self", Str.ofString "name", Str.ofString "default"]) X hA g
    (.cons rfl (.cons ⟨t1, rfl⟩ (.cons ⟨t2, rfl⟩ .nil))) (fun v s' x r' => q v s' x r' (.no rfl)) rfl rfl ?ho ?hcd ?hbind ?hgen ?fo ?hpk ?_
  case ho => k_is
  case hcd => k_is
  case hbind => exact binds_K X rfl (by k_is) rfl rfl rfl
  case hgen => rfl
  case hpk => rfl
  case fo => exact FnOk.of (by decide +kernel)
  intro L' A' s' Q' E' hA' st q'
  have hrb : ∀ h, BK (fun a => s.heap.get? a) h → HdrRaw h x dx lh := fun h bk => hr.keep fun a o e => bk a o e
  refine assign_then (pv := .s (.str ⟨#[lowN c]⟩)) 1 rfl (Evb.conv true (lowN_mem c hc) (Ev.nmV 0 rfl rfl) hrb (Ev.meth0 F.plainAttrs_str F.slot_str_lower F.type_str_lower (Ev.nmS 1 rfl rfl) recv_str (CallOk.lower hc) rfl rfl) rfl rfl rfl) (.inr (.inl rfl)) (fun _ => rfl) hA' st fun s₂ st₂ os₂ g₂ => ?_
  obtain ⟨vs0, hp0, ha0⟩ := hl
  obtain ⟨m0, hp0⟩ := hp0
  exact get_loop P hP hc (x := x) (dx := dx) (lh := lh) hA' st₂ hrb hp0 (fun h bk => ha0.mono fun _ _ y => RepS.keep (KeepA.toT fun a o e => bk a o e) y) rfl fun fl s' o => q' fl s' (o.back os₂ g₂)
end Mine
end
section
open PySem PySem.W PyProof.Rows PySem.Calls PySem.Spec
set_option Elab.async false
set_option maxRecDepth 100000
set_option maxHeartbeats 8000000
set_option linter.unusedVariables false
set_option genSizeOf false
namespace Mine
section
variable {w : World} {n : Nat} {env : Env} {cx : Cx} {vals : List V}
theorem Ev.hget {o e1 e2 : Expr} {fl : Fl} {P : List (Nat × Nat)} {apos pos : Pos} {c d : Nat} (hP : ∀ p ∈ P, p.1 ∈ nmChars) (hc : c ∈ nmChars) (ho : Ev P0 w (n + 2) env cx vals o (.hdr fl (hdrL P))) (ha : EvA P0 w (n + 2) env cx vals pos [e1, e2] [.s (.str ⟨#[c]⟩), .s (.str ⟨#[d]⟩)])
    (hb : attributeBase o (Str.ofString "get") env (eval o env) = eval o env) (hf : methodCallForm ([e1, e2].length + ([] : List Keyword).length) (backTo pos (starEach [e1, e2] env)) (backToKw pos (keywordEach [] env)) = true) (hl : (apos.endLine == pos.line) = true)
    (he : starEach [e1, e2] env = (false, eval e1 env) :: starEach [e2] env) (hp : (backTo pos (starEach [e2] env)).any (·.1) = false) :
    Ev P0 w (n + 2) env cx vals (.Call (.Attribute o (Str.ofString "get") apos) [e1, e2] [] pos) (.s (.str ⟨#[getP P c d]⟩)) := by
  intro A s Q E hA g re q
  refine Call_meth hb hf hl (ho A s _ _ hA g re fun v s₁ x₁ r₁ _ pl => ?_)
  obtain ⟨x, dx, lh, rfl, hr, hl⟩ := r₁
  refine hdr_method (g.keep x₁.keep) hr (hd_get w) (hd_fn131 w) hd_sh131 ?_
  refine callWith_K (h₀ := s₁.heap) (g.keep x₁.keep).K (hd_k131 w) (ha A s₁ _ _ hA (g.keep x₁.keep) (re.keep x₁.keep) fun vs s₂ x₂ r₂ => ⟨(g.keep (x₁.trans x₂).keep).K, ?_⟩) he hp
  have hl2 : RepL s₂.heap lh ((hdrL P).map fun p => .spair p.1 p.2) := hl.keep x₂.keep.toT fun o e => x₂.keep _ o e
  exact get_ok P hP hc A s₂ _ _ _ hA (g.keep (x₁.trans x₂).keep) (.cons ⟨x, dx, lh, rfl, hr.keep x₂.keep, hl2⟩ r₂) fun v s₃ x₃ r₃ f₃ => q v s₃ ((x₁.trans x₂).trans x₃) r₃ (.no rfl)
theorem Off_hdr_mut {L : Addr} {h h' : Heap} {v : Value} {o o' : Fl} {l l' : List (Str × Str)} {a : Addr} {its : Array Value} (hl : h.IsList a its) (sb : Heap.SameBut a h h') (r : ∃ x dx lh, v = .ref x ∧ HdrRaw h x dx lh) (off : Off L h v (.hdr o l)) : Off L h' v (.hdr o' l') := by
  obtain ⟨x, dx, lh, e, r⟩ := r
  intro x' dx' lh' e' r'
  rw [e] at e'; cases e'
  have := ((r.mut hl sb).uniq r').1
  subst this
  exact off x dx lh e r
theorem W1.add {x : Str} {px apos cpos epos : Pos} {e1 e2 : Expr} {P : List (Nat × Nat)} {a b : Nat} {bo : Bool} (k : Nat) (hx : cx.ns[k]? = some (x, bo)) (hk : vals[k]? = some (.hdr .own (hdrL P))) (hd' : (x == ("__debug__" : Str)) = false) (ha : a ∈ nmChars) (hb : b ∈ vlChars) (hlen : P.length < 2 ^ 20)
    (h : EvA P0 w (n + 2) env cx vals cpos [e1, e2] [.s (.str ⟨#[a]⟩), .s (.str ⟨#[b]⟩)]) (hbase : attributeBase (.Name x px) (Str.ofString "add_header") env (eval (.Name x px) env) = eval (.Name x px) env)
    (hf : methodCallForm ([e1, e2].length + ([] : List Keyword).length) (backTo cpos (starEach [e1, e2] env)) (backToKw cpos (keywordEach [] env)) = true) (hline : (apos.endLine == cpos.line) = true)
    (he : starEach [e1, e2] env = (false, eval e1 env) :: starEach [e2] env) (hp : (backTo cpos (starEach [e2] env)).any (·.1) = false)
    (hs : swapsWith (.Call (.Attribute (.Name x px) (Str.ofString "add_header") apos) [e1, e2] [] cpos) none epos.line env = pure false) :
    W1 P0 w (n + 2) env cx vals (.Expr (.Call (.Attribute (.Name x px) (Str.ofString "add_header") apos) [e1, e2] [] cpos) epos) (.next (vals.set k (.hdr .own (hdrL (P ++ [(a, b)]))))) := fun A s Q E base hA ⟨ρ, st⟩ q => by
  refine wpAny_Expr ?_ (interactive_false st.eo.kind) hs
  obtain ⟨v, hb', hr, _⟩ := st.var k x bo _ hx hk (fun h => nomatch h)
  obtain ⟨⟨y, dx, lh, e, hr1, hl1⟩, y', dx', e', hr2⟩ := hr
  subst e; cases e'
  obtain ⟨rfl, rfl⟩ := hr1.uniq hr2
  refine Call_meth hbase hf hline (wpAny_Name (wp_bound st.eo.kind hb' fun pl => ?_) hd')
  refine hdr_method st.g hr1 (hd_add w) (hd_fn181 w) hd_sh181 ?_
  refine callWith_K (h₀ := s.heap) st.g.K (hd_k181 w) (h A s _ _ hA st.g st.rep fun vs s₁ x₁ r₁ => ⟨(st.g.keep x₁.keep).K, ?_⟩) he hp
  obtain ⟨v1, v2, rfl, ⟨t1, rfl⟩, ⟨t2, rfl⟩⟩ := r₁.two
  have hl2 : RepL s₁.heap (ρ k) ((hdrL P).map fun p => .spair p.1 p.2) := hl1.keep x₁.keep.toT fun o e => x₁.keep _ o e
  refine add_ok ha hb hA (st.g.keep x₁.keep) (hr1.keep x₁.keep) hl2 (by unfold hdrL; rw [List.length_map]; exact hlen) fun s' h1 vs vs' k1 sb p1 p2 a2 os' gs' => ?_
  have st1 := st.keep (x₁.keep.trans k1)
  refine q _ _ ⟨os'.trans x₁.os, x₁.gens.trans gs', ρ, st1.mut hk rfl rfl (PlainList.isList p1) sb (fun v r => ?_) (fun v r o => ?_)⟩
  · obtain ⟨⟨y2, dx2, lh2, e2, q1, _⟩, y3, dx3, e3, q2⟩ := r
    subst e2; cases e3
    obtain ⟨rfl, rfl⟩ := q1.uniq q2
    have kt := KeepT.of_list (PlainList.isList p1) sb
    have rr := q1.mut (PlainList.isList p1) sb
    refine ⟨⟨_, _, _, rfl, rr, vs', p2, ?_⟩, _, _, rfl, rr⟩
    have : (hdrL (P ++ [(a, b)])) = hdrL P ++ [((⟨#[a]⟩ : Str), (⟨#[b]⟩ : Str))] := by unfold hdrL; rw [List.map_append]; rfl
    rw [this]
    exact a2.mono fun _ _ y => y.keep kt
  · obtain ⟨⟨y2, dx2, lh2, e2, q1, _⟩, _⟩ := r
    exact Off_hdr_mut (PlainList.isList p1) sb ⟨_, _, _, e2, q1⟩ o
theorem isG_Headers (w : World) : nsIn (hd.heap_1 w.params) mainGlobals (Str.ofString "Headers") = some (some (.ref 184)) := by with_unfolding_all rfl
theorem kpG_Headers (w : World) : keepIn (hd.heap_1 w.params) (.ref 184) = true := by with_unfolding_all rfl
theorem Ev.mkHdr {p0 p : Pos} (hx : cx.gs.contains (Str.ofString "Headers") = true) : Ev P0 w (n + 3) env cx vals (.Call (.Name (Str.ofString "Headers") p0) [] [] p) (.hdr .own []) := by
  intro A s Q E hA g re q
  refine wpAny_Call_NameR (wp_glob re.eo g (List.contains_iff_mem.mp hx) (isG_Headers w) (by decide) (callWith_K0 g.K (kpG_Headers w) ?_))
  exact mk_ok A s _ _ [] hA g .nil fun v s₁ x₁ r₁ f₁ => q v s₁ x₁ r₁ f₁
end
end Mine
end
section
open PySem PySem.W PyProof.Rows PySem.Calls PySem.Spec
set_option Elab.async false
set_option maxRecDepth 100000
set_option maxHeartbeats 8000000
set_option linter.unusedVariables false
set_option genSizeOf false
namespace Mine
noncomputable def colP (R : List Nat) (k : Nat) : Nat := (((List.range 5).filter fun j => decide (R.getD j 0 >>> k &&& 1 ≠ 0)).map fun j => 32 <<< j).sum
noncomputable def seesP (R : List Nat) : List Nat := ((List.range 5).map fun k => colP R k) ++ R
noncomputable def nmI : List Nat := [66, 67, 68, 69, 70, 118, 119, 120, 121, 122]
noncomputable def lnI : List Nat := [98, 99, 100, 101, 102, 86, 87, 88, 89, 90]
noncomputable def waysF (sees left : List Nat) : List (Nat × Nat) := left.flatMap fun i => (left.filter fun h => decide (i ≠ h) && decide (sees.getD i 0 &&& sees.getD h 0 = sees.getD i 0)).map fun h => (i, h)
noncomputable abbrev FS := List Nat × List Nat × List (Nat × Nat)
noncomputable def stepF (st : FS) (pick : Nat) : FS :=
  if waysF st.1 st.2.1 = [] then st else
  let p := (waysF st.1 st.2.1).getD (pick % (waysF st.1 st.2.1).length) (0, 0)
  (st.1.map fun x => clr x (1 <<< p.1), st.2.1.erase p.1, st.2.2 ++ [(nmI.getD p.1 0, lnI.getD p.2 0)] ++ [(lnI.getD p.1 0, lnI.getD p.1 0)])
noncomputable def fsAt (R pk : List Nat) : Nat → FS
  | 0 => (seesP R, List.range 10, [])
  | i + 1 => stepF (fsAt R pk i) (pk.getD i 0)
noncomputable def foldedP (R picks : List Nat) : List (Nat × Nat) := (fsAt R (picks ++ picks) (picks ++ picks).length).2.2
structure FsOk (st : FS) : Prop where
  len : st.1.length = 10
  sub : ∀ x ∈ st.2.1, x < 10
  ll : st.2.1.length ≤ 10
  nm : ∀ p ∈ st.2.2, p.1 ∈ nmChars
theorem waysF_mem {sees left : List Nat} {p : Nat × Nat} (h : p ∈ waysF sees left) : p.1 ∈ left ∧ p.2 ∈ left ∧ p.1 ≠ p.2 ∧ sees.getD p.1 0 &&& sees.getD p.2 0 = sees.getD p.1 0 := by
  unfold waysF at h
  obtain ⟨i, hi, h⟩ := List.mem_flatMap.mp h
  obtain ⟨j, hj, rfl⟩ := List.mem_map.mp h
  obtain ⟨hj, hc⟩ := List.mem_filter.mp hj
  rw [Bool.and_eq_true, decide_eq_true_eq, decide_eq_true_eq] at hc
  exact ⟨hi, hj, hc⟩
theorem ways_pick {W : List (Nat × Nat)} (h : W ≠ []) (k : Nat) : W[k % W.length]? = some (W.getD (k % W.length) (0, 0)) ∧ W.getD (k % W.length) (0, 0) ∈ W := by
  have hl : k % W.length < W.length := Nat.mod_lt _ (List.length_pos_iff.mpr h)
  rw [List.getD_eq_getElem?_getD, List.getElem?_eq_getElem hl]
  exact ⟨rfl, List.getElem_mem hl⟩
theorem nmI_mem : ∀ i : Nat, i < 10 → nmI.getD i 0 ∈ nmChars ∧ lnI.getD i 0 ∈ nmChars ∧ lnI.getD i 0 ∈ vlChars := by decide
theorem nmI_str : ∀ i : Nat, i < 10 → (Str.ofString "BCDEFvwxyz").cps[i]? = some (nmI.getD i 0) ∧ (Str.ofString "bcdefVWXYZ").cps[i]? = some (lnI.getD i 0) := by decide +kernel
theorem FsOk.step {st : FS} (h : FsOk st) (pick : Nat) : FsOk (stepF st pick) := by
  unfold stepF
  split
  · exact h
  · rename_i hw
    obtain ⟨_, hm⟩ := ways_pick hw pick
    generalize (waysF st.1 st.2.1).getD (pick % (waysF st.1 st.2.1).length) (0, 0) = p at hm
    obtain ⟨h1, h2, _, _⟩ := waysF_mem hm
    have a := nmI_mem _ (h.sub _ h1)
    refine ⟨by simpa using h.len, fun x hx => h.sub x (List.mem_of_mem_erase hx), Nat.le_trans (List.length_erase_le) h.ll, fun q hq => ?_⟩
    rcases List.mem_append.mp hq with hq | hq
    · rcases List.mem_append.mp hq with hq | hq
      · exact h.nm q hq
      · cases List.mem_singleton.mp hq; exact a.1
    · cases List.mem_singleton.mp hq; exact a.2.1
theorem fsAt_ok {R pk : List Nat} (hR : R.length = 5) : ∀ i, FsOk (fsAt R pk i)
  | 0 => ⟨by show (seesP R).length = 10; unfold seesP; simp [hR], fun x hx => List.mem_range.mp hx, (by show (List.range 10).length ≤ 10; simp), fun p hp => nomatch hp⟩
  | i + 1 => (fsAt_ok hR i).step _
theorem fsAt_stop {R pk : List Nat} {m : Nat} (h : waysF (fsAt R pk m).1 (fsAt R pk m).2.1 = []) : ∀ N, m ≤ N → fsAt R pk N = fsAt R pk m
  | 0, hN => by cases Nat.le_zero.mp hN; rfl
  | N + 1, hN => by
    rcases Nat.lt_or_ge N m with hl | hl
    · have : m = N + 1 := by omega
      rw [this]
    · have ih := fsAt_stop h N hl
      show stepF (fsAt R pk N) _ = _
      rw [ih]
      unfold stepF
      rw [if_pos h]
theorem fsAt_first (R pk : List Nat) : ∀ N, ∃ m, m ≤ N ∧ (∀ i, i < m → waysF (fsAt R pk i).1 (fsAt R pk i).2.1 ≠ []) ∧ (m = N ∨ (m < N ∧ waysF (fsAt R pk m).1 (fsAt R pk m).2.1 = []))
  | 0 => ⟨0, Nat.le_refl _, fun i hi => by omega, .inl rfl⟩
  | N + 1 => by
    obtain ⟨m, h1, h2, h3⟩ := fsAt_first R pk N
    rcases h3 with rfl | ⟨h3, h4⟩
    · by_cases h : waysF (fsAt R pk m).1 (fsAt R pk m).2.1 = []
      · exact ⟨m, by omega, h2, .inr ⟨by omega, h⟩⟩
      · refine ⟨m + 1, by omega, fun i hi => ?_, .inl rfl⟩
        rcases Nat.lt_or_ge i m with q | q
        · exact h2 i q
        · have : i = m := by omega
          rw [this]; exact h
    · exact ⟨m, by omega, h2, .inr ⟨by omega, h4⟩⟩
theorem fsAt_plen {R pk : List Nat} : ∀ i, (fsAt R pk i).2.2.length ≤ 2 * i
  | 0 => Nat.le_refl _
  | i + 1 => by
    have ih := fsAt_plen (R := R) (pk := pk) i
    show (stepF _ _).2.2.length ≤ _
    unfold stepF
    split
    · omega
    · simp; omega
theorem ways_len {sees left : List Nat} (h : left.length ≤ 10) : (waysF sees left).length ≤ 100 := by
  unfold waysF
  have h1 : ∀ (l : List Nat) (f : Nat → List (Nat × Nat)) (m : Nat), (∀ x, (f x).length ≤ m) → (l.flatMap f).length ≤ l.length * m := by
    intro l f m h
    induction l with
    | nil => simp
    | cons a r ih => rw [List.flatMap_cons, List.length_append, List.length_cons, Nat.succ_mul]; have := h a; omega
  have := h1 left (fun i => (left.filter fun h => decide (i ≠ h) && decide (sees.getD i 0 &&& sees.getD h 0 = sees.getD i 0)).map fun h => (i, h)) 10 (fun x => by
    rw [List.length_map]
    exact Nat.le_trans (List.length_filter_le _ _) h)
  omega
noncomputable abbrev fvs (R picks : V) (st : FS) : List V := [R, picks, .lst .own (st.1.map .nat), .lst .own (st.2.1.map .nat), .hdr .own (hdrL st.2.2), .unset, .unset, .unset, .unset]
section
variable {prog : Program} {w : World} {n : Nat} {env : Env} {cx : Cx} {vals : List V}
theorem OutOk.brk' {base : Addr → Option Obj} {s s' : Shared} {fl : Flow} {v : List V} (x : OutOk w base env cx s s' fl (.brk v)) : fl = .brk ∧ StOk w base env cx v s'.heap ∧ s'.os = s.os ∧ GX s.gens s'.gens := by
  obtain ⟨a, b, c⟩ := x
  cases fl <;> first | exact ⟨rfl, c, a, b⟩ | exact c.elim
theorem W.mapBrk {st : List Stmt} {v v' : List V} (h : W prog w n env cx vals st (.brk v)) (hm : ∀ base h, StOk w base env cx v h → StOk w base env cx v' h) : W prog w n env cx vals st (.brk v') :=
  fun A s Q E base hA x q => h A s Q E base hA x fun fl s' o => by
    obtain ⟨rfl, st, os, g⟩ := o.brk'
    exact q _ _ ⟨os, g, hm _ _ st⟩
theorem W1.forBrk {iter : Expr} {body : List Stmt} {p px : Pos} {x : Str} {b : Bool} {pv : V} {isl : Bool} {L : List Nat} (k : Nat) (f : Nat → List V) (go : Nat → Bool) (m : Nat) (hx : cx.ns[k]? = some (x, b)) (he : Ev prog w n env cx (f 0) iter pv) (hio : IterOf prog w n isl pv (L.map .nat)) (hp : isl = false ∨ ∃ l, pv = .lst .own l)
    (hm : m ≤ L.length) (h : ∀ i a, L[i]? = some a → W prog w n env cx ((f i).set k (.s (.nat a))) body (if go i = true then .next (f (i + 1)) else .brk (f i)))
    (hgo : ∀ i, i < m → go i = true) (hend : m = L.length ∨ (m < L.length ∧ go m = false)) (hs : ∀ x, foldedSetIterable iter env x = pure x) :
    W1 prog w n env cx (f 0) (.For (.Name x px) iter body [] p) (.next (f m)) :=
  W1.forT f (fun v it => v.set k (.s it)) m he hio hp (simple_nats L) (.inl fun _ _ => rfl) (fun i it h => AsW.name hx) (by rw [List.length_map]; exact hm)
    (fun i it hi hit => by obtain ⟨a, rfl, ha⟩ := nat_item hit; have := h i a ha; rw [if_pos (hgo i hi)] at this; exact this)
    (by
      rcases hend with e | ⟨hl, hf⟩
      · exact .inl ⟨by rw [List.length_map]; exact e, rfl⟩
      · have ha : L[m]? = some L[m] := List.getElem?_eq_getElem hl
        have := h m _ ha
        rw [if_neg (by rw [hf]; decide)] at this
        exact .inr ⟨.nat L[m], _, by rw [List.getElem?_map, ha]; rfl, this, .inl ⟨_, rfl, rfl⟩⟩) hs
end
theorem folded_ok {w : World} {n : Nat} (R picks : List Nat) (hR : R.length = 5) (hp : picks.length = 5) : CallOk P0 w (n + 4) (.ref 248) [.lst .arg (R.map .nat), .lst .arg (picks.map .nat)] (.hdr .arg (hdrL (foldedP R picks))) := by
  intro A s Q E vs hA g r q
  have X := g.K
  unfold P0
  revert X; k_fill; intro X
  obtain ⟨v1, v2, rfl, r1, r2⟩ := r.two
  refine' entry_ok (n := n + 3) (ns := [(Str.ofString "rows", true), (Str.ofString "picks", false), (Str.ofString "sees", true), (Str.ofString "left", true), (Str.ofString "folds", false), (Str.ofString "pick", false), (Str.ofString "i", true), (Str.ofString "h", false), (Str.ofString "ways", false)]) (gs := [Str.ofString "range", Str.ofString "list", Str.ofString "len", Str.ofString "Headers"]) (pn := [Str.ofString "rows", Str.ofString "picks"]) X hA g r (fun v s' x r' => q v s' x r' (.no rfl)) rfl rfl ?ho ?hcd ?hbind ?hgen ?fo ?hpk ?_
  case ho => k_is
  case hcd => k_is
  case hbind => rfl
  case hgen => rfl
  case hpk => rfl
  case fo => exact FnOk.of (by decide +kernel)
  intro L'
  refine W.cons (W1.assign (pv := .lst .own ((seesP R).map .nat)) 2 rfl (Ev.eq (Ev.bin (b := .lst .arg (R.map .nat)) (Ev.comp1 (C1.mkN (b := true) (L := List.range 5) (oc := some (Str.ofString "k")) (caps := [(Str.ofString "rows", .lst .arg (R.map .nat))]) (gs := [Str.ofString "sum", Str.ofString "range"]) (fun _ => true) (fun k => .nat (colP R k)) (PC.of [0] rfl (fun _ _ => rfl) (fun _ => rfl) (.cons ⟨rfl, rfl, rfl⟩ .nil))
      (Ev.c_range (EvA.one Ev.cnat) (CallOk.rng (by decide))) IterOf.rng (fun cenv k hk => .nil)
      (fun cenv k hk _ => Ev.c_sum (EvA.one (Ev.comp1 (C1.eq (C1.mkN (b := false) (L := List.range 5) (oc := Option.none) (caps := [(Str.ofString "k", .s (.nat k)), (Str.ofString "rows", .lst .arg (R.map .nat))]) (gs := []) (fun j => decide (R.getD j 0 >>> k &&& 1 ≠ 0)) (fun j => .nat (32 <<< j)) (PC.of [0, 1] rfl (fun _ _ => rfl) (fun _ => rfl) (.cons ⟨rfl, rfl, rfl⟩ (.cons ⟨rfl, rfl, rfl⟩ .nil)))
            (Ev.c_range (EvA.one Ev.cnat) (CallOk.rng (by decide))) IterOf.rng
            (fun cenv j hj => .one (Tv.nz (Ev.bin (Ev.bin (Ev.sub (Ev.nmA 2 rfl rfl) (Ev.nmS 0 rfl rfl) (GetOk.nats (by rw [hR]; exact List.mem_range.mp hj) (by rw [hR]; decide)) (fun _ _ => rfl)) (Ev.nmS 1 rfl rfl) Op2.shr) Ev.cnat Op2.andN)))
            (fun cenv j hj hok => Ev.bin Ev.cnat (Ev.nmS 0 rfl rfl) (Op2.shl (by decide) (by have := List.mem_range.mp hj; omega))) (by simp)) (res' := (((List.range 5).filter fun j => decide (R.getD j 0 >>> k &&& 1 ≠ 0)).map fun j => 32 <<< j).map .nat) (by rw [List.map_map]; rfl)) (fun _ => rfl))) CallOk.sum) (by simp)) (fun _ => rfl)) (Ev.nmA 0 rfl rfl) (Op2.addL ?_)) ?_) (.inl rfl) (fun _ => rfl)) ?_
  · rw [List.filter_eq_self.mpr (fun _ _ => rfl)]; simp; omega
  · unfold seesP
    rw [List.filter_eq_self.mpr (fun _ _ => rfl), List.map_append, List.map_map]; rfl
  refine W.cons (W1.assign (pv := .lst .own ((List.range 10).map .nat)) 3 rfl (Ev.c_list (EvA.one (Ev.c_range (EvA.one (Ev.c_len (EvA.one (Ev.nmO 2 rfl rfl)) (CallOk.lenL ?_)) ) (CallOk.rng ?_) |>.eq ?_)) (CallOk.listrng (by decide))) (.inl rfl) (fun _ => rfl)) ?_
  · unfold seesP; simp; omega
  · unfold seesP; simp; omega
  · unfold seesP; simp [hR]
  refine W.cons (W1.assign (pv := .hdr .own (hdrL [])) 4 rfl (Ev.mkHdr rfl) (.inl rfl) (fun _ => rfl)) ?_
  obtain ⟨m, hm1, hm2, hm3⟩ := fsAt_first R (picks ++ picks) (picks ++ picks).length
  have hpl : (picks ++ picks).length = 10 := by rw [List.length_append, hp]
  refine W.cons (v1 := fvs (.lst .arg (R.map .nat)) (.lst .arg (picks.map .nat)) (fsAt R (picks ++ picks) m)) (W1.forBrk (pv := .lst .own ((picks ++ picks).map .nat)) (isl := true) (L := picks ++ picks) 5 (fun i => fvs (.lst .arg (R.map .nat)) (.lst .arg (picks.map .nat)) (fsAt R (picks ++ picks) i)) (fun i => decide (waysF (fsAt R (picks ++ picks) i).1 (fsAt R (picks ++ picks) i).2.1 ≠ [])) m rfl ?_ IterOf.list (.inr ⟨_, rfl⟩) hm1 (fun i pick hpick => ?_) (fun i hi => decide_eq_true (hm2 i hi)) (hm3.imp id fun h => ⟨h.1, decide_eq_false (fun e => e h.2)⟩) (fun _ => rfl)) ?_
  · refine (Ev.bin (a := .lst .arg (picks.map .nat)) (b := .lst .arg (picks.map .nat)) (Ev.nmA 1 rfl rfl) (Ev.nmA 1 rfl rfl) (Op2.addL ?_)).eq ?_
    · simp; omega
    · rw [List.map_append]
  · have hok := fsAt_ok (pk := picks ++ picks) hR i
    have hpk : (picks ++ picks).getD i 0 = pick := by rw [List.getD_eq_getElem?_getD, hpick]; rfl
    have hil : i < 10 := by rw [← hpl]; exact (List.getElem?_eq_some_iff.mp hpick).1
    have hlP := fsAt_plen (R := R) (pk := picks ++ picks) i
    have e1 : fsAt R (picks ++ picks) (i + 1) = stepF (fsAt R (picks ++ picks) i) pick := by rw [← hpk]; rfl
    rw [e1]
    generalize fsAt R (picks ++ picks) i = st at hok hlP
    obtain ⟨sees, left, P⟩ := st
    have hll : left.length ≤ 10 := hok.ll
    have hsub : ∀ x ∈ left, x < 10 := hok.sub
    have hsl : sees.length = 10 := hok.len
    have hwl := ways_len (sees := sees) hll
    have gsee : ∀ x ∈ left, x < sees.length := fun x hx => by rw [hsl]; exact hsub x hx
    refine W.cons (W1.comp2 (res := (waysF sees left).map fun p => .pair p.1 p.2) 8 rfl (C2.eq (C2.mkN (L := left) (caps := [(Str.ofString "left", .lst .own (left.map .nat)), (Str.ofString "sees", .lst .own (sees.map .nat))]) (gs := []) (fun _ => left) (fun i h => decide (i ≠ h) && decide (sees.getD i 0 &&& sees.getD h 0 = sees.getD i 0)) (fun i h => .pair i h) (PC.of [3, 2] rfl (fun _ _ => rfl) (fun _ => rfl) (.cons ⟨rfl, rfl, rfl⟩ (.cons ⟨rfl, rfl, rfl⟩ .nil)))
        (Ev.nmO 3 rfl rfl) IterOf.list (fun cenv x hx => EvI.cap (own := [(Str.ofString "i", false), (Str.ofString "h", false)]) (j := 0) (o := .own) rfl rfl rfl)
        (fun cenv x hx y hy => .one (Tv.and2 (Tv.cmp (Ev.nmS 0 rfl rfl) (Ev.nmS 1 rfl rfl) Cm2.neN rfl) (fun _ => Tv.cmp (Ev.bin (Ev.sub (Ev.nmO 3 rfl rfl) (Ev.nmS 0 rfl rfl) (GetOk.nats (gsee x hx) (by rw [hsl]; decide)) (fun _ _ => rfl)) (Ev.sub (Ev.nmO 3 rfl rfl) (Ev.nmS 1 rfl rfl) (GetOk.nats (gsee y hy) (by rw [hsl]; decide)) (fun _ _ => rfl)) Op2.andN) (Ev.sub (Ev.nmO 3 rfl rfl) (Ev.nmS 0 rfl rfl) (GetOk.nats (gsee x hx) (by rw [hsl]; decide)) (fun _ _ => rfl)) Cm2.eqN rfl)))
        (fun cenv x hx y hy hok => Ev.pair (EvA.two (Ev.nmS 0 rfl rfl) (Ev.nmS 1 rfl rfl))) ?_) ?_) (fun _ => rfl) (fun _ _ => rfl) (fun eo hl => rfl)) ?_
    · have := hwl
      unfold waysF at this
      refine Nat.le_trans ?_ (Nat.le_trans this (by decide))
      simp [List.length_flatMap]
    · unfold waysF; rw [List.map_flatMap]; congr 1; funext i; rw [List.map_map]; rfl
    by_cases hw : waysF sees left = []
    · rw [if_neg (by simpa using hw)]
      refine W.mapBrk (v := [.lst .arg (R.map .nat), .lst .arg (picks.map .nat), .lst .own (sees.map .nat), .lst .own (left.map .nat), .hdr .own (hdrL P), .s (.nat pick), .unset, .unset, .lst .own ((waysF sees left).map fun p => .pair p.1 p.2)]) (W.stop (W1.ite (c := true) ((Tv.cmp (Ev.nmO 8 rfl rfl) (Ev.list (xs := []) EvA.nil (by decide)) (Cm2.eqNil (plain_pairs _)) rfl).eq (by rw [hw]; rfl)) (fun _ => W.one W1.brk) (fun h => nomatch h)) rfl) (fun base h x => (x.forget 5).forget 8)
    · rw [if_pos (by simpa using hw)]
      have hwe : ((waysF sees left).map fun p => S.pair p.1 p.2).isEmpty = false := by
        cases h : waysF sees left with
        | nil => exact absurd h hw
        | cons a r => rfl
      obtain ⟨hpk1, hpm⟩ := ways_pick hw pick
      have hst : stepF (sees, left, P) pick = (sees.map fun x => clr x (1 <<< ((waysF sees left).getD (pick % (waysF sees left).length) (0, 0)).1), left.erase ((waysF sees left).getD (pick % (waysF sees left).length) (0, 0)).1, P ++ [(nmI.getD ((waysF sees left).getD (pick % (waysF sees left).length) (0, 0)).1 0, lnI.getD ((waysF sees left).getD (pick % (waysF sees left).length) (0, 0)).2 0)] ++ [(lnI.getD ((waysF sees left).getD (pick % (waysF sees left).length) (0, 0)).1 0, lnI.getD ((waysF sees left).getD (pick % (waysF sees left).length) (0, 0)).1 0)]) := by
        unfold stepF; rw [if_neg hw]
      rw [hst]
      have hwlp : 0 < (waysF sees left).length := List.length_pos_iff.mpr hw
      refine W.cons (W1.ite (c := false) ((Tv.cmp (Ev.nmO 8 rfl rfl) (Ev.list (xs := []) EvA.nil (by decide)) (Cm2.eqNil (plain_pairs _)) rfl).eq hwe) (fun h => nomatch h) (fun _ => W.nil)) ?_
      have hpl' : P.length ≤ 18 := by have : P.length ≤ 2 * i := hlP; omega
      generalize (waysF sees left).getD (pick % (waysF sees left).length) (0, 0) = ih at hpk1 hpm
      obtain ⟨a, b⟩ := ih
      obtain ⟨ha, hb, _, _⟩ := waysF_mem hpm
      have na := nmI_mem a (hsub a ha)
      have nb := nmI_mem b (hsub b hb)
      have sa := nmI_str a (hsub a ha)
      have sb := nmI_str b (hsub b hb)
      have a10 := hsub a ha
      have b10 := hsub b hb
      refine W.cons (W1.pair (a1 := a) (a2 := b) 6 7 rfl rfl (Ev.sub (Ev.nmO 8 rfl rfl) (Ev.binN (Ev.nmS 5 rfl rfl) ((Ev.c_len (EvA.one (Ev.nmO 8 rfl rfl)) (CallOk.lenL (by rw [List.length_map]; omega))).eq (by rw [List.length_map])) (Op2.modN hwlp)) (GetOk.list (by have := Nat.mod_lt pick hwlp; omega) (by rw [List.getElem?_map, hpk1]; rfl)) (fun _ _ => rfl)) rfl rfl) ?_
      refine W.cons (W1.add (P := P) (a := nmI.getD a 0) (b := lnI.getD b 0) 4 rfl rfl rfl na.1 nb.2.2 (by omega) (EvA.two (Ev.sub Ev.cstr (Ev.nmS 6 rfl rfl) (GetOk.str (by omega) sa.1) (fun _ _ => rfl)) (Ev.sub Ev.cstr (Ev.nmS 7 rfl rfl) (GetOk.str (by omega) sb.2) (fun _ _ => rfl))) rfl rfl rfl rfl rfl rfl) ?_
      refine W.cons (W1.add (P := P ++ [(nmI.getD a 0, lnI.getD b 0)]) (a := lnI.getD a 0) (b := lnI.getD a 0) 4 rfl rfl rfl na.2.1 na.2.2 (by simp; omega) (EvA.two (Ev.sub Ev.cstr (Ev.nmS 6 rfl rfl) (GetOk.str (by omega) sa.2) (fun _ _ => rfl)) (Ev.sub Ev.cstr (Ev.nmS 6 rfl rfl) (GetOk.str (by omega) sa.2) (fun _ _ => rfl))) rfl rfl rfl rfl rfl rfl) ?_
      refine W.cons (W1.remove (L := left) (i := a) 3 rfl rfl rfl (Ev.nmS 6 rfl rfl) ha (by omega) rfl rfl rfl rfl) ?_
      refine W.mapNext (v := [.lst .arg (R.map .nat), .lst .arg (picks.map .nat), .lst .own ((sees.map fun x => clr x (1 <<< a)).map .nat), .lst .own ((left.erase a).map .nat), .hdr .own (hdrL (P ++ [(nmI.getD a 0, lnI.getD b 0)] ++ [(lnI.getD a 0, lnI.getD a 0)])), .s (.nat pick), .s (.nat a), .s (.nat b), .lst .own ((waysF sees left).map fun p => .pair p.1 p.2)])
        (W.one (W1.assign (pv := .lst .own ((sees.map fun x => clr x (1 <<< a)).map .nat)) 2 rfl (Ev.comp1 (C1.eq (C1.mkN (b := false) (L := sees) (oc := Option.none) (caps := [(Str.ofString "i", .s (.nat a))]) (gs := []) (fun _ => true) (fun x => .nat (clr x (1 <<< a))) (PC.of [6] rfl (fun _ _ => rfl) (fun _ => rfl) (.cons ⟨rfl, rfl, rfl⟩ .nil))
            (Ev.nmO 2 rfl rfl) IterOf.list (fun cenv x hx => .nil) (fun cenv x hx _ => Ev.bin (Ev.nmS 0 rfl rfl) (Ev.inv (Ev.bin Ev.cnat (Ev.nmS 1 rfl rfl) (Op2.shl (by decide) (by omega)))) Op2.andNot) (by rw [hsl]; decide)) (by rw [List.filter_eq_self.mpr (fun _ _ => rfl), List.map_map]; rfl)) (fun _ => rfl)) (.inl rfl) (fun _ => rfl))) (fun base h x => (((x.forget 5).forget 6).forget 7).forget 8)
  · refine (W.one (W1.ret (Ev.nmH 4 rfl rfl))).eq ?_
    have : fsAt R (picks ++ picks) (picks ++ picks).length = fsAt R (picks ++ picks) m := by
      rcases hm3 with rfl | ⟨h3, h4⟩
      · rfl
      · exact fsAt_stop h4 _ hm1
    unfold foldedP
    rw [this]
    rfl
end Mine
end
section
open PySem PySem.W PyProof.Rows PySem.Calls PySem.Spec
set_option Elab.async false
set_option maxRecDepth 100000
set_option maxHeartbeats 8000000
set_option linter.unusedVariables false
set_option genSizeOf false
namespace Mine
noncomputable def itN (f : Nat → Nat) : Nat → Nat → Nat
  | 0, x => x
  | k + 1, x => f (itN f k x)
theorem itN_first (f : Nat → Nat) (x : Nat) : ∀ K, ∃ N, N ≤ K ∧ (∀ k, k < N → f (itN f k x) ≠ itN f k x) ∧ (N = K ∨ f (itN f N x) = itN f N x)
  | 0 => ⟨0, Nat.le_refl _, fun k hk => by omega, .inl rfl⟩
  | K + 1 => by
    obtain ⟨N, h1, h2, h3⟩ := itN_first f x K
    rcases h3 with rfl | h3
    · by_cases h : f (itN f N x) = itN f N x
      · exact ⟨N, by omega, h2, .inr h⟩
      · refine ⟨N + 1, by omega, fun k hk => ?_, .inl rfl⟩
        rcases Nat.lt_or_ge k N with q | q
        · exact h2 k q
        · have : k = N := by omega
          rw [this]; exact h
    · exact ⟨N, by omega, h2, .inr h3⟩
theorem itN_fix {f : Nat → Nat} {x N : Nat} (h : f (itN f N x) = itN f N x) : ∀ K, N ≤ K → itN f K x = itN f N x
  | 0, hK => by cases Nat.le_zero.mp hK; rfl
  | K + 1, hK => by
    rcases Nat.lt_or_ge K N with hl | hl
    · have : N = K + 1 := by omega
      rw [this]
    · show f (itN f K x) = _
      rw [itN_fix h K hl]; exact h
theorem itN_lt {f : Nat → Nat} (h : ∀ i, i < 10 → f i < 10) {x : Nat} (hx : x < 10) : ∀ k, itN f k x < 10
  | 0 => hx
  | k + 1 => h _ (itN_lt h hx k)
noncomputable def ltrs : Str := Str.ofString "bcdefVWXYZ"
theorem ltrs_index : ∀ i : Nat, i < 10 → Builtin.Str.occurrences ltrs ⟨#[lnI.getD i 0]⟩ 0 ltrs.length 1 = [i] := by decide +kernel
theorem ltrs_items : ltrs.cps.toList.map (fun c => S.str ⟨#[c]⟩) = (List.range 10).map fun i => .str ⟨#[lnI.getD i 0]⟩ := by
  have : ltrs.cps.toList = (List.range 10).map fun i => lnI.getD i 0 := by decide +kernel
  rw [this, List.map_map]; rfl
theorem lnI_inj : ∀ i : Nat, i < 10 → ∀ j : Nat, j < 10 → lnI.getD i 0 = lnI.getD j 0 → i = j := by decide
theorem lands_ok {w : World} {n : Nat} (P : List (Nat × Nat)) (hP : ∀ p ∈ P, p.1 ∈ nmChars) (nx : Nat → Nat) (hlt : ∀ i, i < 10 → nx i < 10) (hnx : ∀ i, i < 10 → getP P (lnI.getD i 0) (lnI.getD i 0) = lnI.getD (nx i) 0) (hfix : ∀ i, i < 10 → nx (itN nx 10 i) = itN nx 10 i) :
    CallOk P0 w (n + 3) (.ref 255) [.hdr .arg (hdrL P)] (.lst .arg (((List.range 10).map (itN nx 10)).map .nat)) := by
  intro A s Q E vs hA g r q
  have X := g.K
  unfold P0
  revert X; k_fill; intro X
  obtain ⟨v1, rfl, r1⟩ := r.one
  refine' entry_ok (n := n + 2) (ns := [(Str.ofString "folds", false), (Str.ofString "lands", false), (Str.ofString "name", false)]) (gs := []) (pn := [Str.ofString "folds"]) X hA g r (fun v s' x r' => q v s' x r' (.no rfl)) rfl rfl ?ho ?hcd ?hbind ?hgen ?fo ?hpk ?_
  case ho => k_is
  case hcd => k_is
  case hbind => rfl
  case hgen => rfl
  case hpk => rfl
  case fo => exact FnOk.of (by decide +kernel)
  intro L'
  refine W.cons (W1.assign (pv := .lst .own []) 1 rfl (Ev.list (xs := []) EvA.nil (by decide)) (.inl rfl) (fun _ => rfl)) ?_
  refine W.cons (v1 := [.hdr .arg (hdrL P), .lst .own (((List.range 10).map (itN nx 10)).map .nat), .unset]) (W1.forT (pv := .s (.str ltrs)) (isl := false) (items := (List.range 10).map fun i => .str ⟨#[lnI.getD i 0]⟩) (fun i => [.hdr .arg (hdrL P), .lst .own (((List.range i).map (itN nx 10)).map .nat), .unset]) (fun v it => v.set 2 (.s it)) 10 Ev.cstr (ltrs_items ▸ IterOf.str) (.inl rfl) (by rw [List.all_map]; exact List.all_eq_true.mpr fun _ _ => rfl) (.inl fun _ _ => rfl) (fun i it h => AsW.name rfl) (by simp) (fun i it hi hit => ?_) (.inl ⟨by simp, rfl⟩) (fun _ => rfl)) ?_
  · have hit' : it = .str ⟨#[lnI.getD i 0]⟩ := by
      rw [List.getElem?_map, List.getElem?_eq_getElem (by simpa using hi), List.getElem_range] at hit
      exact (Option.some.inj hit).symm
    subst hit'
    obtain ⟨N, hN1, hN2, hN3⟩ := itN_first nx i 10
    have hN3 : nx (itN nx N i) = itN nx N i := by
      rcases hN3 with rfl | h
      · exact hfix i hi
      · exact h
    have hN4 := itN_fix hN3 10 hN1
    refine W.mapNext (v := [.hdr .arg (hdrL P), .lst .own (((List.range (i + 1)).map (itN nx 10)).map .nat), .s (.str ⟨#[lnI.getD (itN nx N i) 0]⟩)]) ?_ (fun base h x => x.forget 2)
    have ll := itN_lt hlt hi
    refine W.cons (v1 := [.hdr .arg (hdrL P), .lst .own (((List.range i).map (itN nx 10)).map .nat), .s (.str ⟨#[lnI.getD (itN nx N i) 0]⟩)]) (W1.while (fun k => [.hdr .arg (hdrL P), .lst .own (((List.range i).map (itN nx 10)).map .nat), .s (.str ⟨#[lnI.getD (itN nx k i) 0]⟩)]) N (fun k hk => ⟨?_, ?_⟩) ?_) ?_
    · refine (Tv.cmp (a := .s (.str ⟨#[lnI.getD (nx (itN nx k i)) 0]⟩)) ((Ev.hget hP (nmI_mem _ (ll k)).2.1 (Ev.nmH 0 rfl rfl) (EvA.two (Ev.nmS 2 rfl rfl) (Ev.nmS 2 rfl rfl)) rfl rfl rfl rfl rfl).eq (by rw [hnx _ (ll k)])) (Ev.nmS 2 rfl rfl) Cm2.neS rfl).eq ?_
      rw [bne, ch_eq]
      exact (congrArg Bool.not (decide_eq_false fun e => hN2 k hk (lnI_inj _ (hlt _ (ll k)) _ (ll k) e)))
    · exact W.one (W1.assign (pv := .s (.str ⟨#[lnI.getD (nx (itN nx k i)) 0]⟩)) 2 rfl ((Ev.hget hP (nmI_mem _ (ll k)).2.1 (Ev.nmH 0 rfl rfl) (EvA.two (Ev.nmS 2 rfl rfl) (Ev.nmS 2 rfl rfl)) rfl rfl rfl rfl rfl).eq (by rw [hnx _ (ll k)])) (.inr (.inl rfl)) (fun _ => rfl))
    · refine (Tv.cmp (a := .s (.str ⟨#[lnI.getD (nx (itN nx N i)) 0]⟩)) ((Ev.hget hP (nmI_mem _ (ll N)).2.1 (Ev.nmH 0 rfl rfl) (EvA.two (Ev.nmS 2 rfl rfl) (Ev.nmS 2 rfl rfl)) rfl rfl rfl rfl rfl).eq (by rw [hnx _ (ll N)])) (Ev.nmS 2 rfl rfl) Cm2.neS rfl).eq ?_
      rw [bne, ch_eq, hN3]
      exact congrArg Bool.not (decide_eq_true rfl)
    · refine W.one (W1.nextEq (W1.append (y := .nat (itN nx N i)) 1 rfl rfl rfl (Ev.meth F.plainAttrs_str F.slot_str_index F.type_str_index Ev.cstr recv_str (EvA.one (Ev.nmS 2 rfl rfl)) (CallOk.index (ltrs_index _ (ll N))) rfl rfl rfl (by decide) rfl) (by simp; omega) rfl rfl rfl rfl) ?_)
      rw [List.range_succ, List.map_append, List.map_append, ← hN4]
      rfl
  exact W.one (W1.ret (Ev.nmO 1 rfl rfl))
end Mine
end
section
open PySem PySem.W PyProof.Rows PySem.Calls PySem.Spec
set_option Elab.async false
set_option maxRecDepth 100000
set_option maxHeartbeats 8000000
set_option linter.unusedVariables false
set_option genSizeOf false
namespace Mine
noncomputable abbrev TS := List Nat × SetTable
noncomputable def addT (st : TS) (v : Nat) : Option TS :=
  match st.2.freeSlot (v : Int) with
  | some (slot, false) =>
    let t' := (st.2.put slot).1
    let M' := (SetTable.insertAt st.1.toArray (st.2.put slot).2 v).toList
    if t'.fits M'.length = true then
      if t'.tooFull = true then
        match t'.relaid (M'.map Int.ofNat).toArray (SetTable.grown M'.length) with
        | some (t2, order) =>
          let M2 := (order.filterMap (M'.toArray[·]?)).toList
          if (coversAll order M'.length && t2.fits M2.length) = true then some (M2, t2) else none
        | none => none
      else some (M', t')
    else none
  | _ => none
noncomputable def subs : List Nat → List (List Nat)
  | [] => [[]]
  | a :: r => subs r ++ (subs r).map (a :: ·)
noncomputable def canon (led : Bool) (l : List Nat) : Option TS := l.foldl (fun o v => o.bind (addT · v)) (some ([], SetTable.fresh 0 0 led))
noncomputable def sts (led : Bool) (base : List Nat) : List TS := (subs base).filterMap (canon led)
noncomputable def slotAt (t : SetTable) : Nat → Nat
  | 0 => 0
  | i + 1 => t.place.getD i 0 + 1
noncomputable def stGood (led : Bool) (base : List Nat) (st : TS) : Bool :=
  st.2.plain && (st.2.led == led) && st.2.fits st.1.length && decide (st.1.length ≤ 5) && decide st.1.Nodup && st.1.all (base.contains ·) && ((List.range (st.1.length + 1)).all fun i => SetTable.below st.2.place (slotAt st.2 i) == i) &&
    base.all fun v => st.1.contains v || match addT st v with
      | some st' => (sts led base).contains st' && (base.all fun u => st'.1.contains u == (st.1.contains u || u == v))
      | none => false
noncomputable def baseA : List Nat := [0, 1, 2, 3, 4]
noncomputable def baseB : List Nat := [5, 6, 7, 8, 9]
theorem stsA : ∀ led : Bool, ((sts led baseA).all (stGood led baseA) && (sts led baseA).contains ([], SetTable.fresh 0 0 led)) = true := by decide +kernel
theorem stsB : ∀ led : Bool, ((sts led baseB).all (stGood led baseB) && (sts led baseB).contains ([], SetTable.fresh 0 0 led)) = true := by decide +kernel
end Mine
end
section
open PySem PySem.W PyProof.Rows PySem.Calls PySem.Spec
set_option Elab.async false
set_option maxRecDepth 100000
set_option maxHeartbeats 8000000
set_option linter.unusedVariables false
set_option genSizeOf false
namespace Mine
noncomputable def ElS (e : Int × Value) (v : Nat) : Prop := e.1 = (v : Int) ∧ ∃ t, e.2 = .int v t
structure SetIs (h : Heap) (a : Addr) (es : List (Int × Value)) (ep : Nat) (st : TS) : Prop where
  ob : h.get? a = some { cls := .type "set", dict := none, data := .set es.toArray ep st.2, slots := #[] }
  el : All2 ElS es st.1
theorem insertAt_list {α : Type} (l : List α) (p : Nat) (x : α) : SetTable.insertAt l.toArray p x = (l.take p ++ [x] ++ l.drop p).toArray := by
  unfold SetTable.insertAt
  simp [List.take_of_length_le]
theorem All2.insertAt {α β : Type} {P : α → β → Prop} {as : List α} {bs : List β} {a : α} {b : β} (t : All2 P as bs) (h : P a b) (p : Nat) : All2 P (SetTable.insertAt as.toArray p a).toList (SetTable.insertAt bs.toArray p b).toList := by
  rw [insertAt_list, insertAt_list]
  exact ((t.take p).snoc h).append (t.drop p)
theorem All2.pick {α β : Type} {P : α → β → Prop} {as : List α} {bs : List β} (t : All2 P as bs) : ∀ (o : List Nat), All2 P (o.filterMap (as.toArray[·]?)) (o.filterMap (bs.toArray[·]?))
  | [] => .nil
  | i :: r => by
    have ih := t.pick r
    rw [List.filterMap_cons, List.filterMap_cons]
    cases h : bs.toArray[i]? with
    | none =>
      have : as.toArray[i]? = none := by
        have hl := t.length
        simp at h ⊢; omega
      rw [this]; exact ih
    | some b =>
      obtain ⟨a, ha, hp⟩ := t.get (i := i) (b := b) (by simpa using h)
      rw [show as.toArray[i]? = some a by simpa using ha]
      exact .cons hp ih
theorem ElS.hashes {es : List (Int × Value)} {M : List Nat} (t : All2 ElS es M) : (es.toArray.map (·.1)) = (M.map Int.ofNat).toArray := by
  have : es.map (·.1) = M.map Int.ofNat := by
    induction t with
    | nil => rfl
    | cons h t ih => simp only [List.map_cons, ih, h.1]; rfl
  rw [List.map_toArray, this]
section
variable {prog : Program} {w : World} {A : Around} {E : Value → Shared → Prop} {s : Shared}
theorem ElS.elems {es : List (Int × Value)} {M : List Nat} (t : All2 ElS es M) (hM : ∀ v ∈ M, hashInt (v : Int) = v) : ElemsOf (intKind prog w) es.toArray.toList := by
  intro e he
  obtain ⟨i, hi, e'⟩ := List.mem_iff_getElem.mp he
  obtain ⟨v, hv, h1, tk, h2⟩ := t.get' (i := i) (a := e) (by simp at hi; rw [← e']; simp [hi])
  refine ⟨⟨(v : Int), by rw [h2]; simp [intKind, Value.isInt], ?_⟩, by rw [h2]; rfl⟩
  rw [h1]; exact (hM v (mem_get hv)).symm
theorem ElS.found {es : List (Int × Value)} {M : List Nat} (t : All2 ElS es M) (v : Nat) : (es.findIdx? (fun e => (intKind prog w).is (v : Int) e.2)).isSome = M.contains v := by
  induction t with
  | nil => rfl
  | @cons e u es M h t ih =>
    obtain ⟨h1, tk, h2⟩ := h
    rw [List.findIdx?_cons, h2]
    by_cases hv : v = u
    · subst hv; simp [intKind, Value.isInt]
    · have e1 : (intKind prog w).is (v : Int) (.int u tk) = false := by simp [intKind, Value.isInt]; omega
      rw [e1, List.contains_cons]
      have e2 : (v == u) = false := by simpa using hv
      rw [e2, Bool.false_or, ← ih]
      simp
theorem sts_len {led : Bool} {base : List Nat} (hall : (sts led base).all (stGood led base) = true) {st : TS} (hst : st ∈ sts led base) : st.1.length ≤ 5 := by
  have hg := List.all_eq_true.mp hall st hst
  unfold stGood at hg
  simp only [Bool.and_eq_true, beq_iff_eq, decide_eq_true_eq] at hg
  exact hg.1.1.1.1.2
theorem setAdd_ok {led : Bool} {base : List Nat} {st : TS} {v : Nat} {a : Addr} {es : List (Int × Value)} {ep : Nat} {t : Tok} {Q : Bool → Shared → Prop} (hall : (sts led base).all (stGood led base) = true) (hbase : ∀ u ∈ base, hashInt (u : Int) = u) (hst : st ∈ sts led base) (hv : v ∈ base) (S : SetIs s.heap a es ep st)
    (q : ∀ b h' es' ep' st', Heap.SameBut a s.heap h' → SetIs h' a es' ep' st' → st' ∈ sts led base → (∀ u ∈ base, (u ∈ st'.1 ↔ u ∈ st.1 ∨ u = v)) → Q b { s with heap := h' }) :
    wpAny (model prog w) A (setAddHashed a (.int v t) (hashInt v)) Q E s := by
  have hg := List.all_eq_true.mp hall st hst
  unfold stGood at hg
  simp only [Bool.and_eq_true, beq_iff_eq, decide_eq_true_eq, List.all_eq_true, Bool.or_eq_true, List.contains_iff_mem] at hg
  obtain ⟨⟨⟨⟨⟨⟨⟨hpl, hled⟩, hfit⟩, hlen⟩, hnd⟩, hsub⟩, hwalk⟩, hadd⟩ := hg
  have hadd := hadd v hv
  obtain ⟨ho, hel⟩ := S
  have hl := hel.length
  have hM : ∀ u ∈ st.1, hashInt (u : Int) = u := fun u hu => hbase u (hsub u hu)
  have helems := ElS.elems (prog := prog) (w := w) hel hM
  have hf : st.2.fits es.toArray.size = true := by rw [List.size_toArray, hl]; exact hfit
  have hb : es.toArray.size < scanBound := by rw [List.size_toArray, hl]; unfold scanBound; omega
  have hkey : (intKind prog w).is (v : Int) (.int v t) = true := by simp [intKind, Value.isInt]
  unfold setAddHashed setAddHashedIn
  refine wpAny_holding (wpAny_bind (wpAny_setState_of ho rfl hf ?_))
  dsimp only
  rw [byScan_of (knd := intKind prog w) (x := .int v t) rfl hb helems]
  simp only [↓reduceIte]
  unfold setAddByScan
  refine wpAny_bind ?_
  refine wpAny_bind (wpAny_rule ?_)
  refine wpAny_bind (wpAny_setScan_of (knd := intKind prog w) hkey ho rfl hf helems ?_)
  have hfd := ElS.found (prog := prog) (w := w) hel v
  cases hr : List.findIdx? (fun e => (intKind prog w).is (v : Int) e.2) es.toArray.toList with
  | some j =>
    dsimp only
    rw [show es.toArray.toList = es from rfl] at hr
    rw [hr] at hfd
    have hm : v ∈ st.1 := List.contains_iff_mem.mp hfd.symm
    refine wpAny_pure (wpAny_pure ?_)
    exact q _ s.heap es ep st (Heap.SameBut.refl a s.heap) ⟨ho, hel⟩ hst fun u hu => ⟨.inl, fun h => h.elim id fun e => e ▸ hm⟩
  | none =>
    dsimp only
    rw [show es.toArray.toList = es from rfl] at hr
    rw [hr] at hfd
    have hm : v ∉ st.1 := fun h => by rw [List.contains_iff_mem.mpr h] at hfd; cases hfd
    have hadd := hadd.resolve_left hm
    rw [hbase v hv]
    cases hx : addT st v with
    | none => rw [hx] at hadd; cases hadd
    | some st' =>
    rw [hx] at hadd
    simp only [Bool.and_eq_true, List.all_eq_true, List.contains_iff_mem, beq_iff_eq] at hadd
    obtain ⟨hst', hmem⟩ := hadd
    have hmem' : ∀ u ∈ base, (u ∈ st'.1 ↔ u ∈ st.1 ∨ u = v) := fun u hu => by
      have := hmem u hu
      rw [← List.contains_iff_mem, this]
      simp [List.contains_iff_mem]
    unfold addT at hx
    cases hfs : st.2.freeSlot (v : Int) with
    | none => rw [hfs] at hx; cases hx
    | some sw =>
    obtain ⟨slot, wd⟩ := sw
    rw [hfs] at hx
    cases wd with
    | true => cases hx
    | false =>
    dsimp only at hx
    split at hx
    · rename_i hfit1
      have el1 : All2 ElS (SetTable.insertAt es.toArray (st.2.put slot).2 ((v : Int), Value.int v t)).toList (SetTable.insertAt st.1.toArray (st.2.put slot).2 v).toList := All2.insertAt (P := ElS) hel (a := ((v : Int), Value.int v t)) ⟨rfl, t, rfl⟩ _
      have hl1 := el1.length
      have hfit1' : (st.2.put slot).1.fits (SetTable.insertAt es.toArray (st.2.put slot).2 ((v : Int), Value.int v t)).size = true := by
        rw [← Array.length_toList, hl1]; exact hfit1
      have hlay : layNew st.2 es.toArray (v : Int) (Value.int v t) = (SetTable.insertAt es.toArray (st.2.put slot).2 ((v : Int), Value.int v t), (st.2.put slot).1, false, false) := by
        unfold layNew
        rw [hfs]
        dsimp only
        unfold SetTable.orStandIn
        rw [if_pos hfit1', hfit1']; rfl
      rw [hlay]
      dsimp only
      have hpl1 : (st.2.put slot).1.plain = true := hpl
      have hl1' : (SetTable.insertAt es.toArray (st.2.put slot).2 ((v : Int), Value.int v t)).toList.length ≤ 6 := by
        rw [insertAt_list]; simp; omega
      have ho1 : (s.heap.update a (Obj.putSet (SetTable.insertAt es.toArray (st.2.put slot).2 ((v : Int), Value.int v t)) (st.2.put slot).1)).get? a = some { cls := .type "set", dict := none, data := .set (SetTable.insertAt es.toArray (st.2.put slot).2 ((v : Int), Value.int v t)) (ep + 1) (st.2.put slot).1, slots := #[] } := by
        rw [Heap.get?_update_self _ ho (by rw [putSet_of _ _ rfl]; rfl), putSet_of _ _ rfl]
      generalize hes1 : SetTable.insertAt es.toArray (st.2.put slot).2 ((v : Int), Value.int v t) = es1 at *
      generalize hM1 : (SetTable.insertAt st.1.toArray (st.2.put slot).2 v).toList = M1 at *
      generalize ht1 : (st.2.put slot).1 = t1 at *
      refine wpAny_bind (wpAny_pure ?_)
      rw [hpl1]
      simp only [↓reduceIte]
      refine wpAny_bind ?_
      rw [hashByValue_scannable 8 (x := .int v t) rfl]
      refine wpAny_pure ?_
      show wpAny _ _ (storeSet a es1 t1 >>= _) _ _ _
      refine wpAny_bind (wpAny_storeSet_of ho rfl ?_ (by rw [← Array.length_toList, sizeLine_eq]; omega))
      have hpk : plainKind (Value.int (v : Int) t) = true := rfl
      simp only [hpk, ↓reduceIte]
      have hes1l : es1.toList.toArray = es1 := Array.toArray_toList
      cases htf : t1.tooFull with
      | false =>
        rw [htf] at hx
        cases hx
        refine wpAny_pure (wpAny_pure ?_)
        exact q _ _ es1.toList (ep + 1) _ (Heap.SameBut.update ..) ⟨by rw [ho1], el1⟩ hst' hmem'
      | true =>
        rw [htf] at hx
        simp only [↓reduceIte, Bool.not_false, Bool.and_self] at hx ⊢
        cases hrl : t1.relaid (M1.map Int.ofNat).toArray (SetTable.grown M1.length) with
        | none => rw [hrl] at hx; cases hx
        | some to =>
        obtain ⟨t2, order⟩ := to
        rw [hrl] at hx
        dsimp only at hx
        split at hx
        · rename_i hcov
          cases hx
          rw [Bool.and_eq_true] at hcov
          have hh := ElS.hashes el1
          rw [hes1l] at hh
          have hsz : es1.size = M1.length := by rw [← Array.length_toList, hl1]
          have el2 : All2 ElS (order.filterMap (es1[·]?)).toList (order.filterMap (M1.toArray[·]?)).toList := by
            have := All2.pick (P := ElS) el1 order.toList
            rw [hes1l] at this
            simpa using this
          have hl2 := el2.length
          have hrel : relayAll t1 es1 (SetTable.grown es1.size) = (order.filterMap (es1[·]?), t2, false) := by
            unfold relayAll
            rw [hh, hsz, hrl]
            dsimp only
            rw [if_pos]
            rw [hcov.1, ← Array.length_toList, hl2, hcov.2]; rfl
          rw [hrel]
          dsimp only
          refine wpAny_bind (wpAny_pure ?_)
          refine wpAny_bind (wpAny_storeSet_of ho1 rfl ?_ (by rw [← Array.length_toList, hl2, sizeLine_eq]; have := sts_len hall hst'; exact Nat.le_trans this (by decide)))
          refine wpAny_pure (wpAny_pure ?_)
          refine q _ _ (order.filterMap (es1[·]?)).toList (ep + 2) _ ((Heap.SameBut.update ..).trans (Heap.SameBut.update ..)) ⟨?_, el2⟩ hst' hmem'
          show ((s.heap.update a (Obj.putSet es1 t1)).update a (Obj.putSet (order.filterMap (es1[·]?)) t2)).get? a = _
          rw [Heap.get?_update_self _ ho1 (by rw [putSet_of _ _ rfl]; rfl), putSet_of _ _ rfl]
        · cases hx
    · cases hx
end
end Mine
end
section
open PySem PySem.W PyProof.Rows PySem.Calls PySem.Spec
set_option Elab.async false
set_option maxRecDepth 100000
set_option maxHeartbeats 8000000
set_option linter.unusedVariables false
set_option genSizeOf false
namespace Mine
noncomputable def byText (w : World) : Bool := w.params.followText "set-order"
noncomputable def SetHas (w : World) (base : List Nat) (vals : List Nat) (h : Heap) (a : Addr) : Prop :=
  ∃ es ep st, SetIs h a es ep st ∧ st ∈ sts (!byText w) base ∧ ∀ u ∈ base, (u ∈ st.1 ↔ u ∈ vals)
theorem SetHas.keep {w : World} {base vals : List Nat} {h h' : Heap} {a : Addr} (x : SetHas w base vals h a) (k : ∀ o, h.get? a = some o → h'.get? a = some o) : SetHas w base vals h' a :=
  let ⟨es, ep, st, y, r⟩ := x; ⟨es, ep, st, ⟨k _ y.ob, y.el⟩, r⟩
section
variable {prog : Program} {w : World} {A : Around} {E : Value → Shared → Prop} {s : Shared}
theorem new_set (a : Value) {Q₁ : Value → Shared → Prop}
    (h : Q₁ (.ref s.heap.objs.size) { s with heap := s.heap.push { cls := .type "set", dict := none, data := .set #[] 0 (.fresh 0 0 (!byText w)) } }) :
    codeAny (model prog w) A (.call (.builtin "set.__new__") ⟨[.type "set", a], []⟩) (wants Q₁ E) s := by
  refine codeAny_of_tree ?_
  show wpAny _ A.in1 (do checkBuiltinCall "set.__new__" ⟨[.type "set", a], []⟩; again (.builtin "set.__new__" ⟨[.type "set", a], []⟩)) _ _ s
  refine wpAny_bind (wpAny_of_eq (PySem.F.newCall_set_1 a) (wpAny_pure ⟨plainId_quiet PySem.F.plain_set_new _, codeAny_builtin PySem.F.entry_set_new ?_⟩))
  rw [Around.under_plainId PySem.F.plain_set_new _]
  unfold Builtin.«set.__new__» Builtin.Frozenset.newClass
  have hsub := PySem.sub_set_self
  obtain ⟨hp, g, d, tk, os⟩ := s
  dsimp only
  wp_walk
  refine wpAny_askSetting (wpAny_pure ?_)
  dsimp only
  simp only [newObj]
  refine wpAny_bind (wpAny_alloc (wpAny_pure ?_))
  exact wpAny_pure h
theorem set_loop {R : Result → Shared → Prop} {I : Addr} {fp wr : List Addr} {P : Nat → Value → Prop} {St : Nat → Heap → Prop} {base vals : List Nat} (hall : (sts (!byText w) base).all (stGood (!byText w) base) = true) (hbase : ∀ u ∈ base, hashInt (u : Int) = u) (W : Walks prog w A.in1 I fp wr vals.length P St) (S : Addr) (hSf : S ∉ fp)
    (hval : ∀ i v, P i v → ∃ t, v = .int ((vals.getD i 0 : Nat) : Int) t) (hvb : ∀ v ∈ vals, v ∈ base) :
    ∀ (k i : Nat) (s : Shared), vals.length - i = k → i ≤ vals.length → St i s.heap → SetHas w base (vals.take i) s.heap S →
      (∀ h' tk, (∀ b o, b ∉ S :: wr → s.heap.get? b = some o → h'.get? b = some o) → SetHas w base vals h' S → R (.ok (.ret .none)) { s with heap := h', toks := tk }) →
      codeAny (model prog w) A (.builtin "set.update.loop" ⟨[.ref S, .ref I], []⟩) R s := by
  have hSw : S ∉ wr := fun h => hSf (W.sub _ h)
  intro k
  induction k with
  | zero =>
    intro i s hk hi hst hS hR
    have hin : i = vals.length := by omega
    subst hin
    refine codeAny_builtin F.entry_set_update_loop ?_
    rw [Around.under_plainId F.plain_set_update_loop _]
    show wpAny _ A.in1 (pyNext (.ref I) >>= _) _ _ s
    refine wpAny_bind (W.done s _ _ hst fun h' tk hm => ?_)
    show wpAny _ A.in1 (ret Value.none) _ _ _
    refine wpAny_pure (hR h' tk (fun b o hb e => hm b o (fun h => hb (List.mem_cons_of_mem _ h)) e) ?_)
    rw [List.take_length] at hS
    exact hS.keep fun o e => hm S o hSw e
  | succ k ih =>
    intro i s hk hi hst hS hR
    have hlt : i < vals.length := by omega
    refine codeAny_builtin F.entry_set_update_loop ?_
    rw [Around.under_plainId F.plain_set_update_loop _]
    show wpAny _ A.in1 (pyNext (.ref I) >>= _) _ _ s
    refine wpAny_bind (W.item i s _ _ hlt hst fun v h' tk hP hst' hm => ?_)
    obtain ⟨t, rfl⟩ := hval i v hP
    have hmv : vals.getD i 0 ∈ base := hvb _ (by rw [List.getD_eq_getElem?_getD, List.getElem?_eq_getElem hlt]; exact List.getElem_mem hlt)
    obtain ⟨es, ep, st, hSi, hst0, hmem⟩ := hS.keep fun o e => hm S o hSw e
    show wpAny _ A.in1 (holding [Value.int ((vals.getD i 0 : Nat) : Int) t] (setAdd S (.int ((vals.getD i 0 : Nat) : Int) t)) >>= _) _ _ _
    refine wpAny_bind (wpAny_holding ?_)
    unfold setAdd
    refine wpAny_holding ?_
    refine wpAny_bind (wpAny_pyHash_int ?_)
    refine setAdd_ok (s := { s with heap := h', toks := tk + 1 }) hall hbase hst0 hmv hSi fun b h2 es' ep' st' hsb hS2 hst2 hmem2 => ?_
    have hS3 : SetHas w base (vals.take (i + 1)) h2 S := ⟨es', ep', st', hS2, hst2, fun u hu => by
      rw [hmem2 u hu, hmem u hu, takeS (List.getElem?_eq_getElem hlt), List.mem_append, List.mem_singleton, List.getD_eq_getElem?_getD, List.getElem?_eq_getElem hlt]
      rfl⟩
    have kk : ∀ b o, b ∉ S :: wr → s.heap.get? b = some o → h2.get? b = some o := fun b o hb e => by
      rw [hsb.2 b (fun h : b = S => hb (by rw [h]; exact List.mem_cons_self))]
      exact hm b o (fun h => hb (List.mem_cons_of_mem _ h)) e
    refine wpAny_pure ⟨plainId_quiet F.plain_set_update_loop _, ih (i + 1) _ (by omega) hlt (W.frame _ h' h2 hst' fun b hb o e => ?_) hS3 fun h3 tk3 hm3 hS4 => ?_⟩
    · rw [hsb.2 b (fun h : b = S => hSf (by rw [← h]; exact hb))]; exact e
    · exact hR h3 tk3 (fun b o hb e => hm3 b o hb (kk b o hb e)) hS4
theorem call_set {l : Addr} {vs : List Value} {base vals : List Nat} {Q : Value → Shared → Prop} (hall : (sts (!byText w) base).all (stGood (!byText w) base) = true) (h0 : ([], SetTable.fresh 0 0 (!byText w)) ∈ sts (!byText w) base) (hbase : ∀ u ∈ base, hashInt (u : Int) = u)
    (hh : A.handled = none) (hl : s.heap.IsList l vs.toArray) (hi : ∀ (i : Nat) (v : Value), vs[i]? = some v → ∃ t, v = .int ((vals.getD i 0 : Nat) : Int) t) (hlen : vs.length = vals.length) (hvb : ∀ v ∈ vals, v ∈ base)
    (h : ∀ (h' : Heap) (tk : Nat), SetHas w base vals h' s.heap.objs.size → (∀ b o, s.heap.get? b = some o → h'.get? b = some o) → Q (.ref s.heap.objs.size) { s with heap := h', toks := tk }) :
    wpAny (model prog w) A (call (.type "set") [.ref l]) Q E s := by
  obtain ⟨c, tl, hmro⟩ := PySem.F.called_set.mro
  have hmade := PySem.F.called_set.made
  have hsub := PySem.F.called_set.sub
  refine wpAny_call (codeAny_of_tree ?_)
  show wpAny _ _ (callAny (.type "set") _) _ _ _
  refine wpAny_pure ⟨Code.quiet_builtin _ (by decide +kernel), codeAny_builtin PySem.F.entry_type_call ?_⟩
  rw [Around.under_plain (weight_type_call_type "set" [.ref l] []) rfl]
  have h1 := PySem.F.called_set.notType
  have h2 := PySem.F.called_set.canCreate
  have hct := PySem.F.typeCall_set_1 (.ref l)
  repeat (any_goals (first | assumption | wp_step))
  refine codeAny_mono (new_set (.ref l) (E := E) (Q₁ := fun obj s₁ => obj = .ref s.heap.objs.size ∧ s₁ = { s with heap := s.heap.push { cls := .type "set", dict := none, data := .set #[] 0 (.fresh 0 0 (!byText w)) } }) ⟨rfl, rfl⟩) fun r s₁ hr => ?_
  cases r with
  | error e => exact hr
  | ok fl =>
    cases fl with
    | ret obj =>
      obtain ⟨rfl, rfl⟩ := hr
      have hS : (s.heap.push { cls := .type "set", dict := none, data := .set #[] 0 (.fresh 0 0 (!byText w)) }).get? s.heap.objs.size = some { cls := .type "set", dict := none, data := .set #[] 0 (.fresh 0 0 (!byText w)) } := Heap.get?_push_size _ rfl
      have hT : Shared.TypeIs { s with heap := s.heap.push { cls := .type "set", dict := none, data := .set #[] 0 (.fresh 0 0 (!byText w)) } } (.ref s.heap.objs.size) "set" := ⟨_, hS, rfl⟩
      have hli := PySem.F.called_set.init.lookup
      have hbi := PySem.F.called_set.init.bind (.ref s.heap.objs.size)
      repeat (any_goals (first | assumption | wp_step))
      refine codeAny_mono (codeAny_call_builtin (R := wants (fun r s₂ => r = .none ∧ ∃ h' tk, s₂ = { s with heap := h', toks := tk } ∧ SetHas w base vals h' s.heap.objs.size ∧ (∀ b o, s.heap.get? b = some o → h'.get? b = some o)) E) PySem.F.called_set.init.plain PySem.F.entry_set_init (check_set_init_1 hT ?_)) fun r₂ s₂ hr₂ => ?_
      · obtain ⟨ol, hol, hcl, nl, hdl⟩ := hl
        obtain ⟨ocls, odict, odata, oslots⟩ := ol
        simp only at hcl hdl
        subst hcl; subst hdl
        have hol' : (s.heap.push { cls := .type "set", dict := none, data := .set #[] 0 (.fresh 0 0 (!byText w)) }).get? l = some { cls := .type "list", dict := odict, data := .seq vs.toArray nl, slots := oslots } := Heap.get?_push_of_some _ hol
        have hsls := PySem.F.sub_list_set
        have hslf := PySem.F.sub_list_frozenset
        have hne : (Value.type "list" == Value.type "dict") = false := by decide
        have hl1 : (s.heap.push { cls := .type "set", dict := none, data := .set #[] 0 (.fresh 0 0 (!byText w)) }).IsList l vs.toArray := ⟨_, hol', rfl, nl, rfl⟩
        unfold Builtin.«set.__init__» noKeywords Builtin.Frozenset.updateFrom
        generalize hPI : pyIter = PI
        wp_walk
        subst hPI
        refine wpAny_pyIter_list hl1 ?_
        refine wpAny_bind (wpAny_runValue ?_)
        have hlS : l < s.heap.objs.size := Heap.lt_size hol
        have hh3 : A.in1.in1.in1.handled = none := by simp [hh]
        have hneI : l ≠ (s.heap.push { cls := .type "set", dict := none, data := .set #[] 0 (.fresh 0 0 (!byText w)) }).objs.size := by
          rw [Heap.size_push]; exact Nat.ne_of_lt (Nat.lt_succ_of_lt hlS)
        have hSf : s.heap.objs.size ∉ [(s.heap.push { cls := .type "set", dict := none, data := .set #[] 0 (.fresh 0 0 (!byText w)) }).objs.size, l] := by
          rw [Heap.size_push]; simp only [List.mem_cons, List.mem_singleton, List.not_mem_nil, or_false, not_or]
          exact ⟨Nat.ne_of_lt (Nat.lt_succ_self _), Nat.ne_of_gt hlS⟩
        have WW := Walks.list (prog := prog) (w := w) hh3 _ l hneI vs.toArray
        have esz : vs.toArray.size = vals.length := by rw [List.size_toArray, hlen]
        rw [esz] at WW
        refine set_loop hall hbase WW s.heap.objs.size hSf (fun i v hv => hi i v (by simpa using hv)) hvb (vals.length - 0) 0 _ (by omega) (Nat.zero_le _)
          ⟨⟨_, Heap.get?_push_size _ rfl, rfl, rfl⟩, (hl1.at fun o e => Heap.get?_push_of_some _ e)⟩ ?hS0 ?hR
        case hS0 =>
          exact ⟨[], 0, ([], SetTable.fresh 0 0 (!byText w)), ⟨Heap.get?_push_of_some _ hS, .nil⟩, h0, fun u _ => by simp⟩
        case hR =>
          intro h' tk hm hS'
          show wpAny _ _ _ _ _ _
          refine wpAny_pure ?_
          show wpAny _ _ (ret Value.none) _ _ _
          refine wpAny_pure ⟨rfl, h', tk, rfl, hS', fun b o e => ?_⟩
          have hb := Heap.lt_size e
          have hb1 : b ≠ s.heap.objs.size := Nat.ne_of_lt hb
          have hb2 : b ≠ (s.heap.push { cls := .type "set", dict := none, data := .set #[] 0 (.fresh 0 0 (!byText w)) }).objs.size := by
            rw [Heap.size_push]; exact Nat.ne_of_lt (Nat.lt_succ_of_lt hb)
          exact hm b o (by simp only [List.mem_cons, List.mem_singleton, List.not_mem_nil, or_false, not_or]; exact ⟨hb1, hb2⟩) (Heap.get?_push_of_some _ (Heap.get?_push_of_some _ e))
      · cases r₂ with
        | error e => exact hr₂
        | ok fl₂ =>
          cases fl₂ with
          | ret r =>
            obtain ⟨rfl, h', tk, rfl, hS', hk'⟩ := hr₂
            repeat (any_goals (first | assumption | wp_step))
            exact h _ _ hS' hk'
          | _ => exact hr₂.elim
    | _ => exact hr.elim
end
end Mine
end
section
open PySem PySem.W PyProof.Rows PySem.Calls PySem.Spec
set_option Elab.async false
set_option maxRecDepth 100000
set_option maxHeartbeats 8000000
set_option linter.unusedVariables false
set_option genSizeOf false
namespace Mine
theorem slot_seti_next : Slot "set_iterator" "__next__" "set_iterator.__next__" :=
  .of (owner := "set_iterator") (n := "__next__") (by rw [typeLookup_type, builtinLookup_eq_fast]; kernel_rfl) (by decide +kernel) (by decide +kernel) (by decide +kernel)
    (by first | exact .inl (by decide +kernel) | exact .inr (by decide +kernel)) (by rw [isSubtype_type]; kernel_rfl)
theorem slot_seti_iter : Slot "set_iterator" "__iter__" "set_iterator.__iter__" :=
  .of (owner := "set_iterator") (n := "__iter__") (by rw [typeLookup_type, builtinLookup_eq_fast]; kernel_rfl) (by decide +kernel) (by decide +kernel) (by decide +kernel)
    (by first | exact .inl (by decide +kernel) | exact .inr (by decide +kernel)) (by rw [isSubtype_type]; kernel_rfl)
theorem entry_seti_next : entryFor table "set_iterator.__next__" = some Builtin.«set_iterator.__next__» := entryFor_of_fast (by kernel_rfl)
theorem entry_seti_iter : entryFor table "set_iterator.__iter__" = some Builtin.«dict_keyiterator.__iter__» :=
  entryFor_alias (id' := "dict_keyiterator.__iter__") (by kernel_rfl) rfl (by decide +kernel) (by kernel_rfl)
theorem entry_set_iter : entryFor table "set.__iter__" = some Builtin.«frozenset.__iter__» :=
  entryFor_alias (id' := "frozenset.__iter__") (by kernel_rfl) rfl (by decide +kernel) (by kernel_rfl)
theorem args_seti_next (a : Value) : argsOk "set_iterator.__next__" ⟨[a], []⟩ := by unfold argsOk; kernel_rfl
theorem args_seti_iter (a : Value) : argsOk "set_iterator.__iter__" ⟨[a], []⟩ := by unfold argsOk; kernel_rfl
theorem slot_set_len' : Slot "set" "__len__" "set.__len__" :=
  .of (owner := "set") (n := "__len__") (by rw [typeLookup_type, builtinLookup_eq_fast]; kernel_rfl) (by decide +kernel) (by decide +kernel) (by decide +kernel)
    (by first | exact .inl (by decide +kernel) | exact .inr (by decide +kernel)) (by rw [isSubtype_type]; kernel_rfl)
section
variable {prog : Program} {w : World} {A : Around} {E : Value → Shared → Prop} {s : Shared}
theorem hint_set {r : Addr} {Q : Bool → Shared → Prop} (hT : s.TypeIs (.ref r) "set") (h : Q false s) : wpAny (model prog w) A (Builtin.List.listLengthHint (.ref r)) Q E s := by
  unfold Builtin.List.listLengthHint
  refine wpAny_bind (wpAny_specialOf hT slot_set_len'.lookup ?_)
  generalize hid : ("set.__len__" : String) = id0
  wp_delta
  rw [show splitId id0 = some ("set", "__len__") from by subst hid; decide +kernel]
  subst hid
  refine wpAny_bind (wpAny_isInstance (T := "set") (b := true) hT (by rw [isSubtype_type]; kernel_rfl) ?_)
  refine wpAny_ite_split (fun hab => absurd hab (by decide)) (fun _ => ?_)
  refine wpAny_ite_split (fun _ => ?_) (fun hab => absurd (by decide +kernel) hab)
  refine wpAny_bind (wpAny_typeOf hT ?_)
  exact wpAny_pure h
end
end Mine
end
section
open PySem PySem.W PyProof.Rows PySem.Calls PySem.Spec
set_option Elab.async false
set_option maxRecDepth 100000
set_option maxHeartbeats 8000000
set_option linter.unusedVariables false
set_option genSizeOf false
namespace Mine
section
variable {prog : Program} {w : World} {A : Around} {E : Value → Shared → Prop} {s : Shared}
noncomputable def ordF (w : World) (a : Addr) (ep : Nat) (es : Array (Int × Value)) : Array (Int × Value) := if byText w then pickOrder (w.params.setOrder a ep) es else es
noncomputable def slotF (w : World) (t : SetTable) (i : Nat) : Nat := if byText w then 0 else slotAt t i
noncomputable abbrev setItObj (w : World) (a : Addr) (ep n : Nat) (t : SetTable) (i : Nat) : Obj := { cls := .type "set_iterator", dict := none, data := .fields #[rawInt (slotF w t i), rawInt i, .ref a, rawInt n, rawInt ep], slots := #[] }
structure SetOk (w : World) (h : Heap) (a : Addr) (es : Array (Int × Value)) (ep : Nat) (t : SetTable) : Prop where
  ob : h.get? a = some { cls := .type "set", dict := none, data := .set es ep t, slots := #[] }
theorem pyIter_set {a : Addr} {es : Array (Int × Value)} {ep : Nat} {t : SetTable} {Q : Value → Shared → Prop} (ho : s.heap.get? a = some { cls := .type "set", dict := none, data := .set es ep t, slots := #[] }) (hf : t.fits es.size = true) (hp : t.plain = true)
    (hQ : Q (.ref s.heap.objs.size) { s with heap := s.heap.push (setItObj w a ep es.size t 0) }) : wpAny (model prog w) A (pyIter (.ref a)) Q E s := by
  refine wpAny_pyIter_slot (T := "set") ⟨_, ho, rfl⟩ PySem.F.slot_set_iter (wpAny_call_entry PySem.F.slot_set_iter ⟨_, ho, rfl⟩ entry_set_iter ?_ (PySem.F.args_set_iter_1 _))
  unfold Builtin.«frozenset.__iter__» Builtin.Frozenset.slot0
  refine wpAny_bind (wpAny_bind (wpAny_pure (wpAny_pure ?_)))
  unfold Builtin.Frozenset.sizeOf
  refine wpAny_bind (wpAny_bind (wpAny_setEntries_of ho rfl hf (wpAny_pure ?_)))
  refine wpAny_bind ?_
  have hdr : wpAny (model prog w) A.in1 (setDrawn a) (fun b s₁ => b = false ∧ s₁ = s) (fun _ _ => False) s := by
    unfold setDrawn setsByText
    refine wpAny_bind (wpAny_setState_of ho rfl hf ?_)
    refine wpAny_bind (wpAny_bind (wpAny_askSetting (wpAny_pure ?_)))
    refine wpAny_pure ⟨?_, rfl⟩
    show (!_ && (!t.plain && _)) = false
    rw [hp]; simp
  refine wpAny_mono hdr (fun b s₁ hb => ?_) fun _ _ h => False.elim h
  obtain ⟨rfl, rfl⟩ := hb
  dsimp only
  rw [if_neg (by decide)]
  refine wpAny_bind (wpAny_pure ?_)
  refine wpAny_bind (wpAny_setEpoch_of ho rfl hf ?_)
  unfold newFields
  refine wpAny_bind (wpAny_newObj_type (wpAny_pure ⟨_, rfl, "set_iterator", _, ⟨_, Heap.get?_push_size _ rfl, rfl⟩, slot_seti_next.lookup, ?_⟩) (by size_fits))
  have : setItObj w a ep es.size t 0 = { cls := .type "set_iterator", data := .fields #[rawInt 0, rawInt 0, .ref a, rawInt es.size, rawInt ep] } := by
    unfold setItObj slotF
    split <;> rfl
  rw [this] at hQ
  exact hQ
structure TabOk (w : World) (es : Array (Int × Value)) (t : SetTable) : Prop where
  fits : t.fits es.size = true
  plain : t.plain = true
  led : t.led = !byText w
  walk : ∀ i, i ≤ es.size → SetTable.below t.place (slotAt t i) = i
theorem TabOk.psz {es : Array (Int × Value)} {t : SetTable} (x : TabOk w es t) : t.place.size = es.size := by
  have := x.fits
  unfold SetTable.fits at this
  simp only [Bool.and_eq_true, beq_iff_eq] at this
  exact this.1
theorem wp_setNext {a : Addr} {es : Array (Int × Value)} {ep : Nat} {t : SetTable} {i : Nat} {Q : Option (Value × Nat) → Shared → Prop} (ho : s.heap.get? a = some { cls := .type "set", dict := none, data := .set es ep t, slots := #[] }) (T : TabOk w es t) (hi : i ≤ es.size)
    (hQ : Q (if i < es.size then ((ordF w a ep es)[i]?).map fun e => (e.2, slotF w t (i + 1)) else none) s) (hord : (ordF w a ep es).size = es.size) : wpAny (model prog w) A (setNext a (slotF w t i) i ep) Q E s := by
  unfold setNext setsByText
  refine wpAny_bind (wpAny_setState_of ho rfl T.fits ?_)
  refine wpAny_bind (wpAny_bind (wpAny_askSetting (wpAny_pure ?_)))
  dsimp only
  have hb : byText w = w.params.followText "set-order" := rfl
  cases hbt : w.params.followText "set-order" with
  | true =>
    rw [hbt] at hb
    rw [show (model prog w).w.params.followText "set-order" = true from hbt, if_pos rfl, if_neg (by simp)]
    refine wpAny_bind ?_
    unfold setWalk setsByText
    refine wpAny_bind (wpAny_setState_of ho rfl T.fits ?_)
    refine wpAny_bind (wpAny_bind (wpAny_askSetting (wpAny_pure ?_)))
    rw [show (model prog w).w.params.followText "set-order" = true from hbt, if_pos rfl]
    refine wpAny_bind (wpAny_askSetting (wpAny_pure (wpAny_pure ?_)))
    have e : ordF w a ep es = pickOrder (w.params.setOrder a ep) es := by unfold ordF; rw [hb, if_pos rfl]
    have e2 : slotF w t i = slotF w t (i + 1) := by unfold slotF; rw [hb]; rfl
    show Q (Option.map (fun e => (e.2, slotF w t i)) ((pickOrder (w.params.setOrder a ep) es)[i]?)) s
    rw [← e, e2]
    split at hQ
    · exact hQ
    · rename_i hn
      rw [Array.getElem?_eq_none (by omega)]
      exact hQ
  | false =>
    rw [hbt] at hb
    rw [show (model prog w).w.params.followText "set-order" = false from hbt, if_neg (by decide)]
    have e : ordF w a ep es = es := by unfold ordF; rw [hb, if_neg (by decide)]
    have e2 : ∀ j, slotF w t j = slotAt t j := fun j => by unfold slotF; rw [hb]; rfl
    rw [e] at hQ
    rw [e2] at hQ ⊢
    have hpl := T.plain
    have hle := T.led
    have hwk := T.walk i hi
    have hps := T.psz
    refine wpAny_ite_split (fun hab => absurd hab ?_) (fun _ => ?_)
    · show ¬ ((!t.plain && decide _) = true)
      rw [hpl]; simp
    refine wpAny_bind ?_
    refine wpAny_ite_split (fun hab => absurd hab ?_) (fun _ => ?_)
    · rw [hle, hb]; simp
    refine wpAny_pure ?_
    rw [hwk]
    by_cases hlt : i < es.size
    · rw [if_pos hlt, Array.getElem?_eq_getElem hlt] at hQ
      rw [Array.getElem?_eq_getElem hlt, Array.getElem?_eq_getElem (by omega : i < t.place.size)]
      refine wpAny_pure ?_
      have e3 : slotAt t (i + 1) = t.place[i] + 1 := by
        show t.place.getD i 0 + 1 = _
        rw [Array.getD_eq_getD_getElem?, Array.getElem?_eq_getElem (by omega : i < t.place.size)]; rfl
      rw [e3] at hQ
      exact hQ
    · rw [if_neg hlt] at hQ
      rw [Array.getElem?_eq_none (by omega)]
      exact wpAny_pure hQ
theorem pyNext_set {I a : Addr} {es : Array (Int × Value)} {ep : Nat} {t : SetTable} {i : Nat} {x : Int × Value} {Q : Option Value → Shared → Prop} (hit : s.heap.get? I = some (setItObj w a ep es.size t i)) (hIa : I ≠ a)
    (ho : s.heap.get? a = some { cls := .type "set", dict := none, data := .set es ep t, slots := #[] }) (T : TabOk w es t) (hi : i < es.size) (hord : (ordF w a ep es).size = es.size) (hx : (ordF w a ep es)[i]? = some x)
    (hQ : ∀ h', h'.get? I = some (setItObj w a ep es.size t (i + 1)) → Heap.SameBut I s.heap h' → Q (some x.2) { s with heap := h' }) : wpAny (model prog w) A (pyNext (.ref I)) Q E s := by
  unfold pyNext
  have hT : s.TypeIs (.ref I) "set_iterator" := ⟨_, hit, rfl⟩
  refine wpAny_bind (wpAny_attempt (wpAny_callSpecial?_slot (name := Str.ofString "__next__") hT slot_seti_next
    (wpAny_call_entry slot_seti_next hT entry_seti_next ?_ (args_seti_next _))))
  unfold Builtin.«set_iterator.__next__»
  refine wpAny_bind (wpAny_pure ?_)
  refine wpAny_bind (wpAny_fieldsOf hit rfl ?_)
  show wpAny _ _ (setEntries a >>= _) _ _ s
  refine wpAny_bind (wpAny_setEntries_of ho rfl T.fits ?_)
  rw [if_neg (by simp)]
  show wpAny _ _ (setNext a (slotF w t i) i ep >>= _) _ _ s
  refine wpAny_bind (wp_setNext ho T (Nat.le_of_lt hi) ?_ hord)
  rw [if_pos hi, hx]
  dsimp only [Option.map]
  refine wpAny_bind (wpAny_setField_rec hit (by simp) fun h1 g1 sb1 => ?_)
  refine wpAny_bind (wpAny_setField_rec (s := { s with heap := h1 }) g1 (by simp) fun h2 g2 sb2 => ?_)
  refine wpAny_pure ⟨_, rfl, wpAny_pure (hQ h2 ?_ (sb1.trans sb2))⟩
  rw [g2]
  rfl
theorem pyNext_set_end {I a : Addr} {es : Array (Int × Value)} {ep : Nat} {t : SetTable} {Q : Option Value → Shared → Prop} (hh : A.handled = none) (hit : s.heap.get? I = some (setItObj w a ep es.size t es.size)) (hIa : I ≠ a)
    (ho : s.heap.get? a = some { cls := .type "set", dict := none, data := .set es ep t, slots := #[] }) (T : TabOk w es t) (hord : (ordF w a ep es).size = es.size)
    (hQ : ∀ h', Heap.ExtBut I s.heap h' → Q none { s with heap := h' }) : wpAny (model prog w) A (pyNext (.ref I)) Q E s := by
  unfold pyNext
  have hT : s.TypeIs (.ref I) "set_iterator" := ⟨_, hit, rfl⟩
  refine wpAny_bind (wpAny_attempt (wpAny_callSpecial?_slot (name := Str.ofString "__next__") hT slot_seti_next
    (wpAny_call_entry slot_seti_next hT entry_seti_next ?_ (args_seti_next _))))
  unfold Builtin.«set_iterator.__next__»
  refine wpAny_bind (wpAny_pure ?_)
  refine wpAny_bind (wpAny_fieldsOf hit rfl ?_)
  show wpAny _ _ (setEntries a >>= _) _ _ s
  refine wpAny_bind (wpAny_setEntries_of ho rfl T.fits ?_)
  rw [if_neg (by simp)]
  show wpAny _ _ (setNext a (slotF w t es.size) es.size ep >>= _) _ _ s
  refine wpAny_bind (wp_setNext ho T (Nat.le_refl _) ?_ hord)
  rw [if_neg (Nat.lt_irrefl _)]
  dsimp only
  refine wpAny_bind (wpAny_setField hit rfl (by simp) ?_)
  show wpAny _ _ (newExc (.type "StopIteration") [] >>= _) _ _ _
  refine wpAny_bind ?_
  simp only [newExc, newTuple]
  refine wpAny_bind (wpAny_newObj_type ?_ (by size_fits))
  refine wpAny_bind (m := firstArgMember _ _) (wpAny_of_eq (a := Value.none) (by first | rfl | (simp only [firstArgMember]; rfl)) ?_)
  refine wpAny_newObj_type ?_ (by size_fits)
  simp only [raiseNew]
  refine wpAny_bind (wpAny_handled ?_)
  rw [show A.in1.handled = none from hh]
  refine wpAny_bind (wpAny_pure (wpAny_throw ?_))
  refine wpAny_bind (wpAny_isInstance (T := "StopIteration") (b := true) ⟨_, Heap.get?_push_size _ rfl, rfl⟩ isSubtype_stop ?_)
  exact wpAny_pure (hQ _ (((Heap.SameBut.update ..).extBut.push _).push _))
theorem pyIter_seti {I a : Addr} {ep n i : Nat} {t : SetTable} {Q : Value → Shared → Prop} (hit : s.heap.get? I = some (setItObj w a ep n t i)) (h : Q (.ref I) s) : wpAny (model prog w) A (pyIter (.ref I)) Q E s := by
  have hT : s.TypeIs (.ref I) "set_iterator" := ⟨_, hit, rfl⟩
  refine wpAny_pyIter_slot hT slot_seti_iter (wpAny_call_entry slot_seti_iter hT entry_seti_iter ?_ (args_seti_iter _))
  show wpAny _ _ (ret (.ref I)) _ _ s
  exact wpAny_pure ⟨_, rfl, "set_iterator", _, hT, slot_seti_next.lookup, h⟩
end
end Mine
end
section
open PySem PySem.W PyProof.Rows PySem.Calls PySem.Spec
set_option Elab.async false
set_option maxRecDepth 100000
set_option maxHeartbeats 8000000
set_option linter.unusedVariables false
set_option genSizeOf false
namespace Mine
theorem eraseIdx_perm {α : Type} : ∀ (l : List α) (i : Nat) (x : α), l[i]? = some x → (x :: l.eraseIdx i).Perm l
  | [], i, x, h => by simp at h
  | a :: r, 0, x, h => by simp at h; subst h; exact List.Perm.refl _
  | a :: r, i + 1, x, h => by
    have := eraseIdx_perm r i x (by simpa using h)
    rw [List.eraseIdx_cons_succ]
    exact (List.Perm.swap a x _).trans (List.Perm.cons a this)
theorem pick_go {α : Type} (next : Nat → Nat) : ∀ (n k : Nat) (left : List α) (out : Array α), left.length = n → ((pickOrder.go next n k left out).toList).Perm (out.toList ++ left)
  | 0, k, left, out, h => by
    cases left with
    | nil => simp [pickOrder.go]
    | cons a r => simp at h
  | n + 1, k, left, out, h => by
    unfold pickOrder.go
    have hlt : next k % left.length < left.length := Nat.mod_lt _ (by omega)
    have hx : left[next k % left.length]? = some left[next k % left.length] := List.getElem?_eq_getElem hlt
    rw [hx]
    dsimp only
    have hl : (left.eraseIdx (next k % left.length)).length = n := by rw [List.length_eraseIdx_of_lt hlt]; omega
    refine (pick_go next n (k + 1) _ _ hl).trans ?_
    rw [Array.toList_push, List.append_assoc]
    exact List.Perm.append_left _ (eraseIdx_perm _ _ _ hx)
theorem ordF_perm (w : World) (a : Addr) (ep : Nat) (es : Array (Int × Value)) : (ordF w a ep es).toList.Perm es.toList := by
  unfold ordF
  split
  · unfold pickOrder
    have := pick_go (w.params.setOrder a ep) es.size 0 es.toList #[] (by simp)
    simpa using this
  · exact List.Perm.refl _
theorem ordF_size (w : World) (a : Addr) (ep : Nat) (es : Array (Int × Value)) : (ordF w a ep es).size = es.size := by
  have := (ordF_perm w a ep es).length_eq
  simpa using this
section
variable {prog : Program} {w : World} {A : Around} {E : Value → Shared → Prop} {s : Shared}
theorem set_src {a : Addr} {es : Array (Int × Value)} {ep : Nat} {t : SetTable} (T : TabOk w es t) : KdlSrc prog w "set" a a es.size (fun i v => ∃ e, (ordF w a ep es)[i]? = some e ∧ e.2 = v) (fun h => h.get? a = some { cls := .type "set", dict := none, data := .set es ep t, slots := #[] }) where
  type := fun _ ho => ⟨_, ho, rfl⟩
  there := fun _ ho => ⟨Heap.lt_size ho, Heap.lt_size ho⟩
  keep := fun _ _ ho hk => hk a (.inl rfl) _ ho
  notList := by decide
  notTuple := by decide
  hint := fun _ _ _ _ ho hq => hint_set ⟨_, ho, rfl⟩ hq
  iter := fun A s hh ho => by
    have hne : s.heap.objs.size ≠ a := Nat.ne_of_gt (Heap.lt_size ho)
    have hord := ordF_size w a ep es
    refine ⟨setItObj w a ep es.size t 0, fun i h => h.get? s.heap.objs.size = some (setItObj w a ep es.size t i) ∧ h.get? a = some { cls := .type "set", dict := none, data := .set es ep t, slots := #[] }, fun E Q hQ => pyIter_set ho T.fits T.plain hQ, ⟨?_, ?_, ?_, ?_, ?_⟩, Heap.get?_push_size _ rfl, Heap.get?_push_of_some _ ho⟩
    · intro b hb; simp at hb; simp [hb]
    · intro i h h' st hk; exact ⟨hk _ (by simp) _ st.1, hk _ (by simp) _ st.2⟩
    · intro i s' Q E hi st hQ
      have hx : (ordF w a ep es)[i]? = some (ordF w a ep es)[i] := Array.getElem?_eq_getElem (by omega)
      refine pyNext_set st.1 hne st.2 T hi hord hx fun h' g sb => ?_
      exact hQ _ h' s'.toks ⟨_, hx, rfl⟩ ⟨g, (sb.2 a (Ne.symm hne)).trans st.2⟩ fun b o hb e => sb.extBut b o (fun h => hb (by simp [h])) e
    · intro s' Q E st hQ
      exact pyNext_set_end hh st.1 hne st.2 T hord fun h' x => hQ h' s'.toks fun b o hb e => x b o (fun h => hb (by simp [h])) e
    · intro i s' Q E st hQ
      exact pyIter_seti st.1 hQ
theorem sts_tab {base : List Nat} {st : TS} {es : List (Int × Value)} (hall : (sts (!byText w) base).all (stGood (!byText w) base) = true) (hst : st ∈ sts (!byText w) base) (hel : All2 ElS es st.1) : TabOk w es.toArray st.2 ∧ st.1.Nodup ∧ (∀ u ∈ st.1, u ∈ base) := by
  have hg := List.all_eq_true.mp hall st hst
  unfold stGood at hg
  simp only [Bool.and_eq_true, beq_iff_eq, decide_eq_true_eq, List.all_eq_true, Bool.or_eq_true, List.contains_iff_mem] at hg
  obtain ⟨⟨⟨⟨⟨⟨⟨hpl, hled⟩, hfit⟩, hlen⟩, hnd⟩, hsub⟩, hwalk⟩, hadd⟩ := hg
  have hl := hel.length
  refine ⟨⟨by rw [List.size_toArray, hl]; exact hfit, hpl, hled, fun i hi => ?_⟩, hnd, hsub⟩
  rw [List.size_toArray, hl] at hi
  exact hwalk i (List.mem_range.mpr (by omega))
theorem ElS.ints {es : List (Int × Value)} {M : List Nat} (t : All2 ElS es M) : IntsAre (es.map (·.2)) (M.map Int.ofNat) := by
  induction t with
  | nil => exact .nil
  | cons h t ih =>
    obtain ⟨h1, tk, h2⟩ := h
    simp only [List.map_cons, h2]
    exact .cons _ tk ih
theorem ints_perm : ∀ {vs : List Value} {ns : List Int} {us : List Value}, IntsAre vs ns → us.Perm vs → ∃ ms, IntsAre us ms ∧ ms.Perm ns := by
  intro vs ns us hi hp
  have h1 : ∀ v ∈ us, ∃ n t, v = Value.int n t := fun v hv => hi.all v (hp.mem_iff.mp hv)
  refine ⟨us.map numOf, intsAre_map us h1, ?_⟩
  rw [← hi.nums]
  exact hp.map numOf
noncomputable def sortedP (base vals : List Nat) : List Nat := base.filter fun u => vals.contains u
theorem ints_nats : ∀ {vs : List Value} {L : List Nat} {h : Heap}, IntsAre vs (L.map Int.ofNat) → All2 (RepS h) vs (L.map .nat)
  | [], [], h, _ => .nil
  | v :: vs, a :: L, h, x => by
    cases x with
    | cons n t hr => exact .cons ⟨t, rfl⟩ (ints_nats hr)
  | [], a :: L, h, x => by cases x
  | v :: vs, [], h, x => by cases x
theorem sorted_set {a : Addr} {base vals : List Nat} {Q : Value → Shared → Prop} (hall : (sts (!byText w) base).all (stGood (!byText w) base) = true) (hbs : base.Pairwise (· < ·)) (hh : A.handled = none) (hS : SetHas w base vals s.heap a)
    (h : ∀ (h' : Heap) (tk : Nat) (D : Addr), KeepA s.heap h' → s.heap.get? D = none → RepL h' D ((sortedP base vals).map .nat) → Q (.ref D) { s with heap := h', toks := tk }) :
    wpAny (model prog w) A (call (.builtin "sorted") [.ref a]) Q E s := by
  obtain ⟨es, ep, st, ⟨ho, hel⟩, hst, hmem⟩ := hS
  obtain ⟨T, hnd, hsub⟩ := sts_tab hall hst hel
  have hlen := sts_len hall hst
  have hesl : es.toArray.size ≤ 5 := by rw [List.size_toArray, hel.length]; exact hlen
  refine Calls.call_function_entry kind_sorted plain_sorted entry_sorted (args_sorted1 _) ?_
  unfold Builtin.«sorted»
  refine wpAny_bind (m := checkCount "sorted" 1 1 _) (wpAny_pure ?_)
  refine wpAny_bind (kdu_collect (A := A.in1) (set_src T) hh ho (Nat.le_trans hesl (by rw [sizeLine_eq]; decide)) fun h' tk acc hk hacc => ?_)
  have hord := ordF_size w a ep es.toArray
  have hacc2 : acc.toList = (ordF w a ep es.toArray).toList.map (·.2) := by
    apply List.ext_getElem?
    intro i
    rw [List.getElem?_map]
    cases hq : acc.toList[i]? with
    | some v =>
      obtain ⟨e, he, hv⟩ := hacc.2 i v (by simpa using hq)
      rw [show (ordF w a ep es.toArray).toList[i]? = some e by simpa using he]
      rw [← hv]; rfl
    | none =>
      have : acc.size ≤ i := by simpa using hq
      rw [hacc.1] at this
      rw [List.getElem?_eq_none (by rw [Array.length_toList, hord]; exact this)]; rfl
  have hI0 := ElS.ints hel
  obtain ⟨ms, hI, hmp⟩ := ints_perm hI0 (show acc.toList.Perm (es.map (·.2)) by rw [hacc2]; exact (ordF_perm w a ep es.toArray).map _)
  have h64 : acc.toList.length < 64 := by rw [Array.length_toList, hacc.1]; omega
  refine wpAny_bind (wpAny_newList ?_ (by rw [sizeLine_eq]; omega))
  have hoL : (h'.push (seqObj "list" acc.toList.toArray 0)).get? h'.objs.size = some (seqObj "list" acc.toList.toArray 0) := Heap.get?_push_size _ rfl
  refine wpAny_bind (wpAny_holding (wpAny_call_entry slot_list_sort ⟨_, hoL, rfl⟩ entry_list_sort (list_sort_tree hoL hI h64 fun out ns' a1 a2 a3 => ⟨_, rfl, ?_⟩) (args_list_sort _)))
  refine wpAny_pure ⟨_, rfl, ?_⟩
  have hnn : ns' = (sortedP base vals).map Int.ofNat := by
    refine List.Perm.eq_of_pairwise (le := (· ≤ ·)) (fun a b _ _ h1 h2 => Int.le_antisymm h1 h2) a3 ?_ ((a2.trans hmp).trans (List.Perm.map _ ?_))
    · rw [List.pairwise_map]
      exact (hbs.sublist List.filter_sublist).imp fun h => by simp; omega
    · refine (List.perm_ext_iff_of_nodup hnd ?_).mpr fun u => ?_
      · exact (hbs.imp (S := (· ≠ ·)) fun h => Nat.ne_of_lt h).sublist List.filter_sublist
      · unfold sortedP
        rw [List.mem_filter, List.contains_iff_mem]
        exact ⟨fun hu => ⟨hsub u hu, (hmem u (hsub u hu)).mp hu⟩, fun hu => (hmem u hu.1).mpr hu.2⟩
  subst hnn
  obtain ⟨e, he⟩ := sortedHeap_at (out := out) hoL
  have hDn : s.heap.get? h'.objs.size = none := by
    cases q : s.heap.get? h'.objs.size with
    | none => rfl
    | some o => exact absurd (Heap.lt_size (hk _ _ q)) (Nat.lt_irrefl _)
  refine h (sortedHeap (h'.push (seqObj "list" acc.toList.toArray 0)) h'.objs.size acc.toList out) tk h'.objs.size (fun b o eb => ?_) hDn ⟨out.toList, ⟨e, by simpa using he⟩, ints_nats a1⟩
  have hb := hk b o eb
  rw [sortedHeap_old (Nat.ne_of_lt (Heap.lt_size hb)) (by rw [Heap.size_push]; exact Nat.lt_succ_of_lt (Heap.lt_size hb))]
  exact Heap.get?_push_of_some _ hb
end
end Mine
end
section
open PySem PySem.W PyProof.Rows PySem.Calls PySem.Spec
set_option Elab.async false
set_option maxRecDepth 100000
set_option maxHeartbeats 8000000
set_option linter.unusedVariables false
set_option genSizeOf false
namespace Mine
theorem boot_setT : bootBuiltins (Str.ofString "set") = some (.type "set") := by decide +kernel
theorem boot_sorted' : bootBuiltins (Str.ofString "sorted") = some (.builtin "sorted") := by decide +kernel
theorem hashA : ∀ u ∈ baseA, hashInt (u : Int) = u := by decide
theorem hashB : ∀ u ∈ baseB, hashInt (u : Int) = u := by decide
structure BaseOk (base : List Nat) : Prop where
  all : ∀ led, (sts led base).all (stGood led base) = true
  z : ∀ led, ([], SetTable.fresh 0 0 led) ∈ sts led base
  hash : ∀ u ∈ base, hashInt (u : Int) = u
  asc : base.Pairwise (· < ·)
theorem baseA_ok : BaseOk baseA := ⟨fun led => ((Bool.and_eq_true _ _).mp (stsA led)).1, fun led => List.contains_iff_mem.mp ((Bool.and_eq_true _ _).mp (stsA led)).2, hashA, by decide⟩
theorem baseB_ok : BaseOk baseB := ⟨fun led => ((Bool.and_eq_true _ _).mp (stsB led)).1, fun led => List.contains_iff_mem.mp ((Bool.and_eq_true _ _).mp (stsB led)).2, hashB, by decide⟩
section
variable {prog : Program} {w : World} {n : Nat} {env : Env} {cx : Cx} {vals : List V}
theorem Ev.sortedSet {base L : List Nat} {e : Expr} {p1 p2 p3 p4 : Pos} {fl : Fl} (B : BaseOk base) (hL : ∀ u ∈ L, u ∈ base) (he : Ev prog w n env cx vals e (.lst fl (L.map .nat))) (hx1 : cx.gs.contains (Str.ofString "sorted") = true) (hx2 : cx.gs.contains (Str.ofString "set") = true)
    (hs : starEach [e] env = [(false, eval e env)]) (hs' : starEach [.Call (.Name (Str.ofString "set") p2) [e] [] p3] env = [(false, eval (.Call (.Name (Str.ofString "set") p2) [e] [] p3) env)]) :
    Ev prog w n env cx vals (.Call (.Name (Str.ofString "sorted") p1) [.Call (.Name (Str.ofString "set") p2) [e] [] p3] [] p4) (.lst .own ((sortedP base L).map .nat)) := by
  intro A s Q E hA g re q
  refine wpAny_Call_NameR (wp_boot re.eo g (List.contains_iff_mem.mp hx1) (noG_sorted w) boot_sorted' (by decide) (by decide) ?_)
  refine Calls.callWith_builtin (by rw [hs']; rfl) ?_
  rw [hs']
  refine evalArgs_plain (wpAny_items_cons (e := .Call (.Name (Str.ofString "set") p2) [e] [] p3) (rest := []) ?_ hs')
  refine wpAny_Call_NameR (wp_boot re.eo g (List.contains_iff_mem.mp hx2) (noG_set w) boot_setT (by decide) (by decide) ?_)
  refine PySem.callWith_type (by rw [hs]; rfl) ?_
  have key : ∀ (R : List Value → Shared → Prop), (∀ v s₁, Ext s s₁ → RepV s₁.heap v (.lst fl (L.map .nat)) → R [v] s₁) → wpAny (model prog w) A (spliced (backTo p3 (starEach [e] env))) R E s := fun R hR =>
    wpAny_items_cons (e := e) (rest := []) (he A s _ _ hA g re fun v s₁ x₁ r₁ _ => wpAny_items_nil (hR v s₁ x₁ r₁)) hs
  rw [hs] at key ⊢
  refine evalArgs_plain (key _ fun v s₁ x₁ r₁ => ?_)
  obtain ⟨a, rfl, vs, hp, ha⟩ := r₁
  have hlen : vs.length = L.length := by rw [ha.length, List.length_map]
  refine call_set (B.all _) (B.z _) B.hash hA.hd hp.isList (fun i v hv => ?_) hlen hL fun h' tk hS hk => ?_
  · obtain ⟨it, h1, h2⟩ := ha.get' (i := i) (a := v) hv
    obtain ⟨c, rfl, hc⟩ := nat_item h1
    obtain ⟨t, rfl⟩ := h2
    exact ⟨t, by rw [List.getD_eq_getElem?_getD, hc]; rfl⟩
  have x₂ : Ext s { s₁ with heap := h', toks := tk } := ⟨x₁.keep.trans hk, x₁.os, x₁.gens⟩
  refine wpAny_items_nil ?_
  show wpAny _ _ (call (.builtin "sorted") [.ref s₁.heap.objs.size]) _ _ _
  refine sorted_set (s := { s₁ with heap := h', toks := tk }) (B.all _) B.asc hA.hd hS fun h2 tk2 D k2 hD r2 => ?_
  exact q _ _ (x₂.trans ⟨k2, rfl, .refl _⟩) ⟨D, rfl, r2⟩ fun a e => by cases e; exact none_back x₂ hD
end
end Mine
end
section
open PySem PySem.W PyProof.Rows PySem.Calls PySem.Spec
set_option Elab.async false
set_option maxRecDepth 100000
set_option maxHeartbeats 8000000
set_option linter.unusedVariables false
set_option genSizeOf false
namespace Mine
theorem pyNext_genQ {prog : Program} {w : World} {A : Around} {E : Value → Shared → Prop} {s : Shared} {a : Addr} {g n : Nat} {gs : GenState} {P : Nat → Shared → Shared → Prop} {Y : Protocol} {Q : Option Value → Shared → Prop} (hh : A.handled = none)
    (hl : s.heap.NoLimit) (hroom : A.depth < recursionLimit)
    (hg : s.heap.IsGen a g) (hgs : s.gens[g]? = some gs)
    (hgo : gs.Goes (model prog w) A.in1 (fun n s₀ r s₁ => r = .ok (.ret .none) ∧ P n s₀ s₁) Y n (.send .none) (s.setGen g .running))
    (hY : ∀ v s₁ gs', gs'.bare = true → Y (n - 1) (s.setGen g .running) v s₁ (fun r' s'' => match n with
        | 0 => False
        | m + 1 => gs'.Goes (model prog w) A.in1 (fun n s₀ r s₁ => r = .ok (.ret .none) ∧ P n s₀ s₁) Y m r' s'') → Q (some v) (s₁.setGen g gs'))
    (hP : ∀ s₁, P n (s.setGen g .running) s₁ → ∀ h', (∀ b o, s₁.heap.get? b = some o → h'.get? b = some o) → Q none { s₁.setGen g .finished with heap := h' }) :
    wpAny (model prog w) A (pyNext (.ref a)) Q E s := by
  unfold pyNext
  refine wpAny_bind (wpAny_attempt (wpAny_callSpecial?_slot (name := Str.ofString "__next__") hg.typeIs slot_gen_next
    (wpAny_call_entry slot_gen_next hg.typeIs entry_gen_next ?_ (args_gen_next _))))
  show wpAny _ _ (Builtin.Generator.genWake (.ref a) (.send .none)) _ _ s
  unfold Builtin.Generator.genWake
  refine wpAny_bind (wpAny_holding (wpAny_genNumber hg (wpAny_bind (wpAny_genState hgs ?_))))
  cases gs with
  | running => exact hgo.elim
  | finished => exact hgo.elim
  | _ =>
    refine wpAny_bind (wpAny_roomToWake hl hroom ?_)
    show wpAny _ _ (.resume g (.send .none) [] _) _ _ s
    refine wpAny_resumeQ hgs hgo (fun x s₁ hx => ?_) (fun v s₁ gs' hb hv => ?_)
    · obtain ⟨rfl, hp⟩ := hx
      show wpAny _ _ (newExc (.type "StopIteration") [] >>= _) _ _ _
      refine wpAny_bind ?_
      simp only [newExc, newTuple]
      refine wpAny_bind (wpAny_newObj_type ?_ (by size_fits))
      refine wpAny_bind (m := firstArgMember _ _) (wpAny_of_eq (a := Value.none) (by first | rfl | (simp only [firstArgMember]; rfl)) ?_)
      refine wpAny_newObj_type ?_ (by size_fits)
      simp only [raiseNew]
      refine wpAny_bind (wpAny_bind (wpAny_handled ?_))
      first | rw [show A.in1.handled = none from hh] | rw [hh]
      refine wpAny_throw ?_
      refine wpAny_bind (wpAny_isInstance (T := "StopIteration") (b := true) ⟨_, Heap.get?_push_size _ rfl, rfl⟩ isSubtype_stop ?_)
      exact wpAny_pure (hP s₁ hp _ fun b o hb => Heap.get?_push_of_some _ (Heap.get?_push_of_some _ hb))
    · exact wpAny_pure ⟨v, rfl, wpAny_pure (hY v s₁ gs' hb hv)⟩
section
variable {M : Model} {A : Around} {R : GenEnd} {Y : Protocol} {n : Nat} {s₀ : Shared} {c : Code} {fs : List Frame} {s : Shared} {env : Env} {K : Flow → Sem Fin} {H : Value → Sem Fin} {gd : Bool → Bool} {lv : List Value → List Value}
theorem seg_cons {st : Stmt} {rest : List Stmt} (h : wpAny M (A.over c fs) (exec st env) (fun fl s' => fl = .next ∧ Seg M A R Y n s₀ c ((execs rest env).wrap K H gd lv) fs s') (fun _ _ => False) s) :
    Seg M A R Y n s₀ c ((execs (st :: rest) env).wrap K H gd lv) fs s := by
  rw [execs_cons]
  refine seg_bind_wrap (wpAny_mono h (fun fl s' hh => ?_) fun _ _ hx => hx.elim)
  obtain ⟨rfl, hs⟩ := hh
  exact hs
theorem seg_ret {st : Stmt} {rest : List Stmt} {v : Value} (h : wpAny M (A.over c fs) (exec st env) (fun fl s' => fl = .ret v ∧ Seg M A R Y n s₀ c (K (.ret v)) fs s') (fun _ _ => False) s) :
    Seg M A R Y n s₀ c ((execs (st :: rest) env).wrap K H gd lv) fs s := by
  rw [execs_cons]
  refine seg_bind_wrap (wpAny_mono h (fun fl s' hh => ?_) fun _ _ hx => hx.elim)
  obtain ⟨rfl, hs⟩ := hh
  exact hs
theorem seg_yield_st {e : Expr} {p pos : Pos} {rest : List Stmt} (hi : interactive env = false) (hs : swapsWith (.Yield (some e) p) none pos.line env = pure false) (hco : env.scope.isCoroutine = false) (hgd : gd false = false) (hfs : splitAtGen fs = none) (hfg : fs.any Frame.guarded = false)
    (hmono : ∀ v s' (k1 k2 : Resume → Shared → Prop), (∀ s'', k1 (.send .none) s'' → k2 (.send .none) s'') → Y n s₀ v s' k1 → Y n s₀ v s' k2)
    (h : wpAny M (A.over c fs) (eval e env) (fun v s' => Y n s₀ v s' fun r s'' => Seg M A R Y n s'' c ((execs rest env).wrap K H gd lv) fs s'') (fun _ _ => False) s) :
    Seg M A R Y (n + 1) s₀ c ((execs (.Expr (.Yield (some e) p) pos :: rest) env).wrap K H gd lv) fs s := by
  rw [execs_cons, exec_Expr env _ _ hi hs]
  rw [Sem.bind_eq_wrap', Sem.wrap_wrap]
  refine seg_bind_wrap (wpAny_standAt ?_)
  rw [Sem.bind_eq_wrap', Sem.wrap_wrap]
  have ey : eval (.Yield (some e) p) env = (do let v ← eval e env; standAt p; yieldOut env v) := rfl
  rw [ey]
  refine seg_bind_wrap (wpAny_mono h (fun v s' hY => ?_) fun _ _ hx => hx.elim)
  refine seg_bind_wrap (wpAny_standAt ?_)
  have hy : yieldOut env v = yieldValue v := by simp only [yieldOut, hco, Bool.false_eq_true, if_false]
  rw [hy]
  unfold yieldValue suspend
  refine seg_yield hfs ?_ hfg (hmono _ _ _ _ (fun s'' hk => ?_) hY)
  · exact hgd
  · exact hk
/-- what comes after a loop -/
noncomputable def AfterL (M : Model) (A : Around) (R : GenEnd) (Y : Protocol) (c : Code) (fs : List Frame) (k : Result → Sem Fin) (l : List Value) (p : Pos) (t : Flow → Sem Fin) : Prop :=
  ∀ n s₀ c' fl s', Seg M A R Y n s₀ c (t fl) fs s' → Seg M A R Y n s₀ c' (leafOf (.ok fl)) (.ret k none false l c p [] :: fs) s'
theorem seg_for {target iter : Expr} {body rest : List Stmt} {p : Pos} (hgd : gd false = false) (hf : ∀ x, foldedSetIterable iter env x = pure x)
    (h : wpAny M (A.over c fs) (eval iter env) (fun x s₁ => wpAny M (A.over c fs) (pyIter x) (fun it s₂ => ∀ k l p', AfterL M A R Y c fs k l p' (fun fl => (match fl with | .next => execs rest env | f => pure f : Sem Flow).wrap K H gd lv) →
      Seg M A R Y n s₀ (.forLoop target it body [] env) (M.den (.forLoop target it body [] env)) (.ret k none false l c p' [] :: fs) s₂) (fun _ _ => False) s₁) (fun _ _ => False) s) :
    Seg M A R Y n s₀ c ((execs (.For target iter body [] p :: rest) env).wrap K H gd lv) fs s := by
  rw [execs_cons, PySem.exec_For]
  rw [Sem.bind_eq_wrap', Sem.wrap_wrap]
  refine seg_bind_wrap (wpAny_standAt ?_)
  refine seg_bind_wrap (wpAny_mono h (fun x s₁ h₁ => ?_) fun _ _ hx => hx.elim)
  refine seg_bind_wrap (wpAny_of_eq (hf x) ?_)
  refine seg_bind_wrap (wpAny_standAt ?_)
  refine seg_bind_wrap (wpAny_holding (wpAny_mono h₁ (fun it s₂ h₂ => ?_) fun _ _ hx => hx.elim))
  unfold runOwn run
  refine seg_call fun p' => ?_
  show Seg _ _ _ _ _ _ _ _ (.ret _ none (gd false) _ c p' [] :: fs) s₂
  rw [hgd]
  refine h₂ _ _ p' fun n s₀ c' fl s' hs => ?_
  exact seg_leaf (.ok fl) hs
noncomputable def turnK (target : Expr) (it : Value) (body : List Stmt) (env : Env) (H' : Value → Sem Fin) (f : Flow) : Sem Fin :=
  (match f with
    | .next | .cont => again (.forLoop target it body [] env)
    | .brk => pure (.done .next)
    | .ret v => pure (.done (.ret v)) : Sem Fin).wrap .pure H' id id
/-- one turn of a for, an item at hand -/
theorem seg_turn {target : Expr} {it : Value} {body : List Stmt} (hlt : ∀ it v, letOwnedTupleGo target it v = pure ())
    (h : wpAny M (A.over c fs) (pyNext it) (fun r s₁ => ∃ v, r = some v ∧ wpAny M (A.over c fs) (assign target env v) (fun _ s₂ =>
      ∀ H' gd lv, gd false = false → Seg M A R Y n s₀ c ((execs body env).wrap (turnK target it body env H') H' gd lv) fs s₂) (fun _ _ => False) s₁) (fun _ _ => False) s) :
    Seg M A R Y n s₀ c (((forTurn target it body [] env).onRaise (fun x => do noteFrame x env; theTreesLotGoes x))) fs s := by
  rw [Sem.onRaise_eq_wrap]
  unfold forTurn
  refine seg_bind_wrap (wpAny_standAt ?_)
  refine seg_bind_wrap (wpAny_onRaise (wpAny_mono h (fun r s₁ hr => ?_) fun _ _ hx => hx.elim))
  obtain ⟨v, rfl, h₁⟩ := hr
  dsimp only
  refine seg_bind_wrap (wpAny_of_eq (hlt it v) ?_)
  refine seg_bind_wrap (wpAny_mono h₁ (fun _ s₂ h₂ => ?_) fun _ _ hx => hx.elim)
  rw [Sem.bind_eq_wrap', Sem.wrap_wrap]
  exact h₂ _ _ _ rfl
theorem seg_ite {t : Expr} {b1 b2 rest : List Stmt} {p : Pos} {b : Bool} (h : wpAny M (A.over c fs) (isTrue t env (eval t env)) (fun r s₁ => r = b ∧
      Seg M A R Y n s₀ c ((execs (if b then b1 else b2) env).wrap (fun fl => (match fl with | .next => execs rest env | f => pure f : Sem Flow).wrap K H gd lv) (fun e => H e) gd lv) fs s₁) (fun _ _ => False) s) :
    Seg M A R Y n s₀ c ((execs (.If t b1 b2 p :: rest) env).wrap K H gd lv) fs s := by
  rw [execs_cons, PySem.exec_If]
  rw [Sem.bind_eq_wrap', Sem.wrap_wrap]
  refine seg_bind_wrap (wpAny_standAt ?_)
  refine seg_bind_wrap (wpAny_mono h (fun r s₁ hr => ?_) fun _ _ hx => hx.elim)
  obtain ⟨rfl, h₁⟩ := hr
  cases r <;> exact h₁
theorem seg_nil (h : Seg M A R Y n s₀ c (K .next) fs s) : Seg M A R Y n s₀ c ((execs [] env).wrap K H gd lv) fs s := h
/-- a while -/
theorem seg_while {test : Expr} {body rest : List Stmt} {p : Pos} (hgd : gd false = false)
    (h : ∀ k l p', AfterL M A R Y c fs k l p' (fun fl => (match fl with | .next => execs rest env | f => pure f : Sem Flow).wrap K H gd lv) →
      Seg M A R Y n s₀ (.whileLoop test body [] env) (M.den (.whileLoop test body [] env)) (.ret k none false l c p' [] :: fs) s) :
    Seg M A R Y n s₀ c ((execs (.While test body [] p :: rest) env).wrap K H gd lv) fs s := by
  rw [execs_cons, PySem.exec_While]
  rw [Sem.bind_eq_wrap', Sem.wrap_wrap]
  refine seg_bind_wrap (wpAny_standAt ?_)
  unfold runOwn run
  refine seg_call fun p' => ?_
  show Seg _ _ _ _ _ _ _ _ (.ret _ none (gd false) _ c p' [] :: fs) s
  rw [hgd]
  refine h _ _ p' fun n s₀ c' fl s' hs => ?_
  exact seg_leaf (.ok fl) hs
noncomputable def wturnK (test : Expr) (body : List Stmt) (env : Env) (H' : Value → Sem Fin) (f : Flow) : Sem Fin :=
  (match f with
    | .next | .cont => again (.whileLoop test body [] env)
    | .brk => pure (.done .next)
    | .ret v => pure (.done (.ret v)) : Sem Fin).wrap .pure H' id id
/-- one turn of a while whose test holds -/
theorem seg_wturn {test : Expr} {body : List Stmt}
    (h : wpAny M (A.over c fs) (isTrue test env (eval test env)) (fun b s₁ => b = true ∧
      ∀ H' gd lv, gd false = false → Seg M A R Y n s₀ c ((execs body env).wrap (wturnK test body env H') H' gd lv) fs s₁) (fun _ _ => False) s) :
    Seg M A R Y n s₀ c (((whileTurn test body [] env).onRaise (fun x => do noteFrame x env; theTreesLotGoes x))) fs s := by
  rw [Sem.onRaise_eq_wrap]
  unfold whileTurn
  refine seg_bind_wrap (wpAny_mono h (fun b s₁ hb => ?_) fun _ _ hx => hx.elim)
  obtain ⟨rfl, h₁⟩ := hb
  rw [if_pos rfl, Sem.bind_eq_wrap', Sem.wrap_wrap]
  exact h₁ _ _ _ rfl
end
end Mine
end
section
open PySem PySem.W PyProof.Rows PySem.Calls PySem.Spec
set_option Elab.async false
set_option maxRecDepth 100000
set_option maxHeartbeats 8000000
set_option linter.unusedVariables false
set_option genSizeOf false
namespace Mine
theorem isG_CHAR (w : World) : ∃ t, nsIn (hd.heap_1 w.params) mainGlobals (Str.ofString "CHAR_MAX") = some (some (.int 127 t)) := ⟨_, by with_unfolding_all rfl⟩
noncomputable abbrev sGr : Str := Str.ofString "grouping"
noncomputable abbrev sLa : Str := Str.ofString "last_interval"
noncomputable abbrev sIn : Str := Str.ofString "interval"
structure GE (env : Env) : Prop where
  eo : EnvOk env ⟨[], [Str.ofString "CHAR_MAX"]⟩
  co : env.scope.isCoroutine = false
  gr : env.kindOf sGr = some .local
  la : env.kindOf sLa = some .local
  i : env.kindOf sIn = some .local
theorem GE.plain {env : Env} (e : GE env) : (env.scope.kind == .class || (env.scope.kind == .module && env.locals != env.globals)) = false := by rw [e.eo.kind]; rfl
noncomputable def lastRep (lv : Value) : Option Nat → Prop
  | none => lv = .none
  | some k => ∃ t, lv = .int (k : Int) t
structure GH (base : Addr → Option Obj) (env : Env) (ax : Addr) (vs : List Value) (last : Option Nat) (h : Heap) : Prop where
  bk : BK base h
  ns : ∃ m, h.Ns env.locals m ∧ m sGr = some (.ref ax) ∧ ∃ lv, m sLa = some lv ∧ lastRep lv last
  lst : h.IsList ax vs.toArray
noncomputable def GSince (L I : Addr) (s₀ s : Shared) : Prop := ∃ h' tk, s = { s₀ with heap := h', toks := tk } ∧ KeepX (fun b => b = L ∨ b = I) s₀.heap h'
theorem GSince.refl (L I : Addr) (s : Shared) : GSince L I s s := ⟨s.heap, s.toks, rfl, .refl⟩
theorem GSince.step {L I : Addr} {s₀ s : Shared} (x : GSince L I s₀ s) {h' : Heap} {tk : Nat} (k : KeepX (fun b => b = L ∨ b = I) s.heap h') : GSince L I s₀ { s with heap := h', toks := tk } := by
  obtain ⟨h1, tk1, rfl, k1⟩ := x
  exact ⟨h', tk, rfl, k1.trans k⟩
noncomputable def GY (base : Addr → Option Obj) (L ax I : Addr) (seq : Nat → Nat) (lastOk : Bool) : Protocol := fun m s₀ v s kap =>
  (∃ t, v = .int (seq (4 - m) : Int) t) ∧ GSince L I s₀ s ∧ (∃ o, s.heap.get? L = some o ∧ Odd o) ∧ (∃ o, s.heap.get? I = some o ∧ Odd o) ∧
  ((lastOk = true ∨ 0 < m) → ∀ s'' : Shared, (∀ b, b = L ∨ b = ax ∨ b = I → ∀ o, s.heap.get? b = some o → s''.heap.get? b = some o) → BK base s''.heap → kap (.send .none) s'')
noncomputable abbrev GR (L I : Addr) : GenEnd := fun n s₀ r s₁ => r = .ok (.ret .none) ∧ (n = 0 ∧ GSince L I s₀ s₁)
theorem GY.mono {base : Addr → Option Obj} {L ax I : Addr} {seq : Nat → Nat} {lo : Bool} {n : Nat} {s₀ : Shared} (v : Value) (s' : Shared) (k1 k2 : Resume → Shared → Prop) (h : ∀ s'', k1 (.send .none) s'' → k2 (.send .none) s'') (x : GY base L ax I seq lo n s₀ v s' k1) : GY base L ax I seq lo n s₀ v s' k2 :=
  ⟨x.1, x.2.1, x.2.2.1, x.2.2.2.1, fun a s'' b c => h s'' (x.2.2.2.2 a s'' b c)⟩
section
variable {prog : Program} {w : World} {base : Addr → Option Obj} {A : Around} {env : Env} {ax I : Addr} {vs : List Value} {vals : List Nat} {s : Shared}
theorem GH.next {last : Option Nat} {h h' : Heap} (x : GH base env ax vs last h) (hI : I ≠ env.locals) (hx : I ≠ ax) (g : BK base h') (k : ∀ b, b ≠ I → ∀ o, h.get? b = some o → h'.get? b = some o) : GH base env ax vs last h' :=
  ⟨g, let ⟨m, n, r⟩ := x.ns; ⟨m, n.at' fun o e => k _ (Ne.symm hI) o e, r⟩, x.lst.at fun o e => k _ (Ne.symm hx) o e⟩
/-- a name of the frame is stored -/
theorem GH.store {last : Option Nat} {x : Str} {v : Value} {Q : Unit → Shared → Prop} {E : Value → Shared → Prop} {p : Pos} (e : GE env) (G : GH base env ax vs last s.heap) (hLa : env.locals ≠ ax) (hk : env.kindOf x = some .local) (hg : x ≠ sGr)
    (q : ∀ h' tk m, h'.Ns env.locals m → Heap.SameBut env.locals s.heap h' → m x = some v → m sGr = some (.ref ax) → (x ≠ sLa → ∃ lv, m sLa = some lv ∧ lastRep lv last) → h'.IsList ax vs.toArray → Q () { s with heap := h', toks := tk }) :
    wpAny (model prog w) A (assign (.Name x p) env v) Q E s := by
  obtain ⟨m, n, h1, lv, h2, h3⟩ := G.ns
  refine wpAny_assign_Name (wpAny_storeName_local hk n (fun h' hn hs => q h' _ _ hn hs (if_pos rfl) ?_ (fun hx => ⟨lv, ?_, h3⟩) (G.lst.at fun o e => hs.extBut ax o (Ne.symm hLa) e)) e.plain)
  · exact (if_neg (Ne.symm hg)).trans h1
  · exact (if_neg (Ne.symm hx)).trans h2
/-- a test of a name of the frame against a number -/
theorem test_num {x : Str} {px p : Pos} {r : Expr} {k j : Nat} {t : Tok} {m : Str → Option Value} {Q : Bool → Shared → Prop} {E : Value → Shared → Prop} (e : GE env) (n : s.heap.Ns env.locals m) (hk : env.kindOf x = some .local) (hm : m x = some (.int (k : Int) t)) (hd' : (x == ("__debug__" : Str)) = false)
    (hr : ∀ Q', (∀ u tk, Q' (.int (j : Int) u) { s with toks := tk }) → wpAny (model prog w) A (eval r env) Q' E s) (hb : behindInMarks .Eq r = false)
    (q : ∀ tk, Q (decide (k = j)) { s with toks := tk }) : wpAny (model prog w) A (isTrue (.Compare (.Name x px) [.Eq] [r] p) env (eval (.Compare (.Name x px) [.Eq] [r] p) env)) Q E s := by
  refine wpAny_isTrue_Compare1 (wpAny_Name (wpAny_loadName_local e.eo.kind hk n hm (hr _ fun u tk => ?_)) hd') hb
  refine PyProof.Rows.eq_int ?_
  have e' : (((k : Int) == (j : Int)) : Bool) = decide (k = j) := by by_cases h : k = j <;> simp [h] <;> omega
  rw [e']
  exact wpAny_truthy_bool (q tk)
end
end Mine
end
section
open PySem PySem.W PyProof.Rows PySem.Calls PySem.Spec
set_option Elab.async false
set_option maxRecDepth 100000
set_option maxHeartbeats 8000000
set_option linter.unusedVariables false
set_option genSizeOf false
namespace Mine
section
variable {w : World} {base : Addr → Option Obj} {A : Around} {env : Env} {ax I : Addr} {vs : List Value} {vals : List Nat} {seq : Nat → Nat} {lo : Bool}
structure GC (w : World) (base : Addr → Option Obj) (env : Env) (ax I : Addr) (vs : List Value) (vals : List Nat) : Prop where
  e : GE env
  gl : ∀ h, BK base h → Glob w h
  bL : base env.locals = none
  bI : base I = none
  La : env.locals ≠ ax
  IL : I ≠ env.locals
  Ia : I ≠ ax
  val : ∀ (i : Nat) (v : Value), vs[i]? = some v → ∃ t, v = .int ((vals.getD i 0 : Nat) : Int) t
  len : vs.length = vals.length
theorem GC.bk_L (C : GC w base env ax I vs vals) {h h' : Heap} (b : BK base h) (sb : Heap.SameBut env.locals h h') : BK base h' := fun a o e => sb.extBut a o (fun q => by rw [q, C.bL] at e; cases e) (b a o e)
theorem GC.bk_I (C : GC w base env ax I vs vals) {h h' : Heap} (b : BK base h) (sb : Heap.SameBut I h h') : BK base h' := fun a o e => sb.extBut a o (fun q => by rw [q, C.bI] at e; cases e) (b a o e)
theorem eval_CHAR {prog : Program} {E : Value → Shared → Prop} {s : Shared} {p : Pos} (e : GE env) (g : Glob w s.heap) : ∀ Q', (∀ u tk, Q' (.int ((127 : Nat) : Int) u) { s with toks := tk }) → wpAny (model prog w) A (eval (.Name (Str.ofString "CHAR_MAX") p) env) Q' E s := fun Q' hq => by
  obtain ⟨t, ht⟩ := isG_CHAR w
  exact wp_glob e.eo g (by simp) ht (by decide) (hq t s.toks)
theorem eval_zero {prog : Program} {E : Value → Shared → Prop} {s : Shared} {k : Option Str} {p : Pos} {j : Nat} {kk : Nat} : ∀ Q', (∀ u tk, Q' (.int ((0 : Nat) : Int) u) { s with toks := tk }) → wpAny (model prog w) A (eval (.Constant (.int 0) kk p) env) Q' E s := fun Q' hq => wpAny_Constant_int (hq _ _)
variable {p1 p2 p3 p4 p5 p6 p7 p8 p9 p10 p11 p12 p13 p14 p15 p16 p17 p18 p19 p20 p21 p22 p23 p24 pt pg pf pl pn pa : Pos} {raise : List Stmt}
noncomputable abbrev gBody (raise : List Stmt) (p1 p2 p3 p4 p5 p6 p7 p8 p9 p10 p11 p12 p13 p14 p15 p16 p17 p18 p19 p20 p21 p22 p23 p24 : Pos) : List Stmt :=
  [.If (.Compare (.Name sIn p1) [.Eq] [.Name (Str.ofString "CHAR_MAX") p2] p3) [.Return none p4] [] p5,
   .If (.Compare (.Name sIn p6) [.Eq] [.Constant (.int 0) 0 p7] p8) [.If (.Compare (.Name sLa p9) [.Is] [.Constant .none 0 p10] p11) raise [] p12, .While (.Constant (.bool true) 0 p13) [.Expr (.Yield (some (.Name sLa p14)) p15) p16] [] p17] [] p18,
   .Expr (.Yield (some (.Name sIn p19)) p20) p21, .Assign [.Name sLa p22] (.Name sIn p23) p24]
noncomputable def lastOf (vals : List Nat) (i : Nat) : Option Nat := if i = 0 then none else some (vals.getD (i - 1) 0)
theorem odd_ns {h : Heap} {a : Addr} {m} (n : h.Ns a m) : ∃ o, h.get? a = some o ∧ Odd o := by
  obtain ⟨o, _, _, ho, _⟩ := id n
  exact ⟨o, ho, ns_odd n ho⟩
theorem odd_it {h : Heap} {it l : Addr} {i : Nat} (x : h.IsListIter it l i) : ∃ o, h.get? it = some o ∧ Odd o := by
  obtain ⟨o, ho, hc, hd⟩ := x
  exact ⟨o, ho, .inr (.inr ⟨⟨_, hd⟩, by rw [hc]; decide⟩)⟩
/-- one good item: up to the yield, and on -/
theorem g_turn (C : GC w base env ax I vs vals) {i : Nat} {k l p'} {c0 : Code} (hi : i < vals.length) (hi5 : i < 5) (h127 : vals.getD i 0 ≠ 127) (h0 : vals.getD i 0 ≠ 0) (hseq : seq i = vals.getD i 0) {s₀ s : Shared} (G : GH base env ax vs (lastOf vals i) s.heap) (hit : s.heap.IsListIter I ax i) (hs : GSince env.locals I s₀ s)
    (next : ∀ s'', GH base env ax vs (lastOf vals (i + 1)) s''.heap → s''.heap.IsListIter I ax (i + 1) → (lo = true ∨ 0 < 4 - i) → ∀ s1, GSince env.locals I s1 s'' →
      Seg (model P0 w) A (GR env.locals I) (GY base env.locals ax I seq lo) (4 - i) s1 (.forLoop (.Name sIn pt) (.ref I) (gBody raise p1 p2 p3 p4 p5 p6 p7 p8 p9 p10 p11 p12 p13 p14 p15 p16 p17 p18 p19 p20 p21 p22 p23 p24) [] env) ((model P0 w).den (.forLoop (.Name sIn pt) (.ref I) (gBody raise p1 p2 p3 p4 p5 p6 p7 p8 p9 p10 p11 p12 p13 p14 p15 p16 p17 p18 p19 p20 p21 p22 p23 p24) [] env)) [.ret k none false l c0 p' []] s'') :
    Seg (model P0 w) A (GR env.locals I) (GY base env.locals ax I seq lo) (4 - i + 1) s₀ (.forLoop (.Name sIn pt) (.ref I) (gBody raise p1 p2 p3 p4 p5 p6 p7 p8 p9 p10 p11 p12 p13 p14 p15 p16 p17 p18 p19 p20 p21 p22 p23 p24) [] env) ((model P0 w).den (.forLoop (.Name sIn pt) (.ref I) (gBody raise p1 p2 p3 p4 p5 p6 p7 p8 p9 p10 p11 p12 p13 p14 p15 p16 p17 p18 p19 p20 p21 p22 p23 p24) [] env)) [.ret k none false l c0 p' []] s := by
  show Seg _ _ _ _ _ _ _ ((forTurn _ _ _ [] env).onRaise _) _ _
  refine seg_turn (fun _ _ => rfl) ?_
  have hiv : i < vs.length := by rw [C.len]; exact hi
  have hx : vs.toArray[i]? = some vs[i] := by simp [hiv]
  refine wpAny_pyNext_list_item hit G.lst hx fun h1 hit1 sb1 => ?_
  refine ⟨vs[i], rfl, ?_⟩
  obtain ⟨t, ht⟩ := C.val i vs[i] (List.getElem?_eq_getElem hiv)
  rw [ht]
  have G1 := G.next (h' := h1) C.IL C.Ia (C.bk_I G.bk sb1) (fun b hb o e => sb1.extBut b o hb e)
  refine GH.store (s := { s with heap := h1 }) C.e G1 C.La C.e.i (by decide) fun h2 tk2 m n2 sb2 m1 m2 m3 l2 => ?_
  have m3 := m3 (by decide)
  have bk2 : BK base h2 := C.bk_L G1.bk sb2
  have hit2 : h2.IsListIter I ax (i + 1) := hit1.at fun o e => sb2.extBut I o C.IL e
  have hs2 : GSince env.locals I s₀ { s with heap := h2, toks := tk2 } := hs.step (fun b o nb e => sb2.extBut b o (fun q => nb (.inl q)) (sb1.extBut b o (fun q => nb (.inr q)) e))
  intro H' gd lv hgd
  refine seg_ite (b := false) (test_num (w := w) (s := { s with heap := h2, toks := tk2 }) (k := vals.getD i 0) (j := 127) C.e n2 C.e.i m1 (by decide) (eval_CHAR C.e (C.gl _ bk2)) rfl fun tk3 => ⟨decide_eq_false h127, ?_⟩)
  refine seg_nil ?_
  refine seg_ite (b := false) (test_num (w := w) (s := { s with heap := h2, toks := tk3 }) (k := vals.getD i 0) (j := 0) C.e n2 C.e.i m1 (by decide) (eval_zero (j := 0) (k := none)) rfl fun tk4 => ⟨decide_eq_false h0, ?_⟩)
  refine seg_nil ?_
  refine seg_yield_st (interactive_false C.e.eo.kind) rfl C.e.co hgd rfl rfl GY.mono (wpAny_Name (wpAny_loadName_local C.e.eo.kind C.e.i n2 m1 ?_) (by decide))
  refine ⟨⟨t, by rw [show 4 - (4 - i) = i by omega, hseq]⟩, hs2.step (h' := h2) (tk := tk4) .refl, odd_ns n2, odd_it hit2, fun hlo s'' hk bk'' => ?_⟩
  have n3 := n2.at (h' := s''.heap) fun o e => hk _ (.inl rfl) o e
  have hit3 := hit2.at (h' := s''.heap) fun o e => hk _ (.inr (.inr rfl)) o e
  have l3 := l2.at (h' := s''.heap) fun o e => hk _ (.inr (.inl rfl)) o e
  obtain ⟨lv', q1, q2⟩ := m3
  refine seg_cons (wpAny_Assign_Name (wpAny_Name (wpAny_loadName_local C.e.eo.kind C.e.i n3 m1 ?_) (by decide)) rfl)
  refine wpAny_storeName_local C.e.la n3 (fun h4 n4 sb4 => ⟨rfl, ?_⟩) C.e.plain
  refine seg_nil ?_
  refine seg_again rfl (next { s'' with heap := h4, toks := _ } ⟨C.bk_L bk'' sb4, ⟨_, n4, ?_, _, if_pos rfl, ?_⟩, l3.at fun o e => sb4.extBut ax o (Ne.symm C.La) e⟩ (hit3.at fun o e => sb4.extBut I o C.IL e) hlo _ (GSince.step (.refl _ _ _) (fun b o nb e => sb4.extBut b o (fun q => nb (.inl q)) e)))
  · exact (if_neg (by decide)).trans m2
  · unfold lastOf
    rw [if_neg (Nat.succ_ne_zero i)]
    exact ⟨t, rfl⟩
end
end Mine
end
section
open PySem PySem.W PyProof.Rows PySem.Calls PySem.Spec
set_option Elab.async false
set_option maxRecDepth 100000
set_option maxHeartbeats 8000000
set_option linter.unusedVariables false
set_option genSizeOf false
namespace Mine
section
variable {w : World} {base : Addr → Option Obj} {A : Around} {env : Env} {ax I : Addr} {vs : List Value} {vals : List Nat} {seq : Nat → Nat} {lo : Bool}
variable {p1 p2 p3 p4 p5 p6 p7 p8 p9 p10 p11 p12 p13 p14 p15 p16 p17 p18 p19 p20 p21 p22 p23 p24 pt pg pf pl pn pa : Pos} {raise : List Stmt}
/-- the mark 127 ends it -/
theorem g_end (C : GC w base env ax I vs vals) {i : Nat} {k l p'} {c0 : Code} (hi : i < vals.length) (h127 : vals.getD i 0 = 127) {n : Nat} {Y : Protocol} {R : GenEnd} {s₀ s : Shared} {last : Option Nat} (G : GH base env ax vs last s.heap) (hit : s.heap.IsListIter I ax i) (hs : GSince env.locals I s₀ s)
    (fin : ∀ c' s', GSince env.locals I s₀ s' → Seg (model P0 w) A R Y n s₀ c' (leafOf (.ok (.ret .none))) [.ret k none false l c0 p' []] s') :
    Seg (model P0 w) A R Y n s₀ (.forLoop (.Name sIn pt) (.ref I) (gBody raise p1 p2 p3 p4 p5 p6 p7 p8 p9 p10 p11 p12 p13 p14 p15 p16 p17 p18 p19 p20 p21 p22 p23 p24) [] env) ((model P0 w).den (.forLoop (.Name sIn pt) (.ref I) (gBody raise p1 p2 p3 p4 p5 p6 p7 p8 p9 p10 p11 p12 p13 p14 p15 p16 p17 p18 p19 p20 p21 p22 p23 p24) [] env)) [.ret k none false l c0 p' []] s := by
  show Seg _ _ _ _ _ _ _ ((forTurn _ _ _ [] env).onRaise _) _ _
  refine seg_turn (fun _ _ => rfl) ?_
  have hiv : i < vs.length := by rw [C.len]; exact hi
  have hx : vs.toArray[i]? = some vs[i] := by simp [hiv]
  refine wpAny_pyNext_list_item hit G.lst hx fun h1 hit1 sb1 => ?_
  refine ⟨vs[i], rfl, ?_⟩
  obtain ⟨t, ht⟩ := C.val i vs[i] (List.getElem?_eq_getElem hiv)
  rw [ht]
  have G1 := G.next (h' := h1) C.IL C.Ia (C.bk_I G.bk sb1) (fun b hb o e => sb1.extBut b o hb e)
  refine GH.store (s := { s with heap := h1 }) C.e G1 C.La C.e.i (by decide) fun h2 tk2 m n2 sb2 m1 m2 m3 l2 => ?_
  have bk2 : BK base h2 := C.bk_L G1.bk sb2
  have hs2 : GSince env.locals I s₀ { s with heap := h2, toks := tk2 } := hs.step (fun b o nb e => sb2.extBut b o (fun q => nb (.inl q)) (sb1.extBut b o (fun q => nb (.inr q)) e))
  intro H' gd lv hgd
  refine seg_ite (b := true) (test_num (w := w) (s := { s with heap := h2, toks := tk2 }) (k := vals.getD i 0) (j := 127) C.e n2 C.e.i m1 (by decide) (eval_CHAR C.e (C.gl _ bk2)) rfl fun tk3 => ⟨decide_eq_true h127, ?_⟩)
  refine seg_ret (v := .none) ?_
  rw [PySem.exec_Return_none]
  refine wpAny_bind (wpAny_standAt (wpAny_pure ⟨rfl, ?_⟩))
  exact fin _ _ (hs2.step (h' := h2) (tk := tk3) .refl)
/-- the while that yields the last one for ever -/
theorem g_wloop (C : GC w base env ax I vs vals) {lst : Nat} {k l p'} {c0 : Code} {fs : List Frame} (hfs : splitAtGen fs = none) (hfg : fs.any Frame.guarded = false) : ∀ (r j : Nat), 4 - j = r → j < 5 → (∀ j', j ≤ j' → j' < 5 → seq j' = lst) → ∀ (s₀ s : Shared), GH base env ax vs (some lst) s.heap → (∃ o, s.heap.get? I = some o ∧ Odd o) → GSince env.locals I s₀ s →
    Seg (model P0 w) A (GR env.locals I) (GY base env.locals ax I seq false) (4 - j + 1) s₀ (.whileLoop (.Constant (.bool true) 0 p13) [.Expr (.Yield (some (.Name sLa p14)) p15) p16] [] env) ((model P0 w).den (.whileLoop (.Constant (.bool true) 0 p13) [.Expr (.Yield (some (.Name sLa p14)) p15) p16] [] env)) (.ret k none false l c0 p' [] :: fs) s := by
  intro r
  induction r with
  | zero =>
    intro j hj hj5 hseq s₀ s G oI hs
    have : j = 4 := by omega
    subst this
    show Seg _ _ _ _ _ _ _ ((whileTurn _ _ [] env).onRaise _) _ _
    refine seg_wturn (wpAny_isTrue_value (wpAny_Constant_bool (wpAny_truthy_bool ⟨rfl, fun H' gd lv hgd => ?_⟩)) rfl)
    obtain ⟨m, n, h1, lv', h2, t, rfl⟩ := G.ns
    refine seg_yield_st (interactive_false C.e.eo.kind) rfl C.e.co hgd (by simpa [splitAtGen] using hfs) (by simpa [Frame.guarded] using hfg) GY.mono (wpAny_Name (wpAny_loadName_local C.e.eo.kind C.e.la n h2 ?_) (by decide))
    exact ⟨⟨t, by rw [show seq (4 - (4 - 4)) = lst from hseq 4 (Nat.le_refl _) (by decide)]⟩, hs, odd_ns n, oI, fun h => by simp at h⟩
  | succ r ih =>
    intro j hj hj5 hseq s₀ s G oI hs
    show Seg _ _ _ _ _ _ _ ((whileTurn _ _ [] env).onRaise _) _ _
    refine seg_wturn (wpAny_isTrue_value (wpAny_Constant_bool (wpAny_truthy_bool ⟨rfl, fun H' gd lv hgd => ?_⟩)) rfl)
    obtain ⟨m, n, h1, lv', h2, t, rfl⟩ := G.ns
    refine seg_yield_st (interactive_false C.e.eo.kind) rfl C.e.co hgd (by simpa [splitAtGen] using hfs) (by simpa [Frame.guarded] using hfg) GY.mono (wpAny_Name (wpAny_loadName_local C.e.eo.kind C.e.la n h2 ?_) (by decide))
    refine ⟨⟨t, by rw [show 4 - (4 - j) = j by omega, hseq j (Nat.le_refl _) hj5]⟩, hs, odd_ns n, oI, fun _ s'' hk bk'' => ?_⟩
    refine seg_nil ?_
    have := ih (j + 1) (by omega) (by omega) (fun j' h1 h2 => hseq j' (by omega) h2) s'' s'' ⟨bk'', ⟨m, n.at fun o e => hk _ (.inl rfl) o e, h1, _, h2, t, rfl⟩, G.lst.at fun o e => hk _ (.inr (.inl rfl)) o e⟩
      (let ⟨o, ho, od⟩ := oI; ⟨o, hk _ (.inr (.inr rfl)) o ho, od⟩) (.refl _ _ _)
    rw [show 4 - (j + 1) + 1 = 4 - j by omega] at this
    exact seg_again rfl this
theorem g_zero (C : GC w base env ax I vs vals) {i lst : Nat} {k l p'} {c0 : Code} (hi : i < vals.length) (hi5 : i < 5) (h0 : vals.getD i 0 = 0) (hseq : ∀ j', i ≤ j' → j' < 5 → seq j' = lst) {s₀ s : Shared} (G : GH base env ax vs (some lst) s.heap) (hit : s.heap.IsListIter I ax i) (hs : GSince env.locals I s₀ s) :
    Seg (model P0 w) A (GR env.locals I) (GY base env.locals ax I seq false) (4 - i + 1) s₀ (.forLoop (.Name sIn pt) (.ref I) (gBody raise p1 p2 p3 p4 p5 p6 p7 p8 p9 p10 p11 p12 p13 p14 p15 p16 p17 p18 p19 p20 p21 p22 p23 p24) [] env) ((model P0 w).den (.forLoop (.Name sIn pt) (.ref I) (gBody raise p1 p2 p3 p4 p5 p6 p7 p8 p9 p10 p11 p12 p13 p14 p15 p16 p17 p18 p19 p20 p21 p22 p23 p24) [] env)) [.ret k none false l c0 p' []] s := by
  show Seg _ _ _ _ _ _ _ ((forTurn _ _ _ [] env).onRaise _) _ _
  refine seg_turn (fun _ _ => rfl) ?_
  have hiv : i < vs.length := by rw [C.len]; exact hi
  have hx : vs.toArray[i]? = some vs[i] := by simp [hiv]
  refine wpAny_pyNext_list_item hit G.lst hx fun h1 hit1 sb1 => ?_
  refine ⟨vs[i], rfl, ?_⟩
  obtain ⟨t, ht⟩ := C.val i vs[i] (List.getElem?_eq_getElem hiv)
  rw [ht]
  have G1 := G.next (h' := h1) C.IL C.Ia (C.bk_I G.bk sb1) (fun b hb o e => sb1.extBut b o hb e)
  refine GH.store (s := { s with heap := h1 }) C.e G1 C.La C.e.i (by decide) fun h2 tk2 m n2 sb2 m1 m2 m3 l2 => ?_
  have m3 := m3 (by decide)
  have bk2 : BK base h2 := C.bk_L G1.bk sb2
  have hit2 : h2.IsListIter I ax (i + 1) := hit1.at fun o e => sb2.extBut I o C.IL e
  have hs2 : GSince env.locals I s₀ { s with heap := h2, toks := tk2 } := hs.step (fun b o nb e => sb2.extBut b o (fun q => nb (.inl q)) (sb1.extBut b o (fun q => nb (.inr q)) e))
  intro H' gd lv hgd
  refine seg_ite (b := false) (test_num (w := w) (s := { s with heap := h2, toks := tk2 }) (k := vals.getD i 0) (j := 127) C.e n2 C.e.i m1 (by decide) (eval_CHAR C.e (C.gl _ bk2)) rfl fun tk3 => ⟨decide_eq_false (by omega), ?_⟩)
  refine seg_nil ?_
  refine seg_ite (b := true) (test_num (w := w) (s := { s with heap := h2, toks := tk3 }) (k := vals.getD i 0) (j := 0) C.e n2 C.e.i m1 (by decide) (eval_zero (j := 0) (k := none)) rfl fun tk4 => ⟨decide_eq_true h0, ?_⟩)
  obtain ⟨lv', q1, tl, rfl⟩ := m3
  refine seg_ite (b := false) (wpAny_isTrue_Compare1 (wpAny_Name (wpAny_loadName_local C.e.eo.kind C.e.la n2 q1 (wpAny_Constant_none ?_)) (by decide)) rfl) 
  refine wpAny_is_other rfl (fun h => nomatch h) (wpAny_truthy_bool ⟨rfl, ?_⟩)
  refine seg_nil ?_
  refine seg_while hgd fun k2 l2' p2' _ => ?_
  exact g_wloop C rfl rfl (4 - i) i rfl hi5 hseq _ _ ⟨bk2, ⟨m, n2, m2, _, q1, tl, rfl⟩, l2⟩ (odd_it hit2) (hs2.step (h' := h2) (tk := tk4) .refl)
/-- five good ones, then the mark -/
theorem g_loopA (C : GC w base env ax I vs vals) {k l p'} {c0 : Code} (hlen : vals.length = 7) (h127 : vals.getD 5 0 = 127) (hg : ∀ j, j < 5 → vals.getD j 0 ≠ 127 ∧ vals.getD j 0 ≠ 0 ∧ seq j = vals.getD j 0)
    (fin : ∀ s₀ c' s', GSince env.locals I s₀ s' → Seg (model P0 w) A (GR env.locals I) (GY base env.locals ax I seq true) 0 s₀ c' (leafOf (.ok (.ret .none))) [.ret k none false l c0 p' []] s') :
    ∀ (r i : Nat), 5 - i = r → i ≤ 5 → ∀ (s₀ s : Shared), GH base env ax vs (lastOf vals i) s.heap → s.heap.IsListIter I ax i → GSince env.locals I s₀ s →
    Seg (model P0 w) A (GR env.locals I) (GY base env.locals ax I seq true) (5 - i) s₀ (.forLoop (.Name sIn pt) (.ref I) (gBody raise p1 p2 p3 p4 p5 p6 p7 p8 p9 p10 p11 p12 p13 p14 p15 p16 p17 p18 p19 p20 p21 p22 p23 p24) [] env) ((model P0 w).den (.forLoop (.Name sIn pt) (.ref I) (gBody raise p1 p2 p3 p4 p5 p6 p7 p8 p9 p10 p11 p12 p13 p14 p15 p16 p17 p18 p19 p20 p21 p22 p23 p24) [] env)) [.ret k none false l c0 p' []] s := by
  intro r
  induction r with
  | zero =>
    intro i hi hi5 s₀ s G hit hs
    have : i = 5 := by omega
    subst this
    exact g_end C (by omega) h127 G hit hs (fin s₀)
  | succ r ih =>
    intro i hi hi5 s₀ s G hit hs
    have hlt : i < 5 := by omega
    obtain ⟨a1, a2, a3⟩ := hg i hlt
    rw [show 5 - i = 4 - i + 1 by omega]
    refine g_turn C (by omega) hlt a1 a2 a3 G hit hs fun s'' G2 hit2 _ s1 hs2 => ?_
    have := ih (i + 1) (by omega) (by omega) s1 s'' G2 hit2 hs2
    rwa [show 5 - (i + 1) = 4 - i by omega] at this
theorem g_loopB (C : GC w base env ax I vs vals) {k l p'} {c0 : Code} {m : Nat} (hm1 : 1 ≤ m) (hm : m < 5) (hlen : vals.length = m + 1) (h0 : vals.getD m 0 = 0) (hg : ∀ j, j < m → vals.getD j 0 ≠ 127 ∧ vals.getD j 0 ≠ 0 ∧ seq j = vals.getD j 0) (hseq : ∀ j, m ≤ j → j < 5 → seq j = vals.getD (m - 1) 0) :
    ∀ (r i : Nat), m - i = r → i ≤ m → ∀ (s₀ s : Shared), GH base env ax vs (lastOf vals i) s.heap → s.heap.IsListIter I ax i → GSince env.locals I s₀ s →
    Seg (model P0 w) A (GR env.locals I) (GY base env.locals ax I seq false) (5 - i) s₀ (.forLoop (.Name sIn pt) (.ref I) (gBody raise p1 p2 p3 p4 p5 p6 p7 p8 p9 p10 p11 p12 p13 p14 p15 p16 p17 p18 p19 p20 p21 p22 p23 p24) [] env) ((model P0 w).den (.forLoop (.Name sIn pt) (.ref I) (gBody raise p1 p2 p3 p4 p5 p6 p7 p8 p9 p10 p11 p12 p13 p14 p15 p16 p17 p18 p19 p20 p21 p22 p23 p24) [] env)) [.ret k none false l c0 p' []] s := by
  intro r
  induction r with
  | zero =>
    intro i hi hi5 s₀ s G hit hs
    have : i = m := by omega
    subst this
    rw [show 5 - i = 4 - i + 1 by omega]
    have G' := G
    unfold lastOf at G'
    rw [if_neg (by omega)] at G'
    exact g_zero C (by omega) hm h0 hseq G' hit hs
  | succ r ih =>
    intro i hi hi5 s₀ s G hit hs
    have hlt : i < m := by omega
    obtain ⟨a1, a2, a3⟩ := hg i hlt
    rw [show 5 - i = 4 - i + 1 by omega]
    refine g_turn C (by omega) (by omega) a1 a2 a3 G hit hs fun s'' G2 hit2 _ s1 hs2 => ?_
    have := ih (i + 1) (by omega) (by omega) s1 s'' G2 hit2 hs2
    rwa [show 5 - (i + 1) = 4 - i by omega] at this
end
end Mine
end
section
open PySem PySem.W PyProof.Rows PySem.Calls PySem.Spec
set_option Elab.async false
set_option maxRecDepth 100000
set_option maxHeartbeats 8000000
set_option linter.unusedVariables false
set_option genSizeOf false
namespace Mine
/-- how the ruler is: five good and the mark, or fewer and a nought -/
inductive Ruler (vals : List Nat) (seq : Nat → Nat) : Bool → Prop
  | full : vals.length = 7 → vals.getD 5 0 = 127 → (∀ j, j < 5 → vals.getD j 0 ≠ 127 ∧ vals.getD j 0 ≠ 0 ∧ seq j = vals.getD j 0) → Ruler vals seq true
  | short (m : Nat) : 1 ≤ m → m < 5 → vals.length = m + 1 → vals.getD m 0 = 0 → (∀ j, j < m → vals.getD j 0 ≠ 127 ∧ vals.getD j 0 ≠ 0 ∧ seq j = vals.getD j 0) → (∀ j, m ≤ j → j < 5 → seq j = vals.getD (m - 1) 0) → Ruler vals seq false
section
variable {w : World} {base : Addr → Option Obj} {A : Around} {env : Env} {ax : Addr} {vs : List Value} {vals : List Nat} {seq : Nat → Nat} {lo : Bool}
variable {p1 p2 p3 p4 p5 p6 p7 p8 p9 p10 p11 p12 p13 p14 p15 p16 p17 p18 p19 p20 p21 p22 p23 p24 pt pg pf pl pn pa : Pos} {raise : List Stmt}
theorem g_start (RU : Ruler vals seq lo) (e : GE env) (gl : ∀ h, BK base h → Glob w h) (bL : base env.locals = none) (La : env.locals ≠ ax) (hval : ∀ (i : Nat) (v : Value), vs[i]? = some v → ∃ t, v = .int ((vals.getD i 0 : Nat) : Int) t) (hlen : vs.length = vals.length)
    {s : Shared} {m : Str → Option Value} (bk : BK base s.heap) (n : s.heap.Ns env.locals m) (hm : m sGr = some (.ref ax)) (hl : s.heap.IsList ax vs.toArray) :
    Seg (model P0 w) A (GR env.locals s.heap.objs.size) (GY base env.locals ax s.heap.objs.size seq lo) 5 s
      (.func [.Assign [.Name sLa pa] (.Constant .none 0 pn) pl, .For (.Name sIn pt) (.Name sGr pg) (gBody raise p1 p2 p3 p4 p5 p6 p7 p8 p9 p10 p11 p12 p13 p14 p15 p16 p17 p18 p19 p20 p21 p22 p23 p24) [] pf] env)
      ((model P0 w).den (.func [.Assign [.Name sLa pa] (.Constant .none 0 pn) pl, .For (.Name sIn pt) (.Name sGr pg) (gBody raise p1 p2 p3 p4 p5 p6 p7 p8 p9 p10 p11 p12 p13 p14 p15 p16 p17 p18 p19 p20 p21 p22 p23 p24) [] pf] env)) [] s := by
  have hLs : env.locals < s.heap.objs.size := by obtain ⟨o, _, _, ho, _⟩ := id n; exact Heap.lt_size ho
  have hAs : ax < s.heap.objs.size := by obtain ⟨o, ho, _⟩ := id hl; exact Heap.lt_size ho
  have C : GC w base env ax s.heap.objs.size vs vals := ⟨e, gl, bL, (by
    cases hb : base s.heap.objs.size with
    | none => rfl
    | some o => have := bk _ _ hb; rw [size_none] at this; cases this), La, Nat.ne_of_gt hLs, Nat.ne_of_gt hAs, hval, hlen⟩
  show Seg _ _ _ _ _ _ _ (point >>= fun _ => (execs _ env).onRaise (leaving env) >>= fun f => _) _ _
  refine seg_bind (wpAny_point ?_)
  rw [Sem.bind_eq_wrap', Sem.onRaise_eq_wrap, Sem.wrap_wrap]
  refine seg_cons (wpAny_Assign_Name (wpAny_Constant_none ?_) rfl)
  refine wpAny_storeName_local e.la n (fun h1 n1 sb1 => ⟨rfl, ?_⟩) e.plain
  have hl1 := hl.at (h' := h1) fun o eo => sb1.extBut ax o (Ne.symm La) eo
  refine seg_for rfl (fun _ => rfl) (wpAny_Name (wpAny_loadName_local e.eo.kind e.gr n1 ((if_neg (by decide)).trans hm) ?_) (by decide))
  refine wpAny_pyIter_list hl1 ?_
  intro k l p' hk
  have hsz : h1.objs.size = s.heap.objs.size := sb1.1
  show Seg _ _ _ _ _ _ (.forLoop _ (.ref h1.objs.size) _ _ _) ((model P0 w).den (.forLoop _ (.ref h1.objs.size) _ _ _)) _ _
  rw [hsz]
  have kp := KeepA.push h1 { cls := .type "list_iterator", data := .fields #[.ref ax, .int 0 0] }
  have hit0 : (h1.push { cls := .type "list_iterator", data := .fields #[.ref ax, .int 0 0] }).IsListIter s.heap.objs.size ax 0 := ⟨_, hsz ▸ Heap.get?_push_size _ rfl, rfl, rfl⟩
  have G0 : GH base env ax vs (lastOf vals 0) (h1.push { cls := .type "list_iterator", data := .fields #[.ref ax, .int 0 0] }) :=
    ⟨(C.bk_L bk sb1).keep kp, ⟨_, n1.keeps kp, (if_neg (by decide)).trans hm, .none, if_pos rfl, rfl⟩, hl1.at fun o e => kp _ _ e⟩
  have hs0 : GSince env.locals s.heap.objs.size s { s with heap := h1.push { cls := .type "list_iterator", data := .fields #[.ref ax, .int 0 0] }, toks := s.toks + 1 } := ⟨_, _, rfl, fun b o nb eo => kp _ _ (sb1.extBut b o (fun q => nb (.inl q)) eo)⟩
  cases RU with
  | full h1 h2 h3 =>
    refine g_loopA C h1 h2 h3 (fun s₀ c' s' hss => ?_) 5 0 rfl (by decide) s _ G0 hit0 hs0
    refine hk 0 s₀ c' (.ret .none) s' ?_
    exact seg_end (.ok (.ret .none)) ⟨rfl, rfl, hss⟩
  | short m h1 h2 h3 h4 h5 h6 =>
    exact g_loopB C h1 h2 h3 h4 h5 h6 m 0 rfl (by omega) s _ G0 hit0 hs0
end
end Mine
end
section
open PySem PySem.W PyProof.Rows PySem.Calls PySem.Spec
set_option Elab.async false
set_option maxRecDepth 100000
set_option maxHeartbeats 8000000
set_option linter.unusedVariables false
set_option genSizeOf false
namespace Mine
section
variable {w : World} {base : Addr → Option Obj} {env : Env} {cx : Cx} {vals : List V} {h h' : Heap} {ρ : Nat → Addr}
theorem StO.oddT {T : Addr → Prop} (x : StO w base env cx vals h ρ) (kx : KeepX T h h') (hT : ∀ b o, T b → h.get? b = some o → Odd o) (ht : ∀ b, T b → ¬ Tch env cx.ns b) (hb : ∀ b, T b → base b = none) (hn : ∀ (i : Nat) pv, vals[i]? = some pv → pv.noHdr = true) : StO w base env cx vals h' ρ := by
  have hT' : ∀ b, Tch env cx.ns b → ¬ T b := fun b t e => ht b e t
  refine ⟨fun a o e => kx a o (fun e' => by rw [hb a e'] at e; cases e) (x.bk a o e), x.glob, x.eo, x.F.keepX kx hT', fun i y b pv h1 h2 h3 => ?_, x.tn, x.rn, x.sep, x.len⟩
  obtain ⟨v, a1, c1, d1⟩ := x.var i y b pv h1 h2 h3
  have nd : ∀ x dx lh, v = .ref x → HdrRaw h x dx lh → (∃ o l, pv = .hdr o l) → ¬ T dx := fun x dx lh _ r ⟨o, l, e⟩ => by
    have := hn i pv h2
    rw [e] at this; cases this
  exact ⟨v, a1.keepX kx hT' (mem_get h1), c1.odd kx hT nd, Off.noHdr (hn i pv h2)⟩
end
theorem setGen_append {g0 more : Array GenState} {gs gs' : GenState} {s : Shared} (h : s.gens = g0.push gs ++ more) : (s.setGen g0.size gs').gens = g0.push gs' ++ more := by
  show s.gens.setIfInBounds g0.size gs' = _
  rw [h]
  apply Array.ext'
  simp
theorem getGen_append {g0 more : Array GenState} {gs : GenState} : (g0.push gs ++ more)[g0.size]? = some gs := by
  rw [Array.getElem?_append_left (by simp), Array.getElem?_push_size]
section
variable {w : World} {n : Nat} {env genv : Env} {cx : Cx} {base base1 : Addr → Option Obj} {ax a : Addr} {seq : Nat → Nat} {lo : Bool} {A : Around}
/-- the generator, before its i-th item -/
noncomputable def GPos (w : World) (A : Around) (genv : Env) (base : Addr → Option Obj) (ax a : Addr) (seq : Nat → Nat) (lo : Bool) (g0 : Array GenState) (h0 : Heap) (i : Nat) (T : List Addr) (s : Shared) : Prop :=
  (∃ gs more, s.gens = g0.push gs ++ more ∧ AllBare more ∧ gs.bare = true ∧
    ∀ s'' : Shared, (∀ b, b ∈ T → ∀ o, s.heap.get? b = some o → s''.heap.get? b = some o) → BK base s''.heap → ∃ I, (I ∈ T ∨ I = s''.heap.objs.size) ∧ I ≠ a ∧ I ≠ ax ∧ h0.get? I = none ∧
      gs.Goes (model P0 w) A.in1 (GR genv.locals I) (GY base genv.locals ax I seq lo) (5 - i) (.send .none) s'') ∧
  (∀ b ∈ T, h0.get? b = none ∧ ∃ o, s.heap.get? b = some o ∧ (b ≠ ax → Odd o))
theorem BK.two {base : Addr → Option Obj} {L I : Addr} {h h' : Heap} (hL : base L = none) (hI : base I = none) (k : KeepX (fun b => b = L ∨ b = I) h h') (x : BK base h) : BK base h' := fun c o e => k c o (fun e' => by
  rcases e' with rfl | rfl
  · rw [hL] at e; cases e
  · rw [hI] at e; cases e) (x c o e)
theorem gen_next {g0 : Array GenState} {h0 : Heap} {i : Nat} {T : List Addr} {s : Shared} {Q : Option Value → Shared → Prop} {E : Value → Shared → Prop} (hh : A.handled = none) (hroom : A.depth < recursionLimit) (gl : Glob w s.heap) (bk : BK base s.heap) (hg : s.heap.IsGen a g0.size) (P : GPos w A genv base ax a seq lo g0 h0 i T s) (hi : i < 5)
    (q : ∀ t h1 tk gs' more I, KeepX (fun b => b = genv.locals ∨ b = I) s.heap h1 → (I ∈ T ∨ I = s.heap.objs.size) → I ≠ a → I ≠ ax → h0.get? I = none → (∃ o, h1.get? genv.locals = some o ∧ Odd o) → (∃ o, h1.get? I = some o ∧ Odd o) → gs'.bare = true → AllBare more →
      ((lo = true ∨ i < 4) → ∀ s'' : Shared, (∀ b, b = genv.locals ∨ b = ax ∨ b = I → ∀ o, h1.get? b = some o → s''.heap.get? b = some o) → BK base s''.heap → gs'.Goes (model P0 w) A.in1 (GR genv.locals I) (GY base genv.locals ax I seq lo) (5 - (i + 1)) (.send .none) s'') →
      Q (some (.int (seq i : Int) t)) { s with heap := h1, toks := tk, gens := g0.push gs' ++ more }) : wpAny (model P0 w) A (pyNext (.ref a)) Q E s := by
  obtain ⟨⟨gs, more, hgens, hmore, hbare, hgo⟩, hT⟩ := P
  have hgs : s.gens[g0.size]? = some gs := by rw [hgens]; exact getGen_append
  obtain ⟨I, hI, hIa, hIx, hI0, go⟩ := hgo (s.setGen g0.size .running) (fun b _ o e => e) bk
  refine pyNext_genQ (P := fun n s₀ s₁ => n = 0 ∧ GSince genv.locals I s₀ s₁) (n := 5 - i) hh gl.nolimit hroom hg hgs go (fun v s₁ gs' hb hv => ?_) (fun s₁ hp h' hk => ?_)
  · obtain ⟨⟨t, rfl⟩, ⟨h1, tk, rfl, k1⟩, oL, oI, kap⟩ := hv
    have e1 : 4 - (5 - i - 1) = i := by omega
    rw [e1]
    have := q t h1 tk gs' more I k1 hI hIa hIx hI0 oL oI hb hmore (fun hlo s'' hk' bk'' => ?_)
    · have e2 : Shared.setGen { s.setGen g0.size .running with heap := h1, toks := tk } g0.size gs' = { s with heap := h1, toks := tk, gens := g0.push gs' ++ more } := by
        have h1' : (s.setGen g0.size .running).gens = g0.push .running ++ more := setGen_append hgens
        have h2' : (Shared.setGen { s.setGen g0.size .running with heap := h1, toks := tk } g0.size gs').gens = g0.push gs' ++ more := setGen_append (gs := .running) h1'
        have : Shared.setGen { s.setGen g0.size .running with heap := h1, toks := tk } g0.size gs' = { s with heap := h1, toks := tk, gens := (Shared.setGen { s.setGen g0.size .running with heap := h1, toks := tk } g0.size gs').gens } := rfl
        rw [this, h2']
      rw [e2]; exact this
    · have hk2 := kap (hlo.imp id fun h => by omega) s'' hk' bk''
      rw [show 5 - i = (5 - (i + 1)) + 1 by omega] at hk2
      exact hk2
  · exact absurd hp.1 (by omega)
theorem gen_done {g0 : Array GenState} {h0 : Heap} {T : List Addr} {s : Shared} {Q : Option Value → Shared → Prop} {E : Value → Shared → Prop} (hb0 : ∀ b, h0.get? b = none → base b = none) (hLT : genv.locals ∈ T) (hh : A.handled = none) (hroom : A.depth < recursionLimit) (gl : Glob w s.heap) (bk : BK base s.heap) (hg : s.heap.IsGen a g0.size) (P : GPos w A genv base ax a seq true g0 h0 5 T s)
    (q : ∀ h1 tk gs' more I, KeepX (fun b => b = genv.locals ∨ b = I) s.heap h1 → (I ∈ T ∨ I = s.heap.objs.size) → I ≠ a → I ≠ ax → h0.get? I = none → gs'.bare = true → AllBare more → Q none { s with heap := h1, toks := tk, gens := g0.push gs' ++ more }) : wpAny (model P0 w) A (pyNext (.ref a)) Q E s := by
  obtain ⟨⟨gs, more, hgens, hmore, hbare, hgo⟩, hT⟩ := P
  have hgs : s.gens[g0.size]? = some gs := by rw [hgens]; exact getGen_append
  obtain ⟨I, hI, hIa, hIx, hI0, go⟩ := hgo (s.setGen g0.size .running) (fun b _ o e => e) bk
  refine pyNext_genQ (P := fun n s₀ s₁ => n = 0 ∧ GSince genv.locals I s₀ s₁) (n := 5 - 5) hh gl.nolimit hroom hg hgs go (fun v s₁ gs' hb hv => ?_) (fun s₁ hp h' hk => ?_)
  · exact False.elim (hv.2.2.2.2 (.inl rfl) s₁ (fun b _ o e => e) (by
      obtain ⟨_, ⟨h1, tk, rfl, k1⟩, _⟩ := hv
      exact BK.two (hb0 _ (hT _ hLT).1) (hb0 _ hI0) k1 bk))
  · obtain ⟨_, h1, tk, rfl, k1⟩ := hp
    have e2 : ({ Shared.setGen { s.setGen g0.size .running with heap := h1, toks := tk } g0.size .finished with heap := h' } : Shared) = { s with heap := h', toks := tk, gens := g0.push .finished ++ more } := by
      have h1' : (s.setGen g0.size .running).gens = g0.push .running ++ more := setGen_append hgens
      have h2' : (Shared.setGen { s.setGen g0.size .running with heap := h1, toks := tk } g0.size .finished).gens = g0.push .finished ++ more := setGen_append (gs := .running) h1'
      have : ({ Shared.setGen { s.setGen g0.size .running with heap := h1, toks := tk } g0.size .finished with heap := h' } : Shared) = { s with heap := h', toks := tk, gens := (Shared.setGen { s.setGen g0.size .running with heap := h1, toks := tk } g0.size .finished).gens } := rfl
      rw [this, h2']
    rw [e2]
    exact q h' tk .finished more I (fun b o nb e => hk b o (k1 b o nb e)) hI hIa hIx hI0 rfl hmore
end
end Mine
end
section
open PySem PySem.W PyProof.Rows PySem.Calls PySem.Spec
set_option Elab.async false
set_option maxRecDepth 100000
set_option maxHeartbeats 8000000
set_option linter.unusedVariables false
set_option genSizeOf false
namespace Mine
theorem isG_gi (w : World) : nsIn (hd.heap_1 w.params) mainGlobals (Str.ofString "_grouping_intervals") = some (some (.ref 202)) := by with_unfolding_all rfl
theorem kpG_gi (w : World) : keepIn (hd.heap_1 w.params) (.ref 202) = true := by with_unfolding_all rfl
theorem gen_entry {prog : Program} {w : World} {A : Around} {s : Shared} {Q E : Value → Shared → Prop} {name qual : Str} {params : Arguments} {body : List Stmt} {scope : Scope} {dV kV doc pm cdv ct oc : Value} {an od : Option Addr} {osl : Array (Option Value)} {f : Addr} {pn : List Str} {vs : List Value}
    (X : (hd.heap_1 w.params).In s.heap) (hroom : A.depth < recursionLimit) (g : Glob w s.heap)
    (ho : (hd.heap_1 w.params).lookup f = some ⟨oc, od, .func (fnOf name qual params body scope dV kV doc pm an cdv ct), osl⟩) (hcd : codeIn (hd.heap_1 w.params) cdv qual = true)
    (hbind : bindArgs (fnOf name qual params body scope dV kV doc pm an cdv ct) ⟨vs, []⟩ = pure (pn.zip vs)) (hgen : scope.isGenerator = true) (hco : scope.isCoroutine = false) (hkind : scope.kind = .function) (hpk : ((pn.zip vs).all fun y => scope.names.lookup y.1 == some .local || scope.names.lookup y.1 == some .cell) = true)
    (q : ∀ h1 tk, InCallC s s.heap.objs.size (bindL (envOfC qual scope s.heap.objs.size f cdv).kindOf (pn.zip vs) fun _ => none) (envOfC qual scope s.heap.objs.size f cdv).cells (bindC (envOfC qual scope s.heap.objs.size f cdv).kindOf (pn.zip vs) fun _ => none) { s with heap := h1, toks := tk } →
      Q (.ref h1.objs.size) { s with gens := s.gens.push (.fresh (.func body (envOfC qual scope s.heap.objs.size f cdv))), toks := tk + 1 + 1, heap := h1.push { cls := .type "generator", data := .fields #[.int s.gens.size 0, .str name tk, .str qual (tk + 1)] } }) :
    wpAny (model prog w) A (call (.ref f) vs) Q E s := by
  refine wpAny_call ?_
  refine codeAny_call_generator (fd := fnOf name qual params body scope dV kV doc pm an cdv ct) hroom (X _ _ ho) rfl hco hgen rfl (codeRec_of X hcd) ((BindsTo.of_eq hbind) _ _ _ _ ?_)
  refine wpAny_newFunctionEnv_cells hkind (kindsX hpk _) fun env' he s' x => ?_
  subst he
  refine ⟨g.nolimit.keeps x.toInCall.keep, ?_⟩
  obtain ⟨h₁, tk, rfl⟩ := x.toInCall.same
  exact q h₁ tk x
noncomputable def scG : Scope := { kind := .function, names := [(Str.ofString "grouping", .local), (Str.ofString "last_interval", .local), (Str.ofString "interval", .local), (Str.ofString "CHAR_MAX", .globalImplicit), (Str.ofString "ValueError", .globalImplicit)], isGenerator := true, isCoroutine := false }
theorem gen_call {w : World} {A : Around} {s : Shared} {Q E : Value → Shared → Prop} {ax : Addr} (hroom : A.depth < recursionLimit) (g : Glob w s.heap)
    (q : ∀ (genv : Env) (c : Code) (h2 : Heap) (tk : Nat) (m : Str → Option Value) (a : Addr), GE genv → KeepA s.heap h2 → s.heap.get? genv.locals = none → s.heap.get? a = none → s.heap.objs.size ≤ a → a ≠ genv.locals → h2.IsGen a s.gens.size → h2.Ns genv.locals m → m sGr = some (.ref ax) →
      (∀ (A' : Around) (base : Addr → Option Obj) (vs : List Value) (vals : List Nat) (seq : Nat → Nat) (lo : Bool), Ruler vals seq lo → (∀ h, BK base h → Glob w h) → base genv.locals = none → genv.locals ≠ ax → (∀ (i : Nat) (v : Value), vs[i]? = some v → ∃ t, v = .int ((vals.getD i 0 : Nat) : Int) t) → vs.length = vals.length →
        ∀ (s'' : Shared) (m : Str → Option Value), BK base s''.heap → s''.heap.Ns genv.locals m → m sGr = some (.ref ax) → s''.heap.IsList ax vs.toArray →
          Seg (model P0 w) A' (GR genv.locals s''.heap.objs.size) (GY base genv.locals ax s''.heap.objs.size seq lo) 5 s'' c ((model P0 w).den c) [] s'') →
      Q (.ref a) { s with heap := h2, toks := tk, gens := s.gens.push (.fresh c) }) :
    wpAny (model PySem.Challenge.rw_wk0031_01.prog w) A (call (.ref 202) [.ref ax]) Q E s := by
  have X := g.K
  revert X; k_fill; intro X
  refine' gen_entry (pn := [sGr]) X hroom g ?ho ?hcd ?hb ?hgen ?hco ?hk ?hpk ?_
  case ho => k_is
  case hcd => k_is
  case hco => rfl
  case hgen => rfl
  case hb => rfl
  case hk => rfl
  case hpk => rfl
  intro h1 tk x
  have hk := x.toInCall.keep
  have none_ : ∀ a : Nat, s.heap.objs.size ≤ a → s.heap.get? a = none := fun a ha => by
    cases e : s.heap.get? a with
    | none => rfl
    | some o' => exact absurd (Heap.lt_size e) (Nat.not_lt.mpr ha)
  have hns := x.toInCall.ns
  have hLlt : s.heap.objs.size < h1.objs.size := by obtain ⟨o, _, _, ho, _⟩ := id hns; exact Heap.lt_size ho
  refine q (envOfC (Str.ofString "_grouping_intervals") scG s.heap.objs.size 202 (.ref 201)) _ _ _ _ h1.objs.size ?a (fun b o e => Heap.get?_push_of_some _ (hk b o e)) (none_ _ (Nat.le_refl _)) (none_ _ (Nat.le_of_lt hLlt)) (Nat.le_of_lt hLlt) (Nat.ne_of_gt hLlt) ⟨_, _, _, Heap.get?_push_size _ rfl, rfl, rfl, rfl⟩ (hns.keeps fun b o e => Heap.get?_push_of_some _ e) (bindL_get (kindOf := (envOfC (Str.ofString "_grouping_intervals") scG s.heap.objs.size 202 (.ref 201)).kindOf) (by rfl) _ _ (by show ([sGr] : List Str).Nodup; exact List.nodup_cons.2 ⟨List.not_mem_nil, List.nodup_nil⟩) (by simp)) ?b
  case a =>
    refine ⟨⟨rfl, rfl, rfl, ?_, fun _ h => nomatch h⟩, rfl, rfl, rfl, rfl⟩
    intro g hg
    simp only [List.mem_cons, List.not_mem_nil, or_false] at hg
    subst hg; rfl
  case b =>
    intro A' base vs vals seq lo RU gl bL La hval hlen s'' m bk n hm hl
    exact g_start RU ⟨⟨rfl, rfl, rfl, by
      intro g hg
      simp only [List.mem_cons, List.not_mem_nil, or_false] at hg
      subst hg; rfl, fun _ h => nomatch h⟩, rfl, rfl, rfl, rfl⟩ gl bL La hval hlen bk n hm hl
end Mine
end
section
open PySem PySem.W PyProof.Rows PySem.Calls PySem.Spec
set_option Elab.async false
set_option maxRecDepth 100000
set_option maxHeartbeats 8000000
set_option linter.unusedVariables false
set_option genSizeOf false
namespace Mine
theorem base_none {base : Addr → Option Obj} {h : Heap} (b : BK base h) {a : Addr} (e : h.get? a = none) : base a = none := by
  cases hb : base a with
  | none => rfl
  | some o => rw [b _ _ hb] at e; cases e
theorem AllBare.app {a b : Array GenState} (x : AllBare a) (y : AllBare b) : AllBare (a ++ b) := fun g hg => (Array.mem_append.mp hg).elim (x g) (y g)
theorem GX.push1 {a b : Array GenState} (x : GX a b) {g : GenState} {more : Array GenState} (hg : g.bare = true) (hm : AllBare more) : GX a (b.push g ++ more) :=
  x.trans ⟨#[g] ++ more, by simp, AllBare.app (fun y hy => by simp at hy; subst hy; exact hg) hm⟩
/-- what is not of the list's kind and was not there is no variable's root -/
theorem StO.not_root {w : World} {base : Addr → Option Obj} {env : Env} {cx : Cx} {vals : List V} {h : Heap} {ρ : Nat → Addr} (x : StO w base env cx vals h ρ) {y : Addr} {o : Obj} (ho : h.get? y = some o) (od : Odd o) : ∀ i pv, vals[i]? = some pv → pv.fresh = true → ρ i ≠ y := fun j pv h1 h2 e => by
  have hl : pv.listy = true := by cases pv <;> first | rfl | cases h2
  have hlt : j < cx.ns.length := by rw [← x.len]; exact (List.getElem?_eq_some_iff.mp h1).1
  obtain ⟨u, _, c, _⟩ := x.var j cx.ns[j].1 cx.ns[j].2 pv (by simp [hlt]) h1 (fun e => by subst e; cases hl)
  obtain ⟨its, o', ho', _, n, hd⟩ := c.obj hl
  rw [e, ho] at ho'; cases ho'
  exact od.noSeq hd
theorem pin_none {base : Addr → Option Obj} {y : Addr} {o : Obj} {a : Addr} (h : a ≠ y) (hb : base a = none) : pin base y o a = none := by unfold pin; rw [if_neg h]; exact hb
theorem pin_at {base : Addr → Option Obj} {y : Addr} {o : Obj} : pin base y o y = some o := by unfold pin; rw [if_pos rfl]
section
variable {w : World} {n : Nat} {env : Env} {cx : Cx}
theorem W1.forGen {x : Str} {b : Bool} {px pn pc p : Pos} {e : Expr} {body : List Stmt} {vals : List Nat} {seq : Nat → Nat} {lo : Bool} (k : Nat) (f : Nat → List V) (hx : cx.ns[k]? = some (x, b)) (he : Ev P0 w (n + 1) env cx (f 0) e (.lst .own (vals.map .nat))) (RU : Ruler vals seq lo)
    (hgs : Str.ofString "_grouping_intervals" ∈ cx.gs) (hst : starEach [e] env = [(false, eval e env)])
    (hno : ∀ i (j : Nat) pv, (f i)[j]? = some pv → pv.noHdr = true)
    (step : ∀ i, i < 5 → W P0 w (n + 1) env cx ((f i).set k (.s (.nat (seq i)))) body (if lo = false ∧ i = 4 then .brk (f 5) else .next (f (i + 1))))
    (hs : ∀ y, foldedSetIterable (.Call (.Name (Str.ofString "_grouping_intervals") pn) [e] [] pc) env y = pure y) :
    W1 P0 w (n + 1) env cx (f 0) (.For (.Name x px) (.Call (.Name (Str.ofString "_grouping_intervals") pn) [e] [] pc) body [] p) (.next (f 5)) := fun A s Q E base hA ⟨ρ, st⟩ q => by
  have ha : EvA P0 w (n + 1) env cx (f 0) pc [e] [.lst .own (vals.map .nat)] := EvA.one he hst
  have hroom : A.depth < recursionLimit := by have := hA.dp; omega
  refine wpAny_For ?_ hs
  refine wpAny_Call_NameR (wp_glob st.eo st.g hgs (isG_gi w) rfl ?_)
  have hst' : starEach [e] env = (false, eval e env) :: starEach [] env := hst
  refine callWith_K st.g.K (kpG_gi w) (wpAny_items_cons (he A s _ _ hA st.g st.rep fun v s₁ x₁ r₁ f₁ => wpAny_items_nil ⟨(st.g.keep x₁.keep).K, ?_⟩) hst') hst' rfl
  have st₁ := st.keep x₁.keep
  obtain ⟨ax, rfl, vs, hl, hall⟩ := id r₁
  obtain ⟨oax, hoax, hlax⟩ : ∃ oax, s₁.heap.get? ax = some oax ∧ ∀ h : Heap, h.get? ax = some oax → h.IsList ax vs.toArray := by
    obtain ⟨nax, e⟩ := hl
    exact ⟨_, e, fun h e' => ⟨_, e', rfl, _, rfl⟩⟩
  have axn : s.heap.get? ax = none := f₁ ax rfl
  have bax : base ax = none := base_none st.bk axn
  have tax : ¬ Tch env cx.ns ax := fun t => by
    obtain ⟨o, ho, _⟩ := st.tch_lt t
    rw [axn] at ho; cases ho
  have hval : ∀ (i : Nat) (v : Value), vs[i]? = some v → ∃ t, v = .int ((vals.getD i 0 : Nat) : Int) t := fun i v hv => by
    obtain ⟨b, hb, hr⟩ := hall.get' hv
    obtain ⟨c, rfl, hc⟩ := nat_item hb
    rw [List.getD_eq_getElem?_getD, hc]
    exact hr
  have hlen : vs.length = vals.length := by rw [hall.length, List.length_map]
  refine gen_call hroom st₁.g ?_
  intro genv c h2 tk m a GEe kp2 hL0 ha0 hasz haL hIG hNs hm hstart
  refine wpAny_pyIter_gen hIG ?_
  have hLax : genv.locals ≠ ax := fun e => by rw [e, hoax] at hL0; cases hL0
  have haax : a ≠ ax := fun e => by rw [e, hoax] at ha0; cases ha0
  have st₂ := st₁.keep kp2
  obtain ⟨oG, nmG, qnG, hoG, hcG, hdG, hsG⟩ := id hIG
  have oddG : Odd oG := .inr (.inr ⟨⟨_, hdG⟩, by rw [hcG]; decide⟩)
  have noT : ∀ y, s₁.heap.get? y = none → ¬ Tch env cx.ns y := fun y e t => by
    obtain ⟨o, ho, _⟩ := st₁.tch_lt t
    rw [e] at ho; cases ho
  have stG := st₂.pin (kp2 _ _ hoax) tax fun i pv h1 h2 e => by
    obtain ⟨u, o, c, ho⟩ := st.root_lt h1 (by cases pv <;> first | rfl | cases h2)
    rw [e, axn] at ho; cases ho
  have st3 := stG.pin hoG (noT a ha0) (stG.not_root hoG oddG)
  have bG0 : BK (pin base ax oax) s₁.heap := fun b o e => by
    unfold pin at e
    split at e
    · rename_i hb; cases e; rw [hb]; exact hoax
    · exact st₁.bk _ _ e
  have hb0 : ∀ b, s₁.heap.get? b = none → pin base ax oax b = none := fun b e => base_none bG0 e
  have hbG : ∀ o', pin base ax oax a = some o' → o' = oG := fun o' e => by rw [hb0 a ha0] at e; cases e
  have hbax : ∀ o', base ax = some o' → o' = oax := fun o' e => by rw [bax] at e; cases e
  have toG : ∀ h, BK (pin (pin base ax oax) a oG) h → BK (pin base ax oax) h := fun h b => b.unpin hbG
  have outG : ∀ v h, StOk w (pin (pin base ax oax) a oG) env cx v h → StOk w base env cx v h := fun v h x => (x.unpin hbG stG.glob).unpin hbax st.glob
  have lG : LG false (.Name x px) := .inl fun _ _ => rfl
  refine forLoopU (fun kk s' => ∃ i T, i ≤ 5 ∧ kk = 6 - i ∧ StOk w (pin (pin base ax oax) a oG) env cx (f i) s'.heap ∧ GPos w A genv (pin base ax oax) ax a seq lo s₁.gens s₁.heap i T s' ∧ genv.locals ∈ T ∧ s'.os = s.os ∧ (lo = false → i < 5)) ?_ 6 ⟨0, [genv.locals, a], by omega, rfl, ⟨ρ, st3⟩, ⟨⟨.fresh c, #[], by simp, .empty, rfl, ?_⟩, ?_⟩, by simp, x₁.os, fun _ => by omega⟩
  · rintro kk s' ⟨i, T, hi, rfl, ⟨ρ', x'⟩, P, hLT, os', hlo⟩
    have bk' := toG _ x'.bk
    have hIG' : s'.heap.IsGen a s₁.gens.size := ⟨oG, nmG, qnG, x'.bk _ _ pin_at, hcG, hdG, hsG⟩
    have P2 := P.2
    rcases Nat.lt_or_ge i 5 with h5 | h5
    · refine gen_next hA.hd hroom x'.g bk' hIG' P h5 ?_
      intro t h1 tk1 gs' more I k1 hI hIa hIx hI0 oL oI hb' hmore go
      have oT : ∀ b o, (b = genv.locals ∨ b = I) → s'.heap.get? b = some o → Odd o := fun b o hb ho => by
        have hbT : b ∈ T ∨ b = s'.heap.objs.size := by
          rcases hb with rfl | rfl
          · exact .inl hLT
          · exact hI
        rcases hbT with hbT | rfl
        · obtain ⟨h0, o', ho', od⟩ := P2 b hbT
          rw [ho] at ho'; cases ho'
          exact od (fun e => by rw [e, hoax] at h0; cases h0)
        · rw [size_none] at ho; cases ho
      have x1 := x'.oddT (T := fun b => b = genv.locals ∨ b = I) k1 oT (fun b hb => noT b (by rcases hb with rfl | rfl <;> assumption)) (fun b hb => by
        rcases hb with rfl | rfl
        · exact pin_none (Ne.symm haL) (hb0 _ hL0)
        · exact pin_none hIa (hb0 _ hI0)) (hno i)
      refine wpAny_of_eq rfl ?_
      refine wpAny_assign_Name (x1.store hx (pv := .s (.nat (seq i))) ⟨t, rfl⟩ (.inr (.inl rfl)) (fun h => nomatch h) fun h4 tk4 k4 x4 => ?_)
      obtain ⟨ρ4, x4⟩ := x4
      obtain ⟨oL', hoL, odL⟩ := oL
      obtain ⟨oI', hoI, odI⟩ := oI
      have hoL4 := k4 _ _ (noT _ hL0) hoL
      have hoI4 := k4 _ _ (noT _ hI0) hoI
      have y1 := x4.pin hoL4 (noT _ hL0) (x4.not_root hoL4 odL)
      have y2 := y1.pin hoI4 (noT _ hI0) (y1.not_root hoI4 odI)
      have hbL : ∀ o', pin (pin base ax oax) a oG genv.locals = some o' → o' = oL' := fun o' e => by rw [pin_none (Ne.symm haL) (hb0 _ hL0)] at e; cases e
      have hbI : ∀ o', pin (pin (pin base ax oax) a oG) genv.locals oL' I = some o' → o' = oI' := fun o' e => by
        by_cases hIL : I = genv.locals
        · rw [hIL, pin_at] at e
          cases e
          rw [hIL] at hoI
          rw [hoL] at hoI; exact Option.some.inj hoI
        · rw [pin_none hIL (pin_none hIa (hb0 _ hI0))] at e; cases e
      refine step i h5 A _ _ _ _ hA ⟨ρ4, y2⟩ fun fl s₃ o₃ => ?_
      have post : ∀ v, StOk w (pin (pin (pin (pin base ax oax) a oG) genv.locals oL') I oI') env cx v s₃.heap → GX (s₁.gens.push gs' ++ more) s₃.gens → i < 5 → (lo = true ∨ i < 4) → StOk w (pin (pin base ax oax) a oG) env cx v s₃.heap ∧ GPos w A genv (pin base ax oax) ax a seq lo s₁.gens s₁.heap (i + 1) [genv.locals, I] s₃ := fun v x3 g3 _ hlt => by
        have z1 := x3.unpin hbI y1.glob
        have z2 := z1.unpin hbL x4.glob
        have eI : s₃.heap.get? I = some oI' := x3.bk _ _ pin_at
        have eL : s₃.heap.get? genv.locals = some oL' := z1.bk _ _ pin_at
        have eA : s₃.heap.get? ax = some oax := toG _ z2.bk _ _ pin_at
        have eA1 : h1.get? ax = some oax := k1 _ _ (fun e => e.elim (fun e => hLax e.symm) fun e => hIx e.symm) (bk' _ _ pin_at)
        refine ⟨z2, ?_, fun b hb => ?_⟩
        · obtain ⟨more', e, hm'⟩ := g3
          refine ⟨gs', more ++ more', by rw [e, Array.append_assoc], AllBare.app hmore hm', hb', fun s'' hk bk'' => ⟨I, .inl (by simp), hIa, hIx, hI0, go hlt s'' (fun b hb o ho => ?_) bk''⟩⟩
          rcases hb with rfl | rfl | rfl
          · rw [hoL] at ho; cases ho
            exact hk _ (by simp) _ eL
          · rw [eA1] at ho; cases ho
            exact bk'' _ _ pin_at
          · rw [hoI] at ho; cases ho
            exact hk _ (by simp) _ eI
        · simp only [List.mem_cons, List.not_mem_nil, or_false] at hb
          rcases hb with rfl | rfl
          · exact ⟨hL0, _, eL, fun _ => odL⟩
          · exact ⟨hI0, _, eI, fun _ => odI⟩
      by_cases hbr : lo = false ∧ i = 4
      · rw [if_pos hbr] at o₃
        obtain ⟨rfl, x3, os3, g3⟩ := o₃.brk'
        refine q _ _ ⟨os3.trans os', x₁.gens.trans ?_, outG _ _ ((x3.unpin hbI y1.glob).unpin hbL x4.glob)⟩
        exact ((GX.refl _).push1 hb' hmore).trans g3
      · rw [if_neg hbr] at o₃
        obtain ⟨rfl, x3, os3, g3⟩ := o₃.next'
        obtain ⟨z2, P'⟩ := post _ x3 g3 h5 (by
          cases lo with
          | true => exact .inl rfl
          | false => exact .inr (by have : ¬ i = 4 := fun e => hbr ⟨rfl, e⟩; omega))
        exact ⟨6 - (i + 1), by omega, i + 1, [genv.locals, I], by omega, rfl, z2, P', by simp, os3.trans os', fun hl => by
          have : ¬ i = 4 := fun e => hbr ⟨hl, e⟩
          omega⟩
    · have hi5 : i = 5 := by omega
      subst hi5
      have hlo' : lo = true := by
        cases lo with
        | true => rfl
        | false => exact absurd (hlo rfl) (by omega)
      subst hlo'
      refine gen_done hb0 hLT hA.hd hroom x'.g bk' hIG' P ?_
      intro h1 tk1 gs' more I k1 hI hIa hIx hI0 hb' hmore
      have oT : ∀ b o, (b = genv.locals ∨ b = I) → s'.heap.get? b = some o → Odd o := fun b o hb ho => by
        have hbT : b ∈ T ∨ b = s'.heap.objs.size := by
          rcases hb with rfl | rfl
          · exact .inl hLT
          · exact hI
        rcases hbT with hbT | rfl
        · obtain ⟨h0, o', ho', od⟩ := P2 b hbT
          rw [ho] at ho'; cases ho'
          exact od (fun e => by rw [e, hoax] at h0; cases h0)
        · rw [size_none] at ho; cases ho
      have x1 := x'.oddT (T := fun b => b = genv.locals ∨ b = I) k1 oT (fun b hb => noT b (by rcases hb with rfl | rfl <;> assumption)) (fun b hb => by
        rcases hb with rfl | rfl
        · exact pin_none (Ne.symm haL) (hb0 _ hL0)
        · exact pin_none hIa (hb0 _ hI0)) (hno 5)
      exact q _ _ ⟨os', x₁.gens.trans ((GX.refl _).push1 hb' hmore), outG _ _ ⟨_, x1⟩⟩
  · intro s'' hk bk''
    have kL : ∀ o, h2.get? genv.locals = some o → s''.heap.get? genv.locals = some o := hk _ (by simp)
    have ea : s''.heap.get? a = some oG := hk _ (by simp) _ hoG
    have eA : s''.heap.get? ax = some oax := bk'' _ _ pin_at
    refine ⟨s''.heap.objs.size, .inr rfl, (fun e => by rw [← e, size_none] at ea; cases ea), (fun e => by rw [← e, size_none] at eA; cases eA), ?_, rfl, ?_⟩
    · cases e : s₁.heap.get? s''.heap.objs.size with
      | none => rfl
      | some o =>
        have h1 := Heap.lt_size e
        have h2' := Heap.lt_size ea
        exact absurd (Nat.lt_of_lt_of_le h1 hasz) (Nat.lt_asymm h2')
    · exact hstart A.in1 (pin base ax oax) vs vals seq lo RU (fun h b => stG.glob h b) (hb0 _ hL0) hLax hval hlen s'' m bk'' (hNs.at fun o e => kL o e) hm (hlax _ eA)
  · intro b hb
    simp only [List.mem_cons, List.not_mem_nil, or_false] at hb
    rcases hb with rfl | rfl
    · obtain ⟨o, _, _, ho, _⟩ := id hNs
      exact ⟨hL0, o, ho, fun _ => ns_odd hNs ho⟩
    · exact ⟨ha0, oG, hoG, fun _ => oddG⟩
end
end Mine
end
section
open PySem PySem.W PyProof.Rows PySem.Calls PySem.Spec
set_option Elab.async false
set_option maxRecDepth 100000
set_option maxHeartbeats 8000000
set_option linter.unusedVariables false
set_option genSizeOf false
namespace Mine
theorem slot_bytes_join : Slot "bytes" "join" "bytes.join" :=
  .of (owner := "bytes") (n := "join") (by rw [typeLookup_type, builtinLookup_eq_fast]; kernel_rfl) (by decide +kernel) (by decide +kernel) (by decide +kernel)
    (by first | exact .inl (by decide +kernel) | exact .inr (by decide +kernel)) (by rw [isSubtype_type]; kernel_rfl)
theorem entry_bytes_join : entryFor table "bytes.join" = some Builtin.«bytes.join» := entryFor_of_fast (by kernel_rfl)
theorem args_bytes_join (a b : Value) : argsOk "bytes.join" ⟨[a, b], []⟩ := by unfold argsOk; kernel_rfl
theorem type_bytes_join : typeOf (.builtin "bytes.join") = pure (.type "method_descriptor") := by kernel_rfl
theorem All2.ofMap {α β γ : Type} {P : α → β → Prop} {P' : α → γ → Prop} {f : γ → β} (h : ∀ a c, P a (f c) → P' a c) : ∀ {as : List α} {cs : List γ}, All2 P as (cs.map f) → All2 P' as cs
  | [], [], _ => .nil
  | [], _ :: _, x => nomatch x
  | _ :: _, [], x => nomatch x
  | a :: as, c :: cs, x => by
    cases x with
    | cons h1 h2 => exact .cons (h _ _ h1) (All2.ofMap h h2)
theorem take_eq {id : String} {b : Array UInt8} {t : Tok} : Builtin.Bytes.takeBufferQuiet? id (.bytes b t) 0 = pure (some (b, none)) := by
  unfold Builtin.Bytes.takeBufferQuiet? Builtin.Bytes.takeBuffer?
  rw [KBy.special_eq KBy.look_buffer, KBy.own_buffer]
  simp only [KBy.buffer_eq]
  kernel_rfl
section
variable {M : Model} {A : Around} {s : Shared} {E : Value → Shared → Prop}
theorem joinLetGo_bytes {Q : Unit → Shared → Prop} : ∀ (taken : List (Value × Option Value)) (keep : List Value), (∀ p ∈ taken, p.2 = none) → Q () s → wpAny M A (Builtin.Bytes.joinLetGo taken keep) Q E s
  | [], _, _, q => wpAny_pure q
  | (x, w) :: rest, keep, h, q => by
    have hw : w = none := h (x, w) (by simp)
    subst hw
    unfold Builtin.Bytes.joinLetGo
    refine wpAny_bind ?_
    show wpAny M A (letGo [x] _) _ E s
    unfold letGo
    refine wpAny_bind (wpAny_holding (wpAny_point ?_))
    unfold letGo
    refine wpAny_pure ?_
    exact joinLetGo_bytes rest keep (fun p hp => h p (by simp [hp])) q
theorem joinM_ok {sep : Array UInt8} {t : Tok} {a : Addr} {vs : List Value} {bs : List (Array UInt8)} {Q : Value → Shared → Prop} (hl : s.heap.IsList a vs.toArray) (hv : All2 (fun v b => ∃ t, v = Value.bytes b t) vs bs) (h2 : bs.length = 5)
    (hsz : Builtin.Bytes.tooLong (bs.toArray.foldl (· + ·.size) (sep.size * (bs.toArray.size - 1))) = false) (hsz' : (Builtin.Bytes.joined sep bs).size ≤ sizeLine)
    (q : ∀ tk u, Q (.bytes (Builtin.Bytes.joined sep bs) u) { s with toks := tk }) : wpAny M A (Builtin.Bytes.joinM .bytes ⟨[.bytes sep t, .ref a], []⟩) (fun e s' => ∃ v, e = .done (.ret v) ∧ Q v s') E s := by
  obtain ⟨o, ho, hc, nn, hd⟩ := id hl
  unfold Builtin.Bytes.joinM
  have hT : s.TypeIs (.ref a) "list" := ⟨o, ho, hc⟩
  refine wpAny_bind (wpAny_of_eq (a := (Value.bytes sep t, Value.ref a)) rfl ?_)
  show wpAny M A (Builtin.Bytes.joinItems (.ref a) >>= fun t => _) _ E s
  refine wpAny_bind ?_
  unfold Builtin.Bytes.joinItems
  refine wpAny_bind (wpAny_typeOf hT ?_)
  refine wpAny_pure ?_
  refine wpAny_bind (wpAny_seqItems ho hd ?_)
  have hn : vs.length = bs.length := hv.length
  have hone : ∀ x, vs.toArray ≠ #[x] := fun x e => by
    have := congrArg Array.size e
    simp at this; omega
  have loop : ∀ (f : Nat → Array (Array UInt8) × List (Value × Option Value) → Sem (ForInStep (Array (Array UInt8) × List (Value × Option Value)))) (Q' : Array (Array UInt8) × List (Value × Option Value) → Shared → Prop),
      (∀ i v b t ps tk, vs[i]? = some v → v = Value.bytes b t → (∀ p ∈ tk, p.2 = none ∧ p.1.onHeap = false) → ∀ Q'' : ForInStep (Array (Array UInt8) × List (Value × Option Value)) → Shared → Prop, Q'' (.yield (ps.push b, tk ++ [(v, none)])) s → wpAny M A (f i (ps, tk)) Q'' E s) →
      (∀ tk, (∀ p ∈ tk, p.2 = none) → Q' (bs.toArray, tk) s) → wpAny M A (forIn [0:vs.toArray.size] (#[], []) f) Q' E s := by
    intro f Q' hf hQ
    rw [Std.Legacy.Range.forIn_eq_forIn_range']
    have key : ∀ (m i : Nat) (tk : List (Value × Option Value)), i + m = vs.length → (∀ p ∈ tk, p.2 = none ∧ p.1.onHeap = false) → wpAny M A (forIn (List.range' i m) ((bs.take i).toArray, tk) f) Q' E s := by
      intro m
      induction m with
      | zero =>
        intro i tk hi htk
        rw [List.range'_zero, List.forIn_nil]
        refine wpAny_pure ?_
        rw [List.take_of_length_le (by omega)]
        exact hQ tk fun p hp => (htk p hp).1
      | succ m ih =>
        intro i tk hi htk
        rw [List.range'_succ, List.forIn_cons]
        have hil : i < vs.length := by omega
        have hvi : vs[i]? = some vs[i] := List.getElem?_eq_getElem hil
        obtain ⟨b, hb, u, hu⟩ := hv.get' hvi
        refine wpAny_bind (hf i _ b u _ _ hvi hu htk _ ?_)
        have := ih (i + 1) (tk ++ [(vs[i], none)]) (by omega) (fun p hp => by
          rcases List.mem_append.mp hp with h | h
          · exact htk p h
          · cases List.mem_singleton.mp h
            exact ⟨rfl, by rw [hu]; rfl⟩)
        rw [List.take_add_one, hb] at this
        simpa using this
    have := key vs.length 0 [] (by omega) (fun p hp => nomatch hp)
    simpa using this
  have loop' := fun f Q' h1 h2 => loop f Q' h1 h2
  clear loop
  obtain ⟨v0, v1, v2, v3, v4, hvs⟩ : ∃ v0 v1 v2 v3 v4, vs = [v0, v1, v2, v3, v4] := by
    exact len_five (hn.trans h2)
  subst hvs
  show wpAny M A (forIn [0:5] (#[], []) _ >>= _) _ E s
  refine wpAny_bind (loop' _ _ ?_ ?_)
  · intro i v b u ps tk hi hb htk Q'' hq
    subst hb
    have hany : (tk.any fun x => x.1.onHeap) = false := List.any_eq_false.mpr fun p hp => by rw [(htk p hp).2]; decide
    have hget : [v0, v1, v2, v3, v4].toArray.getD i .none = .bytes b u := by
      rw [Array.getD_eq_getD_getElem?, List.getElem?_toArray, hi]; rfl
    show wpAny M A (seqItems? (.ref a) >>= _) _ E s
    refine wpAny_bind (wpAny_seqItems ho hd ?_)
    refine wpAny_ite ?_
    rw [if_neg (by rw [hany]; decide)]
    show wpAny M A (holding _ (Builtin.Bytes.takeBufferQuiet? _ ([v0, v1, v2, v3, v4].toArray.getD i .none) 0) >>= _) _ E s
    rw [hget]
    refine wpAny_bind (wpAny_holding (wpAny_of_eq take_eq ?_))
    refine wpAny_bind (wpAny_seqItems ho hd ?_)
    refine wpAny_ite ?_
    rw [if_neg (by simp)]
    exact wpAny_pure hq
  · intro tk htk
    refine wpAny_bind (wpAny_of_eq (a := sep) rfl ?_)
    have e5 : bs.toArray.size = bs.length := by simp
    refine wpAny_ite ?_
    rw [if_neg (by show ¬ Builtin.Bytes.tooLong (bs.toArray.foldl (· + ·.size) (sep.size * (bs.toArray.size - 1))) = true; rw [hsz]; decide)]
    refine wpAny_bind (wpAny_mkBytes ?_ ?_)
    · refine wpAny_bind (wpAny_holding (wpAny_point ?_))
      refine wpAny_bind (joinLetGo_bytes _ _ htk ?_)
      refine wpAny_pure ⟨_, rfl, ?_⟩
      exact q _ _
    · exact hsz'
end
section
variable {prog : Program} {w : World} {n : Nat} {env : Env} {cx : Cx} {vals : List V}
theorem fold_len : ∀ (bs : List (Array UInt8)) (n : Nat), bs.foldl (fun a b => a + b.size) n = n + (bs.map (·.toList)).flatten.length
  | [], n => rfl
  | b :: bs, n => by
    rw [List.foldl_cons, fold_len bs, List.map_cons, List.flatten_cons, List.length_append, Nat.add_assoc]; rfl
theorem sum_five {bs : List (Array UInt8)} (h5 : bs.length = 5) (hs : ∀ b ∈ bs, b.size ≤ 1000) : (bs.map (·.toList)).flatten.length ≤ 5000 := by
  have : ∀ l : List (Array UInt8), (∀ b ∈ l, b.size ≤ 1000) → (l.map (·.toList)).flatten.length ≤ 1000 * l.length := by
    intro l h
    induction l with
    | nil => exact Nat.le_refl _
    | cons b l ih =>
      have h1 : b.toList.length ≤ 1000 := h b (List.mem_cons_self ..)
      have h2 := ih fun c hc => h c (List.mem_cons_of_mem _ hc)
      rw [List.map_cons, List.flatten_cons, List.length_append, List.length_cons]
      omega
  have := this bs hs
  rw [h5] at this; exact this
theorem CallOk.joinB {o : Fl} {bs : List (Array UInt8)} (h5 : bs.length = 5) (hs : ∀ b ∈ bs, b.size ≤ 1000) : CallOk prog w n (.builtin "bytes.join") [.s (.bytes #[]), .lst o (bs.map .bytes)] (.s (.bytes (bs.map (·.toList)).flatten.toArray)) := by
  intro A s Q E vs hA g r q
  obtain ⟨v, v', rfl, ⟨t, rfl⟩, a, rfl, its, ⟨nn, ho⟩, hall⟩ := r.two
  have hj : Builtin.Bytes.joined #[] bs = (bs.map (·.toList)).flatten.toArray := by
    obtain ⟨b0, b1, b2, b3, b4, rfl⟩ := len_five h5
    simp [Builtin.Bytes.joined, List.zipIdx]
  have hsz : (bs.map (·.toList)).flatten.length ≤ 5000 := by
    exact sum_five h5 hs
  have hl : s.heap.IsList a its.toArray := ⟨_, ho, rfl, _, rfl⟩
  refine wpAny_call_entry slot_bytes_join (typeIs_bytes _ _ _) entry_bytes_join (joinM_ok hl (bs := bs) ?_ h5 ?_ ?_ fun tk u => ?_) (args_bytes_join _ _)
  · exact All2.ofMap (fun v b h => h) hall
  · rw [KBy.tooLong_not]
    have e := fold_len bs 0
    have := sum_five h5 hs
    simp only [Array.size_empty, Nat.zero_mul, List.foldl_toArray'] at e ⊢
    omega
  · rw [hj, sizeLine_eq, List.size_toArray]
    omega
  · rw [hj]
    exact q _ _ (Ext.tok s _) ⟨_, rfl⟩ (.no rfl)
end
end Mine
end
section
open PySem PySem.W PyProof.Rows PySem.Calls PySem.Spec
set_option Elab.async false
set_option maxRecDepth 100000
set_option maxHeartbeats 8000000
set_option linter.unusedVariables false
set_option genSizeOf false
namespace Mine
theorem word_facts : ∀ r : Nat, r < 32 → r ≠ 0 → 1 ≤ (wordP r).length ∧ (wordP r).length ≤ 5 ∧ (∀ c ∈ wordP r, 66 ≤ c.toNat ∧ c.toNat ≤ 70) ∧ ((wordP r).map fun c => 1 <<< (c.toNat - 66)).sum = r := by decide +kernel
theorem first_fail (P : Nat → Bool) : ∀ K, ∃ N, N ≤ K ∧ (∀ i, i < N → P i = true) ∧ (N = K ∨ P N = false)
  | 0 => ⟨0, Nat.le_refl _, fun i hi => by omega, .inl rfl⟩
  | K + 1 => by
    obtain ⟨N, h1, h2, h3⟩ := first_fail P K
    rcases h3 with rfl | h3
    · cases h : P N with
      | false => exact ⟨N, by omega, h2, .inr h⟩
      | true => exact ⟨N + 1, by omega, fun i hi => by
          rcases Nat.lt_or_ge i N with q | q
          · exact h2 i q
          · have : i = N := by omega
            rw [this]; exact h, .inl rfl⟩
    · exact ⟨N, by omega, h2, .inr h3⟩
noncomputable def wsL (f : Nat → Nat) : List Nat := [f 0, f 1, f 2, f 3, f 4]
noncomputable def valsP (f : Nat → Nat) (N : Nat) : List Nat := (wsL f).take (5 - N) ++ (if N = 0 then [127, 1] else [0])
theorem ruler_of (f : Nat → Nat) (hf : ∀ i, i < 5 → 1 ≤ f i ∧ f i ≤ 5) (N : Nat) (h4 : N ≤ 4) (h : ∀ i, i < N → f (4 - i) = f (3 - i)) : Ruler (valsP f N) f (decide (N = 0)) := by
  have e0 := hf 0 (by decide)
  have e1 := hf 1 (by decide)
  have e2 := hf 2 (by decide)
  have e3 := hf 3 (by decide)
  have e4 := hf 4 (by decide)
  match N, h4, h with
  | 0, _, _ =>
    refine .full (by rfl) (by rfl) fun j hj => ?_
    match j, hj with
    | 0, _ => exact ⟨by show f 0 ≠ 127; omega, by show f 0 ≠ 0; omega, rfl⟩
    | 1, _ => exact ⟨by show f 1 ≠ 127; omega, by show f 1 ≠ 0; omega, rfl⟩
    | 2, _ => exact ⟨by show f 2 ≠ 127; omega, by show f 2 ≠ 0; omega, rfl⟩
    | 3, _ => exact ⟨by show f 3 ≠ 127; omega, by show f 3 ≠ 0; omega, rfl⟩
    | 4, _ => exact ⟨by show f 4 ≠ 127; omega, by show f 4 ≠ 0; omega, rfl⟩
    | j + 5, h => omega
  | 1, _, h =>
    have a0 := h 0 (by decide)
    refine .short 4 (by decide) (by decide) (by rfl) (by rfl) (fun j hj => ?_) fun j hj hj' => ?_
    · match j, hj with
      | 0, _ => exact ⟨by show f 0 ≠ 127; omega, by show f 0 ≠ 0; omega, rfl⟩
      | 1, _ => exact ⟨by show f 1 ≠ 127; omega, by show f 1 ≠ 0; omega, rfl⟩
      | 2, _ => exact ⟨by show f 2 ≠ 127; omega, by show f 2 ≠ 0; omega, rfl⟩
      | 3, _ => exact ⟨by show f 3 ≠ 127; omega, by show f 3 ≠ 0; omega, rfl⟩
      | j + 4, h => omega
    · have : j = 4 := by omega
      subst this; exact a0
  | 2, _, h =>
    have a0 := h 0 (by decide)
    have a1 := h 1 (by decide)
    refine .short 3 (by decide) (by decide) (by rfl) (by rfl) (fun j hj => ?_) fun j hj hj' => ?_
    · match j, hj with
      | 0, _ => exact ⟨by show f 0 ≠ 127; omega, by show f 0 ≠ 0; omega, rfl⟩
      | 1, _ => exact ⟨by show f 1 ≠ 127; omega, by show f 1 ≠ 0; omega, rfl⟩
      | 2, _ => exact ⟨by show f 2 ≠ 127; omega, by show f 2 ≠ 0; omega, rfl⟩
      | j + 3, h => omega
    · match j, hj, hj' with
      | 3, _, _ => exact a1
      | 4, _, _ => exact Eq.trans a0 a1
      | 0, h, _ => omega
      | 1, h, _ => omega
      | 2, h, _ => omega
      | j + 5, _, h => omega
  | 3, _, h =>
    have a0 := h 0 (by decide)
    have a1 := h 1 (by decide)
    have a2 := h 2 (by decide)
    refine .short 2 (by decide) (by decide) (by rfl) (by rfl) (fun j hj => ?_) fun j hj hj' => ?_
    · match j, hj with
      | 0, _ => exact ⟨by show f 0 ≠ 127; omega, by show f 0 ≠ 0; omega, rfl⟩
      | 1, _ => exact ⟨by show f 1 ≠ 127; omega, by show f 1 ≠ 0; omega, rfl⟩
      | j + 2, h => omega
    · match j, hj, hj' with
      | 2, _, _ => exact a2
      | 3, _, _ => exact Eq.trans a1 a2
      | 4, _, _ => exact Eq.trans a0 (Eq.trans a1 a2)
      | 0, h, _ => omega
      | 1, h, _ => omega
      | j + 5, _, h => omega
  | 4, _, h =>
    have a0 := h 0 (by decide)
    have a1 := h 1 (by decide)
    have a2 := h 2 (by decide)
    have a3 := h 3 (by decide)
    refine .short 1 (by decide) (by decide) (by rfl) (by rfl) (fun j hj => ?_) fun j hj hj' => ?_
    · match j, hj with
      | 0, _ => exact ⟨by show f 0 ≠ 127; omega, by show f 0 ≠ 0; omega, rfl⟩
      | j + 1, h => omega
    · match j, hj, hj' with
      | 1, _, _ => exact a3
      | 2, _, _ => exact Eq.trans a2 a3
      | 3, _, _ => exact Eq.trans a1 (Eq.trans a2 a3)
      | 4, _, _ => exact Eq.trans a0 (Eq.trans a1 (Eq.trans a2 a3))
      | 0, h, _ => omega
      | j + 5, _, h => omega
  | N + 5, h, _ => omega
noncomputable def lineAt (R : List Nat) (i : Nat) : List UInt8 := (((List.range 5).drop i).map fun j => wordP (R.getD j 0)).flatten
theorem lineAt_succ (R : List Nat) (i : Nat) (hi : i < 5) : lineAt R i = wordP (R.getD i 0) ++ lineAt R (i + 1) := by
  unfold lineAt
  rw [List.drop_eq_getElem_cons (by simpa using hi)]
  simp
theorem picked_upto (x : List UInt8) (k : Nat) : KBy.picked x.toArray Option.none (some (k : Int)) = (x.take k).toArray := by
  rw [KBc.picked_eq]
  simp only [Option.elim, clipAt_nat, List.drop_zero, Nat.sub_zero, List.size_toArray]
  congr 1
  rcases Nat.le_total k x.length with h | h
  · rw [Nat.min_eq_left h]
  · rw [Nat.min_eq_right h, List.take_of_length_le h, List.take_of_length_le (Nat.le_refl _)]
theorem picked_from (x : List UInt8) (k : Nat) : KBy.picked x.toArray (some (k : Int)) Option.none = (x.drop k).toArray := by
  rw [KBc.picked_eq]
  simp only [Option.elim, clipAt_nat, List.size_toArray]
  congr 1
  rcases Nat.le_total k x.length with h | h
  · rw [Nat.min_eq_left h, List.take_of_length_le (by simp)]
  · rw [Nat.min_eq_right h, List.drop_of_length_le (Nat.le_refl _), List.drop_of_length_le h]; simp
noncomputable def wlen (R : List Nat) (j : Nat) : Nat := (wordP (R.getD j 0)).length
theorem wordsAt_all (R : List Nat) : ∀ it ∈ wordsAt R 5, ∃ b : Array UInt8, it = .bytes b ∧ ∃ j, j < 5 ∧ b = (wordP (R.getD j 0)).toArray := by
  intro it h
  obtain ⟨j, hj, rfl⟩ := List.mem_map.mp h
  exact ⟨_, rfl, j, List.mem_range.mp hj, rfl⟩
theorem ws_len (f : Nat → Nat) (m : Nat) (hm : m ≤ 5) : (((wsL f).take m).map S.nat).length = m := by
  rw [List.length_map, List.length_take]; show min m 5 = m; omega
theorem ws_get (f : Nat → Nat) (m k : Nat) (hk : k < m) (hm : m ≤ 5) : (((wsL f).take m).map S.nat)[k]? = some (.nat (f k)) := by
  rw [List.getElem?_map, List.getElem?_take_of_lt hk, show wsL f = (List.range 5).map f from rfl, List.getElem?_map, List.getElem?_range (by omega)]; rfl
theorem ws_snoc (f : Nat → Nat) (m : Nat) (hm : m < 5) : ((wsL f).take (m + 1)).map S.nat = ((wsL f).take m).map S.nat ++ [.nat (f m)] := by
  rw [List.take_add_one, show wsL f = (List.range 5).map f from rfl, List.getElem?_map, List.getElem?_range (by omega)]; simp
theorem lineAt_le (R : List Nat) (h : ∀ j, j < 5 → wlen R j ≤ 5) : ∀ d i, i + d = 5 → (lineAt R i).length ≤ 5 * d := by
  intro d
  induction d with
  | zero => intro i hi; cases hi; exact Nat.le_refl 0
  | succ d ih =>
    intro i hi
    have h1 := h i (by omega)
    have h2 := ih (i + 1) (by omega)
    rw [lineAt_succ R i (by omega), List.length_append]
    unfold wlen at h1
    omega
noncomputable def sizeS : S → S
  | .bytes b => .nat b.size
  | x => x
noncomputable abbrev cvs (R : List Nat) (N i : Nat) (z : V) : List V := [.lst .arg (wordsAt R 5), .lst .own (((wsL (wlen R)).take (5 - N)).map .nat), .s (.bytes (lineAt R i).toArray), .lst .own ((R.take i).map .nat), z]
theorem cut_ok {w : World} {n : Nat} (R : List Nat) (hR : R.length = 5) (hr : ∀ r ∈ R, r < 32 ∧ r ≠ 0) : CallOk P0 w (n + 2) (.ref 238) [.lst .arg (wordsAt R 5)] (.lst .arg (R.map .nat)) := by
  intro A s Q E vs hA g r q
  have X := g.K
  unfold P0
  revert X; k_fill; intro X
  obtain ⟨v1, rfl, r1⟩ := r.one
  refine' entry_ok (n := n + 1) (ns := [(Str.ofString "words", false), (Str.ofString "ruler", false), (Str.ofString "line", false), (Str.ofString "rows", false), (Str.ofString "size", false)]) (gs := [Str.ofString "len", Str.ofString "_grouping_intervals", Str.ofString "sum"]) (pn := [Str.ofString "words"]) X hA g r (fun v s' x r' => q v s' x r' (.no rfl)) rfl rfl ?ho ?hcd ?hbind ?hgen ?fo ?hpk ?_
  case ho => k_is
  case hcd => k_is
  case hbind => rfl
  case hgen => rfl
  case hpk => rfl
  case fo => exact FnOk.of (by decide +kernel)
  intro L'
  have hrj : ∀ j, j < 5 → R.getD j 0 < 32 ∧ R.getD j 0 ≠ 0 := fun j hj => by
    rw [List.getD_eq_getElem?_getD, List.getElem?_eq_getElem (by omega)]
    exact hr _ (List.getElem_mem _)
  have hw : ∀ j, j < 5 → 1 ≤ wlen R j ∧ wlen R j ≤ 5 := fun j hj => let ⟨a, b, _⟩ := word_facts _ (hrj j hj).1 (hrj j hj).2; ⟨a, b⟩
  refine W.cons (W1.comp1 (res := (wsL (wlen R)).map .nat) 1 rfl (C1.eq (C1.mk1 (b := false) (oc := Option.none) (caps := []) (gs := [Str.ofString "len"]) (fun _ => true) sizeS (PC.of [] rfl (fun _ _ => rfl) (fun _ => rfl) .nil)
      (Ev.nmA 0 rfl rfl) IterOf.list (fun cenv it hit => .nil) (fun cenv it hit _ => ?_) (by simp [wordsAt])) rfl) (fun _ => rfl) (fun _ _ => rfl)) ?_
  · obtain ⟨b, rfl, j, hj, rfl⟩ := wordsAt_all R it hit
    exact Ev.c_len (EvA.one (Ev.nmS 0 rfl rfl)) (CallOk.lenB (by have := (hw j hj).2; simp [wlen] at this ⊢; omega))
  obtain ⟨N, hN, h1, h2⟩ := first_fail (fun i => decide (wlen R (4 - i) = wlen R (3 - i))) 4
  have h1' : ∀ i, i < N → wlen R (4 - i) = wlen R (3 - i) := fun i hi => of_decide_eq_true (h1 i hi)
  refine W.cons (W1.while (fun i => [.lst .arg (wordsAt R 5), .lst .own (((wsL (wlen R)).take (5 - i)).map .nat), .unset, .unset, .unset]) N (fun i hi => ⟨?_, ?_⟩) ?_) ?_
  · have hl := ws_len (wlen R) (5 - i) (by omega)
    refine (Tv.and2 (a := decide (1 < (((wsL (wlen R)).take (5 - i)).map S.nat).length)) (b := decide (wlen R (4 - i) = wlen R (3 - i))) (Tv.cmp (Ev.c_len (EvA.one (Ev.nmO 1 rfl rfl)) (CallOk.lenL (by rw [hl]; omega))) Ev.cnat Cm2.gtN rfl) (fun _ => Tv.cmp (Ev.sub (Ev.nmO 1 rfl rfl) (Ev.neg Ev.cnat) (GetOk.listNeg (k := 1) (by decide) (by rw [hl]; omega) (by decide) ?_) (fun _ _ => rfl)) (Ev.sub (Ev.nmO 1 rfl rfl) (Ev.neg Ev.cnat) (GetOk.listNeg (k := 2) (by decide) (by rw [hl]; omega) (by decide) ?_) (fun _ _ => rfl)) Cm2.eqN rfl)).eq ?_
    · rw [hl, show 5 - i - 1 = 4 - i by omega]; exact ws_get (wlen R) (5 - i) (4 - i) (by omega) (by omega)
    · rw [hl, show 5 - i - 2 = 3 - i by omega]; exact ws_get (wlen R) (5 - i) (3 - i) (by omega) (by omega)
    · rw [hl, decide_eq_true (h1' i hi), decide_eq_true (by omega)]; rfl
  · have e : 5 - i = (4 - i) + 1 := by omega
    have e' : 5 - (i + 1) = 4 - i := by omega
    rw [e, ws_snoc _ _ (by omega), e']
    refine W.one (W1.pop 1 rfl rfl rfl ?_ rfl rfl rfl rfl rfl)
    rw [ws_len _ _ (by omega)]; omega
  · have hl := ws_len (wlen R) (5 - N) (by omega)
    refine (Tv.and2 (a := decide (1 < (((wsL (wlen R)).take (5 - N)).map S.nat).length)) (b := decide (wlen R (4 - N) = wlen R (3 - N))) (Tv.cmp (Ev.c_len (EvA.one (Ev.nmO 1 rfl rfl)) (CallOk.lenL (by rw [hl]; omega))) Ev.cnat Cm2.gtN rfl) (fun hh => ?_)).eq ?_
    · rw [hl] at hh
      have hh := of_decide_eq_true hh
      refine Tv.cmp (Ev.sub (Ev.nmO 1 rfl rfl) (Ev.neg Ev.cnat) (GetOk.listNeg (k := 1) (by decide) (by rw [hl]; omega) (by decide) ?_) (fun _ _ => rfl)) (Ev.sub (Ev.nmO 1 rfl rfl) (Ev.neg Ev.cnat) (GetOk.listNeg (k := 2) (by decide) (by rw [hl]; omega) (by decide) ?_) (fun _ _ => rfl)) Cm2.eqN rfl
      · rw [hl, show 5 - N - 1 = 4 - N by omega]; exact ws_get (wlen R) (5 - N) (4 - N) (by omega) (by omega)
      · rw [hl, show 5 - N - 2 = 3 - N by omega]; exact ws_get (wlen R) (5 - N) (3 - N) (by omega) (by omega)
    · rw [hl]
      rcases h2 with rfl | h2
      · rfl
      · rw [h2, Bool.and_false]
  refine W.cons (W1.assign (pv := .s (.bytes (lineAt R 0).toArray)) 2 rfl ?_ (.inr (.inl rfl)) (fun _ => rfl)) ?_
  · have e : wordsAt R 5 = (((List.range 5).map fun j => (wordP (R.getD j 0)).toArray)).map .bytes := by unfold wordsAt; rw [List.map_map]; rfl
    refine (Ev.meth (po := .s (.bytes #[])) (pvs := [.lst .arg (((List.range 5).map fun j => (wordP (R.getD j 0)).toArray).map .bytes)]) FB.plainAttrs_bytes slot_bytes_join type_bytes_join Ev.cbytes recv_bytes (EvA.one ((Ev.nmA 0 rfl rfl).eq (by rw [← e]))) (CallOk.joinB (by simp) ?_) rfl rfl rfl (by decide) rfl).eq ?_
    · intro b hb
      obtain ⟨j, hj, rfl⟩ := List.mem_map.mp hb
      have := (hw j (List.mem_range.mp hj)).2
      unfold wlen at this
      rw [List.size_toArray]; omega
    · rw [List.map_map]; rfl
  refine W.cons (W1.assign (pv := .lst .own []) 3 rfl (Ev.list (xs := []) EvA.nil (by decide)) (.inl rfl) (fun _ => rfl)) ?_
  refine W.cons (v1 := cvs R N 5 .unset) (W1.forGen (lo := decide (N = 0)) (seq := wlen R) (vals := valsP (wlen R) N) 4 (fun i => cvs R N i .unset) rfl ?_ (ruler_of _ hw N hN h1') (by decide) rfl ?_ ?_ (fun _ => rfl)) ?_
  · have hl := ws_len (wlen R) (5 - N) (by omega)
    refine Ev.eq (a := .lst .own ((((wsL (wlen R)).take (5 - N)).map .nat) ++ ((if N = 0 then [127, 1] else [0]).map .nat))) ?_ (by rw [← List.map_append]; rfl)
    have ha : (((wsL (wlen R)).take (5 - N)).map S.nat).length + ((if N = 0 then [127, 1] else [0]).map S.nat).length ≤ 16777216 := by
      rw [hl]; split <;> simp <;> omega
    refine Ev.bin (Ev.nmO 1 rfl rfl) (Ev.ifexp (b := decide (5 - N < 5)) ?_ (fun h => ?_) (fun h => ?_)) (Op2.addL (o' := .own) ha)
    · exact (Tv.cmp (Ev.c_len (EvA.one (Ev.nmO 1 rfl rfl)) (CallOk.lenL (by rw [hl]; omega))) Ev.cnat Cm2.ltN rfl).eq (by rw [hl])
    · have h := of_decide_eq_true h
      rw [if_neg (by omega)]
      exact Ev.list (xs := [.nat 0]) (EvA.one Ev.cnat) (by decide)
    · have h := of_decide_eq_false h
      rw [if_pos (by omega)]
      exact Ev.list (xs := [.nat 127, .nat 1]) (EvA.two Ev.cnat Ev.cnat) (by decide)
  · intro i j pv h
    rcases j with _ | _ | _ | _ | _ | j <;> first | (cases h; rfl) | (simp at h)
  · intro i hi
    have hl := ws_len (wlen R) (5 - N) (by omega)
    have hwf := word_facts _ (hrj i hi).1 (hrj i hi).2
    have hls := lineAt_succ R i hi
    have hll : (lineAt R i).length ≤ 25 := Nat.le_trans (lineAt_le R (fun j hj => (hw j hj).2) (5 - i) i (by omega)) (by omega)
    have ht : R.take (i + 1) = R.take i ++ [R.getD i 0] := by
      rw [List.take_add_one, List.getD_eq_getElem?_getD, List.getElem?_eq_getElem (by omega)]; rfl
    refine W.cons (v1 := [.lst .arg (wordsAt R 5), .lst .own (((wsL (wlen R)).take (5 - N)).map .nat), .s (.bytes (lineAt R i).toArray), .lst .own ((R.take (i + 1)).map .nat), .s (.nat (wlen R i))]) ((W1.append (y := .nat (R.getD i 0)) 3 rfl rfl rfl ?_ ?_ rfl rfl rfl rfl).eq ?_) ?_
    · refine Ev.eq (a := .s (.nat (((wordP (R.getD i 0)).map UInt8.toNat).map fun c => 1 <<< (c - 66)).sum)) ?_ ?_
      · refine Ev.c_sum (EvA.one (Ev.comp1 (C1.eq (C1.mkN (isl := false) (b := false) (L := (wordP (R.getD i 0)).map UInt8.toNat) (oc := Option.none) (caps := []) (gs := []) (fun _ => true) (fun c => .nat (1 <<< (c - 66))) (PC.of [] rfl (fun _ _ => rfl) (fun _ => rfl) .nil)
          (Ev.eq (b := .s (.bytes (wordP (R.getD i 0)).toArray)) (Ev.sliceB (Ev.nmS 2 rfl rfl) .none (.nat (Ev.nmS 4 rfl rfl)) ?_ (fun _ _ => rfl)) ?_) ?_ (fun cenv c hc => .nil) (fun cenv c hc _ => ?_) ?_) (res' := (((wordP (R.getD i 0)).map UInt8.toNat).map fun c => 1 <<< (c - 66)).map .nat) ?_) (fun _ => rfl))) CallOk.sum
        · rw [List.size_toArray]; omega
        · rw [picked_upto, hls]
          unfold wlen
          rw [List.take_left]
        · have := IterOf.bytes (prog := P0) (w := w) (n := n + 1) (b := (wordP (R.getD i 0)).toArray)
          rw [List.map_map]; exact this
        · obtain ⟨d, hd, rfl⟩ := List.mem_map.mp hc
          have := hwf.2.2.1 d hd
          exact Ev.bin Ev.cnat (Ev.bin (Ev.nmS 0 rfl rfl) Ev.cnat (Op2.subN this.1)) (Op2.shl (by decide) (by omega))
        · rw [List.length_map]; omega
        · rw [List.filter_eq_self.mpr (fun _ _ => rfl), List.map_map, List.map_map, List.map_map]; rfl
      · have := hwf.2.2.2
        rw [List.map_map]
        exact congrArg (fun z => V.s (.nat z)) this
    · simp; omega
    · rw [ht, List.map_append]; rfl
    refine W.cons (W1.assign (pv := .s (.bytes (lineAt R (i + 1)).toArray)) 2 rfl (Ev.eq (Ev.sliceB (Ev.nmS 2 rfl rfl) (.nat (Ev.nmS 4 rfl rfl)) .none ?_ (fun _ _ => rfl)) ?_) (.inr (.inl rfl)) (fun _ => rfl)) ?_
    · rw [List.size_toArray]; omega
    · rw [picked_from, hls]
      unfold wlen
      rw [List.drop_left]
    have hnil : (lineAt R (i + 1) == []) = decide (i = 4) := by
      by_cases e : i = 4
      · subst e; rfl
      · have h1 := lineAt_succ R (i + 1) (by omega)
        have h2 := (hw (i + 1) (by omega)).1
        unfold wlen at h2
        rw [decide_eq_false e, h1]
        cases hq : wordP (R.getD (i + 1) 0) with
        | nil => rw [hq] at h2; simp at h2
        | cons a l => rfl
    by_cases hc : decide (N = 0) = false ∧ i = 4
    · rw [if_pos hc]
      obtain ⟨hc1, rfl⟩ := hc
      have hN0 : N ≠ 0 := of_decide_eq_false hc1
      refine W.mapBrk (v := cvs R N 5 (.s (.nat (wlen R 4)))) (W.stop (W1.ite (c := true) ((Tv.and2 (Tv.cmp (Ev.nmS 2 rfl rfl) (Ev.cbytes (x := [])) Cm2.eqB rfl) (fun _ => Tv.cmp (Ev.c_len (EvA.one (Ev.nmO 1 rfl rfl)) (CallOk.lenL (by rw [hl]; omega))) Ev.cnat Cm2.ltN rfl)).eq ?_) (fun _ => W.one W1.brk) (fun h => nomatch h)) rfl) (fun base h x => x.forget 4)
      rw [hl, decide_eq_true (by omega : 5 - N < 5)]; rfl
    · rw [if_neg hc]
      refine W.forget 4 (v := cvs R N (i + 1) (.s (.nat (wlen R i)))) (W.one (W1.ite (c := false) ((Tv.and2 (Tv.cmp (Ev.nmS 2 rfl rfl) (Ev.cbytes (x := [])) Cm2.eqB rfl) (fun _ => Tv.cmp (Ev.c_len (EvA.one (Ev.nmO 1 rfl rfl)) (CallOk.lenL (by rw [hl]; omega))) Ev.cnat Cm2.ltN rfl)).eq ?_) (fun h => nomatch h) (fun _ => W.nil)))
      rw [hl]
      show ((lineAt R (i + 1) == []) && _) = false
      rw [hnil]
      by_cases e : i = 4
      · have : N = 0 := by
          by_cases h : N = 0
          · exact h
          · exact absurd ⟨decide_eq_false h, e⟩ hc
        rw [decide_eq_false (by omega : ¬ 5 - N < 5), Bool.and_false]
      · rw [decide_eq_false e]; rfl
  refine W.one ((W1.ret (Ev.nmO 3 rfl rfl)).eq ?_)
  rw [List.take_of_length_le (by omega)]
end Mine
end
section
open PySem PySem.W PyProof.Rows PySem.Calls PySem.Spec
set_option Elab.async false
set_option maxRecDepth 100000
set_option maxHeartbeats 8000000
set_option linter.unusedVariables false
set_option genSizeOf false
namespace Mine
theorem Ends.of {α : Type} {P : Sre.M → Prop} {n : Nat} {m : Sre.M} {f : α → Sre.M} (h : ∃ a, m.step = f a) (q : ∀ a, Ends P n (f a)) (ho : m.outcome = none := by rfl) : Ends P (n + 1) m := by
  obtain ⟨a, e⟩ := h
  exact .step (e ▸ q a) ho
theorem Ends.ofE {P : Sre.M → Prop} {n : Nat} {m m' : Sre.M} (e : m.step = m') (q : Ends P n m') (ho : m.outcome = none := by rfl) : Ends P (n + 1) m := .step (e ▸ q) ho
theorem Ends.fin {P : Sre.M → Prop} {n : Nat} {m : Sre.M} (h : P m) (ho : m.outcome.isSome = true) : Ends P n m := ⟨0, Nat.zero_le _, ho, h⟩
section
variable {code T : Array Nat} {lim ls s pc pos handed : Nat} {out : Bool} {fr : List Sre.Frame} {wt : Nat} {seen : Sre.Seen}
theorem lit_yes (hpc : pc < code.size) (hop : Sre.ops[code.getD pc 0]? = some .LITERAL) (h1 : pos < lim) (h2 : T.getD pos 0 = code.getD (pc + 1) 0) : ∃ seen', (vm code T lim ls s pc pos handed out fr wt none seen).step = vm code T lim ls s (pc + 2) (pos + 1) handed out fr wt none seen' := by
  obtain ⟨sn, e⟩ := step_lit (T := T) (lim := lim) (ls := ls) (s := s) (pos := pos) (handed := handed) (out := out) (fr := fr) (wt := wt) (seen := seen) hpc hop
  rw [if_neg (by omega), if_pos h2] at e
  exact ⟨sn, e⟩
theorem lit_no (hpc : pc < code.size) (hop : Sre.ops[code.getD pc 0]? = some .LITERAL) (h : ¬ (pos < lim ∧ T.getD pos 0 = code.getD (pc + 1) 0)) : ∃ seen', (vm code T lim ls s pc pos handed out fr wt none seen).step = vm code T lim ls s pc pos handed out fr wt (some false) seen' := by
  obtain ⟨sn, e⟩ := step_lit (T := T) (lim := lim) (ls := ls) (s := s) (pos := pos) (handed := handed) (out := out) (fr := fr) (wt := wt) (seen := seen) hpc hop
  by_cases h1 : pos ≥ lim
  · rw [if_pos h1] at e; exact ⟨sn, e⟩
  · rw [if_neg h1, if_neg (fun h2 => h ⟨by omega, h2⟩)] at e; exact ⟨sn, e⟩
end
noncomputable def code2 : Array Nat := #[14, 9, 4, 1, 2, 16, 10, 16, 13, 0, 7, 7, 16, 13, 16, 10, 15, 18, 5, 16, 10, 15, 13, 11, 16, 13, 5, 5, 0, 16, 10, 1, 15, 2, 0, 1]
noncomputable def found (s e : Nat) (m : Sre.M) : Prop := m.outcome = some .matched ∧ m.start = s ∧ m.handed = e
noncomputable def missed (m : Sre.M) : Prop := m.outcome = some .failed
section
variable {T : Array Nat} {lim ls s : Nat} {first : Bool} {seen : Sre.Seen}
theorem m2_crlf (h1 : s + 1 < lim) (h2 : T.getD s 0 = 13) (h3 : T.getD (s + 1) 0 = 10) : Ends (found s (s + 2)) 20 (vm code2 T lim ls s 10 s s first [sfr 10 s first] 1 none seen) := by
  refine .of (step_branch (by decide) rfl (by decide) (by decide)) fun sn => ?_
  refine .of (lit_yes (by decide) rfl (by omega) h2) fun sn => ?_
  refine .of (lit_yes (by decide) rfl h1 h3) fun sn => ?_
  refine .of (step_jump (by decide) rfl) fun sn => ?_
  refine .of (step_success (by decide) rfl) fun sn => ?_
  refine .ofE res_branch_yes ?_
  refine .ofE res_start_yes ?_
  refine .ofE res_end ?_
  exact .fin ⟨rfl, rfl, rfl⟩ rfl
theorem m2_lf (h1 : s < lim) (h2 : T.getD s 0 = 10) : Ends (found s (s + 1)) 20 (vm code2 T lim ls s 10 s s first [sfr 10 s first] 1 none seen) := by
  refine .of (step_branch (by decide) rfl (by decide) (by decide)) fun sn => ?_
  refine .of (lit_no (by decide) rfl (fun h => by have := h.2; rw [h2] at this; exact absurd this (by decide))) fun sn => ?_
  refine .ofE (res_branch_no (by decide) (by decide)) ?_
  refine .of (lit_yes (by decide) rfl h1 h2) fun sn => ?_
  refine .of (step_jump (by decide) rfl) fun sn => ?_
  refine .of (step_success (by decide) rfl) fun sn => ?_
  refine .ofE res_branch_yes ?_
  refine .ofE res_start_yes ?_
  refine .ofE res_end ?_
  exact .fin ⟨rfl, rfl, rfl⟩ rfl
theorem m2_cr (h1 : s < lim) (h2 : T.getD s 0 = 13) (h3 : ¬ (s + 1 < lim ∧ T.getD (s + 1) 0 = 10)) : Ends (found s (s + 1)) 20 (vm code2 T lim ls s 10 s s first [sfr 10 s first] 1 none seen) := by
  refine .of (step_branch (by decide) rfl (by decide) (by decide)) fun sn => ?_
  refine .of (lit_yes (by decide) rfl h1 h2) fun sn => ?_
  refine .of (lit_no (by decide) rfl h3) fun sn => ?_
  refine .ofE (res_branch_no (by decide) (by decide)) ?_
  refine .of (lit_no (by decide) rfl (fun h => by have := h.2; rw [h2] at this; exact absurd this (by decide))) fun sn => ?_
  refine .ofE (res_branch_no (by decide) (by decide)) ?_
  refine .of (lit_yes (by decide) rfl h1 h2) fun sn => ?_
  refine .of (step_not (by decide) rfl (by decide) (by decide)) fun sn => ?_
  refine .of (lit_no (by decide) rfl h3) fun sn => ?_
  refine .ofE res_not_no ?_
  refine .of (step_jump (by decide) rfl) fun sn => ?_
  refine .of (step_success (by decide) rfl) fun sn => ?_
  refine .ofE res_branch_yes ?_
  refine .ofE res_start_yes ?_
  refine .ofE res_end ?_
  exact .fin ⟨rfl, rfl, rfl⟩ rfl
theorem set2 (c : Nat) (seen : Sre.Seen) : ∃ seen', Sre.inSet code2 c 36 5 true seen = .ok (decide (c = 10 ∨ c = 13), seen') := by
  by_cases h1 : c = 10
  · subst h1; exact ⟨_, rfl⟩
  · by_cases h2 : c = 13
    · subst h2; exact ⟨_, rfl⟩
    · rw [decide_eq_false (by omega)]
      unfold Sre.inSet
      show ∃ sn, (if (c == 10) = true then _ else _) = _
      rw [if_neg (by simpa using h1)]
      unfold Sre.inSet
      show ∃ sn, (if (c == 13) = true then _ else _) = _
      rw [if_neg (by simpa using h2)]
      exact ⟨_, rfl⟩
theorem adm2 {m : Sre.M} (hc : m.code = code2) : ∀ (fuel x : Nat) (seen : Sre.Seen), m.lim + 1 - x ≤ fuel →
    (∃ seen' y, Sre.M.admitted m fuel x seen = .ok (some y, seen') ∧ x ≤ y ∧ y < m.lim ∧ (m.text.getD y 0 = 10 ∨ m.text.getD y 0 = 13) ∧ ∀ i, x ≤ i → i < y → ¬ (m.text.getD i 0 = 10 ∨ m.text.getD i 0 = 13)) ∨
    (∃ seen', Sre.M.admitted m fuel x seen = .ok (none, seen') ∧ ∀ i, x ≤ i → i < m.lim → ¬ (m.text.getD i 0 = 10 ∨ m.text.getD i 0 = 13))
  | 0, x, seen, hf => .inr ⟨seen, rfl, fun i h1 h2 => by omega⟩
  | fuel + 1, x, seen, hf => by
    unfold Sre.M.admitted
    by_cases hx : x ≥ m.lim
    · rw [if_pos hx]
      exact .inr ⟨_, rfl, fun i h1 h2 => by omega⟩
    · rw [if_neg hx]
      obtain ⟨sn, e⟩ := set2 (m.text.getD x 0) seen
      rw [hc, show code2.size = 36 from rfl, e]
      by_cases hd : m.text.getD x 0 = 10 ∨ m.text.getD x 0 = 13
      · rw [decide_eq_true hd]
        exact .inl ⟨sn, x, rfl, Nat.le_refl _, by omega, hd, fun i h1 h2 => by omega⟩
      · rw [decide_eq_false hd]
        rcases adm2 hc fuel (x + 1) sn (by omega) with ⟨sn', y, h1, h2, h3, h4, h5⟩ | ⟨sn', h1, h2⟩
        · refine .inl ⟨sn', y, h1, by omega, h3, h4, fun i hi hy => ?_⟩
          rcases Nat.lt_or_ge x i with q | q
          · exact h5 i q hy
          · have : i = x := by omega
            rw [this]; exact hd
        · refine .inr ⟨sn', h1, fun i hi hy => ?_⟩
          rcases Nat.lt_or_ge x i with q | q
          · exact h2 i q hy
          · have : i = x := by omega
            rw [this]; exact hd
end
end Mine
end
section
open PySem PySem.W PyProof.Rows PySem.Calls PySem.Spec
set_option Elab.async false
set_option maxRecDepth 100000
set_option maxHeartbeats 8000000
set_option linter.unusedVariables false
set_option genSizeOf false
namespace Mine
theorem endM {code T : Array Nat} {lim ls s pc pos handed : Nat} {out : Bool} {wt : Nat} {seen : Sre.Seen} (n : Nat) : Ends missed (n + 1) (vm code T lim ls s pc pos handed out [] wt (some false) seen) :=
  Ends.ofE res_end (Ends.fin (P := missed) rfl rfl)
noncomputable def ends2 (T : Array Nat) (s : Nat) : Nat := if T.getD s 0 = 13 ∧ s + 1 < T.size ∧ T.getD (s + 1) 0 = 10 then s + 2 else s + 1
theorem start2 (T : Array Nat) (pos : Nat) : Sre.forSearch code2 T 0 pos T.size false = if (decide (pos > T.size) || decide (T.size - pos < 1)) = true then vm code2 T T.size 0 pos 10 pos pos true [] 0 (some false) (({} : Sre.Seen).add 14) else (vm code2 T T.size T.size pos 10 pos pos true [] 0 none (({} : Sre.Seen).add 14)).attemptFrom pos true := rfl
theorem search2 (T : Array Nat) (pos : Nat) :
    (∃ s, pos ≤ s ∧ s < T.size ∧ (T.getD s 0 = 10 ∨ T.getD s 0 = 13) ∧ (∀ i, pos ≤ i → i < s → ¬ (T.getD i 0 = 10 ∨ T.getD i 0 = 13)) ∧ Ends (found s (ends2 T s)) 30 (Sre.forSearch code2 T 0 pos T.size false)) ∨
    ((∀ i, pos ≤ i → i < T.size → ¬ (T.getD i 0 = 10 ∨ T.getD i 0 = 13)) ∧ Ends missed 30 (Sre.forSearch code2 T 0 pos T.size false)) := by
  rw [start2]
  by_cases h : pos < T.size
  · rw [if_neg (by simp; omega)]
    unfold Sre.M.attemptFrom
    rw [if_neg (by show ¬ (!true) = true; decide)]
    rcases adm2 (m := vm code2 T T.size T.size pos 10 pos pos true [] 0 none (({} : Sre.Seen).add 14)) rfl (T.size + 1 - pos) pos (({} : Sre.Seen).add 14) (Nat.le_refl _) with ⟨sn, y, e, h1, h2, h3, h4⟩ | ⟨sn, e, h1⟩
    · refine .inl ⟨y, h1, h2, h3, h4, ?_⟩
      show Ends _ 30 (match Sre.M.admitted _ _ _ _ with | .ok (some s, seen) => _ | .ok (none, seen) => _ | .error why => _)
      rw [e]
      show Ends _ 30 ((vm code2 T T.size T.size pos 10 pos pos true [] 0 none sn).attemptAt y true)
      rw [attemptAt_vm (by decide)]
      refine Ends.mono ?_ (by decide : 20 ≤ 30)
      unfold ends2
      have h2' : y < T.size := h2
      by_cases hc : T.getD y 0 = 13 ∧ y + 1 < T.size ∧ T.getD (y + 1) 0 = 10
      · rw [if_pos hc]
        exact m2_crlf hc.2.1 hc.1 hc.2.2
      · rw [if_neg hc]
        rcases h3 with h3 | h3
        · exact m2_lf h2' h3
        · exact m2_cr h2' h3 fun q => hc ⟨h3, q.1, q.2⟩
    · refine .inr ⟨h1, ?_⟩
      show Ends _ 30 (match Sre.M.admitted _ _ _ _ with | .ok (some s, seen) => _ | .ok (none, seen) => _ | .error why => _)
      rw [e]
      show Ends missed 30 (vm code2 T T.size T.size pos 10 pos pos true [] 0 (some false) sn)
      exact endM 29
  · rw [if_pos (by simp; omega)]
    exact .inr ⟨fun i h1 h2 => by omega, endM 29⟩
noncomputable def code1 : Array Nat := #[14, 4, 0, 1, 1, 6, 1, 16, 46, 1]
noncomputable def hit1 (T : Array Nat) (s : Nat) : Prop := s < T.size ∧ (s = 0 ∨ T.getD (s - 1) 0 = 10) ∧ T.getD s 0 = 46
theorem start1 (T : Array Nat) (pos : Nat) : Sre.forSearch code1 T 0 pos T.size false = if (decide (pos > T.size) || decide (T.size - pos < 1)) = true then vm code1 T T.size 0 pos 5 pos pos true [] 0 (some false) (({} : Sre.Seen).add 14) else (vm code1 T T.size T.size pos 5 pos pos true [] 0 none (({} : Sre.Seen).add 14)).attemptFrom pos true := rfl
section
variable {T : Array Nat} {s pc pos handed x : Nat} {out first : Bool} {seen : Sre.Seen}
theorem from1 : (vm code1 T T.size T.size s 5 pos handed out [] 0 none seen).attemptFrom x first = vm code1 T T.size T.size x 5 x x first [sfr 5 x first] 1 none seen := by
  unfold Sre.M.attemptFrom
  rw [if_pos (by show (!false) = true; rfl)]
  exact attemptAt_vm (by decide)
theorem try1 : ∀ (k x : Nat) (first : Bool) (seen : Sre.Seen), T.size = x + k →
    (∃ s, x ≤ s ∧ hit1 T s ∧ (∀ i, x ≤ i → i < s → ¬ hit1 T i) ∧ Ends (found s (s + 1)) (10 * k + 10) (vm code1 T T.size T.size x 5 x x first [sfr 5 x first] 1 none seen)) ∨
    ((∀ i, x ≤ i → ¬ hit1 T i) ∧ Ends missed (10 * k + 10) (vm code1 T T.size T.size x 5 x x first [sfr 5 x first] 1 none seen)) := by
  intro k
  induction k with
  | zero =>
    intro x first seen hx
    refine .inr ⟨fun i hi hh => ?_, ?_⟩
    · have := hh.1; omega
    · obtain ⟨sn, e⟩ := step_at (code := code1) (T := T) (lim := T.size) (ls := T.size) (s := x) (pc := 5) (pos := x) (handed := x) (out := first) (fr := [sfr 5 x first]) (wt := 1) (seen := seen) (by decide) rfl rfl
      by_cases hb : x = 0 ∨ T.getD (x - 1) 0 = 10
      · rw [if_pos hb] at e
        refine Ends.mono (.ofE e (.of (lit_no (by decide) rfl (fun h => by omega)) fun sn => .ofE res_start_no ?_)) (by omega : 5 ≤ _)
        rw [if_neg (by omega)]
        exact endM _
      · rw [if_neg hb] at e
        refine Ends.mono (.ofE e (.ofE res_start_no ?_)) (by omega : 5 ≤ _)
        rw [if_neg (by omega)]
        exact endM _
  | succ k ih =>
    intro x first seen hx
    obtain ⟨sn, e⟩ := step_at (code := code1) (T := T) (lim := T.size) (ls := T.size) (s := x) (pc := 5) (pos := x) (handed := x) (out := first) (fr := [sfr 5 x first]) (wt := 1) (seen := seen) (by decide) rfl rfl
    by_cases hh : hit1 T x
    · refine .inl ⟨x, Nat.le_refl _, hh, fun i h1 h2 => by omega, ?_⟩
      rw [if_pos hh.2.1] at e
      refine Ends.mono (.ofE e (.of (lit_yes (by decide) rfl hh.1 hh.2.2) fun sn => .of (step_success (by decide) rfl) fun sn => .ofE res_start_yes (.ofE res_end (.fin (n := 0) ⟨rfl, rfl, rfl⟩ rfl)))) (by omega : 5 ≤ _)
    · have miss : ∀ P, (∀ sn, Ends P (10 * k + 10) (vm code1 T T.size T.size (x + 1) 5 (x + 1) (x + 1) false [sfr 5 (x + 1) false] 1 none sn)) → Ends P (10 * (k + 1) + 10) (vm code1 T T.size T.size x 5 x x first [sfr 5 x first] 1 none seen) := by
        intro P hP
        by_cases hb : x = 0 ∨ T.getD (x - 1) 0 = 10
        · rw [if_pos hb] at e
          refine Ends.mono (.ofE e (.of (lit_no (by decide) rfl (fun h => hh ⟨by omega, hb, h.2⟩)) fun sn => .ofE res_start_no ?_)) (by omega : 10 * k + 13 ≤ _)
          rw [if_pos (by omega)]
          show Ends P (10 * k + 10) (Sre.M.attemptFrom (vm code1 T T.size T.size x 5 x x first [] 0 none sn) (x + 1) false)
          rw [from1]; exact hP _
        · rw [if_neg hb] at e
          refine Ends.mono (.ofE e (.ofE res_start_no ?_)) (by omega : 10 * k + 12 ≤ _)
          rw [if_pos (by omega)]
          show Ends P (10 * k + 10) (Sre.M.attemptFrom (vm code1 T T.size T.size x 5 x x first [] 0 none _) (x + 1) false)
          rw [from1]; exact hP _
      by_cases hex : ∃ s, x + 1 ≤ s ∧ hit1 T s ∧ ∀ i, x + 1 ≤ i → i < s → ¬ hit1 T i
      · obtain ⟨s, h1, h2, h3⟩ := hex
        refine .inl ⟨s, by omega, h2, fun i hi hs => ?_, miss _ fun sn => ?_⟩
        · rcases Nat.lt_or_ge x i with q | q
          · exact h3 i q hs
          · have : i = x := by omega
            rw [this]; exact hh
        · rcases ih (x + 1) false sn (by omega) with ⟨s', a1, a2, a3, a4⟩ | ⟨a1, a2⟩
          · have : s' = s := by
              rcases Nat.lt_trichotomy s' s with q | q | q
              · exact absurd a2 (h3 s' a1 q)
              · exact q
              · exact absurd h2 (a3 s h1 q)
            rw [this] at a4; exact a4
          · exact absurd h2 (a1 s h1)
      · refine .inr ⟨fun i hi hi' => ?_, miss _ fun sn => ?_⟩
        · rcases ih (x + 1) false seen (by omega) with ⟨s', a1, a2, a3, a4⟩ | ⟨a1, a2⟩
          · exact hex ⟨s', a1, a2, a3⟩
          · rcases Nat.lt_or_ge x i with q | q
            · exact a1 i q hi'
            · have : i = x := by omega
              rw [this] at hi'; exact hh hi'
        · rcases ih (x + 1) false sn (by omega) with ⟨s', a1, a2, a3, a4⟩ | ⟨a1, a2⟩
          · exact absurd ⟨s', a1, a2, a3⟩ hex
          · exact a2
theorem search1 (T : Array Nat) (pos : Nat) (hT : T.size ≤ 1000000) :
    (∃ s, pos ≤ s ∧ hit1 T s ∧ (∀ i, pos ≤ i → i < s → ¬ hit1 T i) ∧ Ends (found s (s + 1)) 100000000 (Sre.forSearch code1 T 0 pos T.size false)) ∨
    ((∀ i, pos ≤ i → ¬ hit1 T i) ∧ Ends missed 100000000 (Sre.forSearch code1 T 0 pos T.size false)) := by
  rw [start1]
  by_cases h : pos < T.size
  · rw [if_neg (by simp; omega), from1]
    rcases try1 (T := T) (T.size - pos) pos true (({} : Sre.Seen).add 14) (by omega) with ⟨s, a1, a2, a3, a4⟩ | ⟨a1, a2⟩
    · exact .inl ⟨s, a1, a2, a3, a4.mono (by omega)⟩
    · exact .inr ⟨a1, a2.mono (by omega)⟩
  · rw [if_pos (by simp; omega)]
    exact .inr ⟨fun i h1 h2 => by have := h2.1; omega, endM 99999999⟩
end
end Mine
end
section
open PySem PySem.W PyProof.Rows PySem.Calls PySem.Spec
set_option Elab.async false
set_option maxRecDepth 100000
set_option maxHeartbeats 8000000
set_option linter.unusedVariables false
set_option genSizeOf false
namespace Mine
theorem entry_sub_loop : entryFor table "re.Pattern.sub.loop" = some Builtin.«re.Pattern.sub.loop» := entryFor_of_fast (by kernel_rfl)
theorem plain_sub_loop : plainId "re.Pattern.sub.loop" = true := by decide +kernel
section
variable {M : Model} {A : Around} {s : Shared} {E : Value → Shared → Prop}
theorem whole_ok {P : Addr} {code : Array Nat} {x : Str} {t : Tok} {Q : Builtin.Re.ReTarget → Shared → Prop} (h : IsPat s.heap P code)
    (q : Q { pattern := .ref P, string := .str x t, code := code, text := x.cps, kind := 0, groups := 0, pos := 0, lim := x.cps.size } s) : wpAny M A (Builtin.Re.reWholeTarget (.ref P) (.str x t)) Q E s := by
  obtain ⟨o, pat, fl, gr, f3, f4, C, w, oc, cs, n, h1, h2, h3, h4, h5, h6, rfl⟩ := h
  unfold Builtin.Re.reWholeTarget fieldsOf
  refine wpAny_bind (wpAny_bind (wpAny_load h1 ?_))
  rw [h4]
  refine wpAny_pure ?_
  refine wpAny_bind (wpAny_of_eq (a := (x.cps, 0)) rfl ?_)
  refine wpAny_bind (wpAny_of_eq (a := ()) rfl ?_)
  show wpAny M A (Builtin.Re.reRawItems (.ref C) >>= _) Q E s
  refine wpAny_bind ?_
  unfold Builtin.Re.reRawItems
  refine wpAny_bind (wpAny_seqItems h5 h6 ?_)
  refine wpAny_pure (wpAny_pure ?_)
  exact q
theorem slice_ok {T : Array Nat} {b e : Nat} {Q : Value → Shared → Prop} (hT : (T.extract b e).size ≤ sizeLine) (q : ∀ u tk, Q (.str ⟨T.extract b e⟩ u) { s with toks := tk }) : wpAny M A (Builtin.Re.reSlice T 0 b e) Q E s := by
  show wpAny M A (mkStr ⟨T.extract b e⟩) Q E s
  exact wpAny_mkStr (q _ _) hT
end
theorem push_ok {M : Model} {A : Around} {s : Shared} {E : Value → Shared → Prop} {a : Addr} {vs : List Value} {v : Value} {Q : Unit → Shared → Prop} (hl : s.heap.IsList a vs.toArray) (hsz : vs.length ≤ 10000000)
    (q : ∀ h', h'.IsList a (vs ++ [v]).toArray → (∀ b o, b ≠ a → s.heap.get? b = some o → h'.get? b = some o) → Q () { s with heap := h' }) : wpAny M A (updateSeq a fun x => x.push v) Q E s := by
  obtain ⟨o, ho, hc, nn, hd⟩ := hl
  obtain ⟨cls, dict, data, slots⟩ := o
  simp only at hd hc
  subst hd hc
  refine wpAny_updateSeq ho rfl (q _ ⟨_, Heap.get?_update_self _ ho rfl, rfl, _, congrArg (fun z => Data.seq z _) (by simp)⟩ fun b o' hb e => (Heap.SameBut.update ..).extBut b o' hb e) ?_ ?_
  · rw [sizeLine_eq]; simp; omega
  · rw [sizeLine_eq]; simp; omega
theorem strs_snoc {y : Str} {t : Tok} : ∀ {vs : List Value} {ys : List Str}, StrsAre vs ys → StrsAre (vs ++ [.str y t]) (ys ++ [y])
  | _, _, .nil => .cons _ _ .nil
  | _, _, .cons z u h => .cons z u (strs_snoc h)
theorem strs_len : ∀ {vs : List Value} {ys : List Str}, StrsAre vs ys → vs.length = ys.length
  | _, _, .nil => rfl
  | _, _, .cons z u h => congrArg (· + 1) (strs_len h)
/-- what the searches give, and what is written -/
noncomputable def Subs (code : Array Nat) (T : Array Nat) (repl : List Nat) (outAt : Nat → List Nat) : Prop := ∀ pos, pos ≤ T.size →
  (∃ s e, pos ≤ s ∧ s < e ∧ e ≤ T.size ∧ Ends (found s e) 1000000000000 (Sre.forSearch code T 0 pos T.size false) ∧ outAt pos = (T.extract pos s).toList ++ repl ++ outAt e) ∨
  (Ends missed 1000000000000 (Sre.forSearch code T 0 pos T.size false) ∧ outAt pos = (T.extract pos T.size).toList)
noncomputable def catS (ys : List Str) : List Nat := (ys.map fun y => y.cps.toList).flatten
theorem join_nil (ys : List Str) : Txt.join ⟨#[]⟩ ys = ⟨(catS ys).toArray⟩ := by
  have key : ∀ (l : List Str) (acc : Array Nat), l.foldl (fun acc p => acc ++ (⟨#[]⟩ : Str).cps ++ p.cps) acc = acc ++ (catS l).toArray := by
    intro l
    induction l with
    | nil => intro acc; simp [catS]
    | cons y l ih =>
      intro acc
      rw [List.foldl_cons, ih]
      apply Array.ext'
      simp [catS]
  cases ys with
  | nil => rfl
  | cons y l =>
    show (⟨l.foldl (fun acc p => acc ++ (⟨#[]⟩ : Str).cps ++ p.cps) y.cps⟩ : Str) = _
    rw [key]
    congr 1
    apply Array.ext'
    simp [catS]
theorem cat_snoc (ys : List Str) (y : Str) : catS (ys ++ [y]) = catS ys ++ y.cps.toList := by unfold catS; simp
theorem cat_len (ys : List Str) : (ys.map (·.length)).sum = (catS ys).length := by
  unfold catS
  rw [List.length_flatten, List.map_map]; congr 1
section
variable {prog : Program} {w : World} {A : Around} {code : Array Nat} {x repl : Str} {t u : Tok} {P a : Addr} {outAt : Nat → List Nat}
theorem sub_loop {R : Result → Shared → Prop} (H : Subs code x.cps repl.cps.toList outAt) (hx : x.cps.size ≤ 1000000) (hout : (outAt 0).length ≤ 10000000) :
    ∀ (k d : Nat) (n : Int) (s : Shared) (vs : List Value) (ys : List Str), x.cps.size - d = k → d ≤ x.cps.size → IsPat s.heap P code → (∀ h : Heap, (∀ b o, b ≠ a → s.heap.get? b = some o → h.get? b = some o) → IsPat h P code) → s.heap.IsList a vs.toArray → StrsAre vs ys → ys.length ≤ 2 * d → catS ys ++ outAt d = outAt 0 →
      (∀ h' tk u, (∀ b o, b ≠ a → s.heap.get? b = some o → h'.get? b = some o) → R (.ok (.ret (.str ⟨(outAt 0).toArray⟩ u))) { s with heap := h', toks := tk }) →
      codeAny (model prog w) A (.builtin "re.Pattern.sub.loop" ⟨[.ref P, .str x t, .str repl u, rawInt (0 : Nat), rawInt (0 : Nat), rawInt n, rawInt d, rawInt d, .bool false, .ref a, .bool false], []⟩) R s := by
  intro k
  induction k using Nat.strongRecOn with
  | ind k ih =>
  intro d n s vs ys hk hd hp hpk hl hys hylen hcat hR
  refine codeAny_builtin entry_sub_loop ?_
  rw [Around.under_plainId plain_sub_loop _]
  unfold Builtin.«re.Pattern.sub.loop»
  refine wpAny_bind (whole_ok hp ?_)
  refine wpAny_bind (wpAny_of_eq (a := ()) rfl ?_)
  show wpAny (model prog w) A.in1 (Builtin.Re.reNextFound { pattern := .ref P, string := .str x t, code := code, text := x.cps, kind := 0, groups := 0, pos := 0, lim := x.cps.size } d false >>= _) _ _ s
  refine wpAny_bind ?_
  unfold Builtin.Re.reNextFound
  obtain ⟨o, ho, hc, nn, hdd⟩ := id hl
  rcases H d hd with ⟨sx, e, h1, h2, h3, hE, ho'⟩ | ⟨hE, ho'⟩
  · refine run_to_end hE (by decide) fun m' hm => ⟨_, .inl ⟨hm.1, rfl⟩, ?_⟩
    obtain ⟨hm1, hm2, hm3⟩ := hm
    subst hm2 hm3
    have hvl : vs.length = ys.length := strs_len hys
    have hout' : (catS ys).length + (outAt d).length ≤ 10000000 := by rw [← List.length_append, hcat]; exact hout
    have tail : ∀ (s2 : Shared) (vs2 : List Value) (ys2 : List Str), (∀ b o, b ≠ a → s.heap.get? b = some o → s2.heap.get? b = some o) → s2.gens = s.gens → s2.drawn = s.drawn → s2.os = s.os → s2.heap.IsList a vs2.toArray → StrsAre vs2 ys2 → ys2.length ≤ 2 * d + 1 → catS ys2 ++ repl.cps.toList ++ outAt m'.handed = outAt 0 →
        wpAny (model prog w) A.in1 (updateSeq a (fun x => x.push (.str repl u)) >>= fun _ => again (.builtin "re.Pattern.sub.loop" ⟨[.ref P, .str x t, .str repl u, rawInt (0 : Nat), rawInt (0 : Nat), rawInt (n + 1), rawInt m'.handed, rawInt m'.handed, .bool (m'.handed == m'.start), .ref a, .bool false], []⟩))
          (fun fin s' => match fin with | .done f => R (.ok f) s' | .again c' => c'.quiet = true ∧ codeAny (model prog w) A c' R s') (fun e s' => R (.error e) s') s2 := by
      intro s2 vs2 ys2 hk2 hg2 hdr2 hos2 hl2 hys2 hyl2 hcat2
      have hvl2 : vs2.length = ys2.length := strs_len hys2
      refine wpAny_bind (push_ok hl2 (by omega) fun h' hl' hk' => wpAny_pure ⟨plainId_quiet plain_sub_loop _, ?_⟩)
      have hne : (m'.handed == m'.start) = false := by rw [beq_eq_false_iff_ne]; omega
      rw [hne]
      refine ih _ ?_ m'.handed (n + 1) { s2 with heap := h' } (vs2 ++ [.str repl u]) (ys2 ++ [repl]) rfl h3 (hpk _ fun b o hb e => hk' b o hb (hk2 b o hb e)) (fun h hh => hpk h fun b o hb e => hh b o hb (hk' b o hb (hk2 b o hb e))) hl' (strs_snoc hys2) ?_ ?_ ?_
      · omega
      · simp; omega
      · rw [cat_snoc]; exact hcat2
      · intro h'' tk u' hh
        have := hR h'' tk u' fun b o hb e => hh b o hb (hk' b o hb (hk2 b o hb e))
        show R _ { heap := h'', gens := s2.gens, drawn := s2.drawn, toks := tk, os := s2.os }
        rw [hg2, hdr2, hos2]; exact this
    show wpAny _ _ (if d < m'.start then (Builtin.Re.reSlice x.cps 0 d m'.start >>= _) else _) _ _ _
    refine wpAny_ite ?_
    by_cases hlt : d < m'.start
    · rw [if_pos hlt]
      refine wpAny_bind (slice_ok ?_ fun u' tk => ?_)
      · rw [sizeLine_eq, Array.size_extract]; omega
      refine wpAny_bind (push_ok (s := { s with toks := tk }) hl (by omega) fun h' hl' hk' => ?_)
      refine tail { s with heap := h', toks := tk } _ _ hk' rfl rfl rfl hl' (strs_snoc hys) (by simp; omega) ?_
      rw [cat_snoc, ← hcat, ho', List.append_assoc, List.append_assoc, List.append_assoc]
    · rw [if_neg hlt]
      refine tail s vs ys (fun b o _ e => e) rfl rfl rfl hl hys (by omega) ?_
      have : d = m'.start := by omega
      rw [← hcat, ho', ← this]
      simp
  · refine run_to_end hE (by decide) fun m' hm => ⟨_, .inr ⟨hm, rfl⟩, ?_⟩
    have hvl : vs.length = ys.length := strs_len hys
    have tail : ∀ (s2 : Shared) (vs2 : List Value) (ys2 : List Str), (∀ b o, b ≠ a → s.heap.get? b = some o → s2.heap.get? b = some o) → s2.gens = s.gens → s2.drawn = s.drawn → s2.os = s.os → s2.heap.IsList a vs2.toArray → StrsAre vs2 ys2 → catS ys2 = outAt 0 →
        wpAny (model prog w) A.in1 (Builtin.Re.reSlice x.cps 0 0 0 >>= fun joiner => seqItems? (.ref a) >>= fun l => if (l.getD #[]).isEmpty = true then (pure joiner >>= fun text => ret text) else (call (.builtin "str.join") [joiner, .ref a] >>= fun text => ret text))
          (fun fin s' => match fin with | .done f => R (.ok f) s' | .again c' => c'.quiet = true ∧ codeAny (model prog w) A c' R s') (fun e s' => R (.error e) s') s2 := by
      intro s2 vs2 ys2 hk2 hg2 hdr2 hos2 hl2 hys2 hcat2
      refine wpAny_bind (slice_ok (by rw [sizeLine_eq, Array.size_extract]; omega) fun u' tk => ?_)
      have e0 : x.cps.extract 0 0 = #[] := by simp
      rw [e0]
      obtain ⟨o2, ho2, hc2, nn2, hd2⟩ := id hl2
      refine wpAny_bind (wpAny_seqItems (s := { s2 with toks := tk }) ho2 hd2 ?_)
      have fin : ∀ tk u, R (.ok (.ret (.str ⟨(outAt 0).toArray⟩ u))) { s2 with toks := tk } := fun tk u => by
        have := hR s2.heap tk u hk2
        show R _ { heap := s2.heap, gens := s2.gens, drawn := s2.drawn, toks := tk, os := s2.os }
        rw [hg2, hdr2, hos2]; exact this
      refine wpAny_ite ?_
      by_cases hv : vs2 = []
      · subst hv
        cases hys2
        rw [if_pos (by rfl)]
        refine wpAny_bind (wpAny_pure (wpAny_pure ?_))
        have : outAt 0 = [] := hcat2.symm
        have hf := fin tk u'
        rw [this] at hf
        exact hf
      · rw [if_neg (by simp [hv])]
        refine wpAny_bind (join_list (s := { s2 with toks := tk }) hl2 hys2 ?_ fun t' k' => wpAny_pure ?_)
        · rw [cat_len, hcat2]
          show _ + _ * 0 ≤ _
          omega
        · rw [join_nil, hcat2]
          exact fin k' t'
    show wpAny _ _ (if d < x.cps.size then (Builtin.Re.reSlice x.cps 0 d x.cps.size >>= _) else _) _ _ _
    refine wpAny_ite ?_
    by_cases hlt : d < x.cps.size
    · rw [if_pos hlt]
      refine wpAny_bind (slice_ok ?_ fun u' tk => ?_)
      · rw [sizeLine_eq, Array.size_extract]; omega
      refine wpAny_bind (push_ok (s := { s with toks := tk }) hl (by omega) fun h' hl' hk' => ?_)
      refine tail { s with heap := h', toks := tk } _ _ hk' rfl rfl rfl hl' (strs_snoc hys) ?_
      rw [cat_snoc, ← hcat, ho']
    · rw [if_neg hlt]
      refine tail s vs ys (fun b o _ e => e) rfl rfl rfl hl hys ?_
      rw [← hcat, ho']
      have : d = x.cps.size := by omega
      rw [← this]; simp
end
end Mine
end
section
open PySem PySem.W PyProof.Rows PySem.Calls PySem.Spec
set_option Elab.async false
set_option maxRecDepth 100000
set_option maxHeartbeats 8000000
set_option linter.unusedVariables false
set_option genSizeOf false
namespace Mine
theorem slot_re_sub : Slot "re.Pattern" "sub" "re.Pattern.sub" :=
  .of (owner := "re.Pattern") (n := "sub") (by rw [typeLookup_type, builtinLookup_eq_fast]; kernel_rfl) (by decide +kernel) (by decide +kernel) (by decide +kernel)
    (by first | exact .inl (by decide +kernel) | exact .inr (by decide +kernel)) (by rw [isSubtype_type]; kernel_rfl)
theorem entry_re_sub : entryFor table "re.Pattern.sub" = some Builtin.«re.Pattern.sub» := entryFor_of_fast (by kernel_rfl)
theorem args_re_sub (a b c : Value) : argsOk "re.Pattern.sub" ⟨[a, b, c], []⟩ := by unfold argsOk; kernel_rfl
theorem type_re_sub : typeOf (.builtin "re.Pattern.sub") = pure (.type "method_descriptor") := by kernel_rfl
theorem named_sub (a b : Value) : Builtin.Re.reNamed "re.Pattern.sub" "sub" ["repl", "string", "count"] 2 [a, b] [] = pure [some a, some b, none] := by kernel_rfl
theorem nocall_str (x : Str) (t : Tok) : specialOf (.str x t) (Str.ofString "__call__") = pure none := by
  have e : specialOf (.str x t) (Str.ofString "__call__") = typeLookup (.type "str") (Str.ofString "__call__") := rfl
  rw [e, typeLookup_type, builtinLookup_eq_fast]; kernel_rfl
section
variable {prog : Program} {w : World} {n : Nat}
theorem CallOk.sub {P : Addr} {code : Array Nat} {x repl : Str} {outAt : Nat → List Nat} (hP : ∀ h, Glob w h → IsPat h P code) (H : Subs code x.cps repl.cps.toList outAt) (hx : x.cps.size ≤ 1000000) (hout : (outAt 0).length ≤ 10000000) (hlit : repl.cps.contains 92 = false) :
    CallOk prog w n (.builtin "re.Pattern.sub") [.val (.ref P), .s (.str repl), .s (.str x)] (.s (.str ⟨(outAt 0).toArray⟩)) := by
  intro A s Q E vs hA g r q
  obtain ⟨v0, v1, v2, rfl, r0, ⟨u, rfl⟩, ⟨t, rfl⟩⟩ := r.three
  cases r0
  have hp := hP _ g
  obtain ⟨o, pat, fl, gr, f3, f4, C, wi, oc, cs, nn, h1, h2, h3, h4, h5, h6, h7⟩ := id hp
  refine wpAny_call (codeAny_call_builtin slot_re_sub.plain entry_re_sub (slot_re_sub.check _ _ _ _ _ _ _ _ (show s.TypeIs (.ref P) "re.Pattern" from ⟨o, h1, h2⟩) (args_re_sub _ _ _) ?_))
  unfold Builtin.«re.Pattern.sub» Builtin.Re.reSubstitute
  refine wpAny_bind (wpAny_of_eq (named_sub _ _) ?_)
  refine wpAny_bind (wpAny_pure ?_)
  refine wpAny_bind (wpAny_of_eq (nocall_str _ _) ?_)
  refine wpAny_bind (wpAny_of_eq (a := some repl) rfl ?_)
  refine wpAny_bind (wpAny_pure ?_)
  rw [hlit]
  refine wpAny_bind (wpAny_pure ?_)
  refine wpAny_bind (wpAny_holding (whole_ok hp ?_))
  refine wpAny_ite ?_
  rw [if_neg (by decide)]
  refine wpAny_bind (wpAny_newList ?_ ?_)
  · refine wpAny_pure ⟨plainId_quiet plain_sub_loop _, ?_⟩
    have kA : KeepA s.heap (s.heap.push { cls := .type "list", data := .seq ([] : List Value).toArray }) := KeepA.push _ _
    refine sub_loop (a := s.heap.objs.size) H hx hout x.cps.size 0 0 { s with heap := s.heap.push { cls := .type "list", data := .seq ([] : List Value).toArray } } [] [] (Nat.sub_zero _) (Nat.zero_le _) (hp.keep kA) (fun h hk => hp.keep fun b o e => hk b o (fun e' => ?_) (kA b o e)) ⟨_, Heap.get?_push_size _ rfl, rfl, _, rfl⟩ .nil (Nat.zero_le _) rfl fun h' tk u' hk => ?_
    · subst e'; rw [size_none] at e; cases e
    · refine q _ _ ⟨fun b o e => hk b o (fun e' => ?_) (kA b o e), rfl, .refl _⟩ ⟨_, rfl⟩ (.no rfl)
      subst e'; rw [size_none] at e; cases e
  · decide
end
end Mine
end
section
open PySem PySem.W PyProof.Rows PySem.Calls PySem.Spec
set_option Elab.async false
set_option maxRecDepth 100000
set_option maxHeartbeats 8000000
set_option linter.unusedVariables false
set_option genSizeOf false
namespace Mine
noncomputable def crlfL : List Nat → List Nat
  | [] => []
  | [c] => if c = 10 ∨ c = 13 then [13, 10] else [c]
  | c :: d :: r => if c = 13 ∧ d = 10 then 13 :: 10 :: crlfL r else if c = 10 ∨ c = 13 then 13 :: 10 :: crlfL (d :: r) else c :: crlfL (d :: r)
noncomputable def dotsL : Bool → List Nat → List Nat
  | _, [] => []
  | b, c :: r => (if b = true ∧ c = 46 then [46, 46] else [c]) ++ dotsL (c == 10) r
theorem crlf_plain {c : Nat} (h : ¬ (c = 10 ∨ c = 13)) : ∀ r, crlfL (c :: r) = c :: crlfL r
  | [] => by show (if _ then _ else _) = _; rw [if_neg h]; rfl
  | d :: r => by
    rw [crlfL, if_neg (fun q => h (.inr q.1)), if_neg h]
theorem crlf_end {c : Nat} (h : c = 10 ∨ c = 13) : ∀ r, ¬ (c = 13 ∧ r.head? = some 10) → crlfL (c :: r) = 13 :: 10 :: crlfL r
  | [], _ => by show (if _ then _ else _) = _; rw [if_pos h]; rfl
  | d :: r, hn => by
    rw [crlfL, if_neg (fun q => hn ⟨q.1, by rw [q.2]; rfl⟩), if_pos h]
theorem drop_get {T : Array Nat} {i : Nat} (h : i < T.size) : T.toList.drop i = T.getD i 0 :: T.toList.drop (i + 1) := by
  rw [List.drop_eq_getElem_cons (by simpa using h)]
  congr 1
  simp [Array.getD, h]
theorem out_skip {T : Array Nat} {outAt : Nat → List Nat} : ∀ (k pos s : Nat), s = pos + k → s ≤ T.size → (∀ i, pos ≤ i → i < s → outAt i = T.getD i 0 :: outAt (i + 1)) → outAt pos = (T.extract pos s).toList ++ outAt s
  | 0, pos, s, hs, hT, h => by
    have : s = pos := by omega
    subst this
    simp
  | k + 1, pos, s, hs, hT, h => by
    rw [h pos (Nat.le_refl _) (by omega), out_skip k (pos + 1) s (by omega) hT fun i h1 h2 => h i (by omega) h2]
    have e : (T.extract pos s).toList = T.getD pos 0 :: (T.extract (pos + 1) s).toList := by
      simp only [Array.toList_extract, List.extract_eq_take_drop]
      rw [drop_get (by omega), show s - pos = (s - (pos + 1)) + 1 by omega, List.take_succ_cons]
    rw [e]; rfl
theorem ends2_bd (T : Array Nat) (s : Nat) (h : s < T.size) : s < ends2 T s ∧ ends2 T s ≤ T.size := by
  unfold ends2
  by_cases hc : T.getD s 0 = 13 ∧ s + 1 < T.size ∧ T.getD (s + 1) 0 = 10
  · rw [if_pos hc]; have := hc.2.1; omega
  · rw [if_neg hc]; omega
noncomputable def out2 (T : Array Nat) (d : Nat) : List Nat := crlfL (T.toList.drop d)
theorem subs2 (T : Array Nat) : Subs code2 T [13, 10] (out2 T) := by
  intro pos hpos
  rcases search2 T pos with ⟨s, h1, h2, h3, h4, h5⟩ | ⟨h1, h2⟩
  · refine .inl ⟨s, ends2 T s, h1, ?_, ?_, h5.mono (by decide), ?_⟩
    · exact (ends2_bd T s h2).1
    · exact (ends2_bd T s h2).2
    · rw [out_skip (T := T) (outAt := out2 T) (s - pos) pos s (by omega) (by omega) fun i hi hs => by
        unfold out2
        rw [drop_get (by omega)]
        exact crlf_plain (h4 i hi hs) _]
      rw [List.append_assoc]
      congr 1
      show crlfL (T.toList.drop s) = [13, 10] ++ crlfL (T.toList.drop (ends2 T s))
      unfold ends2
      by_cases hc : T.getD s 0 = 13 ∧ s + 1 < T.size ∧ T.getD (s + 1) 0 = 10
      · rw [if_pos hc, drop_get h2, drop_get hc.2.1, crlfL, if_pos ⟨hc.1, hc.2.2⟩]; rfl
      · rw [if_neg hc, drop_get h2, crlf_end h3]
        · rfl
        · intro q
          refine hc ⟨q.1, ?_⟩
          by_cases hl : s + 1 < T.size
          · refine ⟨hl, ?_⟩
            have := q.2
            rw [drop_get hl] at this
            exact Option.some.inj this
          · have := q.2
            rw [List.drop_of_length_le (by simp; omega)] at this
            cases this
  · refine .inr ⟨h2.mono (by decide), ?_⟩
    rw [out_skip (T := T) (outAt := out2 T) (T.size - pos) pos T.size (by omega) (by omega) fun i hi hs => by
        unfold out2
        rw [drop_get (by omega)]
        exact crlf_plain (h1 i hi hs) _]
    unfold out2
    rw [List.drop_of_length_le (by simp)]
    show _ ++ [] = _
    rw [List.append_nil]
noncomputable def out1 (T : Array Nat) (d : Nat) : List Nat := dotsL (decide (d = 0 ∨ T.getD (d - 1) 0 = 10)) (T.toList.drop d)
theorem out1_next (T : Array Nat) (i : Nat) : decide (i + 1 = 0 ∨ T.getD (i + 1 - 1) 0 = 10) = (T.getD i 0 == 10) := by
  by_cases h : T.getD i 0 = 10
  · rw [decide_eq_true (.inr h), beq_iff_eq.mpr h]
  · rw [decide_eq_false (fun q => q.elim (by omega) h), beq_eq_false_iff_ne.mpr h]
theorem out1_plain {T : Array Nat} {i : Nat} (hi : i < T.size) (h : ¬ hit1 T i) : out1 T i = T.getD i 0 :: out1 T (i + 1) := by
  unfold out1
  rw [out1_next, drop_get hi, dotsL, if_neg]
  · rfl
  · intro q
    exact h ⟨hi, of_decide_eq_true q.1, q.2⟩
theorem subs1 (T : Array Nat) (hT : T.size ≤ 1000000) : Subs code1 T [46, 46] (out1 T) := by
  intro pos hpos
  rcases search1 T pos hT with ⟨s, h1, h2, h3, h4⟩ | ⟨h1, h2⟩
  · have hs := h2.1
    refine .inl ⟨s, s + 1, h1, by omega, by omega, h4.mono (by decide), ?_⟩
    rw [out_skip (T := T) (outAt := out1 T) (s - pos) pos s (by omega) (by omega) fun i hi hs => out1_plain (by omega) (h3 i hi hs)]
    rw [List.append_assoc]
    congr 1
    unfold out1
    rw [out1_next, drop_get hs, dotsL, if_pos ⟨decide_eq_true h2.2.1, h2.2.2⟩]
  · refine .inr ⟨h2.mono (by decide), ?_⟩
    rw [out_skip (T := T) (outAt := out1 T) (T.size - pos) pos T.size (by omega) (by omega) fun i hi hs => out1_plain (by omega) (h1 i hi)]
    unfold out1
    rw [List.drop_of_length_le (by simp)]
    show _ ++ [] = _
    rw [List.append_nil]
end Mine
end
section
open PySem PySem.W PyProof.Rows PySem.Calls PySem.Spec
set_option Elab.async false
set_option maxRecDepth 100000
set_option maxHeartbeats 8000000
set_option linter.unusedVariables false
set_option genSizeOf false
namespace Mine
theorem pat212 {w : World} {h : Heap} (g : Glob w h) : IsPat h 212 code2 :=
  ⟨_, _, _, _, _, _, _, _, _, _, _, g.K 212 _ (by with_unfolding_all rfl), rfl, rfl, rfl, g.K 211 _ (by with_unfolding_all rfl), rfl, by decide +kernel⟩
theorem pat207 {w : World} {h : Heap} (g : Glob w h) : IsPat h 207 code1 :=
  ⟨_, _, _, _, _, _, _, _, _, _, _, g.K 207 _ (by with_unfolding_all rfl), rfl, rfl, rfl, g.K 206 _ (by with_unfolding_all rfl), rfl, by decide +kernel⟩
theorem isG_re1 (w : World) : nsIn (hd.heap_1 w.params) mainGlobals (Str.ofString "_twin_re_1") = some (some (.ref 207)) := by with_unfolding_all rfl
theorem isG_re2 (w : World) : nsIn (hd.heap_1 w.params) mainGlobals (Str.ofString "_twin_re_2") = some (some (.ref 212)) := by with_unfolding_all rfl
theorem isG_crlf (w : World) : ∃ t, nsIn (hd.heap_1 w.params) mainGlobals (Str.ofString "CRLF") = some (some (.str ⟨#[13, 10]⟩ t)) := ⟨_, by with_unfolding_all rfl⟩
theorem p212 (w : World) : ∃ d sl, (hd.heap_1 w.params).lookup 212 = some ⟨.type "re.Pattern", none, d, sl⟩ := ⟨_, _, by with_unfolding_all rfl⟩
theorem p207 (w : World) : ∃ d sl, (hd.heap_1 w.params).lookup 207 = some ⟨.type "re.Pattern", none, d, sl⟩ := ⟨_, _, by with_unfolding_all rfl⟩
section
variable {prog : Program} {w : World} {n : Nat} {env : Env} {cx : Cx} {vals : List V}
theorem Ev.ofValStr {e : Expr} {x : Str} {t : Tok} (h : Ev prog w n env cx vals e (.val (.str x t))) : Ev prog w n env cx vals e (.s (.str x)) := fun A s Q E hA g re q => h A s Q E hA g re fun v s' x' r f => q v s' x' (by cases r; exact ⟨t, rfl⟩) (.no rfl)
theorem crlf_len : ∀ l : List Nat, (crlfL l).length ≤ 2 * l.length
  | [] => Nat.le_refl _
  | [c] => by show (if _ then _ else _ : List Nat).length ≤ _; split <;> simp
  | c :: d :: r => by
    have h1 := crlf_len r
    have h2 := crlf_len (d :: r)
    rw [crlfL]
    split
    · simp; omega
    · split <;> simp at h2 ⊢ <;> omega
theorem dots_len : ∀ (b : Bool) (l : List Nat), (dotsL b l).length ≤ 2 * l.length
  | _, [] => Nat.le_refl _
  | b, c :: r => by
    have h := dots_len (c == 10) r
    rw [dotsL]
    split <;> simp <;> omega
end
theorem quote_ok {w : World} {n : Nat} (x : List Nat) (hx : x.length ≤ 100000) : CallOk P0 w (n + 1) (.ref 219) [.s (.str ⟨x.toArray⟩)] (.s (.str ⟨(dotsL true (crlfL x)).toArray⟩)) := by
  intro A s Q E vs hA g r q
  have X := g.K
  unfold P0
  revert X; k_fill; intro X
  obtain ⟨v1, rfl, r1⟩ := r.one
  refine' entry_ok (n := n) (ns := [(Str.ofString "data", false)]) (gs := [Str.ofString "_twin_re_1", Str.ofString "_twin_re_2", Str.ofString "CRLF"]) (pn := [Str.ofString "data"]) X hA g r (fun v s' x r' => q v s' x r' (.no rfl)) rfl rfl ?ho ?hcd ?hbind ?hgen ?fo ?hpk ?_
  case ho => k_is
  case hcd => k_is
  case hbind => rfl
  case hgen => rfl
  case hpk => rfl
  case fo => exact FnOk.of (by decide +kernel)
  intro L'
  obtain ⟨tc, hcr⟩ := isG_crlf w
  have h1 := crlf_len x
  have h2 := dots_len true (crlfL x)
  have c2 : CallOk P0 w n (.builtin "re.Pattern.sub") [.val (.ref 212), .s (.str ⟨#[13, 10]⟩), .s (.str ⟨x.toArray⟩)] (.s (.str ⟨(crlfL x).toArray⟩)) :=
    CallOk.sub (outAt := out2 x.toArray) (fun h g => pat212 g) (subs2 _) (by simp; omega) (by show (crlfL x).length ≤ _; omega) (by decide +kernel)
  have c1 : CallOk P0 w n (.builtin "re.Pattern.sub") [.val (.ref 207), .s (.str ⟨#[46, 46]⟩), .s (.str ⟨(crlfL x).toArray⟩)] (.s (.str ⟨(dotsL true (crlfL x)).toArray⟩)) :=
    CallOk.sub (outAt := out1 (crlfL x).toArray) (fun h g => pat207 g) (subs1 _ (by simp; omega)) (by simp; omega) (by show (dotsL true (crlfL x)).length ≤ _; omega) (by decide +kernel)
  refine W.one (W1.ret ?_)
  refine Ev.meth plainAttrs_pat slot_re_sub type_re_sub (Ev.glob (isG_re1 w) rfl) (recv_pat (p207 w)) (EvA.two (a := .s (.str ⟨#[46, 46]⟩)) ?_ (Ev.meth plainAttrs_pat slot_re_sub type_re_sub (Ev.glob (isG_re2 w) rfl) (recv_pat (p212 w)) (EvA.two (Ev.ofValStr (Ev.glob hcr rfl)) (Ev.nmS 0 rfl rfl)) c2 rfl rfl rfl (by decide) rfl)) c1 rfl rfl rfl (by decide) rfl
  exact Ev.cstr
end Mine
end
section
open PySem PySem.W PyProof.Rows PySem.Calls PySem.Spec
open PySem.Builtin PySem.Builtin.Str PySem.StrLaws
set_option Elab.async false
set_option maxRecDepth 100000
set_option maxHeartbeats 8000000
set_option linter.unusedVariables false
set_option genSizeOf false
namespace Mine
noncomputable def atB (s sub : Str) (hi : Nat) (i : Nat) : Bool := decide (i + sub.length ≤ hi) && subAt s sub i
theorem occ_loop (s sub : Str) (hi limit : Nat) (h2 : sub.length = 2) (hno : ∀ i, atB s sub hi i = true → atB s sub hi (i + 1) = false) : ∀ (m i : Nat) (st : Array Nat × Nat), i + m ≤ limit → st.1.size ≤ i → (st.2 ≤ i ∨ (st.2 = i + 1 ∧ atB s sub hi i = false)) →
    (forIn (List.range' i m) st (occBody s sub hi limit)).run.fst.toList = st.1.toList ++ (List.range' i m).filter (atB s sub hi)
  | 0, i, st, _, _, _ => by simp
  | m + 1, i, st, hl, hs, hf => by
    rw [List.range'_succ, List.forIn_cons]
    unfold occBody
    by_cases hP : atB s sub hi i = true
    · have hfi : st.2 ≤ i := by
        rcases hf with h | h
        · exact h
        · rw [hP] at h; cases h.2
      unfold atB at hP
      rw [Bool.and_eq_true, decide_eq_true_eq] at hP
      rw [if_pos (by simp [hfi, hP.1, hP.2]; omega)]
      have := occ_loop s sub hi limit h2 hno m (i + 1) (st.1.push i, i + sub.length) (by omega) (by simp; omega) (.inr ⟨by show i + sub.length = i + 1 + 1; omega, hno i (by unfold atB; simp [hP.1, hP.2])⟩)
      have e : List.filter (atB s sub hi) (i :: List.range' (i + 1) m) = i :: (List.range' (i + 1) m).filter (atB s sub hi) := List.filter_cons_of_pos (by unfold atB; simp [hP.1, hP.2])
      rw [e]
      refine Eq.trans this ?_
      simp
    · rw [if_neg (fun h => hP (by unfold atB; simp at h ⊢; exact ⟨h.1.2, h.2⟩))]
      have e : List.filter (atB s sub hi) (i :: List.range' (i + 1) m) = (List.range' (i + 1) m).filter (atB s sub hi) := List.filter_cons_of_neg hP
      rw [e]
      refine occ_loop s sub hi limit h2 hno m (i + 1) st (by omega) (by omega) ?_
      rcases hf with h | h
      · exact .inl (by omega)
      · exact .inl (by omega)
noncomputable def splitA : List Nat → List Nat → List (List Nat)
  | acc, [] => [acc]
  | acc, [c] => [acc ++ [c]]
  | acc, c :: d :: r => if c = 13 ∧ d = 10 then acc :: splitA [] r else splitA (acc ++ [c]) (d :: r)
noncomputable abbrev crS : Str := ⟨#[13, 10]⟩
theorem atB_iff {x : Str} {i : Nat} : atB x crS x.length i = true ↔ ∃ r, x.cps.toList.drop i = 13 :: 10 :: r := by
  unfold atB
  rw [Bool.and_eq_true, decide_eq_true_eq, subAt_eq]
  show (i + 2 ≤ x.cps.size ∧ (List.take 2 (x.cps.toList.drop i) == [13, 10]) = true) ↔ _
  rw [beq_iff_eq]
  constructor
  · rintro ⟨h1, h2⟩
    cases hd : x.cps.toList.drop i with
    | nil => rw [hd] at h2; cases h2
    | cons a l =>
      cases l with
      | nil => rw [hd] at h2; cases h2
      | cons b r =>
        rw [hd] at h2
        simp at h2
        exact ⟨r, by rw [h2.1, h2.2]⟩
  · rintro ⟨r, hd⟩
    refine ⟨?_, by rw [hd]; rfl⟩
    have := congrArg List.length hd
    simp at this; omega
theorem atB_next {x : Str} {i : Nat} (h : atB x crS x.length i = true) : atB x crS x.length (i + 1) = false := by
  obtain ⟨r, hr⟩ := atB_iff.mp h
  cases hb : atB x crS x.length (i + 1) with
  | false => rfl
  | true =>
    obtain ⟨r', hr'⟩ := atB_iff.mp hb
    have : x.cps.toList.drop (i + 1) = 10 :: r := by rw [← List.drop_drop, hr]; rfl
    rw [this] at hr'
    cases hr'
theorem split_loop (x : Str) : ∀ (k i a : Nat), x.length = i + k → a ≤ i → (partsFrom x 2 a ((List.range' i (k + 1)).filter (atB x crS x.length))).map (fun s => s.cps.toList) = splitA (x.cps.extract a i).toList (x.cps.toList.drop i) := by
  intro k
  induction k using Nat.strongRecOn with
  | ind k ih =>
  intro i a hk ha
  have hlen : x.cps.toList.length = x.length := by simp [Str.length]
  match k, ih, hk with
  | 0, ih, hk =>
    have hf : atB x crS x.length i = false := by
      cases hb : atB x crS x.length i with
      | false => rfl
      | true =>
        obtain ⟨r, hr⟩ := atB_iff.mp hb
        rw [List.drop_of_length_le (by omega)] at hr; cases hr
    have e1 : List.range' i 1 = [i] := rfl
    rw [e1, List.filter_cons_of_neg (by rw [hf]; decide), List.filter_nil]
    show [(strSub x a x.length).cps.toList] = _
    rw [List.drop_of_length_le (by omega), hk]; rfl
  | k + 1, ih, hk =>
    rw [List.range'_succ]
    by_cases hP : atB x crS x.length i = true
    · rw [List.filter_cons_of_pos hP]
      obtain ⟨r, hr⟩ := atB_iff.mp hP
      have hk1 : 1 ≤ k := by
        have := congrArg List.length hr
        simp [Str.length] at this hk
        omega
      obtain ⟨k', rfl⟩ : ∃ k', k = k' + 1 := ⟨k - 1, by omega⟩
      rw [List.range'_succ, List.filter_cons_of_neg (by rw [atB_next hP]; decide)]
      show (strSub x a i).cps.toList :: (partsFrom x 2 (i + 2) _).map _ = _
      have := ih k' (by omega) (i + 2) (i + 2) (by omega) (Nat.le_refl _)
      rw [show i + 1 + 1 = i + 2 by omega, this, hr]
      have e2 : x.cps.toList.drop (i + 2) = r := by rw [← List.drop_drop, hr]; rfl
      rw [e2, splitA, if_pos ⟨rfl, rfl⟩]
      have e3 : (x.cps.extract (i + 2) (i + 2)).toList = [] := by simp
      rw [e3]; rfl
    · rw [List.filter_cons_of_neg hP, ih k (by omega) (i + 1) a (by omega) (by omega)]
      have hil : i < x.cps.size := by have : x.length = x.cps.size := rfl; omega
      have hd := drop_get hil
      rw [hd]
      have e4 : (x.cps.extract a (i + 1)).toList = (x.cps.extract a i).toList ++ [x.cps.getD i 0] := by
        simp only [Array.toList_extract, List.extract_eq_take_drop]
        rw [show i + 1 - a = (i - a) + 1 by omega, List.take_add_one]
        congr 1
        rw [List.getElem?_drop, show a + (i - a) = i by omega]
        simp [Array.getD, hil]
      rw [e4]
      cases hd2 : x.cps.toList.drop (i + 1) with
      | nil => rfl
      | cons d r =>
        rw [splitA, if_neg]
        intro q
        refine hP (atB_iff.mpr ⟨r, ?_⟩)
        rw [hd, hd2, q.1, q.2]
theorem split_eq (x : Str) : Txt.split x crS = (splitA [] x.cps.toList).map fun l => ⟨l.toArray⟩ := by
  have hk : decide (Builtin.Str.strKind x < Builtin.Str.strKind crS) = false := by
    rw [show Builtin.Str.strKind crS = 1 by decide +kernel]
    unfold Builtin.Str.strKind
    split
    · rfl
    · split <;> rfl
  have hocc : occurrences x crS 0 x.length (x.length + 1) = (List.range' 0 (x.length + 1)).filter (atB x crS x.length) := by
    rw [occ_eq]
    have := occ_loop x crS x.length (x.length + 1) rfl (fun i h => atB_next h) (x.length + 1) 0 (#[], 0) (by omega) (by simp) (.inl (Nat.le_refl _))
    simpa using this
  have main := split_loop x x.length 0 0 (by omega) (Nat.le_refl _)
  rw [← hocc] at main
  have e0 : (x.cps.extract 0 0).toList = [] := by simp
  rw [e0, List.drop_zero] at main
  have main' : partsFrom x 2 0 (occurrences x crS 0 x.length (x.length + 1)) = (splitA [] x.cps.toList).map fun l => (⟨l.toArray⟩ : Str) := by
    rw [← main, List.map_map]
    refine (List.map_id _).symm.trans ?_
    refine List.map_congr_left fun s _ => ?_
    show s = ⟨s.cps.toList.toArray⟩
    rw [Array.toArray_toList]
  have nil_case : occurrences x crS 0 x.length (x.length + 1) = [] → [x] = (splitA [] x.cps.toList).map fun l => (⟨l.toArray⟩ : Str) := by
    intro h
    rw [← main', h]
    show [x] = [strSub x 0 x.length]
    rw [sub_whole]
  unfold Txt.split
  rw [hk, Bool.or_false]
  split
  · rename_i h
    rw [decide_eq_true_eq] at h
    refine nil_case ?_
    rw [hocc]
    refine List.filter_eq_nil_iff.mpr fun i _ hb => ?_
    obtain ⟨r, hr⟩ := atB_iff.mp hb
    have h' : x.length < 2 := h
    have := congrArg List.length hr
    simp [Str.length] at this h'
    omega
  · split
    · rename_i h
      exact nil_case (List.isEmpty_iff.mp h)
    · rw [partsBetween_eq]; exact main'
end Mine
end
section
open PySem PySem.W PyProof.Rows PySem.Calls PySem.Spec
set_option Elab.async false
set_option maxRecDepth 100000
set_option maxHeartbeats 8000000
set_option linter.unusedVariables false
set_option genSizeOf false
namespace Mine
section
variable {prog : Program} {w : World} {n : Nat} {env : Env} {cx : Cx} {vals : List V}
theorem strs_rep {h : Heap} : ∀ l : List (Str × Tok), All2 (RepS h) (strValues l) (l.map fun p => S.str p.1)
  | [] => .nil
  | p :: l => .cons ⟨_, rfl⟩ (strs_rep l)
theorem CallOk.split {x : Str} (hx : x.length ≤ 1000000) : CallOk prog w n (.builtin "str.split") [.s (.str x), .s (.str crS)] (.lst .own ((splitA [] x.cps.toList).map fun l => .str ⟨l.toArray⟩)) := by
  intro A s Q E vs hA g r q
  obtain ⟨v, v', rfl, ⟨t, rfl⟩, ⟨u, rfl⟩⟩ := r.two
  have hsp := split_eq x
  have hlen : ∀ (cuts : List Nat) (a : Nat), (StrLaws.partsFrom x 2 a cuts).length = cuts.length + 1 := by
    intro cuts
    induction cuts with
    | nil => intro a; rfl
    | cons c r ih => intro a; show (StrLaws.partsFrom x 2 (c + 2) r).length + 1 = _; rw [ih]; rfl
  have hocc := StrLaws.occ_length_le x crS 0 x.length (x.length + 1)
  have hpl : (Builtin.Str.partsBetween x (Builtin.Str.occurrences x crS 0 x.length (x.length + 1)) crS.length).length ≤ sizeLine := by
    rw [StrLaws.partsBetween_eq, show crS.length = 2 from rfl, hlen, sizeLine_eq]; omega
  have hxl : x.length ≤ sizeLine := by rw [sizeLine_eq]; omega
  have fin : ∀ (l : List (Str × Tok)) (tk : Nat), l.map (·.1) = Txt.split x crS → Q (.ref s.heap.objs.size) { s with toks := tk, heap := s.heap.push { cls := .type "list", data := .seq (strValues l).toArray } } := fun l tk hl => by
    refine q _ _ ⟨KeepA.push _ _, rfl, .refl _⟩ ⟨_, rfl, strValues l, isList_push _ _, ?_⟩ (fun a e => by cases e; exact size_none _)
    have e : ((splitA [] x.cps.toList).map fun l => S.str ⟨l.toArray⟩) = l.map fun p => S.str p.1 := by
      have e1 := congrArg (List.map S.str) (hl.trans hsp)
      rw [List.map_map, List.map_map] at e1
      exact e1.symm
    rw [e]
    exact strs_rep l
  cases h1 : (decide (x.length < crS.length) || decide (Builtin.Str.strKind x < Builtin.Str.strKind crS))
  · cases hf : (Builtin.Str.occurrences x crS 0 x.length (x.length + 1)).isEmpty
    · refine call_meets PySem.F.slot_str_split (typeIs_str _ _ _) PySem.F.entry_str_split (PySem.F.args_str_split_2 _ _) (meets_str_split_sep x crS t u h1 rfl hf hxl hpl) ?_
      show wants Q E _ { s with toks := _, heap := s.heap.push { cls := .type "list", data := .seq (strsFrom s.toks (Builtin.Str.partsBetween x (Builtin.Str.occurrences x crS 0 x.length (x.length + 1)) crS.length)).toArray } }
      rw [strsFrom_eq]
      exact fin (numbered s.toks _) _ ((numbered_texts _ _).trans ((if_neg (ne_true_of_eq_false h1)).trans (if_neg (ne_true_of_eq_false hf))).symm)
    · exact call_meets PySem.F.slot_str_split (typeIs_str _ _ _) PySem.F.entry_str_split (PySem.F.args_str_split_2 _ _) (meets_str_split_not_found x crS t u h1 rfl hf)
        (fin [(x, t)] _ ((if_neg (ne_true_of_eq_false h1)).trans (if_pos hf)).symm)
  · exact call_meets PySem.F.slot_str_split (typeIs_str _ _ _) PySem.F.entry_str_split (PySem.F.args_str_split_2 _ _) (meets_str_split_cannot_occur x crS t u h1)
      (fin [(x, t)] _ (if_pos h1).symm)
theorem Iop2.addS {a b : Str} (h : a.length + b.length ≤ 16777216) : Iop2 prog w n .Add (.s (.str a)) (.s (.str b)) (.s (.str (a ++ b))) := by
  rintro A s Q E _ _ hA g ⟨t, rfl⟩ ⟨u, rfl⟩ q
  exact iadd_str (fun t' k => q _ _ (Ext.tok s _) ⟨_, rfl⟩ (.no rfl)) (by rw [sizeLine_eq]; exact h)
theorem Ev.tup3 {a b c : Str} {k1 k2 k3 k : Nat} {p1 p2 p3 p p' : Pos} {slice : Expr} {i : Nat} (hs : Ev prog w n env cx vals slice (.s (.nat i))) (hi : i < 3)
    (hsub : ∀ o i, subscripted slice false o i = operate [o, i] (getItem o i)) :
    Ev prog w n env cx vals (.Subscript (.Tuple [.Constant (.str a) k1 p1, .Constant (.str b) k2 p2, .Constant (.str c) k3 p3] k p) slice p') (.s (.str ([a, b, c].getD i a))) := by
  intro A s Q E hA g re q
  have h3 : EvA prog w n env cx vals p [.Constant (.str a) k1 p1, .Constant (.str b) k2 p2, .Constant (.str c) k3 p3] (([S.str a, S.str b, S.str c] : List S).map V.s) := EvA.cons Ev.cstr (EvA.cons Ev.cstr (EvA.cons Ev.cstr EvA.nil rfl) rfl) rfl
  refine Subscript_ (wpAny_Tuple (EvA.flat h3 A s _ _ hA g re fun vs s₁ x₁ r₁ => ⟨by rw [r₁.length, sizeLine_eq]; show 3 ≤ 16777216; decide, ?_⟩))
  cases r₁ with
  | cons e1 t => cases t with
    | cons e2 t => cases t with
      | cons e3 t => cases t with
        | nil =>
          obtain ⟨t1, rfl⟩ := e1
          obtain ⟨t2, rfl⟩ := e2
          obtain ⟨t3, rfl⟩ := e3
          have kA : KeepA s₁.heap (s₁.heap.push { cls := .type "tuple", data := .seq [Value.str a t1, .str b t2, .str c t3].toArray }) := KeepA.push _ _
          have xx : Ext s { s₁ with heap := s₁.heap.push { cls := .type "tuple", data := .seq [Value.str a t1, .str b t2, .str c t3].toArray } } := x₁.trans ⟨kA, rfl, .refl _⟩
          refine hs A _ _ _ hA (g.keep xx.keep) (re.keep xx.keep) fun v s₂ x₂ r₂ _ => ?_
          obtain ⟨u, rfl⟩ := r₂
          have ht : IsTup s₂.heap s₁.heap.objs.size [Value.str a t1, .str b t2, .str c t3].toArray := ⟨_, x₂.keep _ _ (Heap.get?_push_size _ rfl), rfl, _, rfl⟩
          refine tail_any ht.typeIs slot_tuple_getitem.lookup ?_ (hsub _ _)
          match i, hi with
          | 0, _ => exact getItem_tuple ht (by omega) (by omega) (j := 0) (by rfl) (by rfl) (q _ _ (xx.trans x₂) ⟨_, rfl⟩ (.no rfl))
          | 1, _ => exact getItem_tuple ht (by omega) (by omega) (j := 1) (by rfl) (by rfl) (q _ _ (xx.trans x₂) ⟨_, rfl⟩ (.no rfl))
          | 2, _ => exact getItem_tuple ht (by omega) (by omega) (j := 2) (by rfl) (by rfl) (q _ _ (xx.trans x₂) ⟨_, rfl⟩ (.no rfl))
end
section
variable (prog : Program) (w : World) (n : Nat) (env : Env) (cx : Cx) (vals : List V)
/-- what an expression gives, after the first string was made -/
noncomputable def EvU (e : Expr) (pv : V) : Prop :=
  ∀ (A : Around) (s : Shared) (Q E : Value → Shared → Prop), 1 ≤ s.toks → Ok A n → Glob w s.heap → RepE env cx vals s.heap →
    (∀ v s', Ext s s' → RepV s'.heap v pv → Fresh pv s s' v → Q v s') → wpAny (model prog w) A (eval e env) Q E s
noncomputable def W1T (st : Stmt) (v1 : List V) : Prop := ∀ (A : Around) (s : Shared) (Q : Flow → Shared → Prop) (E : Value → Shared → Prop) (base : Addr → Option Obj), Ok A n → StOk w base env cx vals s.heap →
  (∀ s', 1 ≤ s'.toks → OutOk w base env cx s s' .next (.next v1) → Q .next s') → wpAny (model prog w) A (exec st env) Q E s
noncomputable def W1U (st : Stmt) (v1 : List V) : Prop := ∀ (A : Around) (s : Shared) (Q : Flow → Shared → Prop) (E : Value → Shared → Prop) (base : Addr → Option Obj), 1 ≤ s.toks → Ok A n → StOk w base env cx vals s.heap →
  (∀ s', OutOk w base env cx s s' .next (.next v1) → Q .next s') → wpAny (model prog w) A (exec st env) Q E s
end
section
variable {prog : Program} {w : World} {n : Nat} {env : Env} {cx : Cx} {vals v1 v2 : List V}
theorem W.two {st1 st2 : Stmt} (h1 : W1T prog w n env cx vals st1 v1) (h2 : W1U prog w n env cx v1 st2 v2) : W prog w n env cx vals [st1, st2] (.next v2) := fun A s Q E base hA st q => by
  refine wpAny_execs_cons (h1 A s _ _ base hA st fun s₁ ht o₁ => ?_)
  obtain ⟨_, x1, os1, g1⟩ := o₁.next'
  refine wpAny_execs_cons (h2 A s₁ _ _ base ht hA x1 fun s₂ o₂ => ?_)
  exact wpAny_execs_nil (q _ _ (o₂.back os1 g1))
theorem EvU.bin {l r : Expr} {op : Operator} {p : Pos} {a b c : V} (hl : EvU prog w n env cx vals l a) (hr : Ev prog w n env cx vals r b) (ho : Op2 prog w n op a b c) : EvU prog w n env cx vals (.BinOp l op r p) c :=
  fun A s Q E ht hA g re q => wpAny_BinOp (hl A s _ _ ht hA g re fun va s₁ x₁ r₁ _ => hr A s₁ _ _ hA (g.keep x₁.keep) (re.keep x₁.keep) fun vb s₂ x₂ r₂ _ =>
    ho A s₂ _ _ va vb hA (g.keep (x₁.trans x₂).keep) (r₁.keep x₂.keep) r₂ fun v s₃ x₃ r₃ f₃ => q v s₃ ((x₁.trans x₂).trans x₃) r₃ (f₃.back (x₁.trans x₂)))
theorem W1U.aug {e : Expr} {p p' : Pos} {op : Operator} {x : Str} {b : Bool} {pv pe pr : V} (k : Nat) (hx : cx.ns[k]? = some (x, b)) (hv : vals[k]? = some pv) (hu : pv ≠ .unset) (he : EvU prog w n env cx vals e pe) (ho : Iop2 prog w n op pv.seen pe pr) (hm : May vals k pr) :
    W1U prog w n env cx vals (.AugAssign (.Name x p') op e p) (vals.set k pr) := fun A s Q E base ht hA ⟨ρ, st⟩ q => by
  obtain ⟨v, hb, hr, _⟩ := st.rep.var k x b pv hx hv hu
  refine wpAny_AugAssign_Name (wp_bound st.eo.kind hb (he A s _ _ ht hA st.g st.rep fun u s₁ x₁ r₁ f₁ => ho A s₁ _ _ v u hA (st.g.keep x₁.keep) (hr.seen.keep x₁.keep) r₁ fun y s₂ x₂ r₂ f₂ => ?_))
  exact st.store_ev (x₁.trans x₂) hx r₂ (f₂.back x₁) hm fun h' tk _ st' => q _ ⟨(x₁.trans x₂).os, (x₁.trans x₂).gens, st'⟩
/-- a constant string's method, stored -/
theorem W1T.methC {y x : Str} {b : Bool} {ky : Nat} {py p p' : Pos} {name : Str} {apos pos : Pos} {e : Expr} {es : List Expr} {id : String} {pvs : List V} {res : V} (k : Nat) (hx : cx.ns[k]? = some (x, b)) (slot : Slot "str" name id) (hty : typeOf (.builtin id) = pure (.type "method_descriptor"))
    (ha : EvA prog w n env cx vals pos (e :: es) pvs) (hc : CallOk prog w n (.builtin id) (.s (.str y) :: pvs) res) (hm : May vals k res)
    (hbase : attributeBase (.Constant (.str y) ky py) name env (eval (.Constant (.str y) ky py) env) = eval (.Constant (.str y) ky py) env) (he : starEach (e :: es) env = (false, eval e env) :: starEach es env) (hp : (backTo pos (starEach es env)).any (·.1) = false) (hlen : es.length < 28) (hline : (apos.endLine == pos.line) = true)
    (hs : swapsWith (.Call (.Attribute (.Constant (.str y) ky py) name apos) (e :: es) [] pos) (some (.Name x p')) p.line env = pure false) :
    W1T prog w n env cx vals (.Assign [.Name x p'] (.Call (.Attribute (.Constant (.str y) ky py) name apos) (e :: es) [] pos) p) (vals.set k res) := fun A s Q E base hA ⟨ρ, st⟩ q => by
  have hplain : (backTo pos (starEach (e :: es) env)).any (·.1) = false := by
    rw [he]; show (false || (backTo pos (starEach es env)).any (·.1)) = false; rw [hp]; rfl
  have hall : (backTo pos (starEach (e :: es) env)).all (fun x => !x.1) = true := by
    rw [List.all_eq_true]
    intro x hx
    have := List.any_eq_false.mp hplain x hx
    cases h : x.1 <;> simp_all
  refine wpAny_Assign_Name ?_ hs
  refine wpAny_Call_method hbase ?_ hline PySem.F.plainAttrs_str slot hty (wpAny_Constant_str ?_)
  · have hkw : (backToKw pos (keywordEach [] env)).all (fun x => x.1.isSome) = true := rfl
    rw [hall, hkw]
    simp only [Bool.true_and, decide_eq_true_eq, List.length_nil, List.length_cons, List.isEmpty_nil, if_true]
    omega
  have x₁ : Ext s { s with toks := s.toks + 1 } := Ext.tok s _
  refine ⟨typeIs_str _ _ _, (fun a e => nomatch e), ?_⟩
  refine wpAny_toks 1 (Nat.succ_le_succ (Nat.zero_le _)) (Calls.callWith_builtin hplain ?_)
  have h' := ha A { s with toks := s.toks + 1 } (fun vs s₂ => wpAny (model prog w) A (call (.builtin id) ([.str y s.toks] ++ vs) []) (fun v s₃ => 1 ≤ s₃.toks → wpAny (model prog w) A (storeName env x v) (fun _ s' => Q .next s') E s₃) E s₂) E hA (st.g.keep x₁.keep) (st.rep.keep x₁.keep) fun vs s₂ x₂ r₂ => hc A s₂ _ _ (.str y s.toks :: vs) hA (st.g.keep (x₁.trans x₂).keep) (.cons ⟨_, rfl⟩ r₂) fun u s₃ x₃ r₃ f₃ h1 => ?_
  · rw [he] at h' ⊢
    exact evalArgs_plain h'
  · have xx := (x₁.trans x₂).trans x₃
    refine wpAny_toks 1 h1 (st.store_ev xx hx r₃ (f₃.back (x₁.trans x₂)) hm fun h' tk _ st' h2 => ?_)
    exact q _ h2 ⟨xx.os, xx.gens, st'⟩
theorem EvU.replace {o : Expr} {x y z : Str} {ky kz : Nat} {py pz apos pos : Pos} (ho : Ev prog w n env cx vals o (.s (.str x))) (hyz : (y == z) = false) (hb : x.length + (x.length + 1) * z.length ≤ 16777216)
    (hbase : attributeBase o "replace" env (eval o env) = eval o env) (hline : (apos.endLine == pos.line) = true) :
    EvU prog w n env cx vals (.Call (.Attribute o "replace" apos) [.Constant (.str y) ky py, .Constant (.str z) kz pz] [] pos) (.s (.str (Txt.replace x y z))) := by
  intro A s Q E ht hA g re q
  refine wpAny_Call_method hbase rfl hline PySem.F.plainAttrs_str PySem.F.slot_str_replace PySem.F.type_str_replace (wpAny_toks 1 ht (ho A s _ _ hA g re fun v s₁ x₁ r₁ _ h1 => ?_))
  obtain ⟨t, rfl⟩ := r₁
  refine ⟨typeIs_str _ _ _, (fun a e => nomatch e), Calls.callWith_builtin rfl ?_⟩
  refine evalArgs_plain (wpAny_items_cons (wpAny_Constant_str (wpAny_items_cons (wpAny_Constant_str (wpAny_items_nil ?_)) rfl)) rfl)
  refine SC.replace (show (s₁.toks : Nat) ≠ 0 by omega) (show (s₁.toks + 1 : Nat) ≠ 0 by omega) (show (s₁.toks : Nat) ≠ s₁.toks + 1 by omega) hyz hb fun t' k => q _ _ (x₁.trans (Ext.tok s₁ _)) ⟨_, rfl⟩ (.no rfl)
end
end Mine
end
section
open PySem PySem.W PyProof.Rows PySem.Calls PySem.Spec
set_option Elab.async false
set_option maxRecDepth 100000
set_option maxHeartbeats 8000000
set_option linter.unusedVariables false
set_option genSizeOf false
namespace Mine
noncomputable def wordN (r : Nat) : List Nat := (wordP r).map UInt8.toNat
noncomputable def rpW (r : Nat) : List Nat := (wordN r).map fun c => if c = 66 then 46 else c
noncomputable def leP (k : Nat) : List Nat := [[10], [13, 10], [13]].getD k [10]
noncomputable def lineP (r : Nat) : List Nat := dotsL true (rpW r ++ [46])
noncomputable def rowP (r : Nat) : List Nat := if (lineP r).headD 0 = 46 then 66 :: (lineP r).drop 2 else lineP r
theorem line_f1 : ∀ r : Nat, r < 32 → r ≠ 0 → (∀ c ∈ rpW r, c ≠ 10 ∧ c ≠ 13) ∧ (rpW r).length ≤ 5 ∧ rpW r ≠ [] ∧ (∀ c ∈ lineP r, c ≠ 13) ∧ (lineP r).length ≤ 10 ∧ lineP r ≠ [] := by decide +kernel
theorem line_f2 : ∀ r : Nat, r < 32 → r ≠ 0 → (Txt.replace ⟨(wordN r).toArray⟩ (Str.ofString "B") (Str.ofString ".")).cps.toList = rpW r := by decide +kernel
theorem line_f3 : ∀ r : Nat, r < 32 → r ≠ 0 → (StrLaws.sliceText ⟨(lineP r).toArray⟩ (some ((2 : Nat) : Int)) none).cps.toList = (lineP r).drop 2 := by decide +kernel
theorem line_f4 : ∀ r : Nat, r < 32 → r ≠ 0 → (StrLaws.sliceText ⟨(rowP r).toArray⟩ none (some (-((1 : Nat) : Int)))).cps.toList = wordN r := by decide +kernel
noncomputable def segP (p : Nat × Nat) : List Nat := rpW p.1 ++ [46] ++ leP p.2
noncomputable def mailL (L : List (Nat × Nat)) : List Nat := (L.map segP).flatten
noncomputable def goodP (p : Nat × Nat) : Prop := (p.1 < 32 ∧ p.1 ≠ 0) ∧ p.2 < 3
theorem crlf_app : ∀ (l rest : List Nat), (∀ c ∈ l, c ≠ 10 ∧ c ≠ 13) → crlfL (l ++ rest) = l ++ crlfL rest
  | [], rest, _ => rfl
  | c :: l, rest, h => by
    have hc := h c (by simp)
    rw [List.cons_append, crlf_plain (fun q => q.elim hc.1 hc.2), crlf_app l rest fun d hd => h d (by simp [hd])]; rfl
theorem mail_head : ∀ L : List (Nat × Nat), (∀ p ∈ L, goodP p) → (mailL L).head? ≠ some 10
  | [], _ => by intro h; cases h
  | p :: L, h => by
    obtain ⟨h1, h2⟩ := h p (by simp)
    obtain ⟨a1, a2, a3, _⟩ := line_f1 p.1 h1.1 h1.2
    unfold mailL segP
    cases hr : rpW p.1 with
    | nil => exact absurd hr a3
    | cons c l =>
      have := (a1 c (by rw [hr]; simp)).1
      simp [this]
      rw [hr]; simpa using this
theorem crlf_mail : ∀ L : List (Nat × Nat), (∀ p ∈ L, goodP p) → crlfL (mailL L) = (L.map fun p => rpW p.1 ++ [46, 13, 10]).flatten
  | [], _ => rfl
  | p :: L, h => by
    obtain ⟨h1, h2⟩ := h p (by simp)
    obtain ⟨a1, a2, a3, _⟩ := line_f1 p.1 h1.1 h1.2
    have ih := crlf_mail L fun q hq => h q (by simp [hq])
    have hh := mail_head L fun q hq => h q (by simp [hq])
    have e : mailL (p :: L) = (rpW p.1 ++ [46]) ++ (leP p.2 ++ mailL L) := by unfold mailL segP; simp
    rw [e, crlf_app _ _ (by
      intro c hc
      rcases List.mem_append.mp hc with q | q
      · exact a1 c q
      · cases List.mem_singleton.mp q; decide)]
    have e2 : crlfL (leP p.2 ++ mailL L) = [13, 10] ++ crlfL (mailL L) := by
      match hp : p.2, h2 with
      | 0, _ => exact crlf_end (.inl rfl) _ (fun q => absurd q.1 (by decide))
      | 1, _ =>
        show crlfL (13 :: 10 :: mailL L) = _
        rw [crlfL, if_pos ⟨rfl, rfl⟩]; rfl
      | 2, _ => exact crlf_end (.inr rfl) _ (fun q => hh q.2)
    rw [e2, ih]
    simp
theorem dots_app : ∀ (l rest : List Nat) (b : Bool), (∀ c ∈ l, c ≠ 10) → l ≠ [] → dotsL b (l ++ rest) = dotsL b l ++ dotsL false rest
  | [], rest, b, _, h => absurd rfl h
  | c :: l, rest, b, h, _ => by
    have hc : (c == 10) = false := beq_eq_false_iff_ne.mpr (h c (by simp))
    rw [List.cons_append, dotsL, dotsL, hc]
    cases l with
    | nil =>
      show _ ++ dotsL false rest = (_ ++ []) ++ _
      rw [List.append_nil]
    | cons d l => rw [dots_app (d :: l) rest false (fun x hx => h x (by simp [hx])) (by simp), List.append_assoc]
theorem dots_mail : ∀ L : List (Nat × Nat), (∀ p ∈ L, goodP p) → dotsL true ((L.map fun p => rpW p.1 ++ [46, 13, 10]).flatten) = (L.map fun p => lineP p.1 ++ [13, 10]).flatten
  | [], _ => rfl
  | p :: L, h => by
    obtain ⟨h1, h2⟩ := h p (by simp)
    obtain ⟨a1, a2, a3, _⟩ := line_f1 p.1 h1.1 h1.2
    have ih := dots_mail L fun q hq => h q (by simp [hq])
    have e : ((p :: L).map fun p => rpW p.1 ++ [46, 13, 10]).flatten = (rpW p.1 ++ [46]) ++ (13 :: 10 :: (L.map fun p => rpW p.1 ++ [46, 13, 10]).flatten) := by simp
    rw [e, dots_app _ _ _ (by
      intro c hc
      rcases List.mem_append.mp hc with q | q
      · exact (a1 c q).1
      · cases List.mem_singleton.mp q; decide) (by simp)]
    have e2 : dotsL false (13 :: 10 :: (L.map fun p => rpW p.1 ++ [46, 13, 10]).flatten) = 13 :: 10 :: dotsL true ((L.map fun p => rpW p.1 ++ [46, 13, 10]).flatten) := rfl
    rw [e2, ih]
    simp [lineP]
theorem split_app : ∀ (l acc rest : List Nat), (∀ c ∈ l, c ≠ 13) → splitA acc (l ++ 13 :: 10 :: rest) = (acc ++ l) :: splitA [] rest
  | [], acc, rest, _ => by
    show splitA acc (13 :: 10 :: rest) = _
    rw [splitA, if_pos ⟨rfl, rfl⟩, List.append_nil]
  | c :: l, acc, rest, h => by
    have hc := h c (by simp)
    have ih := split_app l (acc ++ [c]) rest fun d hd => h d (by simp [hd])
    cases l with
    | nil =>
      show splitA acc (c :: 13 :: 10 :: rest) = _
      rw [splitA, if_neg (fun q => hc q.1)]
      exact ih.trans (by simp)
    | cons d l =>
      show splitA acc (c :: d :: (l ++ 13 :: 10 :: rest)) = _
      rw [splitA, if_neg (fun q => hc q.1)]
      exact ih.trans (by simp)
theorem split_mail : ∀ L : List (Nat × Nat), (∀ p ∈ L, goodP p) → splitA [] ((L.map fun p => lineP p.1 ++ [13, 10]).flatten) = (L.map fun p => lineP p.1) ++ [[]]
  | [], _ => rfl
  | p :: L, h => by
    obtain ⟨h1, h2⟩ := h p (by simp)
    obtain ⟨a1, a2, a3, a4, _⟩ := line_f1 p.1 h1.1 h1.2
    have ih := split_mail L fun q hq => h q (by simp [hq])
    have e : ((p :: L).map fun p => lineP p.1 ++ [13, 10]).flatten = lineP p.1 ++ 13 :: 10 :: (L.map fun p => lineP p.1 ++ [13, 10]).flatten := by simp
    rw [e, split_app _ _ _ a4, ih]; rfl
end Mine
end
section
open PySem PySem.W PyProof.Rows PySem.Calls PySem.Spec
set_option Elab.async false
set_option maxRecDepth 100000
set_option maxHeartbeats 8000000
set_option linter.unusedVariables false
set_option genSizeOf false
namespace Mine
noncomputable def prP (R C : List Nat) (j : Nat) : Nat × Nat := (R.getD j 0, C.getD j 0 / 32 % 3)
noncomputable def mlP (R C : List Nat) (i : Nat) : List (Nat × Nat) := (List.range i).map (prP R C)
theorem mail_len (L : List (Nat × Nat)) (h : ∀ p ∈ L, goodP p) : (mailL L).length ≤ 8 * L.length := by
  induction L with
  | nil => exact Nat.le_refl _
  | cons p L ih =>
    obtain ⟨h1, h2⟩ := h p (by simp)
    have := (line_f1 p.1 h1.1 h1.2).2.1
    have ih := ih fun q hq => h q (by simp [hq])
    have hl : (leP p.2).length ≤ 2 := by
      match hp : p.2, h2 with
      | 0, _ => decide
      | 1, _ => decide
      | 2, _ => decide
    unfold mailL segP at ih ⊢
    simp at ih ⊢; omega
theorem str_of_list (x : Str) (l : List Nat) (h : x.cps.toList = l) : x = ⟨l.toArray⟩ := by
  subst h; cases x; simp
theorem str_app (a b : List Nat) : (⟨a.toArray⟩ : Str) ++ ⟨b.toArray⟩ = ⟨(a ++ b).toArray⟩ := by
  show (⟨a.toArray ++ b.toArray⟩ : Str) = _
  simp
theorem cat_chars : ∀ l : List Nat, catS (l.map fun c => (⟨#[c]⟩ : Str)) = l
  | [] => rfl
  | c :: l => by
    have := cat_chars l
    unfold catS at this ⊢
    rw [List.map_cons, List.map_cons, List.flatten_cons, this]; rfl
theorem EvU.eq {prog : Program} {w : World} {n : Nat} {env : Env} {cx : Cx} {vals : List V} {e : Expr} {a b : V} (h : EvU prog w n env cx vals e a) (hm : a = b) : EvU prog w n env cx vals e b := hm ▸ h
theorem le_tup : ∀ k, k < 3 → ([Str.ofString "\n", Str.ofString "\r\n", Str.ofString "\r"].getD k (Str.ofString "\n")) = ⟨(leP k).toArray⟩
  | 0, _ => rfl
  | 1, _ => rfl
  | 2, _ => rfl
section
variable {prog : Program} {w : World} {n : Nat} {env : Env} {cx : Cx} {vals : List V}
theorem Ev.sliceLT {value : Expr} {lower upper : Option Expr} {p pos : Pos} {o : Fl} {l : List S} {lo hi : Option Int} (a b : Nat) (hv : Ev prog w n env cx vals value (.lst o l)) (hl : EvP prog w n env cx vals lower lo) (hu : EvP prog w n env cx vals upper hi)
    (hsz : l.length ≤ 16777216) (hc : ∀ vs : List Value, vs.length = l.length → slicePick vs.toArray lo hi none = ((vs.drop a).take b).toArray) :
    Ev prog w n env cx vals (.Subscript value (.Slice lower upper none p) pos) (.lst .own ((l.drop a).take b)) := by
  intro A s Q E hA g r q
  refine Subscript_ (hv A s _ _ hA g r fun v s₁ x₁ r₁ _ => wpAny_Slice (hl A s₁ _ _ hA (g.keep x₁.keep) (r.keep x₁.keep) fun vl s₂ pl x₂ e2 e2' => hu A s₂ _ _ hA (g.keep (x₁.trans x₂).keep) (r.keep (x₁.trans x₂).keep) fun vu s₃ pu x₃ e3 e3' => ?_))
  obtain ⟨d, rfl, vs, hp, ha⟩ := r₁.keep (x₂.trans x₃).keep
  rw [evalPart_none]
  refine wpAny_pure ?_
  refine tail_any (hp.isList.push _).typeIs list_getitem_lookup (wpAny_getItem_list_slice (hp.isList.push _) (Heap.IsSliceOf.new ..) (e2 ▸ isPart_of e2') (e3 ▸ isPart_of e3') .none (by simp) ?_ (by rw [List.size_toArray, ha.length, sizeLine_eq]; exact hsz)) rfl
  rw [Heap.size_push, hc vs ha.length]
  have k1 : KeepA s₃.heap ((s₃.heap.push { cls := .type "slice", data := .fields #[vl, vu, .none] }).push { cls := .type "list", data := .seq ((vs.drop a).take b).toArray }) := (KeepA.push _ _).trans (KeepA.push _ _)
  refine q _ _ (((x₁.trans x₂).trans x₃).trans ⟨k1, rfl, .refl _⟩) ⟨_, rfl, (vs.drop a).take b, ⟨0, ?_⟩, ((ha.drop a).take b).mono fun _ _ y => y.keep k1.toT⟩ (fun c e => ?_)
  · rw [show s₃.heap.objs.size + 1 = (s₃.heap.push { cls := .type "slice", data := .fields #[vl, vu, .none] }).objs.size by rw [Heap.size_push]]
    exact Heap.get?_push_size _ rfl
  · cases e
    refine none_back ((x₁.trans x₂).trans x₃) ?_
    cases e : s₃.heap.get? (s₃.heap.objs.size + 1) with
    | none => rfl
    | some o' => exact absurd (Heap.lt_size e) (Nat.not_lt.mpr (Nat.le_succ _))
end
noncomputable def signN : S → Nat
  | .str x => x.cps.getD 0 0
  | _ => 0
theorem mail_rows (C : List Nat) : ∀ R : List Nat, R.length = 5 → (mlP R C 5).map (fun p => lineP p.1) = R.map lineP := fun R hR => by
  obtain ⟨a, b, c, d, e, rfl⟩ := len_five hR; rfl
theorem mail_cut (R : List Nat) (hR : R.length = 5) : V.lst .own (((((R.map lineP) ++ [[]]).map fun l : List Nat => S.str ⟨l.toArray⟩).drop 0).take 5) = .lst .own ((R.map lineP).map fun l => .str ⟨l.toArray⟩) := by
  obtain ⟨a, b, c, d, e, rfl⟩ := len_five hR; rfl
theorem mailed_ok {w : World} {n : Nat} (R C : List Nat) (hR : R.length = 5) (hC : C.length = 5) (hr : ∀ r ∈ R, r < 32 ∧ r ≠ 0) : CallOk P0 w (n + 2) (.ref 243) [.lst .arg (wordsAt R 5), .lst .arg (C.map .nat)] (.lst .arg (R.map .nat)) := by
  intro A s Q E vs hA g r q
  have X := g.K
  unfold P0
  revert X; k_fill; intro X
  obtain ⟨v1, v2, rfl, r1, r2⟩ := r.two
  refine' entry_ok (n := n + 1) (ns := [(Str.ofString "words", false), (Str.ofString "cells", false), (Str.ofString "mail", false), (Str.ofString "place", false), (Str.ofString "row", false), (Str.ofString "rows", false)]) (gs := [Str.ofString "range", Str.ofString "quotedata", Str.ofString "sum"]) (pn := [Str.ofString "words", Str.ofString "cells"]) X hA g r (fun v s' x r' => q v s' x r' (.no rfl)) rfl rfl ?ho ?hcd ?hbind ?hgen ?fo ?hpk ?_
  case ho => k_is
  case hcd => k_is
  case hbind => rfl
  case hgen => rfl
  case hpk => rfl
  case fo => exact FnOk.of (by decide +kernel)
  intro L'
  have hrj : ∀ j, j < 5 → R.getD j 0 < 32 ∧ R.getD j 0 ≠ 0 := fun j hj => by
    rw [List.getD_eq_getElem?_getD, List.getElem?_eq_getElem (by omega)]
    exact hr _ (List.getElem_mem _)
  have hgood : ∀ i, i ≤ 5 → ∀ p ∈ mlP R C i, goodP p := fun i hi p hp => by
    obtain ⟨j, hj, rfl⟩ := List.mem_map.mp hp
    have := List.mem_range.mp hj
    exact ⟨hrj j (by omega), Nat.mod_lt _ (by decide)⟩
  have hml : ∀ i, i ≤ 5 → (mailL (mlP R C i)).length ≤ 40 := fun i hi => by
    have := mail_len _ (hgood i hi)
    have e : (mlP R C i).length = i := by simp [mlP]
    omega
  refine W.cons (W1.assign (pv := .s (.str ⟨(mailL (mlP R C 0)).toArray⟩)) 2 rfl Ev.cstr (.inr (.inl rfl)) (fun _ => rfl)) ?_
  refine W.cons (W1.forR (m := 5) 3 (fun i => [.lst .arg (wordsAt R 5), .lst .arg (C.map .nat), .s (.str ⟨(mailL (mlP R C i)).toArray⟩), .unset, .unset, .unset]) rfl (Ev.c_range (EvA.one Ev.cnat) (CallOk.rng (by decide))) (fun i hi => ?_) (fun _ => rfl)) ?_
  · have hf := line_f1 _ (hrj i hi).1 (hrj i hi).2
    have hi5 := hml i (by omega)
    have hwN : (wordN (R.getD i 0)).length ≤ 5 := by have := (word_facts _ (hrj i hi).1 (hrj i hi).2).2.1; unfold wordN; simpa using this
    refine W.forget 4 (v := [.lst .arg (wordsAt R 5), .lst .arg (C.map .nat), .s (.str ⟨(mailL (mlP R C (i + 1))).toArray⟩), .unset, .s (.str ⟨(wordN (R.getD i 0)).toArray⟩), .unset]) ?_
    refine W.forget 3 (v := [.lst .arg (wordsAt R 5), .lst .arg (C.map .nat), .s (.str ⟨(mailL (mlP R C (i + 1))).toArray⟩), .s (.nat i), .s (.str ⟨(wordN (R.getD i 0)).toArray⟩), .unset]) ?_
    have ew : (wordsAt R 5)[i]? = some (.bytes (wordP (R.getD i 0)).toArray) := by
      unfold wordsAt; rw [List.getElem?_map, List.getElem?_range hi]; rfl
    have ee : mlP R C (i + 1) = mlP R C i ++ [prP R C i] := by unfold mlP; rw [List.range_succ, List.map_append]; rfl
    have eml : mailL (mlP R C (i + 1)) = mailL (mlP R C i) ++ ((rpW (R.getD i 0) ++ [46]) ++ leP (C.getD i 0 / 32 % 3)) := by
      rw [ee]; unfold mailL; rw [List.map_append, List.flatten_append]; simp [segP, prP]
    refine W.two (v1 := [.lst .arg (wordsAt R 5), .lst .arg (C.map .nat), .s (.str ⟨(mailL (mlP R C i)).toArray⟩), .s (.nat i), .s (.str ⟨(wordN (R.getD i 0)).toArray⟩), .unset]) ?_ ?_
    · have hj : CallOk P0 w (n + 1) (.builtin "str.join") [.s (.str (Str.ofString "")), .lst .own (((wordN (R.getD i 0)).map fun c => (⟨#[c]⟩ : Str)).map .str)] (.s (.str ⟨(wordN (R.getD i 0)).toArray⟩)) := by
        have h := CallOk.join (prog := P0) (w := w) (n := n + 1) (x := Str.ofString "") (o := .own) (L := (wordN (R.getD i 0)).map fun c => (⟨#[c]⟩ : Str)) (by
          rw [cat_len]
          have : (catS ((wordN (R.getD i 0)).map fun c => (⟨#[c]⟩ : Str))).length = (wordN (R.getD i 0)).length := by rw [cat_chars]
          rw [this, show (Str.ofString "").length = 0 from rfl]; omega)
        have e : Txt.join (Str.ofString "") ((wordN (R.getD i 0)).map fun c => (⟨#[c]⟩ : Str)) = ⟨(wordN (R.getD i 0)).toArray⟩ := by
          rw [show Str.ofString "" = (⟨#[]⟩ : Str) from rfl, join_nil]
          rw [cat_chars]
        rw [e] at h
        exact h
      refine W1T.methC (vals := [.lst .arg (wordsAt R 5), .lst .arg (C.map .nat), .s (.str ⟨(mailL (mlP R C i)).toArray⟩), .s (.nat i), .unset, .unset]) 4 rfl PySem.F.slot_str_join PySem.F.type_str_join (EvA.one (Ev.comp1 (C1.eq (C1.mkN (isl := false) (b := false) (L := wordN (R.getD i 0)) (oc := Option.none) (caps := []) (gs := [Str.ofString "chr"]) (fun _ => true) (fun c => .str ⟨#[c]⟩) (PC.of [] rfl (fun _ _ => rfl) (fun _ => rfl) .nil)
          (Ev.sub (Ev.nmA 0 rfl rfl) (Ev.nmS 3 rfl rfl) (GetOk.list (by omega) ew) (fun _ _ => rfl)) ?_ (fun cenv c hc => .nil) (fun cenv c hc _ => Ev.c_chr (EvA.one (Ev.nmS 0 rfl rfl)) (CallOk.chr ?_)) ?_) ?_) (fun _ => rfl))) hj (.inr (.inl rfl)) rfl rfl rfl (by decide) rfl rfl
      · have := IterOf.bytes (prog := P0) (w := w) (n := n + 1) (b := (wordP (R.getD i 0)).toArray)
        unfold wordN; rw [List.map_map]; exact this
      · obtain ⟨d, hd, rfl⟩ := List.mem_map.mp hc
        have := (word_facts _ (hrj i hi).1 (hrj i hi).2).2.2.1 d hd
        omega
      · omega
      · rw [List.filter_eq_self.mpr (fun _ _ => rfl), List.map_map]; rfl
    · have hk3 : C.getD i 0 / 32 % 3 < 3 := Nat.mod_lt _ (by decide)
      have hl2 : (leP (C.getD i 0 / 32 % 3)).length ≤ 2 := by
        match C.getD i 0 / 32 % 3, hk3 with
        | 0, _ => decide
        | 1, _ => decide
        | 2, _ => decide
      have e2 := str_of_list _ _ (line_f2 _ (hrj i hi).1 (hrj i hi).2)
      have hfin : (⟨(mailL (mlP R C i)).toArray⟩ : Str) ++ ⟨((rpW (R.getD i 0) ++ [46]) ++ leP (C.getD i 0 / 32 % 3)).toArray⟩ = ⟨(mailL (mlP R C (i + 1))).toArray⟩ := by rw [str_app, eml]
      rw [← hfin]
      refine W1U.aug (pv := .s (.str ⟨(mailL (mlP R C i)).toArray⟩)) (pe := .s (.str ⟨((rpW (R.getD i 0) ++ [46]) ++ leP (C.getD i 0 / 32 % 3)).toArray⟩)) 2 rfl rfl (fun h => nomatch h) ?_ (Iop2.addS ?_) (.inr (.inl rfl))
      · rw [← str_app]
        refine EvU.bin (a := .s (.str ⟨(rpW (R.getD i 0) ++ [46]).toArray⟩)) (b := .s (.str ⟨(leP (C.getD i 0 / 32 % 3)).toArray⟩)) ?_ ?_ (Op2.addS ?_)
        · rw [← str_app]
          refine EvU.bin (a := .s (.str ⟨(rpW (R.getD i 0)).toArray⟩)) (b := .s (.str ⟨[46].toArray⟩)) ?_ ?_ (Op2.addS ?_)
          · rw [← e2]
            refine EvU.replace (Ev.nmS 4 rfl rfl) (by decide) ?_ rfl rfl
            show (wordN (R.getD i 0)).toArray.size + ((wordN (R.getD i 0)).toArray.size + 1) * 1 ≤ _
            rw [List.size_toArray]; omega
          · exact Ev.cstr
          · show (rpW (R.getD i 0)).toArray.size + 1 ≤ _
            have := hf.2.1
            rw [List.size_toArray]; omega
        · rw [← le_tup _ hk3]
          exact Ev.tup3 (Ev.bin (Ev.bin (Ev.sub (Ev.nmA 1 rfl rfl) (Ev.nmS 3 rfl rfl) (GetOk.nats (by omega) (by omega)) (fun _ _ => rfl)) Ev.cnat (Op2.divN (by decide) (by decide))) Ev.cnat (Op2.modN (by decide))) hk3 (fun _ _ => rfl)
        · show (rpW (R.getD i 0) ++ [46]).toArray.size + (leP (C.getD i 0 / 32 % 3)).toArray.size ≤ _
          have := hf.2.1
          simp only [List.size_toArray, List.length_append, List.length_singleton]; omega
      · show (mailL (mlP R C i)).toArray.size + ((rpW (R.getD i 0) ++ [46]) ++ leP (C.getD i 0 / 32 % 3)).toArray.size ≤ _
        have := hf.2.1
        simp only [List.size_toArray, List.length_append, List.length_singleton]; omega
  refine W.cons (W1.assign (pv := .lst .own []) 5 rfl (Ev.list (xs := []) EvA.nil (by decide)) (.inl rfl) (fun _ => rfl)) ?_
  have hq : splitA [] (dotsL true (crlfL (mailL (mlP R C 5)))) = (R.map lineP) ++ [[]] := by
    rw [crlf_mail _ (hgood 5 (Nat.le_refl _)), dots_mail _ (hgood 5 (Nat.le_refl _)), split_mail _ (hgood 5 (Nat.le_refl _))]
    congr 1
    exact mail_rows C R hR
  have hdl : (dotsL true (crlfL (mailL (mlP R C 5)))).length ≤ 200 := by
    have h1 := dots_len true (crlfL (mailL (mlP R C 5)))
    have h2 := crlf_len (mailL (mlP R C 5))
    have h3 := hml 5 (Nat.le_refl _)
    omega
  have hbase : ∀ (i : Nat), i < 5 → True := fun _ _ => trivial
  refine W.cons (W1.forT (isl := true) (pv := .lst .own ((R.map lineP).map fun l => .str ⟨l.toArray⟩)) (items := (R.map lineP).map fun l => .str ⟨l.toArray⟩) (fun i => [.lst .arg (wordsAt R 5), .lst .arg (C.map .nat), .s (.str ⟨(mailL (mlP R C 5)).toArray⟩), .unset, .unset, .lst .own ((R.take i).map .nat)]) (fun v it => v.set 4 (.s it)) 5 ?_ IterOf.list (.inr ⟨_, rfl⟩) ?_ (.inl fun _ _ => rfl) (fun i it h => AsW.name rfl) (by simp [hR]) (fun i it hi hit => ?_) (.inl ⟨by simp [hR], rfl⟩) (fun _ => rfl)) ?_
  · refine Ev.eq (a := .lst .own (((((R.map lineP) ++ [[]]).map fun l : List Nat => S.str ⟨l.toArray⟩).drop 0).take 5)) ?_ ?_
    · refine Ev.sliceLT (o := .own) 0 5 ?_ EvP.none (EvP.int (Ev.neg Ev.cnat)) (by simp [hR]) (fun vs e => ?_)
      · refine Ev.meth (po := .s (.str ⟨(dotsL true (crlfL (mailL (mlP R C 5)))).toArray⟩)) (pvs := [.s (.str crS)]) PySem.F.plainAttrs_str PySem.F.slot_str_split PySem.F.type_str_split (Ev.f_quotedata (EvA.one (Ev.nmS 2 rfl rfl)) (quote_ok _ (by have := hml 5 (Nat.le_refl _); omega))) recv_str (EvA.one Ev.cstr) ?_ rfl rfl rfl (by decide) rfl
        have h := CallOk.split (prog := P0) (w := w) (n := n + 1) (x := ⟨(dotsL true (crlfL (mailL (mlP R C 5)))).toArray⟩) (by show (dotsL true (crlfL (mailL (mlP R C 5)))).toArray.size ≤ _; rw [List.size_toArray]; omega)
        show CallOk _ _ _ _ _ (.lst .own (((R.map lineP) ++ [[]]).map fun l : List Nat => S.str ⟨l.toArray⟩))
        rw [← hq]; exact h
      · rw [slicePick_plain]
        have e6 : vs.length = 6 := by rw [e]; simp [hR]
        simp only [Option.elim, clipAt_neg _ 1 (Nat.le_refl _), List.size_toArray, e6]
    · exact mail_cut R hR
  · rw [List.all_eq_true]
    intro x hx
    obtain ⟨l, _, rfl⟩ := List.mem_map.mp hx
    rfl
  · have hit' : it = .str ⟨(lineP (R.getD i 0)).toArray⟩ := by
      rw [List.getElem?_map, List.getElem?_map, List.getElem?_eq_getElem (by omega)] at hit
      rw [List.getD_eq_getElem?_getD, List.getElem?_eq_getElem (by omega)]
      exact (Option.some.inj hit).symm
    subst hit'
    have hf := line_f1 _ (hrj i hi).1 (hrj i hi).2
    have hwf := word_facts _ (hrj i hi).1 (hrj i hi).2
    have ht : R.take (i + 1) = R.take i ++ [R.getD i 0] := by
      rw [List.take_add_one, List.getD_eq_getElem?_getD, List.getElem?_eq_getElem (by omega)]; rfl
    obtain ⟨c0, l0, hcl⟩ : ∃ c0 l0, lineP (R.getD i 0) = c0 :: l0 := by
      cases hl : lineP (R.getD i 0) with
      | nil => exact absurd hl hf.2.2.2.2.2
      | cons a l => exact ⟨a, l, rfl⟩
    refine W.forget 4 (v := [.lst .arg (wordsAt R 5), .lst .arg (C.map .nat), .s (.str ⟨(mailL (mlP R C 5)).toArray⟩), .unset, .s (.str ⟨(rowP (R.getD i 0)).toArray⟩), .lst .own ((R.take (i + 1)).map .nat)]) ?_
    refine W.cons (v1 := [.lst .arg (wordsAt R 5), .lst .arg (C.map .nat), .s (.str ⟨(mailL (mlP R C 5)).toArray⟩), .unset, .s (.str ⟨(rowP (R.getD i 0)).toArray⟩), .lst .own ((R.take i).map .nat)]) (W1.ite (c := decide (c0 = 46)) ?_ (fun h => ?_) (fun h => ?_)) ?_
    · refine (Tv.cmp (Ev.sub (Ev.nmS 4 rfl rfl) Ev.cnat (GetOk.str (i := 0) (c := c0) (by decide) ?_) (fun _ _ => rfl)) Ev.cstr Cm2.eqS rfl).eq ?_
      · rw [hcl]; rfl
      · exact ch_eq c0 46
    · have h46 := of_decide_eq_true h
      have e : rowP (R.getD i 0) = 66 :: (lineP (R.getD i 0)).drop 2 := by unfold rowP; rw [if_pos (by rw [hcl]; exact h46)]
      have e3 := str_of_list _ _ (line_f3 _ (hrj i hi).1 (hrj i hi).2)
      rw [e]
      refine W.one ((W1.assign (pv := .s (.str ((⟨#[66]⟩ : Str) ++ ⟨((lineP (R.getD i 0)).drop 2).toArray⟩))) 4 rfl ?_ (.inr (.inl rfl)) (fun _ => rfl)).eq ?_)
      · refine Ev.bin (a := .s (.str ⟨#[66]⟩)) (b := .s (.str ⟨((lineP (R.getD i 0)).drop 2).toArray⟩)) Ev.cstr ?_ (Op2.addS ?_)
        · rw [← e3]
          refine Ev.sliceS (Ev.nmS 4 rfl rfl) (.nat Ev.cnat) .none ?_ (fun _ _ => rfl)
          show (lineP (R.getD i 0)).toArray.size ≤ _
          have := hf.2.2.2.2.1
          rw [List.size_toArray]; omega
        · show 1 + ((lineP (R.getD i 0)).drop 2).toArray.size ≤ _
          have := hf.2.2.2.2.1
          rw [List.size_toArray, List.length_drop]; omega
      · rw [show (⟨#[66]⟩ : Str) = ⟨[66].toArray⟩ from rfl, str_app]; rfl
    · have h46 := of_decide_eq_false h
      have e : rowP (R.getD i 0) = lineP (R.getD i 0) := by unfold rowP; rw [if_neg (by rw [hcl]; exact h46)]
      rw [e]
      exact W.nil
    · have e4 := str_of_list _ _ (line_f4 _ (hrj i hi).1 (hrj i hi).2)
      have hwN : (wordN (R.getD i 0)).length ≤ 5 := by have := hwf.2.1; unfold wordN; simpa using this
      have hwv : ∀ c ∈ wordN (R.getD i 0), 66 ≤ c ∧ c ≤ 70 := fun c hc => by
        obtain ⟨d, hd, rfl⟩ := List.mem_map.mp hc
        exact hwf.2.2.1 d hd
      refine W.one ((W1.append (y := .nat (R.getD i 0)) 5 rfl rfl rfl ?_ ?_ rfl rfl rfl rfl).eq ?_)
      · refine Ev.eq (a := .s (.nat (((wordN (R.getD i 0)).map fun c => 1 <<< (c - 66)).sum))) ?_ ?_
        · refine Ev.c_sum (EvA.one (Ev.comp1 (C1.eq (C1.mk1 (isl := false) (b := false) (items := (wordN (R.getD i 0)).map fun c => S.str ⟨#[c]⟩) (oc := Option.none) (caps := []) (gs := [Str.ofString "ord"]) (fun _ => true) (fun it => .nat (1 <<< (signN it - 66))) (PC.of [] rfl (fun _ _ => rfl) (fun _ => rfl) .nil)
            (Ev.eq (b := .s (.str ⟨(wordN (R.getD i 0)).toArray⟩)) (Ev.sliceS (Ev.nmS 4 rfl rfl) .none (EvP.int (Ev.neg Ev.cnat)) ?_ (fun _ _ => rfl)) ?_) ?_ (fun cenv it hit => .nil) (fun cenv it hit _ => ?_) ?_) (res' := (((wordN (R.getD i 0)).map fun c => 1 <<< (c - 66)).map .nat)) ?_) (fun _ => rfl))) CallOk.sum
          · show (rowP (R.getD i 0)).toArray.size ≤ _
            have h10 := hf.2.2.2.2.1
            rw [List.size_toArray]
            unfold rowP
            split
            · rw [List.length_cons, List.length_drop]; omega
            · omega
          · rw [e4]
          · exact IterOf.str
          · obtain ⟨c, hc, rfl⟩ := List.mem_map.mp hit
            have := hwv c hc
            exact Ev.bin Ev.cnat (Ev.bin (Ev.c_ord (EvA.one (Ev.nmS 0 rfl rfl)) CallOk.ord) Ev.cnat (Op2.subN this.1)) (Op2.shl (by decide) (by show c - 66 ≤ 1000; omega))
          · rw [List.length_map]; omega
          · rw [List.filter_eq_self.mpr (fun _ _ => rfl), List.map_map, List.map_map]; rfl
        · have := hwf.2.2.2
          unfold wordN
          rw [List.map_map]
          exact congrArg (fun z => V.s (.nat z)) this
      · simp; omega
      · rw [ht, List.map_append]; rfl
  refine W.one ((W1.ret (Ev.nmO 5 rfl rfl)).eq ?_)
  rw [List.take_of_length_le (by omega)]
end Mine
end
section
open PySem PySem.W PyProof.Rows PySem.Calls PySem.Spec
set_option Elab.async false
set_option maxRecDepth 100000
set_option maxHeartbeats 8000000
set_option linter.unusedVariables false
set_option genSizeOf false
namespace Mine
/-- the span of a list of bit vectors -/
inductive Sp (vs : List Nat) : Nat → Prop
  | zero : Sp vs 0
  | add {x v : Nat} : v ∈ vs → Sp vs x → Sp vs (x ^^^ v)
theorem xor_self_right (a b : Nat) : (a ^^^ b) ^^^ b = a := by rw [Nat.xor_assoc, Nat.xor_self, Nat.xor_zero]
theorem Sp.mem {vs : List Nat} {v : Nat} (h : v ∈ vs) : Sp vs v := by have := Sp.add h (.zero (vs := vs)); rwa [Nat.zero_xor] at this
theorem Sp.xor {vs : List Nat} {x y : Nat} (hx : Sp vs x) (hy : Sp vs y) : Sp vs (x ^^^ y) := by
  induction hy with
  | zero => rwa [Nat.xor_zero]
  | add hm _ ih => rw [← Nat.xor_assoc]; exact .add hm ih
theorem Sp.sub {vs ws : List Nat} (h : ∀ v ∈ vs, Sp ws v) {x : Nat} (hx : Sp vs x) : Sp ws x := by
  induction hx with
  | zero => exact .zero
  | add hm _ ih => exact ih.xor (h _ hm)
theorem Sp.cons_iff {vs : List Nat} {v x : Nat} : Sp (v :: vs) x ↔ Sp vs x ∨ Sp vs (x ^^^ v) := by
  constructor
  · intro h
    induction h with
    | zero => exact .inl .zero
    | @add x u hm _ ih =>
      rcases List.mem_cons.mp hm with rfl | hm
      · rcases ih with ih | ih
        · exact .inr (by rw [xor_self_right]; exact ih)
        · exact .inl ih
      · rcases ih with ih | ih
        · exact .inl (.add hm ih)
        · refine .inr ?_
          have : x ^^^ u ^^^ v = (x ^^^ v) ^^^ u := by rw [Nat.xor_assoc, Nat.xor_comm u v, ← Nat.xor_assoc]
          rw [this]; exact .add hm ih
  · rintro (h | h)
    · exact h.sub fun u hu => .mem (List.mem_cons_of_mem _ hu)
    · have h1 : Sp (v :: vs) (x ^^^ v) := h.sub fun u hu => .mem (List.mem_cons_of_mem _ hu)
      have := h1.xor (Sp.mem (vs := v :: vs) (v := v) (by simp))
      rwa [xor_self_right] at this
theorem Sp.bit {vs : List Nat} {t x : Nat} (h : ∀ v ∈ vs, v.testBit t = false) (hx : Sp vs x) : x.testBit t = false := by
  induction hx with
  | zero => simp
  | add hm _ ih => rw [Nat.testBit_xor, ih, h _ hm]; rfl
inductive HasRank : List Nat → Nat → Prop
  | nil : HasRank [] 0
  | dep {v vs r} : Sp vs v → HasRank vs r → HasRank (v :: vs) r
  | ind {v vs r} : ¬ Sp vs v → HasRank vs r → HasRank (v :: vs) (r + 1)
theorem HasRank.ex : ∀ vs, ∃ r, HasRank vs r
  | [] => ⟨0, .nil⟩
  | v :: vs => by
    obtain ⟨r, h⟩ := HasRank.ex vs
    by_cases hv : Sp vs v
    · exact ⟨r, .dep hv h⟩
    · exact ⟨r + 1, .ind hv h⟩
theorem HasRank.list {vs : List Nat} {r : Nat} (h : HasRank vs r) : ∃ l : List Nat, l.Nodup ∧ (∀ x, x ∈ l ↔ Sp vs x) ∧ l.length = 2 ^ r := by
  induction h with
  | nil =>
    refine ⟨[0], by simp, fun x => ?_, rfl⟩
    constructor
    · intro h; cases List.mem_singleton.mp h; exact .zero
    · intro h
      induction h with
      | zero => simp
      | add hm _ _ => cases hm
  | @dep v vs r hv _ ih =>
    obtain ⟨l, h1, h2, h3⟩ := ih
    refine ⟨l, h1, fun x => ?_, h3⟩
    rw [h2, Sp.cons_iff]
    constructor
    · exact .inl
    · rintro (h | h)
      · exact h
      · have := h.xor hv
        rwa [xor_self_right] at this
  | @ind v vs r hv _ ih =>
    obtain ⟨l, h1, h2, h3⟩ := ih
    have inj : ∀ a b, a ^^^ v = b ^^^ v → a = b := fun a b e => by rw [← xor_self_right a v, e, xor_self_right]
    refine ⟨l ++ l.map (· ^^^ v), ?_, fun x => ?_, ?_⟩
    · rw [List.nodup_append]
      refine ⟨h1, ?_, fun a ha b hb e => ?_⟩
      · exact (List.pairwise_map.mpr (h1.imp fun hne e => hne (inj _ _ e)))
      · obtain ⟨c, hc, rfl⟩ := List.mem_map.mp hb
        have h4 := (h2 a).mp ha
        have h5 := (h2 c).mp hc
        rw [e] at h4
        have := h5.xor h4
        rw [← Nat.xor_assoc, Nat.xor_self, Nat.zero_xor] at this
        exact hv this
    · rw [List.mem_append, h2, Sp.cons_iff, List.mem_map]
      constructor
      · rintro (h | ⟨c, hc, rfl⟩)
        · exact .inl h
        · exact .inr (by rw [xor_self_right]; exact (h2 c).mp hc)
      · rintro (h | h)
        · exact .inl h
        · exact .inr ⟨_, (h2 _).mpr h, xor_self_right _ _⟩
    · rw [List.length_append, List.length_map, h3, Nat.pow_succ]; omega
theorem HasRank.uniq {vs ws : List Nat} {r s : Nat} (h : HasRank vs r) (h' : HasRank ws s) (e : ∀ x, Sp vs x ↔ Sp ws x) : r = s := by
  obtain ⟨l, a1, a2, a3⟩ := h.list
  obtain ⟨l', b1, b2, b3⟩ := h'.list
  have p : l.Perm l' := (List.perm_ext_iff_of_nodup a1 b1).mpr fun x => by rw [a2, b2, e]
  have := p.length_eq
  rw [a3, b3] at this
  rcases Nat.lt_trichotomy r s with q | q | q
  · have := Nat.pow_lt_pow_right (a := 2) (by decide) q; omega
  · exact q
  · have := Nat.pow_lt_pow_right (a := 2) (by decide) q; omega
noncomputable def rk (vs : List Nat) : Nat := Classical.choose (HasRank.ex vs)
theorem rk_has (vs : List Nat) : HasRank vs (rk vs) := Classical.choose_spec (HasRank.ex vs)
theorem rk_eq {vs : List Nat} {r : Nat} (h : HasRank vs r) : rk vs = r := (rk_has vs).uniq h fun _ => Iff.rfl
theorem rk_congr {vs ws : List Nat} (h1 : ∀ v ∈ vs, Sp ws v) (h2 : ∀ v ∈ ws, Sp vs v) : rk vs = rk ws := (rk_has vs).uniq (rk_has ws) fun _ => ⟨fun x => x.sub h1, fun x => x.sub h2⟩
theorem rk_dep {vs : List Nat} {v : Nat} (h : Sp vs v) : rk (v :: vs) = rk vs := rk_eq (.dep h (rk_has vs))
theorem rk_ind {vs : List Nat} {v : Nat} (h : ¬ Sp vs v) : rk (v :: vs) = rk vs + 1 := rk_eq (.ind h (rk_has vs))
theorem lt_of_bit {x y : Nat} (i : Nat) (hx : x.testBit i = false) (hy : y.testBit i = true) (h : ∀ j, i < j → x.testBit j = y.testBit j) : x < y := by
  have e : x / 2 ^ (i + 1) = y / 2 ^ (i + 1) := by
    rw [← Nat.shiftRight_eq_div_pow, ← Nat.shiftRight_eq_div_pow]
    refine Nat.eq_of_testBit_eq fun j => ?_
    rw [Nat.testBit_shiftRight, Nat.testBit_shiftRight]
    exact h _ (by omega)
  have h1 : x % 2 ^ (i + 1) < 2 ^ i := Nat.lt_pow_two_of_testBit _ fun j hj => by
    rw [Nat.testBit_mod_two_pow]
    by_cases hji : j < i + 1
    · have : j = i := by omega
      rw [this, hx, Bool.and_false]
    · rw [decide_eq_false hji, Bool.false_and]
  have h2 : y % 2 ^ (i + 1) ≥ 2 ^ i := Nat.ge_two_pow_of_testBit (by rw [Nat.testBit_mod_two_pow, hy, decide_eq_true (by omega)]; rfl)
  have e1 := Nat.div_add_mod x (2 ^ (i + 1))
  have e2 := Nat.div_add_mod y (2 ^ (i + 1))
  rw [e] at e1
  omega
/-- the program's way to a basis -/
theorem min_red (v o : Nat) (ho : o ≠ 0) : min v (v ^^^ o) = if v.testBit o.log2 = true then v ^^^ o else v := by
  have h1 : o.testBit o.log2 = true := Nat.testBit_log2 ho
  have h2 : ∀ j, o.log2 < j → o.testBit j = false := fun j hj => Nat.testBit_lt_two_pow (Nat.lt_of_lt_of_le Nat.lt_log2_self (Nat.pow_le_pow_right (by decide) hj))
  by_cases h : v.testBit o.log2 = true
  · rw [if_pos h]
    have : v ^^^ o < v := lt_of_bit o.log2 (by rw [Nat.testBit_xor, h, h1]; rfl) h fun j hj => by rw [Nat.testBit_xor, h2 j hj]; simp
    omega
  · rw [if_neg h]
    have hf : v.testBit o.log2 = false := by simpa using h
    have : v < v ^^^ o := lt_of_bit o.log2 hf (by rw [Nat.testBit_xor, hf, h1]; rfl) fun j hj => by rw [Nat.testBit_xor, h2 j hj]; simp
    omega
noncomputable def Ech : List Nat → Prop
  | [] => True
  | o :: b => o ≠ 0 ∧ (∀ u ∈ b, u.testBit o.log2 = false) ∧ Ech b
theorem red_bit {t : Nat} : ∀ (b : List Nat) (v : Nat), (∀ u ∈ b, u ≠ 0 ∧ u.testBit t = false) → v.testBit t = false → (redP b v).testBit t = false
  | [], v, _, h => h
  | o :: b, v, hb, h => by
    show (redP b (min v (v ^^^ o))).testBit t = false
    refine red_bit b _ (fun u hu => hb u (List.mem_cons_of_mem _ hu)) ?_
    rw [min_red v o (hb o (by simp)).1]
    split
    · rw [Nat.testBit_xor, h, (hb o (by simp)).2]; rfl
    · exact h
theorem Ech.ne : ∀ {b : List Nat}, Ech b → ∀ u ∈ b, u ≠ 0
  | o :: b, h, u, hu => by
    rcases List.mem_cons.mp hu with rfl | hu
    · exact h.1
    · exact Ech.ne h.2.2 u hu
theorem red_ok : ∀ (b : List Nat) (v : Nat), Ech b → Sp b (redP b v ^^^ v) ∧ ∀ o ∈ b, (redP b v).testBit o.log2 = false
  | [], v, _ => ⟨by show Sp [] (v ^^^ v); rw [Nat.xor_self]; exact .zero, fun o h => nomatch h⟩
  | o :: b, v, h => by
    have hm := min_red v o h.1
    obtain ⟨h1, h2⟩ := red_ok b (min v (v ^^^ o)) h.2.2
    have h1' : Sp (o :: b) (redP b (min v (v ^^^ o)) ^^^ min v (v ^^^ o)) := h1.sub fun u hu => .mem (List.mem_cons_of_mem _ hu)
    have h3 : Sp (o :: b) (min v (v ^^^ o) ^^^ v) := by
      rw [hm]
      split
      · rw [Nat.xor_comm v o, xor_self_right]; exact .mem (by simp)
      · rw [Nat.xor_self]; exact .zero
    refine ⟨?_, fun u hu => ?_⟩
    · show Sp (o :: b) (redP b (min v (v ^^^ o)) ^^^ v)
      have := h1'.xor h3
      rwa [← Nat.xor_assoc, xor_self_right] at this
    · rcases List.mem_cons.mp hu with rfl | hu
      · show (redP b (min v (v ^^^ u))).testBit u.log2 = false
        refine red_bit b _ (fun x hx => ⟨Ech.ne h.2.2 x hx, h.2.1 x hx⟩) ?_
        rw [hm]
        split
        · rename_i hb
          rw [Nat.testBit_xor, hb, Nat.testBit_log2 h.1]; rfl
        · rename_i hb
          simpa using hb
      · exact h2 u hu
theorem ech_zero : ∀ {b : List Nat} {w : Nat}, Ech b → Sp b w → (∀ o ∈ b, w.testBit o.log2 = false) → w = 0
  | [], w, _, h, _ => by
    cases h with
    | zero => rfl
    | add hm _ => cases hm
  | o :: b, w, he, h, hb => by
    rcases Sp.cons_iff.mp h with h | h
    · exact ech_zero he.2.2 h fun u hu => hb u (List.mem_cons_of_mem _ hu)
    · have h1 := Sp.bit he.2.1 h
      rw [Nat.testBit_xor, hb o (by simp), Nat.testBit_log2 he.1] at h1
      cases h1
theorem red_zero {b : List Nat} {v : Nat} (h : Ech b) : redP b v = 0 ↔ Sp b v := by
  obtain ⟨h1, h2⟩ := red_ok b v h
  constructor
  · intro e; rw [e, Nat.zero_xor] at h1; exact h1
  · intro e
    have := h1.xor e
    rw [xor_self_right] at this
    exact ech_zero h this h2
theorem Ech.snoc : ∀ {b : List Nat} {w : Nat}, Ech b → w ≠ 0 → (∀ o ∈ b, w.testBit o.log2 = false) → Ech (b ++ [w])
  | [], w, _, h, _ => ⟨h, (fun u hu => by cases hu), trivial⟩
  | o :: b, w, he, h, hb => by
    refine ⟨he.1, fun u hu => ?_, Ech.snoc he.2.2 h fun u hu => hb u (List.mem_cons_of_mem _ hu)⟩
    rcases List.mem_append.mp hu with q | q
    · exact he.2.1 u q
    · cases List.mem_singleton.mp q; exact hb o (by simp)
structure RunOk (c : Nat) (b vs : List Nat) : Prop where
  ech : Ech b
  sp : ∀ x, Sp b x ↔ Sp vs x
  rank : HasRank vs b.length
  cnt : c = vs.length
theorem RunOk.step {c : Nat} {b vs : List Nat} {size f : Nat} (h : RunOk c b vs) : RunOk (faceStep size (c, b) f).1 (faceStep size (c, b) f).2 (if popP f = size then vecP f :: vs else vs) := by
  unfold faceStep
  by_cases hp : popP f = size
  · rw [if_pos hp, if_pos hp]
    obtain ⟨r1, r2⟩ := red_ok b (vecP f) h.ech
    by_cases hz : redP b (vecP f) = 0
    · rw [if_neg (by simpa using hz)]
      have hs := (h.sp _).mp ((red_zero h.ech).mp hz)
      exact ⟨h.ech, fun x => (h.sp x).trans ⟨fun y => y.sub fun u hu => .mem (List.mem_cons_of_mem _ hu), fun y => y.sub fun u hu => by
        rcases List.mem_cons.mp hu with rfl | hu
        · exact hs
        · exact .mem hu⟩, .dep hs h.rank, by rw [h.cnt]; rfl⟩
    · rw [if_pos hz]
      have hs : ¬ Sp vs (vecP f) := fun q => hz ((red_zero h.ech).mpr ((h.sp _).mpr q))
      refine ⟨h.ech.snoc hz r2, fun x => ⟨fun y => y.sub fun u hu => ?_, fun y => y.sub fun u hu => ?_⟩, ?_, by rw [h.cnt]; rfl⟩
      · rcases List.mem_append.mp hu with q | q
        · exact ((h.sp u).mp (.mem q)).sub fun z hz => .mem (List.mem_cons_of_mem _ hz)
        · cases List.mem_singleton.mp q
          have h1 : Sp (vecP f :: vs) (redP b (vecP f) ^^^ vecP f) := ((h.sp _).mp r1).sub fun z hz => .mem (List.mem_cons_of_mem _ hz)
          have := h1.xor (Sp.mem (vs := vecP f :: vs) (v := vecP f) (by simp))
          rwa [xor_self_right] at this
      · rcases List.mem_cons.mp hu with rfl | hu
        · have h1 : Sp (b ++ [redP b (vecP f)]) (redP b (vecP f) ^^^ vecP f) := r1.sub fun z hz => .mem (List.mem_append_left _ hz)
          have := h1.xor (Sp.mem (vs := b ++ [redP b (vecP f)]) (v := redP b (vecP f)) (by simp))
          rw [Nat.xor_comm (redP b (vecP f)) (vecP f), xor_self_right] at this
          exact this
        · exact ((h.sp u).mpr (.mem hu)).sub fun z hz => .mem (List.mem_append_left _ hz)
      · rw [List.length_append]; exact .ind hs h.rank
  · rw [if_neg hp, if_neg hp]; exact h
theorem run_ok {size : Nat} : ∀ (fs : List Nat) (c : Nat) (b vs : List Nat), RunOk c b vs → ∃ ws, RunOk (fs.foldl (faceStep size) (c, b)).1 (fs.foldl (faceStep size) (c, b)).2 ws ∧ ws.length = ((fs.filter fun f => popP f = size)).length + vs.length ∧ ∀ x, x ∈ ws ↔ x ∈ vs ∨ ∃ f ∈ fs, popP f = size ∧ vecP f = x
  | [], c, b, vs, h => ⟨vs, h, by simp, fun x => by simp⟩
  | f :: fs, c, b, vs, h => by
    obtain ⟨ws, h1, h2, h3⟩ := run_ok fs _ _ _ (h.step (size := size) (f := f))
    refine ⟨ws, h1, ?_, fun x => ?_⟩
    · rw [h2]
      by_cases hp : popP f = size
      · rw [if_pos hp, List.filter_cons_of_pos (by simpa using hp)]; simp; omega
      · rw [if_neg hp, List.filter_cons_of_neg (by simpa using hp)]
    · rw [h3]
      by_cases hp : popP f = size
      · rw [if_pos hp]
        constructor
        · rintro (h | ⟨g, hg, e⟩)
          · rcases List.mem_cons.mp h with rfl | h
            · exact .inr ⟨f, by simp, hp, rfl⟩
            · exact .inl h
          · exact .inr ⟨g, by simp [hg], e⟩
        · rintro (h | ⟨g, hg, e1, e2⟩)
          · exact .inl (List.mem_cons_of_mem _ h)
          · rcases List.mem_cons.mp hg with rfl | hg
            · exact .inl (by rw [e2]; simp)
            · exact .inr ⟨g, hg, e1, e2⟩
      · rw [if_neg hp]
        constructor
        · rintro (h | ⟨g, hg, e⟩)
          · exact .inl h
          · exact .inr ⟨g, by simp [hg], e⟩
        · rintro (h | ⟨g, hg, e1, e2⟩)
          · exact .inl h
          · rcases List.mem_cons.mp hg with rfl | hg
            · exact absurd e1 hp
            · exact .inr ⟨g, hg, e1, e2⟩
theorem runSize_ok (L : List Nat) (size : Nat) : (runSize L size).1 = ((facesP L).filter fun f => popP f = size).length ∧ (runSize L size).2.length = rk (((facesP L).filter fun f => popP f = size).map vecP) := by
  obtain ⟨ws, h1, h2, h3⟩ := run_ok (size := size) (facesP L) 0 [] [] ⟨trivial, fun _ => Iff.rfl, .nil, rfl⟩
  refine ⟨?_, ?_⟩
  · unfold runSize; rw [h1.cnt, h2]; rfl
  · unfold runSize
    rw [← rk_eq h1.rank]
    refine rk_congr (fun v hv => ?_) fun v hv => ?_
    · rcases (h3 v).mp hv with h | ⟨f, hf, e1, e2⟩
      · cases h
      · exact .mem (List.mem_map.mpr ⟨f, List.mem_filter.mpr ⟨hf, by simpa using e1⟩, e2⟩)
    · obtain ⟨f, hf, e⟩ := List.mem_map.mp hv
      obtain ⟨hf1, hf2⟩ := List.mem_filter.mp hf
      exact .mem ((h3 v).mpr (.inr ⟨f, hf1, by simpa using hf2, e⟩))
end Mine
end
section
set_option Elab.async false
set_option maxRecDepth 100000
set_option maxHeartbeats 8000000
set_option linter.unusedVariables false
set_option genSizeOf false
namespace Mine
open Classical
noncomputable def bt (k : Nat) : Nat := 1 <<< k
theorem bt_bit (k j : Nat) : (bt k).testBit j = decide (k = j) := by
  unfold bt; rw [Nat.one_shiftLeft, Nat.testBit_two_pow]
theorem tog_bit (f k j : Nat) : (f ^^^ bt k).testBit j = (f.testBit j ^^ decide (k = j)) := by rw [Nat.testBit_xor, bt_bit]
theorem tog_tog (f k : Nat) : (f ^^^ bt k) ^^^ bt k = f := xor_self_right f (bt k)
noncomputable def bd (f : Nat) : Nat := (List.range 10).foldl (fun x k => if f.testBit k then x ^^^ bt (f ^^^ bt k) else x) 0
noncomputable def pc (f : Nat) : Nat := ((List.range 10).filter fun k => f.testBit k).length
theorem bt_inj {j k : Nat} (h : bt j = bt k) : j = k := by
  have h1 := bt_bit j j
  rw [h, bt_bit, decide_eq_true rfl] at h1
  exact (of_decide_eq_true h1).symm
theorem tog_inj {f j k : Nat} (h : f ^^^ bt j = f ^^^ bt k) : j = k := by
  have := congrArg (f ^^^ ·) h
  simp only [← Nat.xor_assoc, Nat.xor_self, Nat.zero_xor] at this
  exact bt_inj this
theorem fold_any (f g : Nat) : ∀ (l : List Nat) (x : Nat), l.Nodup → (l.foldl (fun x k => if f.testBit k then x ^^^ bt (f ^^^ bt k) else x) x).testBit g = (x.testBit g ^^ l.any fun k => f.testBit k && decide (f ^^^ bt k = g))
  | [], x, _ => by simp
  | i :: l, x, hn => by
    have hn' := List.nodup_cons.mp hn
    rw [List.foldl_cons, fold_any f g l _ hn'.2, List.any_cons]
    have hx : (if f.testBit i = true then x ^^^ bt (f ^^^ bt i) else x).testBit g = (x.testBit g ^^ (f.testBit i && decide (f ^^^ bt i = g))) := by
      by_cases h : f.testBit i = true
      · rw [if_pos h, Nat.testBit_xor, bt_bit, h, Bool.true_and]
      · rw [if_neg h]
        have : f.testBit i = false := by simpa using h
        rw [this]; simp
    rw [hx]
    by_cases h : (f.testBit i && decide (f ^^^ bt i = g)) = true
    · rw [h]
      have hg : f ^^^ bt i = g := by rw [Bool.and_eq_true] at h; exact of_decide_eq_true h.2
      have : (l.any fun k => f.testBit k && decide (f ^^^ bt k = g)) = false := List.any_eq_false.mpr fun j hj => by
        have hji : j ≠ i := fun e => hn'.1 (e ▸ hj)
        rw [decide_eq_false (fun e => hji (tog_inj (e.trans hg.symm)))]; simp
      rw [this]; simp
    · have h' : (f.testBit i && decide (f ^^^ bt i = g)) = false := by simpa using h
      rw [h']; simp
theorem bd_has (U : Nat) (_ : U < 1024) (x : Nat) (hx : x < 10) (hb : U.testBit x = true) : (bd U).testBit (U ^^^ bt x) = true := by
  unfold bd
  rw [fold_any U _ _ 0 List.nodup_range, Nat.zero_testBit, Bool.false_xor]
  exact List.any_eq_true.mpr ⟨x, List.mem_range.mpr hx, by rw [hb]; simp⟩
theorem fold_par (U g : Nat) (D : Nat → Nat) : ∀ (l : List Nat) (x : Nat), (l.foldl (fun x k => if U.testBit k then x ^^^ D k else x) x).testBit g = (x.testBit g ^^ l.foldr (fun k b => (U.testBit k && (D k).testBit g) ^^ b) false)
  | [], x => by simp
  | k :: l, x => by
    rw [List.foldl_cons, fold_par U g D l, List.foldr_cons]
    cases h : U.testBit k with
    | true => rw [if_pos rfl, Nat.testBit_xor]; simp
    | false => rw [if_neg (by decide)]; simp
theorem par_none {c : Nat → Bool} : ∀ l : List Nat, (∀ k ∈ l, c k = false) → l.foldr (fun k b => c k ^^ b) false = false
  | [], _ => rfl
  | k :: l, h => by rw [List.foldr_cons, h k (by simp), par_none l fun j hj => h j (by simp [hj])]; rfl
theorem par_one {c : Nat → Bool} {a : Nat} : ∀ l : List Nat, l.Nodup → a ∈ l → c a = true → (∀ k ∈ l, k ≠ a → c k = false) → l.foldr (fun k b => c k ^^ b) false = true
  | k :: l, hn, hm, ha, h => by
    have hn' := List.nodup_cons.mp hn
    by_cases e : k = a
    · subst e
      rw [List.foldr_cons, ha, par_none l fun j hj => h j (by simp [hj]) fun e => hn'.1 (e ▸ hj)]; rfl
    · rw [List.foldr_cons, h k (by simp) e, par_one l hn'.2 ((List.mem_cons.mp hm).resolve_left fun q => e q.symm) ha fun j hj => h j (by simp [hj])]; rfl
theorem par_two {c : Nat → Bool} {a b : Nat} (hab : a ≠ b) : ∀ l : List Nat, l.Nodup → a ∈ l → b ∈ l → c a = true → c b = true → (∀ k ∈ l, k ≠ a → k ≠ b → c k = false) → l.foldr (fun k b => c k ^^ b) false = false
  | k :: l, hn, hma, hmb, ha, hb, h => by
    have hn' := List.nodup_cons.mp hn
    by_cases e : k = a
    · subst e
      rw [List.foldr_cons, ha, par_one (a := b) l hn'.2 ((List.mem_cons.mp hmb).resolve_left fun q => hab q.symm) hb fun j hj hjb => h j (by simp [hj]) (fun e => hn'.1 (e ▸ hj)) hjb]; rfl
    · by_cases e2 : k = b
      · subst e2
        rw [List.foldr_cons, hb, par_one (a := a) l hn'.2 ((List.mem_cons.mp hma).resolve_left fun q => hab q) ha fun j hj hja => h j (by simp [hj]) hja fun e => hn'.1 (e ▸ hj)]; rfl
      · rw [List.foldr_cons, h k (by simp) e e2, par_two hab l hn'.2 ((List.mem_cons.mp hma).resolve_left fun q => e q.symm) ((List.mem_cons.mp hmb).resolve_left fun q => e2 q.symm) ha hb fun j hj => h j (by simp [hj])]; rfl
theorem bd_iff {f g : Nat} : (bd f).testBit g = true ↔ ∃ k, k < 10 ∧ f.testBit k = true ∧ g = f ^^^ bt k := by
  unfold bd
  rw [fold_any f g _ 0 List.nodup_range, Nat.zero_testBit, Bool.false_xor, List.any_eq_true]
  constructor
  · rintro ⟨k, hk, h⟩
    rw [Bool.and_eq_true, decide_eq_true_eq] at h
    exact ⟨k, List.mem_range.mp hk, h.1, h.2.symm⟩
  · rintro ⟨k, hk, h1, h2⟩
    exact ⟨k, List.mem_range.mpr hk, by rw [h1, h2]; simp⟩
theorem pair_eq {a b k j : Nat} (hab : a ≠ b) (h : bt a ^^^ bt b = bt k ^^^ bt j) : k = a ∨ k = b := by
  by_cases h1 : k = a
  · exact .inl h1
  · by_cases h2 : k = b
    · exact .inr h2
    · have e1 := congrArg (fun z => z.testBit k) h
      simp only [Nat.testBit_xor, bt_bit] at e1
      rw [decide_eq_false (Ne.symm h1), decide_eq_false (Ne.symm h2)] at e1
      have hjk : j = k := by simpa using e1
      have e2 := congrArg (fun z => z.testBit a) h
      simp only [Nat.testBit_xor, bt_bit] at e2
      rw [decide_eq_false (Ne.symm hab), decide_eq_false h1, hjk, decide_eq_false h1] at e2
      simp at e2
theorem bd_bd (U : Nat) (_ : U < 1024) : (List.range 10).foldl (fun x k => if U.testBit k then x ^^^ bd (U ^^^ bt k) else x) 0 = 0 := by
  refine Nat.eq_of_testBit_eq fun g => ?_
  rw [fold_par U g (fun k => bd (U ^^^ bt k)), Nat.zero_testBit, Bool.false_xor]
  by_cases hex : ∃ a, a < 10 ∧ U.testBit a = true ∧ (bd (U ^^^ bt a)).testBit g = true
  · obtain ⟨a, ha, hUa, hba⟩ := hex
    obtain ⟨b, hb, hUb, hg⟩ := bd_iff.mp hba
    have hab : a ≠ b := fun e => by
      subst e
      rw [tog_bit, hUa] at hUb
      simp at hUb
    have hUb' : U.testBit b = true := by rw [tog_bit, decide_eq_false hab, Bool.xor_false] at hUb; exact hUb
    have hbb : (bd (U ^^^ bt b)).testBit g = true := bd_iff.mpr ⟨a, ha, by rw [tog_bit, hUa, decide_eq_false (Ne.symm hab)]; rfl, by rw [hg, Nat.xor_assoc, Nat.xor_comm (bt a), ← Nat.xor_assoc]⟩
    refine par_two hab _ List.nodup_range (List.mem_range.mpr ha) (List.mem_range.mpr hb) (by rw [hUa, hba]; rfl) (by rw [hUb', hbb]; rfl) fun k hk h1 h2 => ?_
    cases hc : (U.testBit k && (bd (U ^^^ bt k)).testBit g) with
    | false => rfl
    | true =>
      rw [Bool.and_eq_true] at hc
      obtain ⟨j, hj, hUj, hg'⟩ := bd_iff.mp hc.2
      have e : bt a ^^^ bt b = bt k ^^^ bt j := by
        have e := hg.symm.trans hg'
        rw [Nat.xor_assoc, Nat.xor_assoc] at e
        have := congrArg (U ^^^ ·) e
        simp only [← Nat.xor_assoc, Nat.xor_self, Nat.zero_xor] at this
        exact this
      rcases pair_eq hab e with q | q
      · exact absurd q h1
      · exact absurd q h2
  · refine par_none _ fun k hk => ?_
    cases hc : (U.testBit k && (bd (U ^^^ bt k)).testBit g) with
    | false => rfl
    | true =>
      rw [Bool.and_eq_true] at hc
      exact absurd ⟨k, List.mem_range.mp hk, hc.1, hc.2⟩ hex
theorem filt_none (V x : Nat) (l : List Nat) (h : x ∉ l) : (l.filter fun k => (V ^^^ bt x).testBit k) = l.filter fun k => V.testBit k :=
  List.filter_congr fun a ha => by
    have : ¬ x = a := fun e => h (e ▸ ha)
    rw [tog_bit, decide_eq_false this, Bool.xor_false]
theorem filt_one (V x : Nat) (hb : V.testBit x = false) : ∀ l : List Nat, l.Nodup → x ∈ l → (l.filter fun k => (V ^^^ bt x).testBit k).length = (l.filter fun k => V.testBit k).length + 1
  | a :: l, hn, hm => by
    have hn' := List.nodup_cons.mp hn
    by_cases e : a = x
    · subst e
      have h1 : (V ^^^ bt a).testBit a = true := by rw [tog_bit, hb]; simp
      rw [List.filter_cons_of_pos h1, List.filter_cons_of_neg (by rw [hb]; decide), List.length_cons, filt_none V a l hn'.1]
    · have ih := filt_one V x hb l hn'.2 ((List.mem_cons.mp hm).resolve_left fun h => e h.symm)
      have h1 : (V ^^^ bt x).testBit a = V.testBit a := by rw [tog_bit, decide_eq_false (Ne.symm e), Bool.xor_false]
      by_cases hv : V.testBit a = true
      · rw [List.filter_cons_of_pos (by rw [h1]; exact hv), List.filter_cons_of_pos hv, List.length_cons, List.length_cons, ih]
      · rw [List.filter_cons_of_neg (by rw [h1]; exact hv), List.filter_cons_of_neg hv, ih]
theorem pc_tog (V : Nat) (_ : V < 1024) (x : Nat) (hx : x < 10) (hb : V.testBit x = false) : pc (V ^^^ bt x) = pc V + 1 := by
  unfold pc
  exact filt_one V x hb _ List.nodup_range (List.mem_range.mpr hx)
theorem pc_le (f : Nat) : pc f ≤ 10 := Nat.le_trans (List.length_filter_le _ _) (by simp)
theorem tog_lt {f k : Nat} (h : f < 1024) (hk : k < 10) : f ^^^ bt k < 1024 := by
  refine Nat.xor_lt_two_pow (n := 10) h ?_
  unfold bt
  rw [Nat.one_shiftLeft]
  exact Nat.pow_lt_pow_right (by decide) hk
theorem bit_lt {f k : Nat} (h : f < 1024) (hk : f.testBit k = true) : k < 10 := by
  rcases Nat.lt_or_ge k 10 with q | q
  · exact q
  · have : f.testBit k = false := Nat.testBit_lt_two_pow (Nat.lt_of_lt_of_le h (Nat.pow_le_pow_right (n := 2) (by decide) q : 2 ^ 10 ≤ 2 ^ k))
    rw [this] at hk; cases hk
theorem fold_bit (f g : Nat) : ∀ (l : List Nat) (x : Nat), (l.foldl (fun x k => if f.testBit k then x ^^^ bt (f ^^^ bt k) else x) x).testBit g = true → x.testBit g = true ∨ ∃ k ∈ l, f.testBit k = true ∧ g = f ^^^ bt k
  | [], x, h => .inl h
  | k :: l, x, h => by
    rcases fold_bit f g l _ h with h | ⟨j, hj, e⟩
    · by_cases hk : f.testBit k = true
      · dsimp only at h
        rw [if_pos hk, Nat.testBit_xor, bt_bit] at h
        by_cases e : f ^^^ bt k = g
        · exact .inr ⟨k, by simp, hk, e.symm⟩
        · rw [decide_eq_false e, Bool.xor_false] at h; exact .inl h
      · dsimp only at h
        rw [if_neg hk] at h; exact .inl h
    · exact .inr ⟨j, by simp [hj], e⟩
theorem bd_bit {f g : Nat} (h : (bd f).testBit g = true) : ∃ k, k < 10 ∧ f.testBit k = true ∧ g = f ^^^ bt k := by
  rcases fold_bit f g _ _ h with h | ⟨k, hk, e⟩
  · simp at h
  · exact ⟨k, List.mem_range.mp hk, e⟩
structure Cpx (p : Nat → Prop) : Prop where
  lt : ∀ f, p f → f < 1024
  dn : ∀ f k, p f → f.testBit k = true → p (f ^^^ bt k)
noncomputable def fs (p : Nat → Prop) (s : Nat) : List Nat := (List.range 1024).filter fun f => @decide (p f ∧ pc f = s) (propDecidable _)
theorem mem_fs {p : Nat → Prop} {s f : Nat} : f ∈ fs p s ↔ f < 1024 ∧ p f ∧ pc f = s := by
  unfold fs; rw [List.mem_filter, List.mem_range, @decide_eq_true_eq _ (propDecidable _)]
noncomputable def rkC (p : Nat → Prop) (s : Nat) : Nat := rk ((fs p s).map bd)
noncomputable def hol (p : Nat → Prop) (s : Nat) : Int := ((fs p s).length : Int) - rkC p s - rkC p (s + 1)
theorem hol_congr {p q : Nat → Prop} (h : ∀ f, p f ↔ q f) (s : Nat) : hol p s = hol q s := by
  have : p = q := funext fun f => propext (h f)
  rw [this]
theorem filter_one (V : Nat) : ∀ (l : List Nat), l.Nodup → V ∈ l → ∀ q q' : Nat → Prop, (∀ f, q f ↔ q' f ∨ f = V) → ¬ q' V → (l.filter fun f => decide (q f)).length = (l.filter fun f => decide (q' f)).length + 1
  | a :: l, hn, hm, q, q', hq, hV => by
    have hn' := List.nodup_cons.mp hn
    by_cases e : a = V
    · subst e
      rw [List.filter_cons_of_pos (by simpa using (hq a).mpr (.inr rfl)), List.filter_cons_of_neg (by simpa using hV), List.length_cons]
      congr 2
      refine List.filter_congr fun f hf => ?_
      have : f ≠ a := fun e => hn'.1 (e ▸ hf)
      exact decide_eq_decide.mpr ((hq f).trans (or_iff_left this))
    · have hm' : V ∈ l := (List.mem_cons.mp hm).resolve_left fun h => e h.symm
      have ih := filter_one V l hn'.2 hm' q q' hq hV
      by_cases hqa : q' a
      · rw [List.filter_cons_of_pos (by simpa using (hq a).mpr (.inl hqa)), List.filter_cons_of_pos (by simpa using hqa), List.length_cons, List.length_cons, ih]
      · rw [List.filter_cons_of_neg (by simpa using fun h => ((hq a).mp h).elim hqa e), List.filter_cons_of_neg (by simpa using hqa), ih]
theorem fold_sp (U : Nat) (P : List Nat) : ∀ (l : List Nat) (x : Nat), (∀ k ∈ l, U.testBit k = true → Sp P (bd (U ^^^ bt k))) → Sp P x → Sp P (l.foldl (fun x k => if U.testBit k then x ^^^ bd (U ^^^ bt k) else x) x)
  | [], x, _, h => h
  | k :: l, x, hl, h => by
    refine fold_sp U P l _ (fun j hj => hl j (by simp [hj])) ?_
    by_cases hk : U.testBit k = true
    · dsimp only; rw [if_pos hk]; exact h.xor (hl k (by simp) hk)
    · dsimp only; rw [if_neg hk]; exact h
/-- an elementary collapse -/
theorem collapse {p : Nat → Prop} (C : Cpx p) {V x : Nat} (hx : x < 10) (hV : V.testBit x = false) (hU : p (V ^^^ bt x)) (free : ∀ k, k < 10 → V.testBit k = false → p (V ^^^ bt k) → k = x) :
    Cpx (fun f => p f ∧ f ≠ V ^^^ bt x ∧ f ≠ V) ∧ ∀ s, hol p s = hol (fun f => p f ∧ f ≠ V ^^^ bt x ∧ f ≠ V) s := by
  have hUx : (V ^^^ bt x).testBit x = true := by rw [tog_bit, hV]; simp
  have pV : p V := by have := C.dn _ x hU hUx; rwa [tog_tog] at this
  have ltV := C.lt _ pV
  have ltU := C.lt _ hU
  have hpc := pc_tog V ltV x hx hV
  have hne : V ^^^ bt x ≠ V := fun e => by rw [e, hV] at hUx; cases hUx
  -- nothing lies above U
  have top : ∀ k, k < 10 → (V ^^^ bt x).testBit k = false → ¬ p ((V ^^^ bt x) ^^^ bt k) := fun k hk hb hp => by
    have hkx : k ≠ x := fun e => by rw [e, hUx] at hb; cases hb
    have h1 : ((V ^^^ bt x) ^^^ bt k).testBit x = true := by rw [tog_bit, hUx, decide_eq_false hkx]; rfl
    have h2 := C.dn _ x hp h1
    have e : ((V ^^^ bt x) ^^^ bt k) ^^^ bt x = V ^^^ bt k := by rw [Nat.xor_assoc, Nat.xor_comm (bt k), ← Nat.xor_assoc, tog_tog]
    rw [e] at h2
    have hVk : V.testBit k = false := by rw [tog_bit, decide_eq_false (Ne.symm hkx)] at hb; simpa using hb
    exact hkx (free k hk hVk h2)
  have up : ∀ f k, p f → f.testBit k = true → f ^^^ bt k = V → f = V ^^^ bt x := fun f k hf hk e => by
    have hk10 := bit_lt (C.lt _ hf) hk
    have e1 : f = V ^^^ bt k := by rw [← e, tog_tog]
    have hVk : V.testBit k = false := by rw [← e, tog_bit, hk]; simp
    rw [e1] at hf
    rw [e1, free k hk10 hVk hf]
  have up2 : ∀ f k, p f → f.testBit k = true → f ^^^ bt k ≠ V ^^^ bt x := fun f k hf hk e => by
    have hk10 := bit_lt (C.lt _ hf) hk
    have e1 : f = (V ^^^ bt x) ^^^ bt k := by rw [← e, tog_tog]
    refine top k hk10 ?_ (e1 ▸ hf)
    rw [← e, tog_bit, hk]; simp
  refine ⟨⟨fun f h => C.lt f h.1, fun f k h hk => ⟨C.dn f k h.1 hk, up2 f k h.1 hk, fun e => h.2.1 (up f k h.1 hk e)⟩⟩, ?_⟩
  -- the counts
  have cO : ∀ s, s ≠ pc V → s ≠ pc V + 1 → fs p s = fs (fun f => p f ∧ f ≠ V ^^^ bt x ∧ f ≠ V) s := fun s h1 h2 => by
    unfold fs
    refine List.filter_congr fun f _ => (@decide_eq_decide _ _ (propDecidable _) (propDecidable _)).mpr ⟨fun h => ⟨⟨h.1, fun e => ?_, fun e => ?_⟩, h.2⟩, fun h => ⟨h.1.1, h.2⟩⟩
    · rw [e, hpc] at h; exact h2 h.2.symm
    · rw [e] at h; exact h1 h.2.symm
  have cV : (fs p (pc V)).length = (fs (fun f => p f ∧ f ≠ V ^^^ bt x ∧ f ≠ V) (pc V)).length + 1 := by
    unfold fs
    refine filter_one V _ List.nodup_range (List.mem_range.mpr ltV) (fun f => p f ∧ pc f = pc V) (fun f => (p f ∧ f ≠ V ^^^ bt x ∧ f ≠ V) ∧ pc f = pc V) (fun f => ⟨fun h => ?_, fun h => ?_⟩) fun h => h.1.2.2 rfl
    · by_cases e : f = V
      · exact .inr e
      · exact .inl ⟨⟨h.1, fun e' => by rw [e', hpc] at h; omega, e⟩, h.2⟩
    · rcases h with h | rfl
      · exact ⟨h.1.1, h.2⟩
      · exact ⟨pV, rfl⟩
  have cU : (fs p (pc V + 1)).length = (fs (fun f => p f ∧ f ≠ V ^^^ bt x ∧ f ≠ V) (pc V + 1)).length + 1 := by
    unfold fs
    refine filter_one (V ^^^ bt x) _ List.nodup_range (List.mem_range.mpr ltU) (fun f => p f ∧ pc f = pc V + 1) (fun f => (p f ∧ f ≠ V ^^^ bt x ∧ f ≠ V) ∧ pc f = pc V + 1) (fun f => ⟨fun h => ?_, fun h => ?_⟩) fun h => h.1.2.1 rfl
    · by_cases e : f = V ^^^ bt x
      · exact .inr e
      · exact .inl ⟨⟨h.1, e, fun e' => by rw [e'] at h; omega⟩, h.2⟩
    · rcases h with h | rfl
      · exact ⟨h.1.1, h.2⟩
      · exact ⟨hU, hpc⟩
  -- the ranks
  have rO : ∀ s, s ≠ pc V → s ≠ pc V + 1 → rkC p s = rkC (fun f => p f ∧ f ≠ V ^^^ bt x ∧ f ≠ V) s := fun s h1 h2 => by unfold rkC; rw [cO s h1 h2]
  have rV : rkC p (pc V) = rkC (fun f => p f ∧ f ≠ V ^^^ bt x ∧ f ≠ V) (pc V) := by
    unfold rkC
    have hsp : Sp ((fs (fun f => p f ∧ f ≠ V ^^^ bt x ∧ f ≠ V) (pc V)).map bd) (bd V) := by
      have hz := bd_bd _ ltU
      have key : ∀ l : List Nat, ∀ y, l.Nodup → (x ∈ l → Sp ((fs (fun f => p f ∧ f ≠ V ^^^ bt x ∧ f ≠ V) (pc V)).map bd) (y ^^^ bd V ^^^ l.foldl (fun x' k => if (V ^^^ bt x).testBit k then x' ^^^ bd ((V ^^^ bt x) ^^^ bt k) else x') y)) ∧
          (x ∉ l → Sp ((fs (fun f => p f ∧ f ≠ V ^^^ bt x ∧ f ≠ V) (pc V)).map bd) (y ^^^ l.foldl (fun x' k => if (V ^^^ bt x).testBit k then x' ^^^ bd ((V ^^^ bt x) ^^^ bt k) else x') y)) := by
        intro l
        induction l with
        | nil => intro y _; exact ⟨(fun h => by cases h), (fun _ => by show Sp _ (y ^^^ y); rw [Nat.xor_self]; exact .zero)⟩
        | cons k l ih =>
          intro y hn
          have hn' := List.nodup_cons.mp hn
          rw [List.foldl_cons]
          by_cases hk : k = x
          · subst hk
            rw [if_pos hUx, tog_tog]
            refine ⟨fun _ => ?_, fun h => absurd (by simp) h⟩
            exact (ih (y ^^^ bd V) hn'.2).2 hn'.1
          · have hkk : ∀ z, Sp ((fs (fun f => p f ∧ f ≠ V ^^^ bt x ∧ f ≠ V) (pc V)).map bd) z → True := fun _ _ => trivial
            by_cases hb : (V ^^^ bt x).testBit k = true
            · rw [if_pos hb]
              have hk10 := bit_lt ltU hb
              have hm : Sp ((fs (fun f => p f ∧ f ≠ V ^^^ bt x ∧ f ≠ V) (pc V)).map bd) (bd ((V ^^^ bt x) ^^^ bt k)) := by
                refine .mem (List.mem_map_of_mem (mem_fs.mpr ⟨tog_lt ltU hk10, ⟨C.dn _ _ hU hb, up2 _ _ hU hb, fun e => ?_⟩, ?_⟩))
                · have := congrArg (fun z => z.testBit x) e
                  simp only [tog_bit, hV, decide_eq_false hk] at this
                  simp at this
                · have h1 : ((V ^^^ bt x) ^^^ bt k).testBit k = false := by rw [tog_bit, hb]; simp
                  have := pc_tog _ (tog_lt ltU hk10) k hk10 h1
                  rw [tog_tog, hpc] at this
                  omega
              obtain ⟨i1, i2⟩ := ih (y ^^^ bd ((V ^^^ bt x) ^^^ bt k)) hn'.2
              have sw : ∀ a b c : Nat, a ^^^ b ^^^ c = (a ^^^ c) ^^^ b := fun a b c => by rw [Nat.xor_assoc, Nat.xor_comm b c, ← Nat.xor_assoc]
              refine ⟨fun h => ?_, fun h => ?_⟩
              · have := (i1 ((List.mem_cons.mp h).resolve_left fun e => hk e.symm)).xor hm
                rw [sw, sw y (bd ((V ^^^ bt x) ^^^ bt k)) (bd V), xor_self_right] at this
                exact this
              · have := (i2 fun q => h (by simp [q])).xor hm
                rw [sw, xor_self_right] at this
                exact this
            · rw [if_neg hb]
              obtain ⟨i1, i2⟩ := ih y hn'.2
              exact ⟨fun h => i1 ((List.mem_cons.mp h).resolve_left fun e => hk e.symm), fun h => i2 fun q => h (by simp [q])⟩
      have := (key (List.range 10) 0 List.nodup_range).1 (List.mem_range.mpr hx)
      rw [hz, Nat.zero_xor, Nat.xor_zero] at this
      exact this
    rw [← rk_dep hsp]
    refine rk_congr (fun v hv => ?_) fun v hv => ?_
    · obtain ⟨f, hf, rfl⟩ := List.mem_map.mp hv
      obtain ⟨a1, a2, a3⟩ := mem_fs.mp hf
      by_cases e : f = V
      · rw [e]; exact .mem (by simp)
      · exact .mem (List.mem_cons_of_mem _ (List.mem_map_of_mem (mem_fs.mpr ⟨a1, ⟨a2, fun e' => by rw [e', hpc] at a3; omega, e⟩, a3⟩)))
    · rcases List.mem_cons.mp hv with rfl | hv
      · exact .mem (List.mem_map_of_mem (mem_fs.mpr ⟨ltV, pV, rfl⟩))
      · obtain ⟨f, hf, rfl⟩ := List.mem_map.mp hv
        obtain ⟨a1, a2, a3⟩ := mem_fs.mp hf
        exact .mem (List.mem_map_of_mem (mem_fs.mpr ⟨a1, a2.1, a3⟩))
  have rU : rkC p (pc V + 1) = rkC (fun f => p f ∧ f ≠ V ^^^ bt x ∧ f ≠ V) (pc V + 1) + 1 := by
    unfold rkC
    have hni : ¬ Sp ((fs (fun f => p f ∧ f ≠ V ^^^ bt x ∧ f ≠ V) (pc V + 1)).map bd) (bd (V ^^^ bt x)) := fun h => by
      have hb := Sp.bit (t := V) (fun v hv => by
        obtain ⟨f, hf, rfl⟩ := List.mem_map.mp hv
        obtain ⟨a1, a2, a3⟩ := mem_fs.mp hf
        cases hq : (bd f).testBit V with
        | false => rfl
        | true =>
          obtain ⟨k, hk, hfk, e⟩ := bd_bit hq
          exact absurd (up f k a2.1 hfk e.symm) a2.2.1) h
      have := bd_has _ ltU x hx hUx
      rw [tog_tog, hb] at this
      cases this
    rw [← rk_ind hni]
    refine rk_congr (fun v hv => ?_) fun v hv => ?_
    · obtain ⟨f, hf, rfl⟩ := List.mem_map.mp hv
      obtain ⟨a1, a2, a3⟩ := mem_fs.mp hf
      by_cases e : f = V ^^^ bt x
      · rw [e]; exact .mem (by simp)
      · exact .mem (List.mem_cons_of_mem _ (List.mem_map_of_mem (mem_fs.mpr ⟨a1, ⟨a2, e, fun e' => by rw [e'] at a3; omega⟩, a3⟩)))
    · rcases List.mem_cons.mp hv with rfl | hv
      · exact .mem (List.mem_map_of_mem (mem_fs.mpr ⟨ltU, hU, hpc⟩))
      · obtain ⟨f, hf, rfl⟩ := List.mem_map.mp hv
        obtain ⟨a1, a2, a3⟩ := mem_fs.mp hf
        exact .mem (List.mem_map_of_mem (mem_fs.mpr ⟨a1, a2.1, a3⟩))
  intro s
  unfold hol
  by_cases e1 : s = pc V
  · subst e1
    rw [cV, rV, rU]
    omega
  · by_cases e2 : s = pc V + 1
    · subst e2
      rw [cU, rU, rO (pc V + 1 + 1) (by omega) (by omega)]
      omega
    · by_cases e3 : s + 1 = pc V
      · rw [cO s e1 e2, rO s e1 e2, e3, rV]
      · rw [cO s e1 e2, rO s e1 e2, rO (s + 1) e3 (by omega)]
end Mine
end
section
set_option Elab.async false
set_option maxRecDepth 100000
set_option maxHeartbeats 8000000
set_option linter.unusedVariables false
set_option genSizeOf false
namespace Mine
open Classical
theorem max_pc {P : Nat → Prop} : ∀ (k V : Nat), P V → 10 - pc V ≤ k → ∃ W, P W ∧ ∀ Z, P Z → pc Z ≤ pc W
  | 0, V, h, hk => ⟨V, h, fun Z _ => by have := pc_le Z; omega⟩
  | k + 1, V, h, hk => by
    by_cases hm : ∀ Z, P Z → pc Z ≤ pc V
    · exact ⟨V, h, hm⟩
    · obtain ⟨Z, hZ⟩ := not_forall.mp hm
      obtain ⟨h1, h2⟩ := Classical.not_imp.mp hZ
      have := pc_le Z
      exact max_pc k Z h1 (by omega)
noncomputable def cntS (S : Nat → Prop) : Nat := ((List.range 1024).filter fun f => @decide (S f) (propDecidable _)).length
/-- what is over a vertex is taken away -/
theorem cone {x : Nat} (hx : x < 10) : ∀ (n : Nat) (p S : Nat → Prop), Cpx p → (∀ f, S f → p f) → (∀ f k, S f → k < 10 → f.testBit k = false → p (f ^^^ bt k) → S (f ^^^ bt k)) → (∀ f, S f → S (f ^^^ bt x)) → cntS S ≤ n →
    Cpx (fun f => p f ∧ ¬ S f) ∧ ∀ s, hol p s = hol (fun f => p f ∧ ¬ S f) s := by
  intro n
  induction n with
  | zero =>
    intro p S C hS up tog hn
    have he : ∀ f, ¬ S f := fun f h => by
      have hm : f ∈ (List.range 1024).filter fun f => @decide (S f) (propDecidable _) := List.mem_filter.mpr ⟨List.mem_range.mpr (C.lt f (hS f h)), (@decide_eq_true_eq _ (propDecidable _)).mpr h⟩
      have := List.length_pos_of_mem hm
      unfold cntS at hn
      omega
    have e : (fun f => p f ∧ ¬ S f) = p := funext fun f => propext ⟨fun h => h.1, fun h => ⟨h, he f⟩⟩
    rw [e]; exact ⟨C, fun s => rfl⟩
  | succ n ih =>
    intro p S C hS up tog hn
    by_cases hex : ∃ V, S V ∧ V.testBit x = false
    · obtain ⟨V₀, hV₀⟩ := hex
      obtain ⟨V, ⟨hV, hVx⟩, hmax⟩ := max_pc (P := fun V => S V ∧ V.testBit x = false) 10 V₀ hV₀ (by omega)
      have hU := tog V hV
      have ltV := C.lt V (hS V hV)
      have hne : V ^^^ bt x ≠ V := fun e => by
        have := congrArg (fun z => z.testBit x) e
        simp only [tog_bit, hVx] at this
        simp at this
      obtain ⟨C', hol'⟩ := collapse C hx hVx (hS _ hU) fun k hk hb hp => by
        by_cases e : k = x
        · exact e
        · have h1 := up V k hV hk hb hp
          have h2 : (V ^^^ bt k).testBit x = false := by rw [tog_bit, hVx, decide_eq_false e]; rfl
          have := hmax _ ⟨h1, h2⟩
          rw [pc_tog V ltV k hk hb] at this
          omega
      have ih' := ih (fun f => p f ∧ f ≠ V ^^^ bt x ∧ f ≠ V) (fun f => S f ∧ f ≠ V ^^^ bt x ∧ f ≠ V) C' (fun f h => ⟨hS f h.1, h.2⟩) (fun f k h hk hb hp => ⟨up f k h.1 hk hb hp.1, hp.2⟩)
        (fun f h => ⟨tog f h.1, fun e => h.2.2 (by have := congrArg (· ^^^ bt x) e; simp only [tog_tog] at this; exact this), fun e => h.2.1 (by have := congrArg (· ^^^ bt x) e; simp only [tog_tog] at this; exact this)⟩) ?_
      · obtain ⟨C'', hol''⟩ := ih'
        have e : ∀ f, ((p f ∧ f ≠ V ^^^ bt x ∧ f ≠ V) ∧ ¬ (S f ∧ f ≠ V ^^^ bt x ∧ f ≠ V)) ↔ (p f ∧ ¬ S f) := fun f => by
          constructor
          · exact fun h => ⟨h.1.1, fun q => h.2 ⟨q, h.1.2⟩⟩
          · exact fun h => ⟨⟨h.1, fun e => h.2 (e ▸ hU), fun e => h.2 (e ▸ hV)⟩, fun q => h.2 q.1⟩
        have e' : (fun f => (p f ∧ f ≠ V ^^^ bt x ∧ f ≠ V) ∧ ¬ (S f ∧ f ≠ V ^^^ bt x ∧ f ≠ V)) = (fun f => p f ∧ ¬ S f) := funext fun f => propext (e f)
        rw [e'] at C'' hol''
        exact ⟨C'', fun s => (hol' s).trans (hol'' s)⟩
      · have c1 := filter_one V (List.range 1024) List.nodup_range (List.mem_range.mpr ltV) S (fun f => S f ∧ f ≠ V) (fun f => ⟨fun h => (Classical.em (f = V)).elim .inr fun e => .inl ⟨h, e⟩, fun h => h.elim (fun h => h.1) fun e => e ▸ hV⟩) fun h => h.2 rfl
        have c2 := filter_one (V ^^^ bt x) (List.range 1024) List.nodup_range (List.mem_range.mpr (C.lt _ (hS _ hU))) (fun f => S f ∧ f ≠ V) (fun f => S f ∧ f ≠ V ^^^ bt x ∧ f ≠ V) (fun f => ⟨fun h => (Classical.em (f = V ^^^ bt x)).elim .inr fun e => .inl ⟨h.1, e, h.2⟩, fun h => h.elim (fun h => ⟨h.1, h.2.2⟩) fun e => e ▸ ⟨hU, hne⟩⟩) fun h => h.2.1 rfl
        unfold cntS at hn ⊢
        have c3 : ((List.range 1024).filter fun f => @decide (S f ∧ f ≠ V ^^^ bt x ∧ f ≠ V) (propDecidable _)).length + 1 + 1 ≤ n + 1 := by
          refine Nat.le_trans (Nat.le_of_eq ?_) hn
          rw [c1]
          refine congrArg (· + 1) (Eq.trans ?_ (Eq.trans c2.symm ?_))
          · refine congrArg (· + 1) (congrArg List.length (List.filter_congr fun f _ => ?_))
            exact (@decide_eq_decide _ _ (propDecidable _) (propDecidable _)).mpr Iff.rfl
          · refine congrArg List.length (List.filter_congr fun f _ => ?_)
            exact (@decide_eq_decide _ _ (propDecidable _) (propDecidable _)).mpr Iff.rfl
        exact Nat.le_trans (Nat.le_succ _) (Nat.le_of_succ_le_succ c3)
    · have he : ∀ f, ¬ S f := fun f h => by
        cases hb : f.testBit x with
        | false => exact hex ⟨f, h, hb⟩
        | true => exact hex ⟨f ^^^ bt x, tog f h, by rw [tog_bit, hb]; simp⟩
      have e : (fun f => p f ∧ ¬ S f) = p := funext fun f => propext ⟨fun h => h.1, fun h => ⟨h, he f⟩⟩
      rw [e]; exact ⟨C, fun s => rfl⟩
end Mine
end
section
set_option Elab.async false
set_option maxRecDepth 100000
set_option maxHeartbeats 8000000
set_option linter.unusedVariables false
set_option genSizeOf false
namespace Mine
open Classical
theorem sub_le {a b : Nat} (h : ∀ i, a.testBit i = true → b.testBit i = true) : a ≤ b := by
  have e : a &&& b = a := Nat.eq_of_testBit_eq fun i => by
    rw [Nat.testBit_and]
    cases ha : a.testBit i with
    | false => rfl
    | true => rw [h i ha]; rfl
  rw [← e]; exact Nat.and_le_right
theorem cntS_le (S : Nat → Prop) : cntS S ≤ 1024 := Nat.le_trans (List.length_filter_le _ _) (by simp)
/-- all with a key are taken away, the greatest key first -/
theorem sweep {p : Nat → Prop} (key : Nat → Nat) (C : Cpx p) (mono : ∀ f k, k < 10 → f.testBit k = false → key f ≤ key (f ^^^ bt k)) (ap : ∀ t, 1 ≤ t → ∃ x, x < 10 ∧ ∀ f, p f → key f = t → p (f ^^^ bt x) ∧ key (f ^^^ bt x) = t) :
    ∀ N, (Cpx (fun f => p f ∧ key f ≤ N) → ∀ s, hol (fun f => p f ∧ key f ≤ N) s = hol (fun f => p f ∧ key f = 0) s)
  | 0, C', s => hol_congr (fun f => ⟨fun h => ⟨h.1, Nat.le_zero.mp h.2⟩, fun h => ⟨h.1, Nat.le_of_eq h.2⟩⟩) s
  | N + 1, C', s => by
    obtain ⟨x, hx, hap⟩ := ap (N + 1) (by omega)
    obtain ⟨C2, h2⟩ := cone hx 1024 (fun f => p f ∧ key f ≤ N + 1) (fun f => p f ∧ key f = N + 1) C' (fun f h => ⟨h.1, Nat.le_of_eq h.2⟩) (fun f k h hk hb hp => ⟨hp.1, by
      have := mono f k hk hb
      have := h.2
      have := hp.2
      omega⟩) (fun f h => hap f h.1 h.2) (cntS_le _)
    have e : (fun f => (p f ∧ key f ≤ N + 1) ∧ ¬ (p f ∧ key f = N + 1)) = fun f => p f ∧ key f ≤ N := funext fun f => propext ⟨fun h => ⟨h.1.1, by
      have h1 := h.1.2
      have h2 : key f ≠ N + 1 := fun e => h.2 ⟨h.1.1, e⟩
      omega⟩, fun h => ⟨⟨h.1, by have := h.2; omega⟩, fun q => by have := h.2; have := q.2; omega⟩⟩
    rw [e] at C2 h2
    rw [h2 s]
    exact sweep key C mono ap N C2 s
section
variable (E : Nat → Nat → Prop) (left : Nat → Prop)
/-- the letters' complex, the rows', and both -/
noncomputable def KL (f : Nat) : Prop := f < 32 ∧ (∀ k, f.testBit k = true → left k) ∧ ∃ j, j < 5 ∧ left (5 + j) ∧ ∀ k, f.testBit k = true → E k j
noncomputable def KR (f : Nat) : Prop := f < 1024 ∧ (∀ k, k < 5 → f.testBit k = false) ∧ (∀ j, f.testBit (5 + j) = true → left (5 + j)) ∧ ∃ k, k < 5 ∧ left k ∧ ∀ j, f.testBit (5 + j) = true → E k j
noncomputable def KD (f : Nat) : Prop := f < 1024 ∧ (∀ x, f.testBit x = true → left x) ∧ (∀ k j, k < 5 → f.testBit k = true → f.testBit (5 + j) = true → E k j) ∧ (∃ j, j < 5 ∧ left (5 + j) ∧ ∀ k, k < 5 → f.testBit k = true → E k j) ∧ (∃ k, k < 5 ∧ left k ∧ ∀ j, f.testBit (5 + j) = true → E k j)
end
section
variable {E : Nat → Nat → Prop} {left : Nat → Prop}
theorem tog_sub {f k x : Nat} (hk : f.testBit k = true) (h : (f ^^^ bt k).testBit x = true) : f.testBit x = true := by
  rw [tog_bit] at h
  by_cases e : k = x
  · rw [← e]; exact hk
  · rw [decide_eq_false e, Bool.xor_false] at h; exact h
theorem tog_add {f k x : Nat} (h : (f ^^^ bt k).testBit x = true) : f.testBit x = true ∨ x = k := by
  rw [tog_bit] at h
  by_cases e : k = x
  · exact .inr e.symm
  · rw [decide_eq_false e, Bool.xor_false] at h; exact .inl h
theorem tog_lt' {f k : Nat} (h : f < 1024) (hk : f.testBit k = true) : f ^^^ bt k < 1024 := tog_lt h (bit_lt h hk)
theorem KD.cpx : Cpx (KD E left) :=
  ⟨fun f h => h.1, fun f k h hk => ⟨tog_lt' h.1 hk, fun x hx => h.2.1 x (tog_sub hk hx), fun a b ha h1 h2 => h.2.2.1 a b ha (tog_sub hk h1) (tog_sub hk h2), let ⟨j, a, b, c⟩ := h.2.2.2.1; ⟨j, a, b, fun y hy h1 => c y hy (tog_sub hk h1)⟩, let ⟨j, a, b, c⟩ := h.2.2.2.2; ⟨j, a, b, fun y h1 => c y (tog_sub hk h1)⟩⟩⟩
theorem KL.cpx : Cpx (KL E left) :=
  ⟨fun f h => Nat.lt_trans h.1 (by decide), fun f k h hk => ⟨by
    refine Nat.lt_of_le_of_lt (sub_le fun i hi => tog_sub hk hi) h.1, fun x hx => h.2.1 x (tog_sub hk hx), let ⟨j, a, b, c⟩ := h.2.2; ⟨j, a, b, fun y h1 => c y (tog_sub hk h1)⟩⟩⟩
theorem dowker_L (hl : ∃ k, k < 5 ∧ left k) (s : Nat) : hol (KD E left) s = hol (KL E left) s := by
  have mono : ∀ f k, k < 10 → f.testBit k = false → f >>> 5 ≤ (f ^^^ bt k) >>> 5 := fun f k _ hb => sub_le fun i hi => by
    rw [Nat.testBit_shiftRight] at hi ⊢
    rw [tog_bit, hi]
    have : ¬ k = 5 + i := fun e => by rw [e, hi] at hb; cases hb
    rw [decide_eq_false this]; rfl
  have same : ∀ f k, k < 5 → (f ^^^ bt k) >>> 5 = f >>> 5 := fun f k hk => Nat.eq_of_testBit_eq fun i => by
    rw [Nat.testBit_shiftRight, Nat.testBit_shiftRight, tog_bit, decide_eq_false (by omega), Bool.xor_false]
  have ap : ∀ t, 1 ≤ t → ∃ x, x < 10 ∧ ∀ f, KD E left f → f >>> 5 = t → KD E left (f ^^^ bt x) ∧ (f ^^^ bt x) >>> 5 = t := fun t ht => by
    by_cases hex : ∃ g, KD E left g ∧ g >>> 5 = t
    · obtain ⟨g, hg, hgt⟩ := hex
      obtain ⟨a, ha, la, ea⟩ := hg.2.2.2.2
      refine ⟨a, by omega, fun f hf hft => ⟨?_, by rw [same f a ha]; exact hft⟩⟩
      have hbits : ∀ j, f.testBit (5 + j) = g.testBit (5 + j) := fun j => by
        rw [← Nat.testBit_shiftRight, ← Nat.testBit_shiftRight, hft, hgt]
      have ea' : ∀ j, f.testBit (5 + j) = true → E a j := fun j hj => ea j (by rw [← hbits]; exact hj)
      by_cases hfa : f.testBit a = true
      · exact KD.cpx.dn f a hf hfa
      · have hrow : ∀ j, (f ^^^ bt a).testBit (5 + j) = true → f.testBit (5 + j) = true := fun j h => (tog_add h).resolve_right (by omega)
        obtain ⟨j₀, hj₀⟩ := Nat.exists_testBit_of_ne_zero (x := t) (by omega)
        rw [← hft, Nat.testBit_shiftRight] at hj₀
        have hj5 : j₀ < 5 := by have := bit_lt hf.1 hj₀; omega
        refine ⟨tog_lt hf.1 (by omega), fun x hx => ?_, fun k j hk h1 h2 => ?_, ⟨j₀, hj5, hf.2.1 _ hj₀, fun k hk h1 => ?_⟩, ⟨a, ha, la, fun j h => ea' j (hrow j h)⟩⟩
        · rcases tog_add hx with h | rfl
          · exact hf.2.1 x h
          · exact la
        · rcases tog_add h1 with h | rfl
          · exact hf.2.2.1 k j hk h (hrow j h2)
          · exact ea' j (hrow j h2)
        · rcases tog_add h1 with h | rfl
          · exact hf.2.2.1 k j₀ hk h hj₀
          · exact ea' j₀ hj₀
    · exact ⟨0, by decide, fun f hf hft => absurd ⟨f, hf, hft⟩ hex⟩
  have hall : (fun f => KD E left f ∧ f >>> 5 ≤ 31) = KD E left := funext fun f => propext ⟨fun h => h.1, fun h => ⟨h, by
    have := h.1
    rw [Nat.shiftRight_eq_div_pow]
    omega⟩⟩
  have := sweep (fun f => f >>> 5) KD.cpx mono ap 31 (by rw [hall]; exact KD.cpx) s
  rw [hall] at this
  rw [this]
  refine hol_congr (fun f => ⟨fun h => ?_, fun h => ?_⟩) s
  · obtain ⟨hf, h0⟩ := h
    have h32 : f < 32 := by
      have h0' : f >>> 5 = 0 := h0
      rw [Nat.shiftRight_eq_div_pow] at h0'
      omega
    have hlt : ∀ k, f.testBit k = true → k < 5 := fun k hk => by
      rcases Nat.lt_or_ge k 5 with q | q
      · exact q
      · rw [Nat.testBit_lt_two_pow (Nat.lt_of_lt_of_le h32 (Nat.pow_le_pow_right (n := 2) (by decide) q : 2 ^ 5 ≤ 2 ^ k))] at hk; cases hk
    obtain ⟨j, a, b, c⟩ := hf.2.2.2.1
    exact ⟨h32, hf.2.1, j, a, b, fun k hk => c k (hlt k hk) hk⟩
  · have hno : ∀ j, f.testBit (5 + j) = false := fun j => Nat.testBit_lt_two_pow (Nat.lt_of_lt_of_le h.1 (Nat.pow_le_pow_right (n := 2) (by decide) (by omega) : 2 ^ 5 ≤ 2 ^ (5 + j)))
    refine ⟨⟨Nat.lt_trans h.1 (by decide), h.2.1, (fun k j _ _ h2 => by rw [hno] at h2; cases h2), (let ⟨j, a, b, c⟩ := h.2.2; ⟨j, a, b, fun k _ hk => c k hk⟩), (let ⟨k, a, b⟩ := hl; ⟨k, a, b, fun j hj => by rw [hno] at hj; cases hj⟩)⟩, ?_⟩
    show f >>> 5 = 0
    rw [Nat.shiftRight_eq_div_pow]
    have := h.1
    omega
theorem dowker_R (hl : ∃ j, j < 5 ∧ left (5 + j)) (s : Nat) : hol (KD E left) s = hol (KR E left) s := by
  have mb : ∀ f i, (f % 32).testBit i = (decide (i < 5) && f.testBit i) := fun f i => Nat.testBit_mod_two_pow f 5 i
  have mono : ∀ f k, k < 10 → f.testBit k = false → f % 32 ≤ (f ^^^ bt k) % 32 := fun f k _ hb => sub_le fun i hi => by
    rw [mb, Bool.and_eq_true] at hi
    rw [mb, hi.1, tog_bit, hi.2]
    have : ¬ k = i := fun e => by rw [e, hi.2] at hb; cases hb
    rw [decide_eq_false this]; rfl
  have same : ∀ f k, 5 ≤ k → (f ^^^ bt k) % 32 = f % 32 := fun f k hk => Nat.eq_of_testBit_eq fun i => by
    rw [mb, mb, tog_bit]
    by_cases hi : i < 5
    · rw [decide_eq_false (by omega : ¬ k = i), Bool.xor_false]
    · rw [decide_eq_false hi]; rfl
  have ap : ∀ t, 1 ≤ t → ∃ x, x < 10 ∧ ∀ f, KD E left f → f % 32 = t → KD E left (f ^^^ bt x) ∧ (f ^^^ bt x) % 32 = t := fun t ht => by
    by_cases hex : ∃ g, KD E left g ∧ g % 32 = t
    · obtain ⟨g, hg, hgt⟩ := hex
      obtain ⟨b, hb, lb, eb⟩ := hg.2.2.2.1
      refine ⟨5 + b, by omega, fun f hf hft => ⟨?_, by rw [same f (5 + b) (by omega)]; exact hft⟩⟩
      have hbits : ∀ k, k < 5 → f.testBit k = g.testBit k := fun k hk => by
        have h1 := mb f k
        have h2 := mb g k
        rw [hft, decide_eq_true hk, Bool.true_and] at h1
        rw [hgt, decide_eq_true hk, Bool.true_and] at h2
        rw [← h1, ← h2]
      have eb' : ∀ k, k < 5 → f.testBit k = true → E k b := fun k hk h => eb k hk (by rw [← hbits k hk]; exact h)
      by_cases hfb : f.testBit (5 + b) = true
      · exact KD.cpx.dn f _ hf hfb
      · have hlet : ∀ k, k < 5 → (f ^^^ bt (5 + b)).testBit k = true → f.testBit k = true := fun k hk h => (tog_add h).resolve_right (by omega)
        obtain ⟨k₀, hk₀⟩ := Nat.exists_testBit_of_ne_zero (x := t) (by omega)
        rw [← hft, mb, Bool.and_eq_true, decide_eq_true_eq] at hk₀
        refine ⟨tog_lt hf.1 (by omega), fun x hx => ?_, fun k j hk h1 h2 => ?_, ⟨b, hb, lb, fun k hk h => eb' k hk (hlet k hk h)⟩, ⟨k₀, hk₀.1, hf.2.1 _ hk₀.2, fun j h => ?_⟩⟩
        · rcases tog_add hx with h | rfl
          · exact hf.2.1 x h
          · exact lb
        · rcases tog_add h2 with h | e
          · exact hf.2.2.1 k j hk (hlet k hk h1) h
          · have : j = b := by omega
            rw [this]; exact eb' k hk (hlet k hk h1)
        · rcases tog_add h with h | e
          · exact hf.2.2.1 k₀ j hk₀.1 hk₀.2 h
          · have : j = b := by omega
            rw [this]; exact eb' k₀ hk₀.1 hk₀.2
    · exact ⟨0, by decide, fun f hf hft => absurd ⟨f, hf, hft⟩ hex⟩
  have hall : (fun f => KD E left f ∧ f % 32 ≤ 31) = KD E left := funext fun f => propext ⟨fun h => h.1, fun h => ⟨h, by omega⟩⟩
  have := sweep (fun f => f % 32) KD.cpx mono ap 31 (by rw [hall]; exact KD.cpx) s
  rw [hall] at this
  rw [this]
  refine hol_congr (fun f => ⟨fun h => ?_, fun h => ?_⟩) s
  · obtain ⟨hf, h0⟩ := h
    have h0' : f % 32 = 0 := h0
    refine ⟨hf.1, fun k hk => ?_, fun j hj => hf.2.1 _ hj, hf.2.2.2.2⟩
    have := mb f k
    rw [h0', decide_eq_true hk, Bool.true_and, Nat.zero_testBit] at this
    exact this.symm
  · refine ⟨⟨h.1, fun x hx => ?_, (fun k j hk h1 h2 => by rw [h.2.1 k hk] at h1; cases h1), (let ⟨j, a, b⟩ := hl; ⟨j, a, b, fun k hk hb => by rw [h.2.1 k hk] at hb; cases hb⟩), h.2.2.2⟩, ?_⟩
    · rcases Nat.lt_or_ge x 5 with q | q
      · rw [h.2.1 x q] at hx; cases hx
      · obtain ⟨j, rfl⟩ : ∃ j, x = 5 + j := ⟨x - 5, by omega⟩
        exact h.2.2.1 j hx
    · show f % 32 = 0
      refine Nat.eq_of_testBit_eq fun i => ?_
      rw [mb, Nat.zero_testBit]
      by_cases hi : i < 5
      · rw [h.2.1 i hi, Bool.and_false]
      · rw [decide_eq_false hi]; rfl
theorem dowker (h1 : ∃ k, k < 5 ∧ left k) (h2 : ∃ j, j < 5 ∧ left (5 + j)) (s : Nat) : hol (KL E left) s = hol (KR E left) s := (dowker_L h1 s).symm.trans (dowker_R h2 s)
/-- a letter goes -/
theorem fold_letter {i h : Nat} (hi : i < 5) (hh : h < 5) (hne : i ≠ h) (lh : left h) (dom : ∀ j, j < 5 → left (5 + j) → E i j → E h j) (s : Nat) : hol (KL E left) s = hol (KL E (fun x => left x ∧ x ≠ i)) s := by
  have tg : ∀ f, KL E left f ∧ f.testBit i = true → KL E left (f ^^^ bt h) ∧ (f ^^^ bt h).testBit i = true := fun f hf => by
    refine ⟨?_, by rw [tog_bit, hf.2, decide_eq_false (Ne.symm hne)]; rfl⟩
    by_cases hb : f.testBit h = true
    · exact KL.cpx.dn f h hf.1 hb
    · obtain ⟨j, a, b, c⟩ := hf.1.2.2
      refine ⟨Nat.xor_lt_two_pow (n := 5) hf.1.1 ?_, fun k hk => ?_, j, a, b, fun k hk => ?_⟩
      · unfold bt
        rw [Nat.one_shiftLeft]
        exact Nat.pow_lt_pow_right (by decide) hh
      · rcases tog_add hk with q | rfl
        · exact hf.1.2.1 k q
        · exact lh
      · rcases tog_add hk with q | rfl
        · exact c k q
        · exact dom j a b (c i hf.2)
  have up : ∀ f k, (KL E left f ∧ f.testBit i = true) → k < 10 → f.testBit k = false → KL E left (f ^^^ bt k) → KL E left (f ^^^ bt k) ∧ (f ^^^ bt k).testBit i = true := fun f k hf hk hb hp => by
    refine ⟨hp, ?_⟩
    rw [tog_bit, hf.2]
    have : ¬ k = i := fun e => by rw [e, hf.2] at hb; cases hb
    rw [decide_eq_false this]; rfl
  obtain ⟨_, h2⟩ := cone (x := h) (by omega) 1024 (KL E left) (fun f => KL E left f ∧ f.testBit i = true) KL.cpx (fun f h => h.1) up tg (cntS_le _)
  rw [h2 s]
  refine hol_congr (fun f => ⟨fun hf => ⟨hf.1.1, fun k hk => ⟨hf.1.2.1 k hk, fun e => hf.2 ⟨hf.1, e ▸ hk⟩⟩, let ⟨j, a, b, c⟩ := hf.1.2.2; ⟨j, a, ⟨b, by omega⟩, c⟩⟩, fun hf => ?_⟩) s
  obtain ⟨j, a, b, c⟩ := hf.2.2
  refine ⟨⟨hf.1, fun k hk => (hf.2.1 k hk).1, j, a, b.1, c⟩, fun q => ?_⟩
  exact (hf.2.1 i q.2).2 rfl
/-- a row goes -/
theorem fold_row {i h : Nat} (hi : i < 5) (hh : h < 5) (hne : i ≠ h) (lh : left (5 + h)) (dom : ∀ k, k < 5 → left k → E k i → E k h) (s : Nat) : hol (KL E left) s = hol (KL E (fun x => left x ∧ x ≠ 5 + i)) s := by
  have hlt : ∀ f k : Nat, f < 32 → f.testBit k = true → k < 5 := fun f k h32 hk => by
    rcases Nat.lt_or_ge k 5 with q | q
    · exact q
    · rw [Nat.testBit_lt_two_pow (Nat.lt_of_lt_of_le h32 (Nat.pow_le_pow_right (n := 2) (by decide) q : 2 ^ 5 ≤ 2 ^ k))] at hk; cases hk
  refine hol_congr (fun f => ⟨fun hf => ?_, fun hf => ?_⟩) s
  · obtain ⟨h32, hl, j, a, b, c⟩ := hf
    refine ⟨h32, fun k hk => ⟨hl k hk, by have := hlt f k h32 hk; omega⟩, ?_⟩
    by_cases e : j = i
    · subst e
      exact ⟨h, hh, ⟨lh, by omega⟩, fun k hk => dom k (hlt f k h32 hk) (hl k hk) (c k hk)⟩
    · exact ⟨j, a, ⟨b, by omega⟩, c⟩
  · obtain ⟨h32, hl, j, a, b, c⟩ := hf
    exact ⟨h32, fun k hk => (hl k hk).1, j, a, b.1, c⟩
end
end Mine
end
section
set_option Elab.async false
set_option maxRecDepth 100000
set_option maxHeartbeats 8000000
set_option linter.unusedVariables false
set_option genSizeOf false
namespace Mine
open Classical
theorem small_eq : ∀ f : Nat, f < 32 → popP f = pc f ∧ vecP f = bd f ∧ bd f < 2 ^ 32 ∧ pc (32 * f) = pc f := by decide +kernel
noncomputable def phi (v : Nat) : Nat := (List.range 32).foldl (fun x i => if v.testBit i then x ^^^ bt (32 * i) else x) 0
theorem phi_bd : ∀ f : Nat, f < 32 → bd (32 * f) = phi (bd f) := by decide +kernel
noncomputable def qL (L : List Nat) (f : Nat) : Prop := f < 32 ∧ ∃ o ∈ L, o &&& f = f
theorem nodup_len {l l' : List Nat} (h : l.Nodup) (h' : l'.Nodup) (e : ∀ x, x ∈ l ↔ x ∈ l') : l.length = l'.length := ((List.perm_ext_iff_of_nodup h h').mpr e).length_eq
theorem fs_nodup (p : Nat → Prop) (s : Nat) : (fs p s).Nodup := List.Pairwise.filter _ List.nodup_range
theorem faces_mem {L : List Nat} {f : Nat} : f ∈ facesP L ↔ qL L f := by
  unfold facesP qL
  rw [List.mem_filter, List.mem_range]
  refine and_congr_right fun _ => ?_
  constructor
  · intro h
    cases hl : L.filter fun o => decide (o &&& f = f) with
    | nil => rw [hl] at h; cases h
    | cons a l =>
      have : a ∈ L.filter fun o => decide (o &&& f = f) := by rw [hl]; simp
      obtain ⟨h1, h2⟩ := List.mem_filter.mp this
      exact ⟨a, h1, of_decide_eq_true h2⟩
  · rintro ⟨o, h1, h2⟩
    have : o ∈ L.filter fun o => decide (o &&& f = f) := List.mem_filter.mpr ⟨h1, decide_eq_true h2⟩
    cases hl : L.filter fun o => decide (o &&& f = f) with
    | nil => rw [hl] at this; cases this
    | cons a l => rfl
theorem run_hol (L : List Nat) (s : Nat) : (runSize L s).1 = (fs (qL L) s).length ∧ (runSize L s).2.length = rkC (qL L) s := by
  obtain ⟨h1, h2⟩ := runSize_ok L s
  have hm : ∀ f, (f ∈ (facesP L).filter fun f => decide (popP f = s)) ↔ f ∈ fs (qL L) s := fun f => by
    rw [List.mem_filter, mem_fs, faces_mem]
    constructor
    · rintro ⟨a, b⟩
      exact ⟨Nat.lt_trans a.1 (by decide), a, by rw [← (small_eq f a.1).1]; exact of_decide_eq_true b⟩
    · rintro ⟨a, b, c⟩
      exact ⟨b, decide_eq_true (by rw [(small_eq f b.1).1]; exact c)⟩
  refine ⟨?_, ?_⟩
  · rw [h1]
    exact nodup_len (List.Pairwise.filter _ (List.Pairwise.filter _ List.nodup_range)) (fs_nodup _ _) hm
  · rw [h2]
    unfold rkC
    refine rk_congr (fun v hv => ?_) fun v hv => ?_
    · obtain ⟨f, hf, rfl⟩ := List.mem_map.mp hv
      have hf' := (hm f).mp hf
      rw [(small_eq f (mem_fs.mp hf').2.1.1).2.1]
      exact .mem (List.mem_map_of_mem hf')
    · obtain ⟨f, hf, rfl⟩ := List.mem_map.mp hv
      rw [← (small_eq f (mem_fs.mp hf).2.1.1).2.1]
      exact .mem (List.mem_map_of_mem ((hm f).mpr hf))
theorem pc5 : ∀ f : Nat, f < 32 → pc f ≤ 5 := by decide +kernel
theorem holes_hol (L : List Nat) : holesP L = (List.range 6).map fun s => hol (qL L) s := by
  unfold holesP
  refine List.map_congr_left fun s hs => ?_
  have hs := List.mem_range.mp hs
  unfold hol
  rw [(run_hol L s).1, (run_hol L s).2]
  congr 1
  have e : (ranksAt L 6).getD (s + 1) 0 = rkC (qL L) (s + 1) := by
    rw [List.getD_eq_getElem?_getD, ranksAt_get L 6 (s + 1) (by omega)]
    by_cases h : s + 1 < 6
    · rw [if_pos h]; exact (run_hol L (s + 1)).2
    · rw [if_neg h]
      have : fs (qL L) (s + 1) = [] := by
        cases hl : fs (qL L) (s + 1) with
        | nil => rfl
        | cons a l =>
          have : a ∈ fs (qL L) (s + 1) := by rw [hl]; simp
          obtain ⟨_, b, c⟩ := mem_fs.mp this
          have := pc5 a b.1
          omega
      unfold rkC
      rw [this]
      exact (rk_eq HasRank.nil).symm
  rw [e]
theorem fold_phi (v : Nat) : ∀ (l : List Nat) (x g : Nat), l.Nodup → (l.foldl (fun x i => if v.testBit i then x ^^^ bt (32 * i) else x) x).testBit g = (x.testBit g ^^ l.any fun i => v.testBit i && decide (32 * i = g))
  | [], x, g, _ => by simp
  | i :: l, x, g, hn => by
    have hn' := List.nodup_cons.mp hn
    rw [List.foldl_cons, fold_phi v l _ g hn'.2, List.any_cons]
    have hx : (if v.testBit i = true then x ^^^ bt (32 * i) else x).testBit g = (x.testBit g ^^ (v.testBit i && decide (32 * i = g))) := by
      by_cases h : v.testBit i = true
      · rw [if_pos h, tog_bit, h, Bool.true_and]
      · rw [if_neg h]
        have : v.testBit i = false := by simpa using h
        rw [this]; simp
    rw [hx]
    by_cases h : (v.testBit i && decide (32 * i = g)) = true
    · rw [h]
      have hg : 32 * i = g := by rw [Bool.and_eq_true] at h; exact of_decide_eq_true h.2
      have : (l.any fun i => v.testBit i && decide (32 * i = g)) = false := List.any_eq_false.mpr fun j hj => by
        have : j ≠ i := fun e => hn'.1 (e ▸ hj)
        rw [decide_eq_false (by omega : ¬ 32 * j = g)]; simp
      rw [this]; simp
    · have h' : (v.testBit i && decide (32 * i = g)) = false := by simpa using h
      rw [h']; simp
theorem phi_bit (v i : Nat) (hi : i < 32) : (phi v).testBit (32 * i) = v.testBit i := by
  unfold phi
  rw [fold_phi v _ 0 _ List.nodup_range, Nat.zero_testBit, Bool.false_xor]
  cases hv : v.testBit i with
  | true => exact List.any_eq_true.mpr ⟨i, List.mem_range.mpr hi, by rw [hv]; simp⟩
  | false =>
    refine List.any_eq_false.mpr fun j _ => ?_
    by_cases e : 32 * j = 32 * i
    · have : j = i := by omega
      rw [this, hv]; simp
    · rw [decide_eq_false e]; simp
theorem phi_xor (a b : Nat) : phi (a ^^^ b) = phi a ^^^ phi b := by
  have key : ∀ (l : List Nat) (x y : Nat), l.foldl (fun z i => if (a ^^^ b).testBit i then z ^^^ bt (32 * i) else z) (x ^^^ y) = (l.foldl (fun z i => if a.testBit i then z ^^^ bt (32 * i) else z) x) ^^^ (l.foldl (fun z i => if b.testBit i then z ^^^ bt (32 * i) else z) y) := by
    intro l
    induction l with
    | nil => intro x y; rfl
    | cons i l ih =>
      intro x y
      rw [List.foldl_cons, List.foldl_cons, List.foldl_cons, ← ih]
      congr 1
      rw [Nat.testBit_xor]
      cases a.testBit i <;> cases b.testBit i <;> simp
      · rw [Nat.xor_assoc]
      · rw [Nat.xor_assoc, Nat.xor_comm y, ← Nat.xor_assoc]
      · rw [Nat.xor_assoc x, Nat.xor_comm (bt (32 * i)), Nat.xor_assoc y, Nat.xor_self, Nat.xor_zero]
  have := key (List.range 32) 0 0
  rw [Nat.xor_self] at this
  exact this
theorem phi_zero : phi 0 = 0 := by decide +kernel
theorem sp_lt {vs : List Nat} (h : ∀ v ∈ vs, v < 2 ^ 32) {x : Nat} (hx : Sp vs x) : x < 2 ^ 32 := by
  induction hx with
  | zero => decide
  | add hm _ ih => exact Nat.xor_lt_two_pow ih (h _ hm)
theorem sp_phi {vs : List Nat} {x : Nat} (h : Sp vs x) : Sp (vs.map phi) (phi x) := by
  induction h with
  | zero => rw [phi_zero]; exact .zero
  | add hm _ ih => rw [phi_xor]; exact .add (List.mem_map_of_mem hm) ih
theorem sp_phi' {vs : List Nat} {y : Nat} (h : Sp (vs.map phi) y) : ∃ x, Sp vs x ∧ y = phi x := by
  induction h with
  | zero => exact ⟨0, .zero, phi_zero.symm⟩
  | add hm _ ih =>
    obtain ⟨v, hv, rfl⟩ := List.mem_map.mp hm
    obtain ⟨x, hx, rfl⟩ := ih
    exact ⟨x ^^^ v, .add hv hx, (phi_xor _ _).symm⟩
theorem phi_inj {a b : Nat} (ha : a < 2 ^ 32) (hb : b < 2 ^ 32) (h : phi a = phi b) : a = b := Nat.eq_of_testBit_eq fun i => by
  rcases Nat.lt_or_ge i 32 with q | q
  · rw [← phi_bit a i q, ← phi_bit b i q, h]
  · rw [Nat.testBit_lt_two_pow (Nat.lt_of_lt_of_le ha (Nat.pow_le_pow_right (by decide) q)), Nat.testBit_lt_two_pow (Nat.lt_of_lt_of_le hb (Nat.pow_le_pow_right (by decide) q))]
theorem rank_phi {vs : List Nat} {r : Nat} (h : HasRank vs r) : (∀ v ∈ vs, v < 2 ^ 32) → HasRank (vs.map phi) r := by
  induction h with
  | nil => intro _; exact .nil
  | dep hv _ ih => intro hl; exact .dep (sp_phi hv) (ih fun u hu => hl u (List.mem_cons_of_mem _ hu))
  | @ind v vs r hv _ ih =>
    intro hl
    have hl' : ∀ u ∈ vs, u < 2 ^ 32 := fun u hu => hl u (List.mem_cons_of_mem _ hu)
    refine .ind (fun q => hv ?_) (ih hl')
    obtain ⟨x, hx, e⟩ := sp_phi' q
    rw [phi_inj (hl v (by simp)) (sp_lt hl' hx) e]; exact hx
/-- five bits up -/
theorem hol_shift {p q : Nat → Prop} (hq : ∀ f, q f → f < 32) (hp : ∀ f, p f → ∃ g, g < 32 ∧ f = 32 * g) (h : ∀ g, g < 32 → (p (32 * g) ↔ q g)) (s : Nat) : hol p s = hol q s := by
  have hm : ∀ s f, f ∈ fs p s ↔ f ∈ (fs q s).map (32 * ·) := fun s f => by
    rw [mem_fs, List.mem_map]
    constructor
    · rintro ⟨a, b, c⟩
      obtain ⟨g, hg, rfl⟩ := hp f b
      exact ⟨g, mem_fs.mpr ⟨by omega, (h g hg).mp b, by rw [← (small_eq g hg).2.2.2]; exact c⟩, rfl⟩
    · rintro ⟨g, hg, rfl⟩
      obtain ⟨a, b, c⟩ := mem_fs.mp hg
      have := hq g b
      refine ⟨?_, (h g this).mpr b, by show pc (32 * g) = s; rw [(small_eq g this).2.2.2]; exact c⟩
      show 32 * g < 1024
      omega
  have hr : ∀ s, rkC p s = rkC q s := fun s => by
    unfold rkC
    have e1 : rk ((fs p s).map bd) = rk (((fs q s).map bd).map phi) := by
      refine rk_congr (fun v hv => ?_) fun v hv => ?_
      · obtain ⟨f, hf, rfl⟩ := List.mem_map.mp hv
        obtain ⟨g, hg, rfl⟩ := List.mem_map.mp ((hm s f).mp hf)
        show Sp _ (bd (32 * g))
        rw [phi_bd g (hq g (mem_fs.mp hg).2.1)]
        exact .mem (List.mem_map_of_mem (List.mem_map_of_mem hg))
      · obtain ⟨u, hu, rfl⟩ := List.mem_map.mp hv
        obtain ⟨g, hg, rfl⟩ := List.mem_map.mp hu
        rw [← phi_bd g (hq g (mem_fs.mp hg).2.1)]
        exact .mem (List.mem_map_of_mem ((hm s (32 * g)).mpr (List.mem_map_of_mem hg)))
    rw [e1]
    exact rk_eq (rank_phi (rk_has _) fun v hv => by
      obtain ⟨g, hg, rfl⟩ := List.mem_map.mp hv
      exact (small_eq g (hq g (mem_fs.mp hg).2.1)).2.2.1)
  have hc : (fs p s).length = (fs q s).length := by
    have := nodup_len (fs_nodup p s) (List.pairwise_map.mpr ((fs_nodup q s).imp fun hne e => hne (by have e' : 32 * _ = 32 * _ := e; omega))) (hm s)
    rw [this, List.length_map]
  unfold hol
  rw [hc, hr, hr]
end Mine
end
section
set_option Elab.async false
set_option maxRecDepth 100000
set_option maxHeartbeats 8000000
set_option linter.unusedVariables false
set_option genSizeOf false
namespace Mine
theorem bitT (m n : Nat) : decide (m >>> n &&& 1 ≠ 0) = m.testBit n := by
  unfold Nat.testBit
  rw [Nat.and_comm]
  by_cases h : 1 &&& m >>> n = 0
  · rw [h]; rfl
  · rw [decide_eq_true h]; simpa using h
theorem sum_bits (P : Nat → Bool) : ∀ n, (((List.range n).filter P).map fun x => 1 <<< x).sum < 2 ^ n ∧ ∀ t, (((List.range n).filter P).map fun x => 1 <<< x).sum.testBit t = (decide (t < n) && P t)
  | 0 => ⟨by simp, fun t => by simp⟩
  | n + 1 => by
    obtain ⟨h1, h2⟩ := sum_bits P n
    rw [List.range_succ, List.filter_append]
    by_cases hp : P n = true
    · rw [List.filter_cons_of_pos hp, List.filter_nil, List.map_append, List.sum_append, List.map_cons, List.map_nil]
      have e : ([1 <<< n] : List Nat).sum = 2 ^ n := by simp [Nat.one_shiftLeft]
      rw [e]
      have hor := Nat.two_pow_add_eq_or_of_lt h1 1
      rw [Nat.mul_one] at hor
      refine ⟨by rw [Nat.pow_succ]; omega, fun t => ?_⟩
      rw [Nat.add_comm, hor, Nat.testBit_or, h2, Nat.testBit_two_pow]
      by_cases ht : t = n
      · subst ht; rw [hp]; simp
      · by_cases hl : t < n
        · rw [decide_eq_true hl, decide_eq_true (by omega : t < n + 1), decide_eq_false (by omega : ¬ n = t)]; simp
        · rw [decide_eq_false hl, decide_eq_false (by omega : ¬ t < n + 1), decide_eq_false (by omega : ¬ n = t)]; simp
    · rw [List.filter_cons_of_neg hp, List.filter_nil, List.append_nil]
      refine ⟨by rw [Nat.pow_succ]; omega, fun t => ?_⟩
      rw [h2]
      have hp' : P n = false := by simpa using hp
      by_cases ht : t = n
      · subst ht; rw [hp']; simp
      · by_cases hl : t < n
        · rw [decide_eq_true hl, decide_eq_true (by omega : t < n + 1)]
        · rw [decide_eq_false hl, decide_eq_false (by omega : ¬ t < n + 1)]
theorem clr_and : ∀ x : Nat, x < 1024 → ∀ i : Nat, i < 10 → clr x (1 <<< i) = x &&& (1023 ^^^ (1 <<< i)) := by decide +kernel
theorem clr_bit {x i : Nat} (hx : x < 1024) (hi : i < 10) (y : Nat) : (clr x (1 <<< i)).testBit y = (x.testBit y && decide (y ≠ i)) := by
  rw [clr_and x hx i hi, Nat.testBit_and]
  have h3 : (1023 ^^^ 1 <<< i).testBit y = (decide (y < 10) ^^ decide (i = y)) := by
    rw [Nat.testBit_xor, show (1023 : Nat) = 2 ^ 10 - 1 by decide, Nat.testBit_two_pow_sub_one, Nat.one_shiftLeft, Nat.testBit_two_pow]
  rw [h3]
  by_cases hy : y < 10
  · rw [decide_eq_true hy]
    by_cases e : i = y
    · subst e; simp
    · rw [decide_eq_false e, decide_eq_true (Ne.symm e)]; simp
  · have : x.testBit y = false := Nat.testBit_lt_two_pow (Nat.lt_of_lt_of_le hx (Nat.pow_le_pow_right (n := 2) (by decide) (by omega) : 2 ^ 10 ≤ 2 ^ y))
    rw [this]; rfl
theorem clr_lt {x i : Nat} (hx : x < 1024) (hi : i < 10) : clr x (1 <<< i) < 1024 := by unfold clr; omega
noncomputable def EP (R : List Nat) (k j : Nat) : Prop := (R.getD j 0).testBit k = true
/-- the neighbours on ten points -/
noncomputable def NP (R : List Nat) (x y : Nat) : Prop := (x < 5 ∧ 5 ≤ y ∧ y < 10 ∧ EP R x (y - 5)) ∨ (5 ≤ x ∧ x < 10 ∧ y < 5 ∧ EP R y (x - 5))
theorem NP.symm {R : List Nat} {x y : Nat} (h : NP R x y) : NP R y x := by
  rcases h with ⟨a, b, c, d⟩ | ⟨a, b, c, d⟩
  · exact .inr ⟨b, c, a, d⟩
  · exact .inl ⟨c, a, b, d⟩
theorem NP.side {R : List Nat} {x y : Nat} (h : NP R x y) : x < 10 ∧ y < 10 ∧ (x < 5 ↔ ¬ y < 5) := by
  rcases h with ⟨a, b, c, d⟩ | ⟨a, b, c, d⟩
  · exact ⟨by omega, c, by omega⟩
  · exact ⟨b, by omega, by omega⟩
theorem len_nm : ∀ i : Nat, i < 10 → ∀ x : Nat, x < 10 → ((lowN (nmI.getD i 0) == lowN (lnI.getD x 0)) = decide (i = x)) ∧ ((lowN (lnI.getD i 0) == lowN (lnI.getD x 0)) = decide (i = x)) := by decide +kernel
noncomputable def keyP (x : Nat) (p : Nat × Nat) : Bool := lowN p.1 == lowN (lnI.getD x 0)
structure Inv (R : List Nat) (st : FS) : Prop where
  nd : st.2.1.Nodup
  sub : ∀ x ∈ st.2.1, x < 10
  len : st.1.length = 10
  slt : ∀ x, x < 10 → st.1.getD x 0 < 1024
  sees : ∀ x, x < 10 → ∀ y, (st.1.getD x 0).testBit y = true ↔ NP R x y ∧ y ∈ st.2.1
  ne : ∀ x ∈ st.2.1, ∃ y, NP R x y ∧ y ∈ st.2.1
  hl : ∀ s, hol (KL (EP R) (· ∈ st.2.1)) s = hol (KL (EP R) (· < 10)) s
  lands : ∃ nx land : Nat → Nat, (∀ x, x < 10 → nx x < 10) ∧ (∀ x, x < 10 → getP st.2.2 (lnI.getD x 0) (lnI.getD x 0) = lnI.getD (nx x) 0) ∧ (∀ x ∈ st.2.1, nx x = x ∧ st.2.2.find? (keyP x) = none) ∧
    (∀ x, x < 10 → land x ∈ st.2.1 ∧ (land x < 5 ↔ x < 5) ∧ (x ∈ st.2.1 → land x = x) ∧ ∃ n, n + st.2.1.length ≤ 10 ∧ itN nx n x = land x) ∧ (∀ x y, NP R x y → NP R (land x) (land y))
theorem own_row {R : List Nat} (hr : ∀ j, j < 5 → R.getD j 0 < 32 ∧ (R.getD j 0).testBit j = true) {x : Nat} (hx : x < 10) : ∃ y, NP R x y := by
  by_cases h : x < 5
  · exact ⟨5 + x, .inl ⟨h, by omega, by omega, by rw [show 5 + x - 5 = x by omega]; exact (hr x h).2⟩⟩
  · exact ⟨x - 5, .inr ⟨by omega, hx, by omega, (hr (x - 5) (by omega)).2⟩⟩
theorem col_bits (R : List Nat) (x : Nat) : colP R x < 1024 ∧ ∀ y, (colP R x).testBit y = (decide (5 ≤ y) && (decide (y - 5 < 5) && (R.getD (y - 5) 0).testBit x)) := by
  obtain ⟨h1, h2⟩ := sum_bits (fun j => decide (R.getD j 0 >>> x &&& 1 ≠ 0)) 5
  have e : colP R x = 2 ^ 5 * (((List.range 5).filter fun j => decide (R.getD j 0 >>> x &&& 1 ≠ 0)).map fun x => 1 <<< x).sum := by
    unfold colP
    generalize (List.range 5).filter (fun j => decide (R.getD j 0 >>> x &&& 1 ≠ 0)) = l
    induction l with
    | nil => rfl
    | cons a l ih =>
      rw [List.map_cons, List.map_cons, List.sum_cons, List.sum_cons, ih, Nat.mul_add]
      congr 1
      rw [Nat.shiftLeft_eq, Nat.one_shiftLeft]
  rw [e]
  refine ⟨by omega, fun y => ?_⟩
  rw [Nat.testBit_two_pow_mul, h2, bitT]
theorem Inv.start {R pk : List Nat} (hR : R.length = 5) (hr : ∀ j, j < 5 → R.getD j 0 < 32 ∧ (R.getD j 0).testBit j = true) : Inv R (fsAt R pk 0) := by
  have hlen : (seesP R).length = 10 := by unfold seesP; simp [hR]
  have g1 : ∀ x, x < 5 → (seesP R).getD x 0 = colP R x := fun x hx => by
    unfold seesP
    rw [List.getD_eq_getElem?_getD, List.getElem?_append_left (by simpa using hx), List.getElem?_map, List.getElem?_range hx]; rfl
  have g2 : ∀ x, 5 ≤ x → (seesP R).getD x 0 = R.getD (x - 5) 0 := fun x hx => by
    unfold seesP
    rw [List.getD_eq_getElem?_getD, List.getElem?_append_right (by simpa using hx), List.getD_eq_getElem?_getD]; simp
  have hsub : ∀ x, x ∈ List.range 10 ↔ x < 10 := fun x => List.mem_range
  refine ⟨List.nodup_range, fun x hx => List.mem_range.mp hx, hlen, fun x hx => ?_, fun x hx y => ?_, fun x hx => ?_, fun s => ?_, id, id, fun x hx => hx, fun x hx => rfl, fun x hx => ⟨rfl, rfl⟩, fun x hx => ⟨List.mem_range.mpr hx, Iff.rfl, fun _ => rfl, 0, by show 0 + (List.range 10).length ≤ 10; simp, rfl⟩, fun x y h => h⟩
  · show (seesP R).getD x 0 < 1024
    by_cases h : x < 5
    · rw [g1 x h]; exact (col_bits R x).1
    · rw [g2 x (by omega)]; have := (hr (x - 5) (by omega)).1; omega
  · show ((seesP R).getD x 0).testBit y = true ↔ NP R x y ∧ y ∈ List.range 10
    rw [hsub]
    by_cases h : x < 5
    · rw [g1 x h, (col_bits R x).2]
      constructor
      · intro q
        simp only [Bool.and_eq_true, decide_eq_true_eq] at q
        exact ⟨.inl ⟨h, q.1, by omega, q.2.2⟩, by omega⟩
      · rintro ⟨⟨_, b, c, d⟩ | ⟨a, _⟩, _⟩
        · simp only [Bool.and_eq_true, decide_eq_true_eq]
          exact ⟨b, by omega, d⟩
        · omega
    · rw [g2 x (by omega)]
      constructor
      · intro q
        have hy : y < 5 := by
          rcases Nat.lt_or_ge y 5 with h5 | h5
          · exact h5
          · rw [Nat.testBit_lt_two_pow (Nat.lt_of_lt_of_le (hr (x - 5) (by omega)).1 (Nat.pow_le_pow_right (n := 2) (by decide) h5 : 2 ^ 5 ≤ 2 ^ y))] at q; cases q
        exact ⟨.inr ⟨by omega, hx, hy, q⟩, by omega⟩
      · rintro ⟨⟨a, _⟩ | ⟨_, _, _, d⟩, _⟩
        · omega
        · exact d
  · have hx' := List.mem_range.mp hx
    obtain ⟨y, hy⟩ := own_row hr hx'
    exact ⟨y, hy, List.mem_range.mpr hy.side.2.1⟩
  · have e : (fun x => x ∈ (fsAt R pk 0).2.1) = fun x => x < 10 := funext fun x => propext (hsub x)
    rw [e]
theorem NP_iff {R : List Nat} {k j : Nat} (hk : k < 5) (hj : j < 5) : NP R k (5 + j) ↔ EP R k j := by
  constructor
  · rintro (⟨_, _, _, d⟩ | ⟨a, _⟩)
    · rwa [show 5 + j - 5 = j by omega] at d
    · omega
  · intro h
    exact .inl ⟨hk, by omega, by omega, by rwa [show 5 + j - 5 = j by omega]⟩
theorem itN_add (f : Nat → Nat) (x : Nat) : ∀ m n, itN f (m + n) x = itN f m (itN f n x)
  | 0, n => by rw [Nat.zero_add]; rfl
  | m + 1, n => by rw [show m + 1 + n = (m + n) + 1 by omega]; show f (itN f (m + n) x) = f (itN f m (itN f n x)); rw [itN_add f x m n]
theorem Inv.fold {R : List Nat} {sees left : List Nat} {P : List (Nat × Nat)} (I : Inv R (sees, left, P)) {i h : Nat} (hi : i ∈ left) (hh : h ∈ left) (hne : i ≠ h) (hs : sees.getD i 0 &&& sees.getD h 0 = sees.getD i 0) :
    Inv R (sees.map fun x => clr x (1 <<< i), left.erase i, P ++ [(nmI.getD i 0, lnI.getD h 0)] ++ [(lnI.getD i 0, lnI.getD i 0)]) := by
  have hi10 := I.sub i hi
  have hh10 := I.sub h hh
  have I_sees : ∀ x, x < 10 → ∀ y, (sees.getD x 0).testBit y = true ↔ NP R x y ∧ y ∈ left := I.sees
  have I_len : sees.length = 10 := I.len
  have I_nd : left.Nodup := I.nd
  have dom : ∀ y, NP R i y → y ∈ left → NP R h y := fun y h1 h2 => by
    have a := (I_sees i hi10 y).mpr ⟨h1, h2⟩
    rw [← hs, Nat.testBit_and, Bool.and_eq_true] at a
    exact ((I_sees h hh10 y).mp a.2).1
  obtain ⟨y₀, hy1, hy2⟩ := I.ne i hi
  have hside : i < 5 ↔ h < 5 := by
    have a := hy1.side
    have b := (dom y₀ hy1 hy2).side
    omega
  have mem' : ∀ x, x ∈ left.erase i ↔ x ≠ i ∧ x ∈ left := fun x => I_nd.mem_erase_iff
  have hh' : h ∈ left.erase i := (mem' h).mpr ⟨Ne.symm hne, hh⟩
  have gm : ∀ x, x < 10 → (sees.map fun x => clr x (1 <<< i)).getD x 0 = clr (sees.getD x 0) (1 <<< i) := fun x hx => by
    rw [List.getD_eq_getElem?_getD, List.getD_eq_getElem?_getD, List.getElem?_map, List.getElem?_eq_getElem (by omega)]; rfl
  refine ⟨I_nd.erase i, fun x hx => I.sub x ((mem' x).mp hx).2, by show (sees.map _).length = 10; rw [List.length_map]; exact I_len, fun x hx => ?_, fun x hx y => ?_, fun x hx => ?_, fun s => ?_, ?_⟩
  · show (sees.map _).getD x 0 < 1024
    rw [gm x hx]; exact clr_lt (I.slt x hx) hi10
  · show ((sees.map _).getD x 0).testBit y = true ↔ NP R x y ∧ y ∈ left.erase i
    rw [gm x hx, clr_bit (I.slt x hx) hi10, Bool.and_eq_true, decide_eq_true_eq, mem', I_sees x hx y]
    constructor
    · exact fun q => ⟨q.1.1, q.2, q.1.2⟩
    · exact fun q => ⟨⟨q.1, q.2.2⟩, q.2.1⟩
  · obtain ⟨hx1, hx2⟩ := (mem' x).mp hx
    obtain ⟨y, q1, q2⟩ := I.ne x hx2
    by_cases e : y = i
    · rw [e] at q1
      exact ⟨h, (dom x q1.symm hx2).symm, hh'⟩
    · exact ⟨y, q1, (mem' y).mpr ⟨e, q2⟩⟩
  · rw [← I.hl s]
    have e : (fun x => x ∈ left.erase i) = fun x => x ∈ left ∧ x ≠ i := funext fun x => propext ((mem' x).trans and_comm)
    show hol (KL (EP R) fun x => x ∈ left.erase i) s = hol (KL (EP R) fun x => x ∈ left) s
    rw [e]
    by_cases h5 : i < 5
    · refine (fold_letter (E := EP R) (left := fun x => x ∈ left) h5 (hside.mp h5) hne hh (fun j hj hl he => ?_) s).symm
      exact (NP_iff (hside.mp h5) hj).mp (dom _ ((NP_iff h5 hj).mpr he) hl)
    · obtain ⟨a, rfl⟩ : ∃ a, i = 5 + a := ⟨i - 5, by omega⟩
      obtain ⟨b, rfl⟩ : ∃ b, h = 5 + b := ⟨h - 5, by omega⟩
      refine (fold_row (E := EP R) (left := fun x => x ∈ left) (i := a) (h := b) (by omega) (by omega) (by omega) hh (fun k hk hl he => ?_) s).symm
      exact (NP_iff hk (by omega)).mp (dom k ((NP_iff hk (by omega)).mpr he).symm hl).symm
  · obtain ⟨nx, land, l1, l2, l3, l4, l5⟩ := I.lands
    have l2 : ∀ x, x < 10 → getP P (lnI.getD x 0) (lnI.getD x 0) = lnI.getD (nx x) 0 := l2
    have l3 : ∀ x ∈ left, nx x = x ∧ P.find? (keyP x) = none := l3
    have l4 : ∀ x, x < 10 → land x ∈ left ∧ (land x < 5 ↔ x < 5) ∧ (x ∈ left → land x = x) ∧ ∃ n, n + left.length ≤ 10 ∧ itN nx n x = land x := l4
    have knm : ∀ x, x < 10 → keyP x (nmI.getD i 0, lnI.getD h 0) = decide (i = x) := fun x hx => (len_nm i hi10 x hx).1
    have kln : ∀ x, x < 10 → keyP x (lnI.getD i 0, lnI.getD i 0) = decide (i = x) := fun x hx => (len_nm i hi10 x hx).2
    have fnd : ∀ x, x < 10 → x ≠ i → (P ++ [(nmI.getD i 0, lnI.getD h 0)] ++ [(lnI.getD i 0, lnI.getD i 0)]).find? (keyP x) = P.find? (keyP x) := fun x hx e => by
      rw [List.find?_append, List.find?_append, List.find?_cons_of_neg (by rw [knm x hx, decide_eq_false (Ne.symm e)]; decide), List.find?_cons_of_neg (by rw [kln x hx, decide_eq_false (Ne.symm e)]; decide)]
      simp
    refine ⟨fun x => if x = i then h else nx x, fun x => if land x = i then h else land x, fun x hx => ?_, fun x hx => ?_, fun x hx => ?_, fun x hx => ?_, fun x y hxy => ?_⟩
    · show (if x = i then h else nx x) < 10
      split
      · exact hh10
      · exact l1 x hx
    · show getP (P ++ [(nmI.getD i 0, lnI.getD h 0)] ++ [(lnI.getD i 0, lnI.getD i 0)]) _ _ = lnI.getD (if x = i then h else nx x) 0
      by_cases e : x = i
      · subst e
        rw [if_pos rfl]
        have : (P ++ [(nmI.getD x 0, lnI.getD h 0)] ++ [(lnI.getD x 0, lnI.getD x 0)]).find? (fun p => lowN p.1 == lowN (lnI.getD x 0)) = some (nmI.getD x 0, lnI.getD h 0) := by
          have h3 := (l3 x hi).2
          unfold keyP at h3
          rw [List.find?_append, List.find?_append, h3, List.find?_cons_of_pos (by have := knm x hx; unfold keyP at this; rw [this]; simp)]
          rfl
        unfold getP
        rw [this]
      · rw [if_neg e, ← l2 x hx]
        unfold getP
        have := fnd x hx e
        unfold keyP at this
        rw [this]
    · obtain ⟨hx1, hx2⟩ := (mem' x).mp hx
      refine ⟨?_, ?_⟩
      · show (if x = i then h else nx x) = x
        rw [if_neg hx1]; exact (l3 x hx2).1
      · exact (fnd x (I.sub x hx2) hx1).trans (l3 x hx2).2
    · obtain ⟨a1, a2, a3, n, a4, a5⟩ := l4 x hx
      have hlen : (left.erase i).length = left.length - 1 := List.length_erase_of_mem hi
      have hpos : 0 < left.length := List.length_pos_of_mem hi
      have nxi : nx i = i := (l3 i hi).1
      have nxh : (fun x => if x = i then h else nx x) h = h := by show (if h = i then h else nx h) = h; rw [if_neg (Ne.symm hne)]; exact (l3 h hh).1
      have walk : ∀ m, itN (fun x => if x = i then h else nx x) m x = itN nx m x ∨ (itN (fun x => if x = i then h else nx x) m x = h ∧ itN nx m x = i) := by
        intro m
        induction m with
        | zero => exact .inl rfl
        | succ m ih =>
          rcases ih with ih | ⟨ih1, ih2⟩
          · by_cases e : itN nx m x = i
            · refine .inr ⟨?_, ?_⟩
              · show (if itN (fun x => if x = i then h else nx x) m x = i then h else _) = h
                rw [ih, if_pos e]
              · show nx (itN nx m x) = i
                rw [e, nxi]
            · refine .inl ?_
              show (if itN (fun x => if x = i then h else nx x) m x = i then h else nx (itN (fun x => if x = i then h else nx x) m x)) = nx (itN nx m x)
              rw [ih, if_neg e]
          · refine .inr ⟨?_, ?_⟩
            · show (fun x => if x = i then h else nx x) (itN (fun x => if x = i then h else nx x) m x) = h
              rw [ih1]; exact nxh
            · show nx (itN nx m x) = i
              rw [ih2, nxi]
      refine ⟨?_, ?_, fun hxl => ?_, ?_⟩
      · show (if land x = i then h else land x) ∈ left.erase i
        split
        · exact hh'
        · rename_i e; exact (mem' _).mpr ⟨e, a1⟩
      · show ((if land x = i then h else land x) < 5 ↔ x < 5)
        split
        · rename_i e; rw [e] at a2; exact hside.symm.trans a2
        · exact a2
      · obtain ⟨hx1, hx2⟩ := (mem' x).mp hxl
        show (if land x = i then h else land x) = x
        rw [a3 hx2, if_neg hx1]
      · show ∃ n, n + (left.erase i).length ≤ 10 ∧ itN (fun x => if x = i then h else nx x) n x = (if land x = i then h else land x)
        rw [hlen]
        rcases walk n with h1 | ⟨h1, h2⟩
        · by_cases e : land x = i
          · refine ⟨n + 1, by omega, ?_⟩
            rw [if_pos e]
            show (if itN (fun x => if x = i then h else nx x) n x = i then h else _) = h
            rw [h1, a5, if_pos e]
          · exact ⟨n, by omega, by rw [if_neg e, h1, a5]⟩
        · refine ⟨n, by omega, ?_⟩
          rw [a5] at h2
          rw [if_pos h2, h1]
    · show NP R (if land x = i then h else land x) (if land y = i then h else land y)
      have hx := l4 x hxy.side.1
      have hy := l4 y hxy.side.2.1
      have q := l5 x y hxy
      by_cases e1 : land x = i
      · have e2 : land y ≠ i := fun e2 => by rw [e1, e2] at q; have := q.side; omega
        rw [if_pos e1, if_neg e2]
        rw [e1] at q
        exact dom _ q hy.1
      · rw [if_neg e1]
        by_cases e2 : land y = i
        · rw [if_pos e2]
          rw [e2] at q
          exact (dom _ q.symm hx.1).symm
        · rw [if_neg e2]; exact q
theorem Inv.step {R : List Nat} {st : FS} (I : Inv R st) (pick : Nat) : Inv R (stepF st pick) := by
  unfold stepF
  split
  · exact I
  · rename_i hw
    obtain ⟨_, hm⟩ := ways_pick hw pick
    generalize (waysF st.1 st.2.1).getD (pick % (waysF st.1 st.2.1).length) (0, 0) = p at hm
    obtain ⟨h1, h2, h3, h4⟩ := waysF_mem hm
    obtain ⟨sees, left, P⟩ := st
    exact I.fold h1 h2 h3 h4
theorem Inv.at {R pk : List Nat} (hR : R.length = 5) (hr : ∀ j, j < 5 → R.getD j 0 < 32 ∧ (R.getD j 0).testBit j = true) : ∀ i, Inv R (fsAt R pk i)
  | 0 => Inv.start hR hr
  | i + 1 => (Inv.at hR hr i).step _
theorem fs_len {R pk : List Nat} : ∀ m, m ≤ 10 → (∀ i, i < m → waysF (fsAt R pk i).1 (fsAt R pk i).2.1 ≠ []) → (∀ i, (fsAt R pk i).2.1.Nodup) → (fsAt R pk m).2.1.length = 10 - m
  | 0, _, _, _ => by show (List.range 10).length = 10; simp
  | m + 1, hm, hw, hn => by
    have ih := fs_len m (by omega) (fun i hi => hw i (by omega)) hn
    show (stepF (fsAt R pk m) _).2.1.length = _
    unfold stepF
    have hwm := hw m (by omega)
    rw [if_neg hwm]
    obtain ⟨_, hmem⟩ := ways_pick hwm (pk.getD m 0)
    obtain ⟨h1, _⟩ := waysF_mem hmem
    show (List.erase _ _).length = _
    rw [List.length_erase_of_mem h1, ih]; omega
/-- the end is stiff -/
theorem fs_stiff {R pk : List Nat} (hR : R.length = 5) (hr : ∀ j, j < 5 → R.getD j 0 < 32 ∧ (R.getD j 0).testBit j = true) : waysF (fsAt R pk 10).1 (fsAt R pk 10).2.1 = [] := by
  obtain ⟨m, h1, h2, h3⟩ := fsAt_first R pk 10
  rcases h3 with rfl | ⟨h3, h4⟩
  · have hl := fs_len (R := R) (pk := pk) 10 (by omega) h2 fun i => (Inv.at hR hr i).nd
    have I := Inv.at (pk := pk) hR hr 10
    obtain ⟨nx, land, _, _, _, l4, _⟩ := I.lands
    have := List.length_pos_of_mem (l4 0 (by decide)).1
    omega
  · rw [fsAt_stop h4 10 h1]; exact h4
end Mine
end
section
set_option Elab.async false
set_option maxRecDepth 100000
set_option maxHeartbeats 8000000
set_option linter.unusedVariables false
set_option genSizeOf false
namespace Mine
noncomputable def landsL (land : Nat → Nat) : List Nat := (List.range 10).map land
noncomputable def restsL (land : Nat → Nat) : List Nat := sortedP [5, 6, 7, 8, 9] ((landsL land).drop 5)
noncomputable def letsL (land : Nat → Nat) : List Nat := sortedP [0, 1, 2, 3, 4] ((landsL land).take 5)
noncomputable def coreOf (R rests : List Nat) (i : Nat) : Nat := ((rests.filter fun h => decide (R.getD (h - 5) 0 >>> i &&& 1 ≠ 0)).map fun h => 1 <<< (h - 5)).sum
noncomputable def coreL (R : List Nat) (land : Nat → Nat) : List Nat := (letsL land).map (coreOf R (restsL land))
noncomputable def sideOf (core : List Nat) (h : Nat) : Nat := (((List.range core.length).filter fun x => decide (core.getD x 0 >>> (h - 5) &&& 1 ≠ 0)).map fun x => 1 <<< x).sum
noncomputable def sidesL (R : List Nat) (land : Nat → Nat) : List Nat := (restsL land).map (sideOf (coreL R land))
structure LandsOk (R : List Nat) (land : Nat → Nat) : Prop where
  lt : ∀ x, x < 10 → land x < 10 ∧ (land x < 5 ↔ x < 5)
  edge : ∀ j k, j < 5 → k < 5 → EP R k j → EP R (land k) (land (j + 5) - 5)
  core : stiffP (coreL R land) = true
  sides : stiffP (sidesL R land) = true
  holes : holesP (coreL R land) = holesP R
theorem stiff_of {L : List Nat} (h : ∀ a b, a < L.length → b < L.length → a ≠ b → L.getD a 0 &&& L.getD b 0 ≠ L.getD a 0) : stiffP L = true := by
  unfold stiffP
  rw [List.isEmpty_iff]
  refine List.filter_eq_nil_iff.mpr fun p hp hq => ?_
  unfold pairsUpTo at hp
  obtain ⟨i, hi, hp⟩ := List.mem_flatMap.mp hp
  obtain ⟨j, hj, rfl⟩ := List.mem_map.mp hp
  obtain ⟨hj1, hj2⟩ := List.mem_filter.mp hj
  exact h i j (List.mem_range.mp hi) (List.mem_range.mp hj1) (by simpa using hj2) (of_decide_eq_true hq)
theorem sub_and {a b : Nat} : a &&& b = a ↔ ∀ t, a.testBit t = true → b.testBit t = true := by
  constructor
  · intro h t ht
    rw [← h, Nat.testBit_and, Bool.and_eq_true] at ht
    exact ht.2
  · intro h
    refine Nat.eq_of_testBit_eq fun t => ?_
    rw [Nat.testBit_and]
    cases ha : a.testBit t with
    | false => rfl
    | true => rw [h t ha]; rfl
theorem getD_mem {L : List Nat} {a : Nat} (h : a < L.length) : L.getD a 0 ∈ L := by
  rw [List.getD_eq_getElem?_getD, List.getElem?_eq_getElem h]; exact List.getElem_mem h
theorem getD_inj {L : List Nat} (hn : L.Nodup) {a b : Nat} (ha : a < L.length) (hb : b < L.length) (e : L.getD a 0 = L.getD b 0) : a = b := by
  rw [List.getD_eq_getElem?_getD, List.getD_eq_getElem?_getD, List.getElem?_eq_getElem ha, List.getElem?_eq_getElem hb] at e
  rcases Nat.lt_trichotomy a b with q | q | q
  · exact absurd e (List.pairwise_iff_getElem.mp hn a b ha hb q)
  · exact q
  · exact absurd e.symm (List.pairwise_iff_getElem.mp hn b a hb ha q)
theorem mem_getD {L : List Nat} {x : Nat} (h : x ∈ L) : ∃ a, a < L.length ∧ L.getD a 0 = x := by
  obtain ⟨a, ha, e⟩ := List.mem_iff_getElem.mp h
  exact ⟨a, ha, by rw [List.getD_eq_getElem?_getD, List.getElem?_eq_getElem ha]; exact e⟩
theorem map_getD (f : Nat → Nat) {L : List Nat} {a : Nat} (h : a < L.length) : (L.map f).getD a 0 = f (L.getD a 0) := by
  rw [List.getD_eq_getElem?_getD, List.getD_eq_getElem?_getD, List.getElem?_map, List.getElem?_eq_getElem h]; rfl
theorem core_bits (R : List Nat) (land : Nat → Nat) (i t : Nat) : (coreOf R (restsL land) i).testBit t = (decide (t < 5) && (((landsL land).drop 5).contains (5 + t) && (R.getD t 0).testBit i)) := by
  have e : coreOf R (restsL land) i = (((List.range 5).filter fun t => ((landsL land).drop 5).contains (5 + t) && (R.getD t 0).testBit i).map fun x => 1 <<< x).sum := by
    unfold coreOf restsL sortedP
    rw [show ([5, 6, 7, 8, 9] : List Nat) = (List.range 5).map (5 + ·) from rfl, List.filter_map, List.filter_map, List.map_map, List.filter_filter]
    have e1 : ((fun h => 1 <<< (h - 5)) ∘ fun x => 5 + x) = fun x : Nat => 1 <<< x := funext fun x => by show 1 <<< (5 + x - 5) = 1 <<< x; rw [show 5 + x - 5 = x by omega]
    rw [e1]
    congr 2
    refine List.filter_congr fun t _ => ?_
    show (decide (R.getD (5 + t - 5) 0 >>> i &&& 1 ≠ 0) && _) = _
    rw [show 5 + t - 5 = t by omega, bitT, Bool.and_comm]; rfl
  rw [e]
  exact (sum_bits _ 5).2 t
theorem side_bits (core : List Nat) (h t : Nat) : (sideOf core h).testBit t = (decide (t < core.length) && (core.getD t 0).testBit (h - 5)) := by
  unfold sideOf
  rw [(sum_bits _ core.length).2 t, bitT]
theorem ways_of {sees left : List Nat} {i h : Nat} (hi : i ∈ left) (hh : h ∈ left) (hne : i ≠ h) (hs : sees.getD i 0 &&& sees.getD h 0 = sees.getD i 0) : (i, h) ∈ waysF sees left := by
  unfold waysF
  refine List.mem_flatMap.mpr ⟨i, hi, List.mem_map.mpr ⟨h, List.mem_filter.mpr ⟨hh, ?_⟩, rfl⟩⟩
  rw [decide_eq_true hne, decide_eq_true hs]; rfl
theorem lands_of {R : List Nat} (hR : R.length = 5) (hr : ∀ j, j < 5 → R.getD j 0 < 32 ∧ (R.getD j 0).testBit j = true) {st : FS} (I : Inv R st) (hw : waysF st.1 st.2.1 = []) :
    ∃ nx, (∀ i, i < 10 → nx i < 10) ∧ (∀ i, i < 10 → getP st.2.2 (lnI.getD i 0) (lnI.getD i 0) = lnI.getD (nx i) 0) ∧ (∀ i, i < 10 → nx (itN nx 10 i) = itN nx 10 i) ∧ LandsOk R (itN nx 10) := by
  obtain ⟨nx, land, l1, l2, l3, l4, l5⟩ := I.lands
  have lfix : ∀ x, x < 10 → itN nx 10 x = land x := fun x hx => by
    obtain ⟨a1, _, _, n, a4, a5⟩ := l4 x hx
    have h1 : nx (itN nx n x) = itN nx n x := by rw [a5]; exact (l3 _ a1).1
    rw [itN_fix h1 10 (by omega), a5]
  have mem_l : ∀ x, x < 10 → itN nx 10 x ∈ st.2.1 := fun x hx => by rw [lfix x hx]; exact (l4 x hx).1
  have sd : ∀ x, x < 10 → (itN nx 10 x < 5 ↔ x < 5) := fun x hx => by rw [lfix x hx]; exact (l4 x hx).2.1
  have stay : ∀ x ∈ st.2.1, itN nx 10 x = x := fun x hx => by rw [lfix x (I.sub x hx)]; exact (l4 x (I.sub x hx)).2.2.1 hx
  have lx : ∀ x, x < 10 → itN nx 10 x < 10 := fun x hx => I.sub _ (mem_l x hx)
  -- who is left
  have dr : ∀ x, ((landsL (itN nx 10)).drop 5).contains x = true ↔ 5 ≤ x ∧ x ∈ st.2.1 := fun x => by
    rw [List.contains_iff_mem, show (landsL (itN nx 10)).drop 5 = [5, 6, 7, 8, 9].map (itN nx 10) from rfl, List.mem_map]
    constructor
    · rintro ⟨y, hy, rfl⟩
      have hy' : 5 ≤ y ∧ y < 10 := by simp at hy; omega
      exact ⟨by have := (sd y hy'.2); omega, mem_l y hy'.2⟩
    · rintro ⟨h1, h2⟩
      have := I.sub x h2
      exact ⟨x, by simp; omega, stay x h2⟩
  have tk : ∀ x, ((landsL (itN nx 10)).take 5).contains x = true ↔ x < 5 ∧ x ∈ st.2.1 := fun x => by
    rw [List.contains_iff_mem, show (landsL (itN nx 10)).take 5 = [0, 1, 2, 3, 4].map (itN nx 10) from rfl, List.mem_map]
    constructor
    · rintro ⟨y, hy, rfl⟩
      have hy' : y < 5 := by simp at hy; omega
      exact ⟨(sd y (by omega)).mpr hy', mem_l y (by omega)⟩
    · rintro ⟨h1, h2⟩
      exact ⟨x, by simp; omega, stay x h2⟩
  have mrest : ∀ x, x ∈ restsL (itN nx 10) ↔ 5 ≤ x ∧ x ∈ st.2.1 := fun x => by
    unfold restsL sortedP
    rw [List.mem_filter, dr]
    constructor
    · exact fun h => h.2
    · rintro ⟨h1, h2⟩
      have := I.sub x h2
      exact ⟨by simp; omega, h1, h2⟩
  have mlet : ∀ x, x ∈ letsL (itN nx 10) ↔ x < 5 ∧ x ∈ st.2.1 := fun x => by
    unfold letsL sortedP
    rw [List.mem_filter, tk]
    constructor
    · exact fun h => h.2
    · rintro ⟨h1, h2⟩
      exact ⟨by simp; omega, h1, h2⟩
  have ndr : (restsL (itN nx 10)).Nodup := List.Pairwise.filter _ (by decide)
  have ndl : (letsL (itN nx 10)).Nodup := List.Pairwise.filter _ (by decide)
  have cb : ∀ i t, (coreOf R (restsL (itN nx 10)) i).testBit t = true ↔ t < 5 ∧ 5 + t ∈ st.2.1 ∧ EP R i t := fun i t => by
    rw [core_bits, Bool.and_eq_true, Bool.and_eq_true, decide_eq_true_eq, dr]
    exact ⟨fun h => ⟨h.1, h.2.1.2, h.2.2⟩, fun h => ⟨h.1, ⟨by omega, h.2.1⟩, h.2.2⟩⟩
  have clen : (coreL R (itN nx 10)).length = (letsL (itN nx 10)).length := List.length_map ..
  have cget : ∀ a, a < (letsL (itN nx 10)).length → (coreL R (itN nx 10)).getD a 0 = coreOf R (restsL (itN nx 10)) ((letsL (itN nx 10)).getD a 0) := fun a ha => map_getD _ ha
  refine ⟨nx, l1, l2, fun i hi => ?_, ⟨fun x hx => ⟨lx x hx, sd x hx⟩, fun j k hj hk he => ?_, stiff_of fun a b ha hb hne hs => ?_, stiff_of fun a b ha hb hne hs => ?_, ?_⟩⟩
  · rw [lfix i hi]; exact (l3 _ (l4 i hi).1).1
  · have q := l5 k (5 + j) ((NP_iff hk hj).mpr he)
    have h1 := (l4 k (by omega)).2.1
    have h2 := (l4 (5 + j) (by omega)).2.1
    rw [lfix k (by omega), show j + 5 = 5 + j by omega, lfix (5 + j) (by omega)]
    rcases q with ⟨_, _, _, d⟩ | ⟨a, _⟩
    · exact d
    · omega
  · rw [clen] at ha hb
    rw [cget a ha, cget b hb, sub_and] at hs
    have ma := (mlet _).mp (getD_mem ha)
    have mb := (mlet _).mp (getD_mem hb)
    have hne' : (letsL (itN nx 10)).getD a 0 ≠ (letsL (itN nx 10)).getD b 0 := fun e => hne (getD_inj ndl ha hb e)
    have := ways_of (sees := st.1) ma.2 mb.2 hne' (sub_and.mpr fun y hy => by
      obtain ⟨h1, h2⟩ := (I.sees _ (by omega) y).mp hy
      refine (I.sees _ (by omega) y).mpr ⟨?_, h2⟩
      rcases h1 with ⟨c1, c2, c3, c4⟩ | ⟨c1, _⟩
      · have := (cb _ (y - 5)).mp (hs (y - 5) ((cb _ (y - 5)).mpr ⟨by omega, by rw [show 5 + (y - 5) = y by omega]; exact h2, c4⟩))
        exact .inl ⟨mb.1, c2, c3, this.2.2⟩
      · omega)
    rw [hw] at this; cases this
  · have sl : (sidesL R (itN nx 10)).length = (restsL (itN nx 10)).length := List.length_map ..
    rw [sl] at ha hb
    have sg : ∀ a, a < (restsL (itN nx 10)).length → (sidesL R (itN nx 10)).getD a 0 = sideOf (coreL R (itN nx 10)) ((restsL (itN nx 10)).getD a 0) := fun a ha => map_getD _ ha
    rw [sg a ha, sg b hb, sub_and] at hs
    have ma := (mrest _).mp (getD_mem ha)
    have mb := (mrest _).mp (getD_mem hb)
    have la := I.sub _ ma.2
    have lb := I.sub _ mb.2
    have hne' : (restsL (itN nx 10)).getD a 0 ≠ (restsL (itN nx 10)).getD b 0 := fun e => hne (getD_inj ndr ha hb e)
    have := ways_of (sees := st.1) ma.2 mb.2 hne' (sub_and.mpr fun y hy => by
      obtain ⟨h1, h2⟩ := (I.sees _ la y).mp hy
      refine (I.sees _ lb y).mpr ⟨?_, h2⟩
      rcases h1 with ⟨c1, _⟩ | ⟨c1, c2, c3, c4⟩
      · omega
      · obtain ⟨x, hx, ex⟩ := mem_getD ((mlet y).mpr ⟨c3, h2⟩)
        have h5 := hs x (by
          rw [side_bits, Bool.and_eq_true, decide_eq_true_eq, clen, cget x hx, ex, cb]
          exact ⟨hx, by omega, by rw [show 5 + ((restsL (itN nx 10)).getD a 0 - 5) = (restsL (itN nx 10)).getD a 0 by omega]; exact ma.2, c4⟩)
        rw [side_bits, Bool.and_eq_true, decide_eq_true_eq, clen, cget x hx, ex, cb] at h5
        exact .inr ⟨mb.1, lb, c3, h5.2.2.2⟩)
    rw [hw] at this; cases this
  · rw [holes_hol, holes_hol]
    refine List.map_congr_left fun s _ => ?_
    have k1 : ∃ k, k < 5 ∧ k ∈ st.2.1 := ⟨land 0, ((l4 0 (by decide)).2.1).mpr (by decide), (l4 0 (by decide)).1⟩
    have k2 : ∃ j, j < 5 ∧ (5 + j) ∈ st.2.1 := by
      have h1 := (l4 5 (by decide)).1
      have h2 := (l4 5 (by decide)).2.1
      have h3 := I.sub _ h1
      exact ⟨land 5 - 5, by omega, by rw [show 5 + (land 5 - 5) = land 5 by omega]; exact h1⟩
    have b32 : ∀ f k : Nat, f < 32 → f.testBit k = true → k < 5 := fun f k h32 hk => by
      rcases Nat.lt_or_ge k 5 with q | q
      · exact q
      · rw [Nat.testBit_lt_two_pow (Nat.lt_of_lt_of_le h32 (Nat.pow_le_pow_right (n := 2) (by decide) q : 2 ^ 5 ≤ 2 ^ k))] at hk; cases hk
    have e1 : hol (qL R) s = hol (KL (EP R) (· < 10)) s := hol_congr (fun f => by
      constructor
      · rintro ⟨h32, o, ho, hof⟩
        obtain ⟨j, hj, rfl⟩ := mem_getD ho
        exact ⟨h32, fun k hk => by have := b32 f k h32 hk; show k < 10; omega, j, by omega, by show 5 + j < 10; omega, fun k hk => sub_and.mp (by rw [Nat.and_comm]; exact hof) k hk⟩
      · rintro ⟨h32, _, j, hj, _, hk⟩
        exact ⟨h32, R.getD j 0, getD_mem (by omega), by rw [Nat.and_comm]; exact sub_and.mpr hk⟩) s
    rw [e1, ← I.hl s, dowker k1 k2 s]
    refine (hol_shift (fun f h => h.1) (fun f h => ⟨f / 32, by have := h.1; omega, ?_⟩) (fun g hg => ?_) s).symm
    · have : f % 32 = 0 := Nat.eq_of_testBit_eq fun i => by
        rw [show (32 : Nat) = 2 ^ 5 from rfl, Nat.testBit_mod_two_pow, Nat.zero_testBit]
        by_cases hi : i < 5
        · rw [h.2.1 i hi, Bool.and_false]
        · rw [decide_eq_false hi]; rfl
      omega
    · have hb : ∀ y, (32 * g).testBit y = (decide (5 ≤ y) && g.testBit (y - 5)) := fun y => by
        rw [show 32 * g = 2 ^ 5 * g from rfl, Nat.testBit_two_pow_mul]
      have hb5 : ∀ j, (32 * g).testBit (5 + j) = g.testBit j := fun j => by rw [hb, decide_eq_true (by omega), Bool.true_and, show 5 + j - 5 = j by omega]
      constructor
      · rintro ⟨_, _, h3, k, hk, hkl, he⟩
        refine ⟨hg, coreOf R (restsL (itN nx 10)) k, List.mem_map_of_mem ((mlet k).mpr ⟨hk, hkl⟩), ?_⟩
        rw [Nat.and_comm]
        refine sub_and.mpr fun t ht => (cb k t).mpr ?_
        have ht' : (32 * g).testBit (5 + t) = true := by rw [hb5]; exact ht
        exact ⟨b32 g t hg ht, h3 t ht', he t ht'⟩
      · rintro ⟨_, o, ho, hog⟩
        obtain ⟨k, hk, rfl⟩ := List.mem_map.mp ho
        rw [Nat.and_comm] at hog
        have hs := sub_and.mp hog
        have hk' := (mlet k).mp hk
        refine ⟨by omega, fun y hy => by rw [hb, decide_eq_false (by omega)]; rfl, fun j hj => ?_, k, hk'.1, hk'.2, fun j hj => ?_⟩
        · rw [hb5] at hj; exact ((cb k j).mp (hs j hj)).2.1
        · rw [hb5] at hj; exact ((cb k j).mp (hs j hj)).2.2
/-- the plain law -/
theorem plain_law {R : List Nat} (hR : R.length = 5) (hr : ∀ j, j < 5 → R.getD j 0 < 32 ∧ (R.getD j 0).testBit j = true) (picks : List Nat) (hp : picks.length = 5) :
    (∀ p ∈ foldedP R picks, p.1 ∈ nmChars) ∧ ∃ nx, (∀ i, i < 10 → nx i < 10) ∧ (∀ i, i < 10 → getP (foldedP R picks) (lnI.getD i 0) (lnI.getD i 0) = lnI.getD (nx i) 0) ∧ (∀ i, i < 10 → nx (itN nx 10 i) = itN nx 10 i) ∧ LandsOk R (itN nx 10) := by
  have hl : (picks ++ picks).length = 10 := by rw [List.length_append, hp]
  unfold foldedP
  rw [hl]
  exact ⟨(fsAt_ok hR 10).nm, lands_of hR hr (Inv.at hR hr 10) (fs_stiff hR hr)⟩
end Mine
end
section
open PySem PySem.W PyProof.Rows PySem.Calls PySem.Spec
set_option Elab.async false
set_option maxRecDepth 100000
set_option maxHeartbeats 8000000
set_option linter.unusedVariables false
set_option genSizeOf false
namespace Mine
open Classical in
/-- all that stands, but the frame and one more -/
noncomputable def rest (T : Addr → Prop) (h : Heap) : Addr → Option Obj := fun a => if T a then none else h.get? a
section
variable {w : World} {base : Addr → Option Obj} {env : Env} {cx : Cx} {vals : List V} {h h' : Heap} {ρ : Nat → Addr}
theorem rest_bk {T : Addr → Prop} : BK (rest T h) h' ↔ KeepX T h h' := by
  constructor
  · intro b a o hT e
    exact b a o (by unfold rest; rw [if_neg hT]; exact e)
  · intro k a o e
    unfold rest at e
    split at e
    · cases e
    · rename_i hT; exact k a o hT e
theorem StO.rebase (x : StO w base env cx vals h ρ) (hnf : ∀ (j : Nat) qv, vals[j]? = some qv → qv.fresh = false) {T : Addr → Prop} (ht : ∀ a, Tch env cx.ns a → T a) (hb : ∀ a, T a → base a = none) : StO w (rest T h) env cx vals h ρ where
  bk := rest_bk.mpr fun b o _ e => e
  glob := fun h' b => x.glob h' fun a o e => rest_bk.mp b a o (fun t => by rw [hb a t] at e; cases e) (x.bk a o e)
  eo := x.eo
  F := x.F
  var := x.var
  tn := fun a t => by unfold rest; rw [if_pos (ht a t)]
  rn := fun i pv h1 h2 => by rw [hnf i pv h1] at h2; cases h2
  sep := x.sep
  len := x.len
theorem StO.unbase (x : StO w base env cx vals h ρ) {base' : Addr → Option Obj} (hnf : ∀ (j : Nat) qv, vals[j]? = some qv → qv.fresh = false) (bk : BK base' h) (glob : ∀ h, BK base' h → Glob w h) (tn : ∀ a, Tch env cx.ns a → base' a = none) : StO w base' env cx vals h ρ :=
  ⟨bk, glob, x.eo, x.F, x.var, tn, fun i pv h1 h2 => (by rw [hnf i pv h1] at h2; cases h2), x.sep, x.len⟩
end
section
variable {prog : Program} {w : World} {n : Nat} {env : Env} {cx : Cx}
theorem two_get {α : Type} (a b : α) {i : Nat} (h : i < 2) : [a, b].toArray[i]? = some (if i = 0 then a else b) := by
  rcases (by omega : i = 0 ∨ i = 1) with rfl | rfl <;> rfl
theorem two_rep {h : Heap} {v1 v2 : Value} {a b : V} (h1 : RepV h v1 a) (h2 : RepV h v2 b) (i : Nat) : RepV h (if i = 0 then v1 else v2) (if i = 0 then a else b) := by
  by_cases e : i = 0
  · rw [if_pos e, if_pos e]; exact h1
  · rw [if_neg e, if_neg e]; exact h2
theorem two_ite {i : Nat} {l1 l2 : List (Str × Str)} : (if i = 0 then V.hdr .arg l1 else V.hdr .arg l2) = .hdr .arg (if i = 0 then l1 else l2) := by split <;> rfl
theorem W1.forTup2 {x y1 y2 : Str} {bx b1 b2 : Bool} {px p1 p2 pt p : Pos} {kk : Nat} {body : List Stmt} {l1 l2 : List (Str × Str)} (k k1 k2 : Nat) (f : Nat → List V) (hx : cx.ns[k]? = some (x, bx)) (hy1 : cx.ns[k1]? = some (y1, b1)) (hv1 : (f 0)[k1]? = some (.hdr .arg l1)) (hy2 : cx.ns[k2]? = some (y2, b2)) (hv2 : (f 0)[k2]? = some (.hdr .arg l2))
    (hd1 : (y1 == ("__debug__" : Str)) = false) (hd2 : (y2 == ("__debug__" : Str)) = false) (hnf : ∀ i (j : Nat) qv, (f i)[j]? = some qv → qv.fresh = false)
    (step : ∀ i, i < 2 → W prog w n env cx ((f i).set k (.hdr .arg (if i = 0 then l1 else l2))) body (.next (f (i + 1))))
    (hs : ∀ z, foldedSetIterable (.Tuple [.Name y1 p1, .Name y2 p2] kk pt) env z = pure z) :
    W1 prog w n env cx (f 0) (.For (.Name x px) (.Tuple [.Name y1 p1, .Name y2 p2] kk pt) body [] p) (.next (f 2)) := fun A s Q E base hA ⟨ρ, st⟩ q => by
  have ha : EvA prog w n env cx (f 0) pt [.Name y1 p1, .Name y2 p2] [.hdr .arg l1, .hdr .arg l2] := EvA.two (Ev.nmH k1 hy1 hv1 hd1) (Ev.nmH k2 hy2 hv2 hd2) rfl rfl
  refine wpAny_For (wpAny_Tuple (ha A s _ _ hA st.g st.rep fun vs s₁ x₁ r₁ => ⟨by rw [r₁.length, sizeLine_eq]; show 2 ≤ 16777216; decide, ?_⟩)) hs
  obtain ⟨v1, v2, rfl, r1, r2⟩ := r₁.two
  have st₁ := st.keep x₁.keep
  let hT : Heap := s₁.heap.push { cls := .type "tuple", data := .seq [v1, v2].toArray }
  have kT : KeepA s₁.heap hT := KeepA.push _ _
  have tT : IsTup hT s₁.heap.objs.size [v1, v2].toArray := ⟨_, Heap.get?_push_size _ rfl, rfl, _, rfl⟩
  refine iter_tuple (s := { s₁ with heap := hT }) tT ?_
  let I : Addr := hT.objs.size
  let h3 : Heap := hT.push { cls := .type "tuple_iterator", data := .fields #[.ref s₁.heap.objs.size, .int 0 0] }
  have kI : KeepA hT h3 := KeepA.push _ _
  have iI : IsTupIter h3 I s₁.heap.objs.size 0 := ⟨_, Heap.get?_push_size _ rfl, rfl, rfl⟩
  have st3 : StO w base env cx (f 0) h3 ρ := (st₁.keep kT).keep kI
  have In : hT.get? I = none := size_none hT
  have bI : base I = none := base_none (st₁.keep kT).bk In
  have tI : ¬ Tch env cx.ns I := fun t => by
    obtain ⟨o, ho, _⟩ := (st₁.keep kT).tch_lt t
    rw [In] at ho; cases ho
  let T : Addr → Prop := fun a => Tch env cx.ns a ∨ a = I
  have hbT : ∀ a, T a → base a = none := fun a t => t.elim (st.tn a) fun e => e ▸ bI
  have stR : StO w (rest T h3) env cx (f 0) h3 ρ := st3.rebase (hnf 0) (fun a t => .inl t) hbT
  have Tn : ∀ a, T a → rest T h3 a = none := fun a t => by unfold rest; rw [if_pos t]
  have tT3 : IsTup h3 s₁.heap.objs.size [v1, v2].toArray := tT.keeps kI
  have notT : ¬ T s₁.heap.objs.size := fun t => by
    rcases t with t | e
    · obtain ⟨o, ho, _⟩ := st₁.tch_lt t
      rw [size_none] at ho; cases ho
    · obtain ⟨o, ho, _⟩ := tT
      have hlt := Heap.lt_size ho
      have e' : s₁.heap.objs.size = hT.objs.size := e
      rw [← e'] at hlt
      exact Nat.lt_irrefl _ hlt
  have keepTup : ∀ h', KeepX T h3 h' → IsTup h' s₁.heap.objs.size [v1, v2].toArray := fun h' k => by
    obtain ⟨o, ho, r⟩ := tT3
    exact ⟨o, k _ _ notT ho, r⟩
  have oddI : ∀ h' i, IsTupIter h' I s₁.heap.objs.size i → ∀ o, h'.get? I = some o → Odd o := fun h' i it o ho => by
    obtain ⟨o', ho', hc, hd⟩ := it
    rw [ho] at ho'; cases ho'
    exact .inr (.inr ⟨⟨_, hd⟩, by rw [hc]; decide⟩)
  -- the two headers stand through it all
  have hdr : ∀ (v : Value) l, RepV s₁.heap v (.hdr .arg l) → ∀ h', KeepX T h3 h' → RepV h' v (.hdr .arg l) := fun v l r h' k => by
    have r3 : RepV h3 v (.hdr .arg l) := (r.keep kT).keep kI
    refine r3.odd k (fun b o t ho => ?_) (fun x dx lh e hr _ t => ?_)
    · rcases t with t | rfl
      · exact st3.F.odd t ho
      · exact oddI h3 0 iI o ho
    · rcases id t with t | e'
      · rcases id t with t | ⟨z, hz, e2⟩
        · exact st3.F.off (v := v) (.hdr .arg l) x dx lh e hr t
        · obtain ⟨_, c', v', e3, _, oc, hoc, hdc⟩ := st3.F.cel z hz
          rw [e2] at e3; cases e3
          obtain ⟨_, hs', tt, r4⟩ := hr
          rw [r4] at hoc; cases hoc; cases hdc
      · subst e'
        obtain ⟨_, hs', tt, r4⟩ := hr
        obtain ⟨o', ho', hc, hd⟩ := iI
        rw [r4] at ho'; cases ho'; cases hd
  refine forLoopU (fun kk s' => ∃ i, i ≤ 2 ∧ kk = 3 - i ∧ StOk w (rest T h3) env cx (f i) s'.heap ∧ IsTupIter s'.heap I s₁.heap.objs.size i ∧ s'.os = s.os ∧ GX s.gens s'.gens) ?_ 3 ⟨0, by omega, rfl, ⟨ρ, stR⟩, iI, x₁.os, x₁.gens⟩
  rintro kk s' ⟨i, hi, rfl, ⟨ρ', x'⟩, it', os', g'⟩
  have k' : KeepX T h3 s'.heap := rest_bk.mp x'.bk
  have tup' := keepTup _ k'
  have dxI : ∀ x dx lh, HdrRaw s'.heap x dx lh → dx ≠ I := by
    rintro x dx lh ⟨_, hs, t, r2⟩ rfl
    obtain ⟨o', ho', hc, hd⟩ := it'
    rw [r2] at ho'; cases ho'; cases hd
  rcases Nat.lt_or_ge i 2 with h2 | h2
  · have hv : RepV s₁.heap (if i = 0 then v1 else v2) (.hdr .arg (if i = 0 then l1 else l2)) := two_ite ▸ two_rep r1 r2 i
    generalize hvi : (if i = 0 then v1 else v2) = vi at hv
    have hgi : [v1, v2].toArray[i]? = some vi := hvi ▸ two_get v1 v2 h2
    refine next_tuple_item it' tup' hgi fun h₁ it₁ sb => ?_
    have x₁' := x'.oddX sb.extBut (oddI _ _ it') tI (Tn I (.inr rfl)) dxI
    have k₁ : KeepX T h3 h₁ := rest_bk.mp x₁'.bk
    refine wpAny_of_eq rfl ?_
    refine wpAny_assign_Name (x₁'.store hx (pv := .hdr .arg (if i = 0 then l1 else l2)) (hdr _ _ hv h₁ k₁) (.inr (.inr fun j qv _ hq => hnf i j qv hq)) (fun h => nomatch h) fun h₄ tk₄ k₄ x₄ => ?_)
    obtain ⟨ρ₄, x₄⟩ := x₄
    have it₄ : IsTupIter h₄ I s₁.heap.objs.size (i + 1) := by
      obtain ⟨o, ho, r⟩ := it₁
      exact ⟨o, k₄ _ _ tI ho, r⟩
    obtain ⟨oI, hoI, hcI, hdI⟩ := id it₄
    have hbI : ∀ o', rest T h3 I = some o' → o' = oI := fun o' e => by rw [Tn I (.inr rfl)] at e; cases e
    have y := x₄.pin hoI tI (x₄.not_root hoI (oddI _ _ it₄ oI hoI))
    refine step i h2 A _ _ _ _ hA ⟨ρ₄, y⟩ fun fl s₅ o₅ => ?_
    obtain ⟨rfl, x5, os5, g5⟩ := o₅.next'
    have eI : s₅.heap.get? I = some oI := x5.bk _ _ pin_at
    exact ⟨3 - (i + 1), by omega, i + 1, by omega, rfl, x5.unpin hbI x₄.glob, ⟨oI, eI, hcI, hdI⟩, os5.trans os', g'.trans g5⟩
  · have : i = 2 := by omega
    subst this
    refine next_tuple_end hA.hd it' tup' (by rfl) fun h₁ sb => ?_
    have x₁' := x'.oddX sb (oddI _ _ it') tI (Tn I (.inr rfl)) dxI
    have k₁ : KeepX T h3 h₁ := rest_bk.mp x₁'.bk
    have bk : BK base h₁ := fun a o e => k₁ a o (fun t => by rw [hbT a t] at e; cases e) (st3.bk a o e)
    exact q _ _ ⟨os', g', ρ', x₁'.unbase (hnf 2) bk st.glob st.tn⟩
end
theorem entry_top {prog : Program} {w : World} {n : Nat} {A : Around} {s : Shared} {Q E : Value → Shared → Prop} {name qual : Str} {params : Arguments} {body : List Stmt} {scope : Scope} {dV kV doc pm cdv ct : Value} {an : Option Addr} {o : Obj} {f : Addr}
    {ns : List (Str × Bool)} {gs : List Str} {pn : List Str} {vs : List Value} {pvs : List V} {res : V}
    (hA : Ok A (n + 1)) (g : Glob w s.heap) (r : All2 (RepV s.heap) vs pvs)
    (hl : vs.length = pn.length) (hf : pvs.all (fun v => !v.fresh) = true)
    (ho : s.heap.get? f = some o) (hd' : o.data = .func (fnOf name qual params body scope dV kV doc pm an cdv ct)) (hcd : s.heap.CodeRec cdv qual)
    (hbind : bindArgs (fnOf name qual params body scope dV kV doc pm an cdv ct) ⟨vs, []⟩ = pure (pn.zip vs)) (hgen : scope.isGenerator = false) (fo : FnOk scope ns gs pn) (hpk : ((pn.zip vs).all fun y => scope.names.lookup y.1 == some .local || scope.names.lookup y.1 == some .cell) = true)
    (hW : ∀ L, W prog w n (envOfC qual scope L f cdv) ⟨ns, gs⟩ (pvs ++ List.replicate (ns.length - pn.length) .unset) body (.ret res)) (q : ∀ v s', Ext s s' → RepV s'.heap v res → Q v s') :
    wpAny (model prog w) A (call (.ref f) vs) Q E s := by
  refine wpAny_call ?_
  refine codeAny_call_function (fd := fnOf name qual params body scope dV kV doc pm an cdv ct) (by have := hA.dp; omega) ho hd' fo.co hgen rfl hcd ((BindsTo.of_eq hbind) _ _ _ _ ?_)
  refine wpAny_newFunctionEnv_cells fo.kind (kindsX hpk _) fun env' he s' x => ?_
  subst he
  refine ⟨g.nolimit.keeps x.toInCall.keep, codeAny_func ?_⟩
  obtain ⟨h₁, tk, rfl⟩ := x.toInCall.same
  have st := entry_st (name := qual) (f := f) (cdv := cdv) fo g r hl hf x
  refine wpAny_mono (hW s.heap.objs.size (A.deeper _) _ (fun fl s₂ => ∃ v, fl = .ret v ∧ Q v s₂) (fun _ _ => False) _ ⟨hA.hd, by have := hA.dp; show A.depth + 1 + n < _; omega, by have := hA.un; show A.units + 3 + 10 * n + 100 < _; omega⟩ st fun fl s₂ o => ?_) (fun fl s₂ ⟨v, e, hq⟩ => by subst e; exact hq) fun _ _ y => y.elim
  obtain ⟨a1, a2, a3⟩ := o
  cases fl with
  | ret v => exact ⟨v, rfl, q v s₂ ⟨a3.1, a1, a2⟩ a3.2⟩
  | _ => exact a3.elim
end Mine
end
open PySem PySem.W PyProof.Rows PySem.Calls PySem.Spec
set_option Elab.async false
set_option maxRecDepth 100000
set_option maxHeartbeats 8000000
set_option linter.unusedVariables false
set_option genSizeOf false
namespace Mine
noncomputable def rowsP (C : List Nat) : List Nat := (List.range 5).map fun j => C.getD j 0 % 32 ||| 1 <<< j
theorem rowsP_len (C : List Nat) : (rowsP C).length = 5 := by simp [rowsP]
theorem rowsP_get (C : List Nat) (j : Nat) (h : j < 5) : (rowsP C).getD j 0 < 32 ∧ ((rowsP C).getD j 0).testBit j = true := by
  have e : (rowsP C).getD j 0 = C.getD j 0 % 32 ||| 1 <<< j := by
    unfold rowsP
    rw [List.getD_eq_getElem?_getD, List.getElem?_map, List.getElem?_range h]; rfl
  rw [e]
  refine ⟨Nat.or_lt_two_pow (n := 5) (Nat.mod_lt _ (by decide)) ?_, ?_⟩
  · rw [Nat.one_shiftLeft]; exact Nat.pow_lt_pow_right (by decide) h
  · rw [Nat.testBit_or, Nat.one_shiftLeft, Nat.testBit_two_pow]; simp
theorem rowsP_mem (C : List Nat) : ∀ r ∈ rowsP C, r < 32 ∧ r ≠ 0 := fun r hr => by
  obtain ⟨j, hj, rfl⟩ := mem_getD hr
  rw [rowsP_len] at hj
  obtain ⟨h1, h2⟩ := rowsP_get C j hj
  exact ⟨h1, fun e => by rw [e, Nat.zero_testBit] at h2; cases h2⟩
theorem ints_rep {h : Heap} : ∀ {vs : List Value} {L : List Int}, IntsAre vs L → All2 (RepS h) vs (L.map .int)
  | [], [], _ => .nil
  | v :: vs, a :: L, x => by
    cases x with
    | cons _ _ h => exact .cons ⟨_, rfl⟩ (ints_rep h)
theorem good_true {c : ClaimW} {cl : Str → Option Addr} {mean : ExcName → Option Value} {args : List WData} {s₁ s' : Shared} (hr : ∀ cls, c.raises args cls = false) (hp : c.post args (.bool true) args = true) (hg : s₁.gens = #[]) (x : Ext s₁ s') : GoodWG c cl mean args s₁ (.ok (.ret (.bool true))) s' := by
  refine ⟨.inl ⟨.bool true, .bool true, [], rfl, hr, .bool true, hp, fun _ => ⟨.nil, fun a h => nomatch h⟩⟩, .of_keep x.keep, x.os, ?_⟩
  exact x.gens.bare (by rw [hg]; exact .empty)
theorem may_of {k : Nat} (vals : List V) (h : vals.all (fun v => !v.fresh) = true) : ∀ j qv, j ≠ k → vals[j]? = some qv → qv.fresh = false := fun j qv _ hq => by
  have := List.all_eq_true.mp h qv (List.mem_of_getElem? hq)
  simpa using this
noncomputable abbrev lv (sc : List Int) (C R : List Nat) (H1 H2 Hf la j k re co si : V) : List V := [.raw (sc.map .int), .lst .arg (C.map .nat), .lst .arg (R.map .nat), .lst .arg (wordsAt R 5), H1, H2, Hf, la, j, k, re, co, si]
theorem lands_get (land : Nat → Nat) {x : Nat} (h : x < 10) : (landsL land).getD x 0 = land x := by
  unfold landsL
  rw [List.getD_eq_getElem?_getD, List.getElem?_map, List.getElem?_range h]; rfl
theorem lands_len (land : Nat → Nat) : (landsL land).length = 10 := by simp [landsL]
theorem lets_len (land : Nat → Nat) : (letsL land).length ≤ 5 := List.length_filter_le _ [0, 1, 2, 3, 4]
theorem rests_len (land : Nat → Nat) : (restsL land).length ≤ 5 := List.length_filter_le _ [5, 6, 7, 8, 9]
theorem rests_ge {land : Nat → Nat} {h : Nat} (hh : h ∈ restsL land) : 5 ≤ h ∧ h < 10 := by
  have := (List.mem_filter.mp hh).1
  simp at this; omega
end Mine
open Mine
theorem PySem.Challenge.cw_wk0031_01_holds : PySem.Challenge.rw_wk0031_01.Holds := by
  exact hd (by
    k_fill
    intro w s₀ s₁ mg mb G Y fa o pm cd doc dV kV ho hd' hcd hD hmg hg args vals as hpre hlay hrd hwl hlo
    have KX := kIn_of Y
    have X := (Ground.X G).1
    have V := (Ground.X G).2
    refine Ground.open G ?_
    intro T B D TE TW
    try (refine guard_noD D (by decide +kernel) ?_; clear D)
    try (obtain ⟨_, _, he, B0⟩ := based_of_top T rfl hmg ho hd'; have he' : cd = _ := he; subst he'; clear he)
    clear hmg
    wrow_args hpre hlay hrd hwl hlo
    all_goals (
      rename_i sc hs1 hl1 hl2 hl3 hl4 wa1 wa2 la vs1 wa3 hL ra w1 r0 hI hr1 hc1 hc2
      have hlen : sc.length ≤ 63 := by have := hc1; omega
      have hd1 := Dflts.none hD rfl
      have hd2 := Dflts.noKw hD
      subst hd1 hd2
      clear hD hs1 hl1 hl2 hl3 hl4 ra w1 r0 hr1 hc2 X V TE TW B
      refine Mine.entry_top (n := 4) (pvs := [.raw (sc.map .int)]) (ns := [(Str.ofString "script", false), (Str.ofString "cells", true), (Str.ofString "rows", true), (Str.ofString "words", false), (Str.ofString "first", false), (Str.ofString "other", false), (Str.ofString "folds", false), (Str.ofString "lands", false), (Str.ofString "j", false), (Str.ofString "k", false), (Str.ofString "rests", true), (Str.ofString "core", true), (Str.ofString "sides", false)]) (gs := [Str.ofString "_law_cells", Str.ofString "range", Str.ofString "_law_words", Str.ofString "_law_folded", Str.ofString "_law_cut", Str.ofString "_law_mailed", Str.ofString "_law_lands", Str.ofString "sorted", Str.ofString "set", Str.ofString "_law_stiff", Str.ofString "_law_holes"]) (pn := [Str.ofString "script"]) (res := .s (.bool true)) ?hA ⟨KX, _, _, _, T⟩ (.cons ⟨la, rfl, vs1, hL, Mine.ints_rep hI⟩ .nil) rfl rfl ho hd' hcd ?hb ?hgen ?hfo ?hpk ?hW ?q
      case hA => exact ⟨rfl, by decide +kernel, by decide +kernel⟩
      case hb => rfl
      case hgen => rfl
      case hfo => exact Mine.FnOk.of (by rfl)
      case hpk => rfl
      case q =>
        intro v s' x r
        cases r
        exact Mine.good_true (fun cls => rfl) (by first | with_unfolding_all rfl | kernel_rfl | rfl) hg x
      case hW =>
        intro L'
        have hCl : (cellsP sc).length = 5 := cellsAt_len sc _
        generalize hC : cellsP sc = C at hCl
        have hRl := rowsP_len C
        have hRg := rowsP_get C
        have hRm := rowsP_mem C
        generalize hR : rowsP C = R at hRl hRg hRm
        refine W.cons (W1.assign (pv := .lst .arg (C.map .nat)) 1 rfl (Ev.f_law_cells (EvA.one (Ev.nmR 0 rfl rfl)) (hC ▸ cells_ok (n := 3) sc (by omega))) ?m1 (fun _ => rfl)) ?r1
        case m1 => exact .inr (.inr (may_of [.raw (sc.map .int), .unset, .unset, .unset, .unset, .unset, .unset, .unset, .unset, .unset, .unset, .unset, .unset] rfl))
        case r1 =>
        refine W.cons (W1.share 2 (l := R.map .nat) rfl (W1.assign (pv := .lst .own (R.map .nat)) 2 rfl (Ev.comp1 (C1.eq (C1.mkN (b := false) (L := List.range 5) (oc := Option.none) (caps := [(Str.ofString "cells", .lst .arg (C.map .nat))]) (gs := []) (fun _ => true) (fun j => .nat (C.getD j 0 % 32 ||| 1 <<< j)) (PC.of [1] rfl (fun _ _ => rfl) (fun _ => rfl) (.cons ⟨rfl, rfl, rfl⟩ .nil))
            (Ev.c_range (EvA.one Ev.cnat) (CallOk.rng (by decide))) IterOf.rng (fun cenv j hj => .nil) (fun cenv j hj _ => ?e1) (by simp)) ?e2) (fun _ => rfl)) (.inl rfl) (fun _ => rfl))) ?r2
        case e1 =>
          have := List.mem_range.mp hj
          exact Ev.bin (Ev.bin (Ev.sub (Ev.nmA 1 rfl rfl) (Ev.nmS 0 rfl rfl) (GetOk.nats (by omega) (by omega)) (fun _ _ => rfl)) Ev.cnat (Op2.modN (by decide))) (Ev.bin Ev.cnat (Ev.nmS 0 rfl rfl) (Op2.shl (by decide) (by omega))) Op2.orN
        case e2 =>
          rw [List.filter_eq_self.mpr (fun _ _ => rfl), ← hR]
          unfold rowsP
          rw [List.map_map]; rfl
        case r2 =>
        refine W.cons (W1.assign (pv := .lst .arg (wordsAt R 5)) 3 rfl (Ev.f_law_words (EvA.one (Ev.nmA 2 rfl rfl)) (words_ok (n := 2) R hRl)) ?m3 (fun _ => rfl)) ?r3
        case m3 => exact .inr (.inr (may_of [.raw (sc.map .int), .lst .arg (C.map .nat), .lst .arg (R.map .nat), .unset, .unset, .unset, .unset, .unset, .unset, .unset, .unset, .unset, .unset] rfl))
        case r3 =>
        have hz : (List.replicate 5 [S.nat 0]).flatten = (List.replicate 5 0).map S.nat := rfl
        refine W.cons (W1.assign (pv := .hdr .arg (hdrL (foldedP R (List.replicate 5 0)))) 4 rfl (Ev.f_law_folded (EvA.two (Ev.f_law_cut (EvA.one (Ev.nmA 3 rfl rfl)) (cut_ok (n := 2) R hRl hRm)) (Ev.weak (o := .arg) (Ev.eq (b := .lst .own ((List.replicate 5 0).map .nat)) (Ev.bin (Ev.list (xs := [.nat 0]) (EvA.one Ev.cnat) (by decide)) Ev.cnat (Op2.mulL (m := 5) (by decide) (by decide) (by simp))) (by rw [hz])) (by decide))) (folded_ok (n := 0) R (List.replicate 5 0) hRl rfl)) ?m4 (fun _ => rfl)) ?r4
        case m4 => exact .inr (.inr (may_of [.raw (sc.map .int), .lst .arg (C.map .nat), .lst .arg (R.map .nat), .lst .arg (wordsAt R 5), .unset, .unset, .unset, .unset, .unset, .unset, .unset, .unset, .unset] rfl))
        case r4 =>
        refine W.cons (W1.assign (pv := .hdr .arg (hdrL (foldedP R (C.map (· / 96))))) 5 rfl (Ev.f_law_folded (EvA.two (Ev.f_law_mailed (EvA.two (Ev.nmA 3 rfl rfl) (Ev.nmA 1 rfl rfl)) (mailed_ok (n := 2) R C hRl hCl hRm)) (Ev.weak (o := .arg) (Ev.comp1 (C1.eq (C1.mkN (b := false) (L := C) (oc := Option.none) (caps := []) (gs := []) (fun _ => true) (fun c => .nat (c / 96)) (PC.of [] rfl (fun _ _ => rfl) (fun _ => rfl) .nil)
            (Ev.nmA 1 rfl rfl) IterOf.list (fun cenv j hj => .nil) (fun cenv j hj _ => Ev.bin (Ev.nmS 0 rfl rfl) Ev.cnat (Op2.divN (by decide) (by decide))) ?e3) (res' := (C.map (· / 96)).map .nat) ?e4) (fun _ => rfl)) (by decide))) (folded_ok (n := 0) R (C.map (· / 96)) hRl (by simp [hCl]))) ?m5 (fun _ => rfl)) ?r5
        case e3 => omega
        case e4 => rw [List.filter_eq_self.mpr (fun _ _ => rfl), List.map_map]; rfl
        case m5 => exact .inr (.inr (may_of [.raw (sc.map .int), .lst .arg (C.map .nat), .lst .arg (R.map .nat), .lst .arg (wordsAt R 5), .hdr .arg (hdrL (foldedP R (List.replicate 5 0))), .unset, .unset, .unset, .unset, .unset, .unset, .unset, .unset] rfl))
        case r5 =>
        refine W.cons (W1.forTup2 (l1 := hdrL (foldedP R (List.replicate 5 0))) (l2 := hdrL (foldedP R (C.map (· / 96)))) 6 4 5 (fun _ => [.raw (sc.map .int), .lst .arg (C.map .nat), .lst .arg (R.map .nat), .lst .arg (wordsAt R 5), .hdr .arg (hdrL (foldedP R (List.replicate 5 0))), .hdr .arg (hdrL (foldedP R (C.map (· / 96)))), .unset, .unset, .unset, .unset, .unset, .unset, .unset]) rfl rfl rfl rfl rfl rfl rfl ?nf (fun i hi => ?body) (fun _ => rfl)) (W.one (W1.ret Ev.cbool))
        case nf =>
          intro i j qv hq
          exact may_of (k := j + 1) _ rfl j qv (by omega) hq
        case body =>
        have hcases : ∃ picks, picks.length = 5 ∧ (if i = 0 then hdrL (foldedP R (List.replicate 5 0)) else hdrL (foldedP R (C.map (· / 96)))) = hdrL (foldedP R picks) := by
          by_cases e : i = 0
          · exact ⟨List.replicate 5 0, rfl, by rw [if_pos e]⟩
          · exact ⟨C.map (· / 96), by simp [hCl], by rw [if_neg e]⟩
        obtain ⟨picks, hpk, hpe⟩ := hcases
        rw [hpe]
        obtain ⟨hPn, nx, n1, n2, n3, LO⟩ := plain_law hRl hRg picks hpk
        generalize foldedP R picks = P at hPn n2
        have hLl := lands_len (itN nx 10)
        have hlt : ∀ x, x < 10 → itN nx 10 x < 10 := fun x hx => (LO.lt x hx).1
        refine W.cons (W1.assign (pv := .lst .arg ((landsL (itN nx 10)).map .nat)) 7 rfl (Ev.f_law_lands (EvA.one (Ev.nmH (o := .arg) (l := hdrL P) 6 rfl rfl)) (lands_ok (n := 1) P hPn nx n1 n2 n3)) ?m7 (fun _ => rfl)) ?r7
        case m7 => exact .inr (.inr (may_of [.raw (sc.map .int), .lst .arg (C.map .nat), .lst .arg (R.map .nat), .lst .arg (wordsAt R 5), .hdr .arg (hdrL (foldedP R (List.replicate 5 0))), .hdr .arg (hdrL (foldedP R (C.map (· / 96)))), .hdr .arg (hdrL P), .unset, .unset, .unset, .unset, .unset, .unset] rfl))
        case r7 =>
        generalize itN nx 10 = land at LO hLl hlt
        refine W.forget 12 (v := lv sc C R (.hdr .arg (hdrL (foldedP R (List.replicate 5 0)))) (.hdr .arg (hdrL (foldedP R (C.map (· / 96))))) .unset .unset .unset .unset .unset .unset (.lst .own ((sidesL R land).map .nat))) ?_
        refine W.forget 11 (v := lv sc C R (.hdr .arg (hdrL (foldedP R (List.replicate 5 0)))) (.hdr .arg (hdrL (foldedP R (C.map (· / 96))))) .unset .unset .unset .unset .unset (.lst .own ((coreL R land).map .nat)) (.lst .own ((sidesL R land).map .nat))) ?_
        refine W.forget 10 (v := lv sc C R (.hdr .arg (hdrL (foldedP R (List.replicate 5 0)))) (.hdr .arg (hdrL (foldedP R (C.map (· / 96))))) .unset .unset .unset .unset (.lst .own ((restsL land).map .nat)) (.lst .own ((coreL R land).map .nat)) (.lst .own ((sidesL R land).map .nat))) ?_
        refine W.forget 7 (v := lv sc C R (.hdr .arg (hdrL (foldedP R (List.replicate 5 0)))) (.hdr .arg (hdrL (foldedP R (C.map (· / 96))))) .unset (.lst .arg ((landsL land).map .nat)) .unset .unset (.lst .own ((restsL land).map .nat)) (.lst .own ((coreL R land).map .nat)) (.lst .own ((sidesL R land).map .nat))) ?_
        refine W.forget 6 (v := lv sc C R (.hdr .arg (hdrL (foldedP R (List.replicate 5 0)))) (.hdr .arg (hdrL (foldedP R (C.map (· / 96))))) (.hdr .arg (hdrL P)) (.lst .arg ((landsL land).map .nat)) .unset .unset (.lst .own ((restsL land).map .nat)) (.lst .own ((coreL R land).map .nat)) (.lst .own ((sidesL R land).map .nat))) ?_
        have hRb : R.length ≤ 16777216 := by omega
        have hLb : (landsL land).length ≤ 16777216 := by omega
        refine W.cons (W1.forR (m := 5) 8 (fun _ => lv sc C R (.hdr .arg (hdrL (foldedP R (List.replicate 5 0)))) (.hdr .arg (hdrL (foldedP R (C.map (· / 96))))) (.hdr .arg (hdrL P)) (.lst .arg ((landsL land).map .nat)) .unset .unset .unset .unset .unset) rfl (Ev.c_range (EvA.one Ev.cnat) (CallOk.rng (by decide))) (fun j hj => W.forget 8 (v := lv sc C R (.hdr .arg (hdrL (foldedP R (List.replicate 5 0)))) (.hdr .arg (hdrL (foldedP R (C.map (· / 96))))) (.hdr .arg (hdrL P)) (.lst .arg ((landsL land).map .nat)) (.s (.nat j)) .unset .unset .unset .unset) (W.one (W1.forR (m := 5) 9 (fun _ => lv sc C R (.hdr .arg (hdrL (foldedP R (List.replicate 5 0)))) (.hdr .arg (hdrL (foldedP R (C.map (· / 96))))) (.hdr .arg (hdrL P)) (.lst .arg ((landsL land).map .nat)) (.s (.nat j)) .unset .unset .unset .unset) rfl (Ev.c_range (EvA.one Ev.cnat) (CallOk.rng (by decide))) (fun k hk => W.forget 9 (v := lv sc C R (.hdr .arg (hdrL (foldedP R (List.replicate 5 0)))) (.hdr .arg (hdrL (foldedP R (C.map (· / 96))))) (.hdr .arg (hdrL P)) (.lst .arg ((landsL land).map .nat)) (.s (.nat j)) (.s (.nat k)) .unset .unset .unset) ?jk) (fun _ => rfl)))) (fun _ => rfl)) ?r8
        case jk =>
          have g1 := lands_get land (x := j + 5) (by omega)
          have g2 := lands_get land (x := k) (by omega)
          have l1 := LO.lt (j + 5) (by omega)
          have l2 := LO.lt k (by omega)
          refine W.one (W1.ite (c := false) ((Tv.and2 (Tv.nz (Ev.bin (Ev.bin (Ev.sub (Ev.nmA 2 rfl rfl) (Ev.nmS 8 rfl rfl) (GetOk.nats (by omega) hRb) (fun _ _ => rfl)) (Ev.nmS 9 rfl rfl) Op2.shr) Ev.cnat Op2.andN)) (fun _ => Tv.not (Tv.nz (Ev.bin (Ev.bin (Ev.sub (Ev.nmA 2 rfl rfl) (Ev.bin (Ev.sub (Ev.nmA 7 rfl rfl) (Ev.bin (Ev.nmS 8 rfl rfl) Ev.cnat Op2.addN) (GetOk.nats (by show j + 5 < (landsL land).length; omega) hLb) (fun _ _ => rfl)) Ev.cnat (Op2.subN (by show 5 ≤ (landsL land).getD (j + 5) 0; rw [g1]; omega))) (GetOk.nats (by show (landsL land).getD (j + 5) 0 - 5 < R.length; rw [g1]; omega) hRb) (fun _ _ => rfl)) (Ev.sub (Ev.nmA 7 rfl rfl) (Ev.nmS 9 rfl rfl) (GetOk.nats (by omega) hLb) (fun _ _ => rfl)) Op2.shr) Ev.cnat Op2.andN)))).eq ?_) (fun h => nomatch h) (fun _ => W.nil))
          show (decide (R.getD j 0 >>> k &&& 1 ≠ 0) && !decide (R.getD ((landsL land).getD (j + 5) 0 - 5) 0 >>> (landsL land).getD k 0 &&& 1 ≠ 0)) = false
          rw [bitT, bitT, g1, g2]
          cases hb : (R.getD j 0).testBit k with
          | false => rfl
          | true =>
            have := LO.edge j k hj hk hb
            unfold EP at this
            rw [this]; rfl
        case r8 =>
        have hAl := lets_len land
        have hBl := rests_len land
        have hcl : (coreL R land).length = (letsL land).length := List.length_map ..
        have hsl : (sidesL R land).length = (restsL land).length := List.length_map ..
        have hdr5 : ((landsL land).map S.nat).drop 5 = ((landsL land).drop 5).map S.nat := List.map_drop.symm
        have htk5 : ((landsL land).map S.nat).take 5 = ((landsL land).take 5).map S.nat := List.map_take.symm
        have hB : ∀ u ∈ (landsL land).drop 5, u ∈ baseB := fun u hu => by
          rw [show (landsL land).drop 5 = [5, 6, 7, 8, 9].map land from rfl] at hu
          obtain ⟨x, hx, rfl⟩ := List.mem_map.mp hu
          have hx' : 5 ≤ x ∧ x < 10 := by simp at hx; omega
          have := LO.lt x hx'.2
          show land x ∈ [5, 6, 7, 8, 9]
          simp; omega
        have hA : ∀ u ∈ (landsL land).take 5, u ∈ baseA := fun u hu => by
          rw [show (landsL land).take 5 = [0, 1, 2, 3, 4].map land from rfl] at hu
          obtain ⟨x, hx, rfl⟩ := List.mem_map.mp hu
          have hx' : x < 5 := by simp at hx; omega
          have := LO.lt x (by omega)
          show land x ∈ [0, 1, 2, 3, 4]
          simp; omega
        refine W.cons (W1.assign (pv := .lst .own ((restsL land).map .nat)) 10 rfl (Ev.sortedSet (L := (landsL land).drop 5) baseB_ok hB (Ev.eq (Ev.from (k := 5) (Ev.nmA 7 rfl rfl) Ev.cnat (by simp; omega) (fun _ _ => rfl)) (by rw [hdr5])) rfl rfl rfl rfl) (.inl rfl) (fun _ => rfl)) ?r9
        case r9 =>
        refine W.cons (W1.assign (pv := .lst .own ((coreL R land).map .nat)) 11 rfl (Ev.comp1 (C1.eq (C1.mkN (b := true) (L := letsL land) (oc := some (Str.ofString "i")) (caps := [(Str.ofString "rests", .lst .own ((restsL land).map .nat)), (Str.ofString "rows", .lst .arg (R.map .nat))]) (gs := [Str.ofString "sum"]) (fun _ => true) (fun i => .nat (coreOf R (restsL land) i)) (PC.of [10, 2] rfl (fun _ _ => rfl) (fun _ => rfl) (.cons ⟨rfl, rfl, rfl⟩ (.cons ⟨rfl, rfl, rfl⟩ .nil)))
            (Ev.sortedSet (L := (landsL land).take 5) baseA_ok hA (Ev.eq (Ev.upto (k := 5) (Ev.nmA 7 rfl rfl) Ev.cnat (by simp; omega) (fun _ _ => rfl)) (by rw [htk5])) rfl rfl rfl rfl) IterOf.list (fun cenv i hi => .nil)
            (fun cenv i hi _ => Ev.c_sum (EvA.one (Ev.comp1 (C1.eq (C1.mkN (b := false) (L := restsL land) (oc := Option.none) (caps := [(Str.ofString "i", .s (.nat i)), (Str.ofString "rows", .lst .arg (R.map .nat))]) (gs := []) (fun h => decide (R.getD (h - 5) 0 >>> i &&& 1 ≠ 0)) (fun h => .nat (1 <<< (h - 5))) (PC.of [0, 2] rfl (fun _ _ => rfl) (fun _ => rfl) (.cons ⟨rfl, rfl, rfl⟩ (.cons ⟨rfl, rfl, rfl⟩ .nil)))
              (Ev.nmO 1 rfl rfl) IterOf.list
              (fun cenv h hh => .one (Tv.nz (Ev.bin (Ev.bin (Ev.sub (Ev.nmA 2 rfl rfl) (Ev.bin (Ev.nmS 0 rfl rfl) Ev.cnat (Op2.subN (rests_ge hh).1)) (GetOk.nats (by have := rests_ge hh; show h - 5 < R.length; omega) hRb) (fun _ _ => rfl)) (Ev.nmS 1 rfl rfl) Op2.shr) Ev.cnat Op2.andN)))
              (fun cenv h hh hok => Ev.bin Ev.cnat (Ev.bin (Ev.nmS 0 rfl rfl) Ev.cnat (Op2.subN (rests_ge hh).1)) (Op2.shl (by decide) (by have := rests_ge hh; show h - 5 ≤ 1000; omega))) (by omega)) (res' := (((restsL land).filter fun h => decide (R.getD (h - 5) 0 >>> i &&& 1 ≠ 0)).map fun h => 1 <<< (h - 5)).map .nat) (by rw [List.map_map]; rfl)) (fun _ => rfl))) CallOk.sum) (by omega)) ?cr) (fun _ => rfl)) (.inl rfl) (fun _ => rfl)) ?r10
        case cr => rw [List.filter_eq_self.mpr (fun _ _ => rfl)]; unfold coreL; rw [List.map_map]; rfl
        case r10 =>
        refine W.cons (W1.comp1 (res := (sidesL R land).map .nat) 12 rfl (C1.eq (C1.mkN (b := true) (L := restsL land) (oc := some (Str.ofString "h")) (caps := [(Str.ofString "core", .lst .own ((coreL R land).map .nat))]) (gs := [Str.ofString "sum", Str.ofString "range", Str.ofString "len"]) (fun _ => true) (fun h => .nat (sideOf (coreL R land) h)) (PC.of [11] rfl (fun _ _ => rfl) (fun _ => rfl) (.cons ⟨rfl, rfl, rfl⟩ .nil))
            (Ev.nmO 10 rfl rfl) IterOf.list (fun cenv h hh => .nil)
            (fun cenv h hh _ => Ev.c_sum (EvA.one (Ev.comp1 (C1.eq (C1.mkN (b := false) (L := List.range (coreL R land).length) (oc := Option.none) (caps := [(Str.ofString "h", .s (.nat h)), (Str.ofString "core", .lst .own ((coreL R land).map .nat))]) (gs := []) (fun x => decide ((coreL R land).getD x 0 >>> (h - 5) &&& 1 ≠ 0)) (fun x => .nat (1 <<< x)) (PC.of [0, 1] rfl (fun _ _ => rfl) (fun _ => rfl) (.cons ⟨rfl, rfl, rfl⟩ (.cons ⟨rfl, rfl, rfl⟩ .nil)))
              (Ev.eq (Ev.c_range (EvA.one (Ev.c_len (EvA.one (Ev.nmO 1 rfl rfl)) (CallOk.lenL (by rw [List.length_map]; omega)))) (CallOk.rng (by rw [List.length_map]; omega))) (by rw [List.length_map])) IterOf.rng
              (fun cenv x hx => .one (Tv.nz (Ev.bin (Ev.bin (Ev.sub (Ev.nmO 2 rfl rfl) (Ev.nmS 0 rfl rfl) (GetOk.nats (List.mem_range.mp hx) (by omega)) (fun _ _ => rfl)) (Ev.bin (Ev.nmS 1 rfl rfl) Ev.cnat (Op2.subN (rests_ge hh).1)) Op2.shr) Ev.cnat Op2.andN)))
              (fun cenv x hx hok => Ev.bin Ev.cnat (Ev.nmS 0 rfl rfl) (Op2.shl (by decide) (by have := List.mem_range.mp hx; omega))) (by rw [List.length_range]; omega)) (res' := (((List.range (coreL R land).length).filter fun x => decide ((coreL R land).getD x 0 >>> (h - 5) &&& 1 ≠ 0)).map fun x => 1 <<< x).map .nat) (by rw [List.map_map]; rfl)) (fun _ => rfl))) CallOk.sum) (by omega)) ?cs) (fun _ => rfl) (fun _ _ => rfl)) ?r11
        case cs => rw [List.filter_eq_self.mpr (fun _ _ => rfl)]; unfold sidesL; rw [List.map_map]; rfl
        case r11 =>
        refine W.one (W1.ite (c := false) ((Tv.or3 (Tv.not (Tv.val (Ev.f_law_stiff (EvA.one (Ev.nmO 11 rfl rfl)) (stiff_ok (n := 3) (coreL R land) (by omega))) Tr.bool rfl)) (fun _ => Tv.not (Tv.val (Ev.f_law_stiff (EvA.one (Ev.nmO 12 rfl rfl)) (stiff_ok (n := 3) (sidesL R land) (by omega))) Tr.bool rfl)) (fun _ _ => Tv.cmp (Ev.f_law_holes (EvA.one (Ev.nmO 11 rfl rfl)) (holes_ok (n := 3) (coreL R land) (by omega))) (Ev.f_law_holes (EvA.one (Ev.nmA 2 rfl rfl)) (holes_ok (n := 3) R (by omega))) Cm2.neInts rfl)).eq (by rw [LO.core, LO.sides, LO.holes]; simp)) (fun h => nomatch h) (fun _ => W.nil))))
